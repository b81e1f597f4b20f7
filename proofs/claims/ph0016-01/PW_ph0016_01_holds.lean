import PyProof.Rows.All
import Wide.All
import OpenK.AllK
import Wide.FinOn
import Lean
import PySem.Challenge.RW_ph0016_01
open PySem PySem.W PyProof.Rows
set_option Elab.async false
set_option maxRecDepth 100000

namespace Mine

abbrev Pg : Program := PySem.Challenge.pw_ph0016_01

/-- the k-th statement of the text, a def: its name, parameters, body, scope -/
def dfn (k : Nat) : Str × Arguments × List Stmt × Scope := match Pg.main.body[k]? with
  | some (.FunctionDef n a b _ _ _ sc _ _ _) => (n, a, b, sc)
  | _ => (Str.empty, ⟨[], [], none, [], [], none, []⟩, [], ⟨.function, [], false, false, []⟩)

def fdOf (k : Nat) (c : Addr) (pm : Value) : FuncData :=
  { name := (dfn k).1, qualname := (dfn k).1, params := (dfn k).2.1, body := .stmts (dfn k).2.2.1, scope := (dfn k).2.2.2, globals := 3, closure := [],
    defaults := .none, kwdefaults := .none, pyModule := pm, code := .ref c }
abbrev fnObj (k : Nat) (c : Addr) (pm : Value) : Obj := { cls := .type "function", data := .func (fdOf k c pm) }

/-- a heap of which only some addresses are seen -/
def restrict (p : Addr → Bool) (h : Heap) : Heap := ⟨h.objs.mapIdx fun i o => if p i then o else { cls := .none, data := .freed }, h.life⟩
theorem restrict_get (p : Addr → Bool) (h : Heap) (a : Addr) : (restrict p h).get? a = if p a = true then h.get? a else none := by
  unfold restrict Heap.get?
  simp only [Array.getElem?_mapIdx]
  cases e : h.objs[a]? with
  | none => simp
  | some o =>
    by_cases hp : p a = true
    · simp [hp]
    · simp [hp]
theorem restrict_some {p : Addr → Bool} {h : Heap} {a : Nat} {o : Obj} (e : (restrict p h).get? a = some o) : p a = true ∧ h.get? a = some o := by
  rw [restrict_get] at e
  by_cases hp : p a = true
  · rw [if_pos hp] at e; exact ⟨hp, e⟩
  · rw [if_neg hp] at e; cases e
theorem restrict_of {p : Addr → Bool} {h : Heap} {a : Nat} {o : Obj} (hp : p a = true) (e : h.get? a = some o) : (restrict p h).get? a = some o := by
  rw [restrict_get, if_pos hp]; exact e

abbrev Le (B B' : Heap) : Prop := ∀ a o, B.get? a = some o → B'.get? a = some o
theorem Le.rf (B : Heap) : Le B B := fun _ _ e => e
theorem Le.tr {B B' B'' : Heap} (x : Le B B') (y : Le B' B'') : Le B B'' := fun a o e => y a o (x a o e)

theorem lts {h : Heap} {a : Nat} {o : Obj} (e : h.get? a = some o) : @LT.lt Nat _ a h.objs.size := Heap.lt_size e
theorem ne_lt {a b : Nat} (h : a < b ∨ b < a) : a ≠ b := by omega
def T3 (a : Nat) : Prop := a ≠ 30 ∧ a ≠ 44 ∧ a ≠ 61

/-- the table P of a code's inner codes: whatever stands in it is a code record of the name q, and frozen -/
def TabOk (B h : Heap) (P : Addr) (q : Str) : Prop :=
  ∃ ps, h.get? P = some (tabObj ps) ∧ TriplesOk ps.toList ∧ ∀ pos cv, codeAmong pos ps.toList = some cv → B.CodeRec cv q

abbrev qFind : Str := (dfn 5).1 ++ ".<locals>." ++ "<lambda>"
abbrev qRoom : Str := (dfn 7).1 ++ ".<locals>." ++ "<lambda>"
abbrev qLaw : Str := (dfn 10).1 ++ ".<locals>." ++ "<lambda>"

structure Gl (mg : Str → Option Value) (B : Heap) : Prop where
  g : B.Ns 3 mg
  sr : mg "search_reverse" = some (.ref 21)
  sp : mg "_split_list" = some (.ref 28)
  fi : mg "_law_find" = some (.ref 35)
  nx : mg "_law_next" = some (.ref 42)
  rm : mg "_law_room" = some (.ref 49)
  hb : mg "_law_hour_by_hour" = some (.ref 54)
  mo : mg "_law_most" = some (.ref 59)
  nrange : mg "range" = none
  nlen : mg "len" = none
  nsum : mg "sum" = none
  nmax : mg "max" = none
  b : ∃ mb, B.Ns 0 mb ∧ mb "range" = some (.type "range") ∧ mb "len" = some (.builtin "len") ∧ mb "sum" = some (.builtin "sum") ∧ mb "max" = some (.builtin "max")
  lim : B.NoLimit
  bm : ∃ bm ob, mg "__builtins__" = some (.ref bm) ∧ bm ≠ builtinsNs ∧ B.get? bm = some ob ∧ ob.cls = .type "module" ∧ ob.dict = some builtinsNs ∧ ob.data = .plain
  f21 : ∃ pm, B.get? 21 = some (fnObj 1 20 pm)
  f28 : ∃ pm, B.get? 28 = some (fnObj 3 27 pm)
  f35 : ∃ pm, B.get? 35 = some (fnObj 5 34 pm)
  f42 : ∃ pm, B.get? 42 = some (fnObj 6 41 pm)
  f49 : ∃ pm, B.get? 49 = some (fnObj 7 48 pm)
  f54 : ∃ pm, B.get? 54 = some (fnObj 8 53 pm)
  f59 : ∃ pm, B.get? 59 = some (fnObj 9 58 pm)
  c20 : B.CodeRec (.ref 20) (dfn 1).1
  c27 : B.CodeRec (.ref 27) (dfn 3).1
  c34 : B.CodeRec (.ref 34) (dfn 5).1
  c41 : B.CodeRec (.ref 41) (dfn 6).1
  c48 : B.CodeRec (.ref 48) (dfn 7).1
  c53 : B.CodeRec (.ref 53) (dfn 8).1
  c58 : B.CodeRec (.ref 58) (dfn 9).1
  h34 : CodeHd B 34 30
  h48 : CodeHd B 48 44
  h63 : CodeHd B 63 61

theorem Gl.keeps {mg : Str → Option Value} {B B' : Heap} (x : Gl mg B) (k : Le B B') : Gl mg B' where
  g := x.g.keeps k
  sr := x.sr
  sp := x.sp
  fi := x.fi
  nx := x.nx
  rm := x.rm
  hb := x.hb
  mo := x.mo
  nrange := x.nrange
  nlen := x.nlen
  nsum := x.nsum
  nmax := x.nmax
  b := let ⟨mb, a, r⟩ := x.b; ⟨mb, a.keeps k, r⟩
  lim := x.lim.keeps k
  bm := let ⟨bm, ob, a, b, c, r⟩ := x.bm; ⟨bm, ob, a, b, k _ _ c, r⟩
  f21 := let ⟨pm, e⟩ := x.f21; ⟨pm, k _ _ e⟩
  f28 := let ⟨pm, e⟩ := x.f28; ⟨pm, k _ _ e⟩
  f35 := let ⟨pm, e⟩ := x.f35; ⟨pm, k _ _ e⟩
  f42 := let ⟨pm, e⟩ := x.f42; ⟨pm, k _ _ e⟩
  f49 := let ⟨pm, e⟩ := x.f49; ⟨pm, k _ _ e⟩
  f54 := let ⟨pm, e⟩ := x.f54; ⟨pm, k _ _ e⟩
  f59 := let ⟨pm, e⟩ := x.f59; ⟨pm, k _ _ e⟩
  c20 := x.c20.keeps k
  c27 := x.c27.keeps k
  c34 := x.c34.keeps k
  c41 := x.c41.keeps k
  c48 := x.c48.keeps k
  c53 := x.c53.keeps k
  c58 := x.c58.keeps k
  h34 := x.h34.keeps k
  h48 := x.h48.keeps k
  h63 := x.h63.keeps k

/-- B is frozen in h; the tables stand -/
structure Ok (mg : Str → Option Value) (B h : Heap) : Prop where
  ext : Le B h
  gl : Gl mg B
  n30 : B.get? 30 = none
  n44 : B.get? 44 = none
  n61 : B.get? 61 = none
  t30 : TabOk B h 30 qFind
  t44 : TabOk B h 44 qRoom
  t61 : TabOk B h 61 qLaw

theorem TabOk.mono {B B' h h' : Heap} {P : Addr} {q : Str} (x : TabOk B h P q) (k : Le B B') (e : ∀ o, h.get? P = some o → h'.get? P = some o) : TabOk B' h' P q :=
  let ⟨ps, a, b, c⟩ := x; ⟨ps, e _ a, b, fun pos cv h => (c pos cv h).keeps k⟩

theorem St_lt {h : Heap} {a : Nat} {m : Str → Option Value} (x : h.Ns a m) : @LT.lt Nat _ a h.objs.size := x.lt
theorem Ok.lt {mg : Str → Option Value} {B h : Heap} (x : Ok mg B h) : 61 < h.objs.size := let ⟨_, a, _⟩ := x.t61; lts a
theorem Ok.t3 {mg : Str → Option Value} {B h : Heap} (x : Ok mg B h) {a : Nat} {o : Obj} (e : B.get? a = some o) : T3 a :=
by
  refine ⟨?_, ?_, ?_⟩ <;> intro q <;> subst q
  · rw [x.n30] at e; cases e
  · rw [x.n44] at e; cases e
  · rw [x.n61] at e; cases e
/-- everything kept (but what lies outside B and the tables) -/
theorem Ok.keeps {mg : Str → Option Value} {B h h' : Heap} (x : Ok mg B h) (k : ∀ a o, B.get? a = some o → h'.get? a = some o) (k0 : h'.get? 30 = h.get? 30) (k1 : h'.get? 44 = h.get? 44) (k2 : h'.get? 61 = h.get? 61) : Ok mg B h' :=
  ⟨k, x.gl, x.n30, x.n44, x.n61, x.t30.mono (Le.rf _) (fun _ e => k0.trans e), x.t44.mono (Le.rf _) (fun _ e => k1.trans e), x.t61.mono (Le.rf _) (fun _ e => k2.trans e)⟩

/-- what a call leaves -/
structure Stp (mg : Str → Option Value) (B : Heap) (s : Shared) (B' : Heap) (s' : Shared) : Prop where
  same : ∃ h tk, s' = { s with heap := h, toks := tk }
  keep : ∀ (a : Nat) o, T3 a → s.heap.get? a = some o → s'.heap.get? a = some o
  le : Le B B'
  new : ∀ (a : Nat) o, B'.get? a = some o → B.get? a = some o ∨ s.heap.get? a = none
  ok : Ok mg B' s'.heap

/-- within a call: the frame's locals L hold m; O are the call's own objects, which it may change -/
structure St (mg : Str → Option Value) (B₀ : Heap) (s₀ : Shared) (L : Nat) (B : Heap) (m : Str → Option Value) (O : List (Nat × Obj)) (s : Shared) : Prop where
  same : ∃ h tk, s = { s₀ with heap := h, toks := tk }
  keep : ∀ (a : Nat) o, T3 a → s₀.heap.get? a = some o → s.heap.get? a = some o
  le : Le B₀ B
  new : ∀ (a : Nat) o, B.get? a = some o → B₀.get? a = some o ∨ s₀.heap.get? a = none
  ok : Ok mg B s.heap
  big : 61 < s₀.heap.objs.size
  lo : s₀.heap.objs.size ≤ L
  nL : B.get? L = none
  ns : s.heap.Ns L m
  own : ∀ p ∈ O, s.heap.get? p.1 = some p.2 ∧ p.1 ≠ L ∧ B.get? p.1 = none ∧ s₀.heap.get? p.1 = none ∧ T3 p.1
  dis : O.Pairwise fun p q => p.1 ≠ q.1

section
variable {mg : Str → Option Value} {B₀ B B' : Heap} {s₀ s s' : Shared} {L : Nat} {m : Str → Option Value} {O : List (Nat × Obj)}

theorem t3_of_le {a n : Nat} (h : 61 < n) (h' : n ≤ a) : T3 a := by unfold T3; omega

theorem St.end_ (x : St mg B₀ s₀ L B m O s) : Stp mg B₀ s₀ B s := ⟨x.same, x.keep, x.le, x.new, x.ok⟩
theorem St.tok (x : St mg B₀ s₀ L B m O s) (t : Nat) : St mg B₀ s₀ L B m O { s with toks := t } :=
  ⟨let ⟨h, _, e⟩ := x.same; ⟨h, t, by rw [e]⟩, x.keep, x.le, x.new, x.ok, x.big, x.lo, x.nL, x.ns, x.own, x.dis⟩
theorem St.ltL (x : St mg B₀ s₀ L B m O s) : L < s.heap.objs.size := St_lt x.ns

/-- only the locals changed -/
theorem St.set (x : St mg B₀ s₀ L B m O s) {h' : Heap} {m' : Str → Option Value} {t : Nat} (hn : h'.Ns L m') (hs : Heap.SameBut L s.heap h') : St mg B₀ s₀ L B m' O { s with heap := h', toks := t } := by
  have hL : T3 L := t3_of_le x.big x.lo
  refine ⟨let ⟨h, _, e⟩ := x.same; ⟨h', t, by rw [e]⟩, fun a o ht e => ?_, x.le, x.new, x.ok.keeps (fun a o e => ?_) (hs.2 _ (Ne.symm hL.1)) (hs.2 _ (Ne.symm hL.2.1)) (hs.2 _ (Ne.symm hL.2.2)), x.big, x.lo, x.nL, hn, fun p hp => ?_, x.dis⟩
  · have := x.lo; have := lts e
    exact (hs.2 a (ne_lt (by omega))).trans (x.keep a o ht e)
  · exact (hs.2 a (fun q => by rw [q, x.nL] at e; cases e)).trans (x.ok.ext a o e)
  · obtain ⟨h1, h2, h3⟩ := x.own p hp
    exact ⟨(hs.2 _ h2).trans h1, h2, h3⟩

/-- everything kept -/
theorem St.kept (x : St mg B₀ s₀ L B m O s) {h' : Heap} {t : Nat} (k : ∀ a o, s.heap.get? a = some o → h'.get? a = some o) : St mg B₀ s₀ L B m O { s with heap := h', toks := t } := by
  have tab : ∀ {P q}, TabOk B s.heap P q → TabOk B h' P q := fun y => y.mono (Le.rf _) fun o e => k _ _ e
  exact ⟨let ⟨h, _, e⟩ := x.same; ⟨h', t, by rw [e]⟩, fun a o ht e => k _ _ (x.keep a o ht e), x.le, x.new,
    ⟨fun a o e => k _ _ (x.ok.ext a o e), x.ok.gl, x.ok.n30, x.ok.n44, x.ok.n61, tab x.ok.t30, tab x.ok.t44, tab x.ok.t61⟩, x.big, x.lo, x.nL, x.ns.keeps k, fun p hp => ⟨k _ _ (x.own p hp).1, (x.own p hp).2⟩, x.dis⟩

/-- a call came back -/
theorem St.called (x : St mg B₀ s₀ L B m O s) (y : Stp mg B s B' s') : St mg B₀ s₀ L B' m O s' := by
  have hL : T3 L := t3_of_le x.big x.lo
  have out : ∀ (a : Nat) o, s.heap.get? a = some o → B.get? a = none → B'.get? a = none := fun a o ha e => by
    cases q : B'.get? a with
    | none => rfl
    | some o => rcases y.new a o q with h | h
                · rw [e] at h; cases h
                · rw [ha] at h; cases h
  have oL : ∃ o, s.heap.get? L = some o := let ⟨o, _, _, e, _⟩ := x.ns; ⟨o, e⟩
  obtain ⟨oL, eL⟩ := oL
  refine ⟨?_, fun a o ht e => y.keep a o ht (x.keep a o ht e), Le.tr x.le y.le, fun a o e => ?_, y.ok, x.big, x.lo, out L _ eL x.nL, ?_, fun p hp => ?_, x.dis⟩
  · obtain ⟨h, t, e⟩ := x.same
    obtain ⟨h', t', e'⟩ := y.same
    exact ⟨h', t', by rw [e', e]⟩
  · rcases y.new a o e with h | h
    · exact x.new a o h
    · refine .inr ?_
      cases q : s₀.heap.get? a with
      | none => rfl
      | some o' => rw [x.keep a o' (y.ok.t3 e) q] at h; cases h
  · obtain ⟨o, es, ep, e, r⟩ := x.ns
    exact ⟨o, es, ep, y.keep _ _ hL e, r⟩
  · obtain ⟨h1, h2, h3, h4, h5⟩ := x.own p hp
    exact ⟨y.keep _ _ h5 h1, h2, out _ _ h1 h3, h4, h5⟩

/-- forget an own object -/
theorem St.drop {p : Nat × Obj} (x : St mg B₀ s₀ L B m (p :: O) s) : St mg B₀ s₀ L B m O s :=
  { x with own := fun q hq => x.own q (.tail _ hq), dis := (List.pairwise_cons.mp x.dis).2 }
theorem St.swap {p q : Nat × Obj} (x : St mg B₀ s₀ L B m (p :: q :: O) s) : St mg B₀ s₀ L B m (q :: p :: O) s :=
  { x with
    own := fun r hr => x.own r (by simp only [List.mem_cons] at hr ⊢; rcases hr with h | h | h <;> simp [h]),
    dis := by
      obtain ⟨h1, h2⟩ := List.pairwise_cons.mp x.dis
      obtain ⟨h3, h4⟩ := List.pairwise_cons.mp h2
      refine List.pairwise_cons.mpr ⟨fun r hr => ?_, List.pairwise_cons.mpr ⟨fun r hr => h1 r (.tail _ hr), h4⟩⟩
      rcases List.mem_cons.mp hr with rfl | hr
      · exact Ne.symm (h1 q (.head _))
      · exact h3 r hr }

theorem St.fresh (x : St mg B₀ s₀ L B m O s) : B.get? s.heap.objs.size = none := by
  cases q : B.get? s.heap.objs.size with
  | none => rfl
  | some o => exact absurd (lts (x.ok.ext _ _ q)) (Nat.lt_irrefl _)

/-- nothing of the call's start lies at a new address -/
theorem St.none0 (x : St mg B₀ s₀ L B m O s) {a : Nat} (h : s.heap.objs.size ≤ a) : s₀.heap.get? a = none ∧ T3 a := by
  have hlt := x.ltL
  have hT : T3 a := t3_of_le x.big (by have := x.lo; omega)
  refine ⟨?_, hT⟩
  cases q : s₀.heap.get? a with
  | none => rfl
  | some o => exact absurd (lts (x.keep a o hT q)) (by omega)

/-- a new object of the call's own -/
theorem St.push (x : St mg B₀ s₀ L B m O s) (o : Obj) {t : Nat} (hf : o.isFreed = false := by rfl) : St mg B₀ s₀ L B m ((s.heap.objs.size, o) :: O) { s with heap := s.heap.push o, toks := t } := by
  have y := x.kept (h' := s.heap.push o) (t := t) fun a o' e => Heap.get?_push_of_some _ e
  have hlt := x.ltL
  refine { y with own := fun p hp => ?_, dis := List.pairwise_cons.mpr ⟨fun p hp => ?_, x.dis⟩ }
  · rcases List.mem_cons.mp hp with rfl | hp
    · exact ⟨Heap.get?_push_size _ hf, ne_lt (.inr hlt), x.fresh, x.none0 (Nat.le_refl _)⟩
    · exact y.own p hp
  · have := lts (x.own p hp).1
    exact ne_lt (.inr this)

/-- the first own object changed -/
theorem St.upd {a : Nat} {o o' : Obj} (x : St mg B₀ s₀ L B m ((a, o) :: O) s) {h' : Heap} {t : Nat} (hn : h'.get? a = some o') (hs : Heap.ExtBut a s.heap h') : St mg B₀ s₀ L B m ((a, o') :: O) { s with heap := h', toks := t } := by
  obtain ⟨ha, haL, haB, hlo, hT⟩ := x.own _ (.head _)
  have tab : ∀ {P q}, P ≠ a → TabOk B s.heap P q → TabOk B h' P q := fun hp y => y.mono (Le.rf _) fun o e => hs _ _ hp e
  refine ⟨let ⟨h, _, e⟩ := x.same; ⟨h', t, by rw [e]⟩, fun b ob ht e => ?_, x.le, x.new,
    ⟨fun b ob e => hs b ob (fun q => by rw [q] at e; rw [show B.get? a = none from haB] at e; cases e) (x.ok.ext b ob e), x.ok.gl, x.ok.n30, x.ok.n44, x.ok.n61, tab (Ne.symm hT.1) x.ok.t30, tab (Ne.symm hT.2.1) x.ok.t44, tab (Ne.symm hT.2.2) x.ok.t61⟩,
    x.big, x.lo, x.nL, x.ns.extBut hs (Ne.symm haL), fun p hp => ?_, ?_⟩
  · exact hs b ob (fun q => by rw [q] at e; rw [show s₀.heap.get? a = none from hlo] at e; cases e) (x.keep b ob ht e)
  · rcases List.mem_cons.mp hp with rfl | hp
    · exact ⟨hn, haL, haB, hlo, hT⟩
    · obtain ⟨h1, h2⟩ := x.own p (.tail _ hp)
      exact ⟨hs _ _ (Ne.symm ((List.pairwise_cons.mp x.dis).1 p hp)) h1, h2⟩
  · obtain ⟨d1, d2⟩ := List.pairwise_cons.mp x.dis
    exact List.pairwise_cons.mpr ⟨fun p hp => d1 p hp, d2⟩

/-- freeze the first own object -/
def frz (B h : Heap) (a : Nat) : Heap := restrict (fun x => (B.get? x).isSome || x == a) h
theorem frz_le {h : Heap} {a : Nat} (k : Le B h) : Le B (frz B h a) := fun b o e => restrict_of (by simp [e]) (k b o e)
theorem frz_self {h : Heap} {a : Nat} {o : Obj} (e : h.get? a = some o) : (frz B h a).get? a = some o := restrict_of (by simp) e
theorem frz_cases {h : Heap} {a b : Nat} {o : Obj} (k : Le B h) (e : (frz B h a).get? b = some o) : B.get? b = some o ∨ b = a := by
  obtain ⟨h1, h2⟩ := restrict_some e
  simp only [Bool.or_eq_true, beq_iff_eq] at h1
  rcases h1 with h1 | h1
  · obtain ⟨o', h3⟩ := Option.isSome_iff_exists.mp h1
    rw [k _ _ h3] at h2; cases h2; exact .inl h3
  · exact .inr h1
theorem St.freeze {a : Nat} {o : Obj} (x : St mg B₀ s₀ L B m ((a, o) :: O) s) : ∃ B', Le B B' ∧ B'.get? a = some o ∧ St mg B₀ s₀ L B' m O s := by
  obtain ⟨ha, haL, haB, hlo, hT⟩ := x.own _ (.head _)
  have nn : ∀ b, b ≠ a → B.get? b = none → (frz B s.heap a).get? b = none := fun b hb e => by
    cases q : (frz B s.heap a).get? b with
    | none => rfl
    | some o' => rcases frz_cases x.ok.ext q with h | h
                 · rw [e] at h; cases h
                 · exact absurd h hb
  have le := frz_le (a := a) x.ok.ext
  refine ⟨frz B s.heap a, le, frz_self ha, x.same, x.keep, Le.tr x.le le, fun b ob e => ?_, ⟨fun b ob e => (restrict_some e).2, x.ok.gl.keeps le, nn _ (Ne.symm hT.1) x.ok.n30, nn _ (Ne.symm hT.2.1) x.ok.n44, nn _ (Ne.symm hT.2.2) x.ok.n61,
    x.ok.t30.mono le fun _ e => e, x.ok.t44.mono le fun _ e => e, x.ok.t61.mono le fun _ e => e⟩, x.big, x.lo, nn _ (Ne.symm haL) x.nL, x.ns, fun p hp => ?_, (List.pairwise_cons.mp x.dis).2⟩
  · rcases frz_cases x.ok.ext e with h | h
    · exact x.new _ _ h
    · exact .inr (h ▸ hlo)
  · obtain ⟨h1, h2, h3, h4⟩ := x.own p (.tail _ hp)
    exact ⟨h1, h2, nn _ (Ne.symm ((List.pairwise_cons.mp x.dis).1 p hp)) h3, h4⟩

theorem St.get (x : St mg B₀ s₀ L B m O s) {a : Nat} {o : Obj} (h : (a, o) ∈ O) : s.heap.get? a = some o := (x.own _ h).1
end
end Mine

namespace Mine

abbrev NE : Value → Shared → Prop := fun _ _ => False
abbrev Md (w : World) : Model := model Pg w

structure Ev (env : Env) (L : Nat) : Prop where
  loc : env.locals = L
  glo : env.globals = 3
  bui : env.builtins = 0
  kin : env.scope.kind = .function

theorem Ev.hp {env : Env} {L : Nat} (e : Ev env L) : (env.scope.kind == .class || (env.scope.kind == .module && env.locals != env.globals)) = false := by rw [e.kin]; rfl

section
variable {mg : Str → Option Value} {B₀ B B' : Heap} {s₀ s s' : Shared} {L : Nat} {m : Str → Option Value} {O : List (Nat × Obj)} {w : World} {A : Around} {env : Env} {E : Value → Shared → Prop}

theorem nameL {x : Str} {pos : Pos} {v : Value} {Q : Value → Shared → Prop} (S : St mg B₀ s₀ L B m O s) (e : Ev env L) (hl : env.kindOf x = some .local) (hv : m x = some v) (h : Q v s)
    (hd : (x == ("__debug__" : Str)) = false := by decide) : wpAny (Md w) A (eval (.Name x pos) env) Q E s :=
  wpAny_Name (wpAny_loadName_local e.kin hl (e.loc ▸ S.ns) hv h) hd

theorem nameC {x : Str} {pos : Pos} {c : Addr} {v : Value} {Q : Value → Shared → Prop} (e : Ev env L) (hl : env.kindOf x = some .cell) (hc : env.cells.lookup x = some c) (hv : s.heap.IsCell c (some v)) (h : Q v s)
    (hd : (x == ("__debug__" : Str)) = false := by decide) : wpAny (Md w) A (eval (.Name x pos) env) Q E s :=
  wpAny_Name (wpAny_loadName_cell e.kin hl hc hv h) hd
theorem nameF {x : Str} {pos : Pos} {c : Addr} {v : Value} {Q : Value → Shared → Prop} (e : Ev env L) (hl : env.kindOf x = some .free) (hc : env.cells.lookup x = some c) (hv : s.heap.IsCell c (some v)) (h : Q v s)
    (hd : (x == ("__debug__" : Str)) = false := by decide) (hn : (x == ("__classdict__" : Str)) = false := by decide) : wpAny (Md w) A (eval (.Name x pos) env) Q E s :=
  wpAny_Name (wpAny_loadName_free e.kin hl hc hv h hn) hd

theorem nameG {x : Str} {pos : Pos} {v : Value} {Q : Value → Shared → Prop} (ok : Ok mg B s.heap) (e : Ev env L) (hl : env.kindOf x = some .globalImplicit) (hv : mg x = some v) (h : Q v s)
    (hd : (x == ("__debug__" : Str)) = false := by decide) : wpAny (Md w) A (eval (.Name x pos) env) Q E s :=
  Calls.Name_function_global e.kin hl (Calls.loadGlobal_global (by rw [e.glo]; exact ok.gl.g.keeps ok.ext) hv h) hd
theorem nameB {x : Str} {pos : Pos} {v : Value} {mb : Str → Option Value} {Q : Value → Shared → Prop} (ok : Ok mg B s.heap) (e : Ev env L) (hl : env.kindOf x = some .globalImplicit) (hm : mg x = none) (hb : B.Ns 0 mb) (hv : mb x = some v) (h : Q v s)
    (hd : (x == ("__debug__" : Str)) = false := by decide) : wpAny (Md w) A (eval (.Name x pos) env) Q E s :=
  Calls.Name_function_global e.kin hl (Calls.loadGlobal_builtin (by rw [e.glo]; exact ok.gl.g.keeps ok.ext) hm (by rw [e.bui]; exact hb.keeps ok.ext) hv h) hd

theorem storeL {x : Str} {v : Value} {Q : Unit → Shared → Prop} (S : St mg B₀ s₀ L B m O s) (e : Ev env L) (hl : env.kindOf x = some .local)
    (h : ∀ s', St mg B₀ s₀ L B (fun y => if y = x then some v else m y) O s' → Q () s') : wpAny (Md w) A (storeName env x v) Q E s := by
  refine wpAny_storeName_local hl (e.loc ▸ S.ns) (fun h' hn hs => ?_) e.hp
  rw [e.loc] at hn hs
  exact h _ (S.set hn hs)

theorem storeC {x : Str} {v : Value} {c : Nat} {o : Obj} {v0 : Option Value} {Q : Unit → Shared → Prop} (S : St mg B₀ s₀ L B m ((c, o) :: O) s) (e : Ev env L) (hl : env.kindOf x = some .cell) (hc : env.cells.lookup x = some c) (ho : o.data = .cell v0)
    (h : ∀ s' o', o'.data = .cell (some v) → St mg B₀ s₀ L B m ((c, o') :: O) s' → Q () s') : wpAny (Md w) A (storeName env x v) Q E s := by
  refine wpAny_storeName_cell e.kin hl hc ⟨o, S.get (.head _), ho⟩ fun h' hn hs => ?_
  obtain ⟨o', e1, e2⟩ := hn
  exact h _ o' e2 (S.upd e1 hs.extBut (t := s.toks))

theorem assignL {x : Str} {pos : Pos} {v : Value} {Q : Unit → Shared → Prop} (S : St mg B₀ s₀ L B m O s) (e : Ev env L) (hl : env.kindOf x = some .local)
    (h : ∀ s', St mg B₀ s₀ L B (fun y => if y = x then some v else m y) O s' → Q () s') : wpAny (Md w) A (assign (.Name x pos) env v) Q E s := wpAny_assign_Name (storeL S e hl h)

theorem constI {i : Int} {k : Nat} {pos : Pos} {Q : Value → Shared → Prop} (S : St mg B₀ s₀ L B m O s) (h : ∀ t s', St mg B₀ s₀ L B m O s' → Q (.int i t) s') : wpAny (Md w) A (eval (.Constant (.int i) k pos) env) Q E s :=
  wpAny_Constant_int (h _ _ (S.tok _))

theorem St.adoptN {a : Nat} {o : Obj} (x : St mg B₀ s₀ L B m O s) (e : s.heap.get? a = some o) (hlo : s₀.heap.get? a = none) (hT : T3 a) (haL : a ≠ L) (hB : B.get? a = none) (hO : ∀ p ∈ O, a ≠ p.1) : St mg B₀ s₀ L B m ((a, o) :: O) s :=
  { x with
    own := fun p hp => by
      rcases List.mem_cons.mp hp with rfl | hp
      · exact ⟨e, haL, hB, hlo, hT⟩
      · exact x.own p hp
    dis := List.pairwise_cons.mpr ⟨hO, x.dis⟩ }
theorem St.adopt {a : Nat} {o : Obj} (x : St mg B₀ s₀ L B m O s) (e : s.heap.get? a = some o) (hlo : s₀.heap.objs.size ≤ a) (haL : a ≠ L) (hB : B.get? a = none) (hO : ∀ p ∈ O, a ≠ p.1) : St mg B₀ s₀ L B m ((a, o) :: O) s :=
  x.adoptN e (by
    cases q : s₀.heap.get? a with
    | none => rfl
    | some o => exact absurd (lts q) (by omega)) (t3_of_le x.big hlo) haL hB hO

/-- the first own object is lost -/
theorem St.lose {a : Nat} {o : Obj} (x : St mg B₀ s₀ L B m ((a, o) :: O) s) {h' : Heap} {t : Nat} (hs : Heap.ExtBut a s.heap h') : St mg B₀ s₀ L B m O { s with heap := h', toks := t } := by
  obtain ⟨ha, haL, haB, hlo, hT⟩ := x.own _ (.head _)
  have tab : ∀ {P q}, P ≠ a → TabOk B s.heap P q → TabOk B h' P q := fun hp y => y.mono (Le.rf _) fun o e => hs _ _ hp e
  refine ⟨let ⟨h, _, e⟩ := x.same; ⟨h', t, by rw [e]⟩, fun b ob ht e => ?_, x.le, x.new,
    ⟨fun b ob e => hs b ob (fun q => by rw [q] at e; rw [show B.get? a = none from haB] at e; cases e) (x.ok.ext b ob e), x.ok.gl, x.ok.n30, x.ok.n44, x.ok.n61, tab (Ne.symm hT.1) x.ok.t30, tab (Ne.symm hT.2.1) x.ok.t44, tab (Ne.symm hT.2.2) x.ok.t61⟩,
    x.big, x.lo, x.nL, x.ns.extBut hs (Ne.symm haL), fun p hp => ?_, (List.pairwise_cons.mp x.dis).2⟩
  · exact hs b ob (fun q => by rw [q] at e; rw [show s₀.heap.get? a = none from hlo] at e; cases e) (x.keep b ob ht e)
  · obtain ⟨h1, h2⟩ := x.own p (.tail _ hp)
    exact ⟨hs _ _ (Ne.symm ((List.pairwise_cons.mp x.dis).1 p hp)) h1, h2⟩

/-- a for over anything that walks -/
theorem for_core {target : Expr} {body : List Stmt} {I : Nat} {oI : Obj} {fp : List Addr} {n : Nat} {P : Nat → Value → Prop} {Stt : Nat → Heap → Prop} {R : Result → Shared → Prop} {Q : Flow → Shared → Prop}
    (W : Walks Pg w A I fp [I] n P Stt) (hI : ∀ i h, Stt i h → ∃ o, h.get? I = some o) (hfp : ∀ b ∈ fp, b = I ∨ ∃ o, B.get? b = some o)
    (S : St mg B₀ s₀ L B m ((I, oI) :: O) s) (h0 : Stt 0 s.heap)
    (J : Nat → Heap → (Str → Option Value) → List (Nat × Obj) → Prop) (J0 : J 0 B m O)
    (hR : ∀ f s', Q f s' → R (.ok f) s')
    (turn : ∀ i v B' m' O' oI' s', i < n → P i v → Le B B' → J i B' m' O' → St mg B₀ s₀ L B' m' ((I, oI') :: O') s' →
      wpAny (Md w) A (assign target env v) (fun _ s₂ => wpAny (Md w) A (execs body env) (fun f s₃ => match f with
        | .next | .cont => ∃ B'' m'' O'', Le B' B'' ∧ J (i + 1) B'' m'' O'' ∧ St mg B₀ s₀ L B'' m'' ((I, oI') :: O'') s₃
        | .brk => Q .next s₃
        | .ret v => Q (.ret v) s₃) NE s₂) NE s')
    (fin : ∀ B' m' O' s', Le B B' → J n B' m' O' → St mg B₀ s₀ L B' m' O' s' → Q .next s')
    (ht : ∀ v, letOwnedTupleGo target (.ref I) v = pure () := by intro _; rfl) :
    codeAny (Md w) A (.forLoop target (.ref I) body [] env) R s := by
  refine codeAny_forLoop (fun k s' => ∃ i B' m' O' oI', k = n + 1 - i ∧ i ≤ n ∧ Le B B' ∧ J i B' m' O' ∧ St mg B₀ s₀ L B' m' ((I, oI') :: O') s' ∧ Stt i s'.heap) ?_ (n + 1)
    ⟨0, B, m, O, oI, rfl, Nat.zero_le _, Le.rf _, J0, S, h0⟩ ht
  rintro k s' ⟨i, B', m', O', oI', rfl, hi, hB, hJ, S', hst⟩
  by_cases hlt : i < n
  · refine W.item i s' _ _ hlt hst fun v h' tk hP hst' hk => ?_
    obtain ⟨o'', ho''⟩ := hI _ _ hst'
    have S2 := S'.upd ho'' (t := tk) fun b o hb e => hk b o (by simpa using hb) e
    refine wpAny_mono (turn i v B' m' O' o'' _ hlt hP hB hJ S2) (fun _ s₂ h₂ => wpAny_mono h₂ (fun f s₃ h₃ => ?_) fun _ _ f => f.elim) fun _ _ f => f.elim
    have key : (∃ B'' m'' O'', Le B' B'' ∧ J (i + 1) B'' m'' O'' ∧ St mg B₀ s₀ L B'' m'' ((I, o'') :: O'') s₃) →
        ∃ k', k' < n + 1 - i ∧ ∃ i B' m' O' oI', k' = n + 1 - i ∧ i ≤ n ∧ Le B B' ∧ J i B' m' O' ∧ St mg B₀ s₀ L B' m' ((I, oI') :: O') s₃ ∧ Stt i s₃.heap := by
      rintro ⟨B'', m'', O'', hB', hJ', S3⟩
      refine ⟨n + 1 - (i + 1), by omega, i + 1, B'', m'', O'', o'', rfl, hlt, Le.tr hB hB', hJ', S3, ?_⟩
      refine W.frame _ _ _ hst' fun b hb o e => ?_
      rcases hfp b hb with rfl | ⟨ob, hob⟩
      · rw [ho''] at e; cases e
        exact S3.get (.head _)
      · have e1 := S2.ok.ext _ _ (hB _ _ hob)
        have e1' : h'.get? b = some ob := e1
        rw [e1'] at e; cases e
        exact S3.ok.ext _ _ (hB' _ _ (hB _ _ hob))
    cases f with
    | next => exact key h₃
    | cont => exact key h₃
    | brk => exact hR _ _ h₃
    | ret v => exact hR _ _ h₃
  · have hin : i = n := by omega
    subst hin
    refine W.done s' _ _ hst fun h' tk hk => ?_
    exact wpAny_execs_nil (hR _ _ (fin B' m' O' _ hB hJ (S'.lose (t := tk) fun b o hb e => hk b o (by simpa using hb) e)))

theorem for_list {target iter : Expr} {body : List Stmt} {pos : Pos} {ax : Nat} {items : Array Value} {Q : Flow → Shared → Prop} (hh : A.handled = none)
    (S : St mg B₀ s₀ L B m O s) (hiter : ∀ Q', Q' (.ref ax) s → wpAny (Md w) A (eval iter env) Q' NE s) (hl : B.IsList ax items)
    (J : Nat → Heap → (Str → Option Value) → List (Nat × Obj) → Prop) (J0 : J 0 B m O)
    (turn : ∀ i v B' m' O' I oI' s', items[i]? = some v → Le B B' → J i B' m' O' → St mg B₀ s₀ L B' m' ((I, oI') :: O') s' →
      wpAny (Md w) A (assign target env v) (fun _ s₂ => wpAny (Md w) A (execs body env) (fun f s₃ => match f with
        | .next | .cont => ∃ B'' m'' O'', Le B' B'' ∧ J (i + 1) B'' m'' O'' ∧ St mg B₀ s₀ L B'' m'' ((I, oI') :: O'') s₃
        | .brk => Q .next s₃
        | .ret v => Q (.ret v) s₃) NE s₂) NE s')
    (fin : ∀ B' m' O' s', Le B B' → J items.size B' m' O' → St mg B₀ s₀ L B' m' O' s' → Q .next s')
    (hs : ∀ x, foldedSetIterable iter env x = pure x := by intro _; rfl) (ht : ∀ it v, letOwnedTupleGo target it v = pure () := by intro _ _; rfl) :
    wpAny (Md w) A (exec (.For target iter body [] pos) env) Q NE s := by
  have hl' : s.heap.IsList ax items := let ⟨o, e, r⟩ := hl; ⟨o, S.ok.ext _ _ e, r⟩
  have hax : ∃ o, B.get? ax = some o := let ⟨o, e, _⟩ := hl; ⟨o, e⟩
  refine wpAny_For (hiter _ (wpAny_pyIter_list hl' ?_)) hs
  have S1 := S.push { cls := .type "list_iterator", data := .fields #[.ref ax, .int 0 0] } (t := s.toks)
  have hne : ax ≠ s.heap.objs.size := let ⟨_, e⟩ := hax; ne_lt (.inl (lts (S.ok.ext _ _ e)))
  refine for_core (R := fun r s' => match r with | .ok f => Q f s' | .error e => cameBackBy (Md w) A env NE e s') (Walks.list hh s.heap.objs.size ax hne items)
    (fun i h st => let ⟨o, e, _⟩ := st.1; ⟨o, e⟩) (fun b hb => by simp at hb; rcases hb with rfl | rfl; exact .inl rfl; exact .inr hax) S1 ⟨⟨_, S1.get (.head _), rfl, rfl⟩, hl'.push _⟩ J J0 (fun f s' q => q)
    (fun i v B' m' O' oI' s' _ hP hB hJ S' => turn i v B' m' O' _ oI' s' hP hB hJ S') fin (fun v => ht _ v)

theorem for_range {target iter : Expr} {body : List Stmt} {pos : Pos} {n : Nat} {Q : Flow → Shared → Prop} (hh : A.handled = none)
    (hiter : wpAny (Md w) A (eval iter env) (fun x s₁ => ∃ (r : Nat) (t u v : Tok), x = .ref r ∧ IsRange s₁.heap r 0 n 1 t u v ∧ (n : Int) < 2 ^ 62 ∧ St mg B₀ s₀ L B m O s₁) NE s)
    (J : Nat → Heap → (Str → Option Value) → List (Nat × Obj) → Prop) (J0 : J 0 B m O)
    (turn : ∀ i tk B' m' O' I oI' s', i < n → Le B B' → J i B' m' O' → St mg B₀ s₀ L B' m' ((I, oI') :: O') s' →
      wpAny (Md w) A (assign target env (.int i tk)) (fun _ s₂ => wpAny (Md w) A (execs body env) (fun f s₃ => match f with
        | .next | .cont => ∃ B'' m'' O'', Le B' B'' ∧ J (i + 1) B'' m'' O'' ∧ St mg B₀ s₀ L B'' m'' ((I, oI') :: O'') s₃
        | .brk => Q .next s₃
        | .ret v => Q (.ret v) s₃) NE s₂) NE s')
    (fin : ∀ B' m' O' s', Le B B' → J n B' m' O' → St mg B₀ s₀ L B' m' O' s' → Q .next s')
    (hs : ∀ x, foldedSetIterable iter env x = pure x := by intro _; rfl) (ht : ∀ it v, letOwnedTupleGo target it v = pure () := by intro _ _; rfl) :
    wpAny (Md w) A (exec (.For target iter body [] pos) env) Q NE s := by
  refine wpAny_For (wpAny_mono hiter (fun x s₁ h₁ => ?_) fun _ _ f => f) hs
  obtain ⟨r, t, u, v, rfl, hr, hn, S⟩ := h₁
  refine wpAny_pyIter_range hr (small_one (by decide) (by decide) (by omega) (by omega)) ?_
  have hsz : Builtin.Range.rangeSize 0 n 1 = n := by rw [rangeSize_one]; split <;> omega
  have S1 := S.push { cls := .type "range_iterator", data := .fields #[rawInt 0, rawInt (Builtin.Range.rangeSize 0 n 1), rawInt 1] } (t := s₁.toks)
  refine for_core (R := fun r s' => match r with | .ok f => Q f s' | .error e => cameBackBy (Md w) A env NE e s') (Walks.range (prog := Pg) (w := w) hh s₁.heap.objs.size 0 1 n)
    (fun i h st => ⟨_, st⟩) (fun b hb => by simp at hb; exact .inl hb) S1 (by have := S1.get (.head _); rw [hsz] at this; simpa [hsz] using this) J J0 (fun f s' q => q)
    (fun i v B' m' O' oI' s' hi hP hB hJ S' => by obtain ⟨tk, rfl⟩ := hP; rw [show (0 : Int) + (i : Int) * 1 = i by omega]; exact turn i tk B' m' O' _ oI' s' hi hB hJ S') fin (fun v => ht _ v)
end
end Mine

namespace Mine
open Builtin Builtin.ObjectAttr

theorem slot_fn_ga : Slot "function" "__getattribute__" "object.__getattribute__" :=
  .of (owner := "object") (n := "__getattribute__") (by rw [typeLookup_type, builtinLookup_eq_fast]; kernel_rfl) (by decide +kernel) (by decide +kernel) (by decide +kernel)
    (by first | exact .inl (by decide +kernel) | exact .inr (by decide +kernel)) (by rw [isSubtype_type]; kernel_rfl)
theorem slot_fn_sa : Slot "function" "__setattr__" "object.__setattr__" :=
  .of (owner := "object") (n := "__setattr__") (by rw [typeLookup_type, builtinLookup_eq_fast]; kernel_rfl) (by decide +kernel) (by decide +kernel) (by decide +kernel)
    (by first | exact .inl (by decide +kernel) | exact .inr (by decide +kernel)) (by rw [isSubtype_type]; kernel_rfl)
theorem fn_getattr_none : typeLookup (.type "function") "__getattr__" = pure none := by rw [typeLookup_type, builtinLookup_eq_fast]; kernel_rfl
theorem fn_bool_none : typeLookup (.type "function") "__bool__" = pure none := by rw [typeLookup_type, builtinLookup_eq_fast]; kernel_rfl
theorem fn_len_none : typeLookup (.type "function") "__len__" = pure none := by rw [typeLookup_type, builtinLookup_eq_fast]; kernel_rfl
theorem fn_span_none : typeLookup (.type "function") "span" = pure none := by rw [typeLookup_type, builtinLookup_eq_fast]; kernel_rfl
theorem fn_guest_none : typeLookup (.type "function") "guest" = pure none := by rw [typeLookup_type, builtinLookup_eq_fast]; kernel_rfl
theorem fn_search_none : typeLookup (.type "function") "search" = pure none := by rw [typeLookup_type, builtinLookup_eq_fast]; kernel_rfl
theorem fn_mro : mroOf (.type "function") = pure [.type "function", .type "object"] := by rw [mroOf_type]; kernel_rfl

section
variable {w : World} {A : Around} {E : Value → Shared → Prop} {s : Shared}

theorem fn_ga_entry {f d : Addr} {o : Obj} {md : Str → Option Value} {name : Str} {v : Value} {tk : Tok} {Q : Fin → Shared → Prop} (ho : s.heap.get? f = some o) (hc : o.cls = .type "function") (hnc : ∀ c, o.data ≠ .cls c)
    (hd : o.dict = some d) (hn : s.heap.Ns d md) (hv : md name = some v) (hl : typeLookup (.type "function") name = pure none) (h : Q (.done (.ret v)) s) :
    wpAny (Md w) A (Builtin.«object.__getattribute__» ⟨[.ref f, .str name tk], []⟩) Q E s := by
  obtain ⟨hp, g, dr, t, os⟩ := s
  have hT : (⟨hp, g, dr, t, os⟩ : Shared).TypeIs (.ref f) "function" := ⟨o, ho, hc⟩
  unfold Builtin.«object.__getattribute__»
  repeat (any_goals (first | assumption | wp_step))
  split
  · rename_i c hcd
    exact absurd hcd (hnc c)
  unfold instanceDict
  repeat (any_goals (first | assumption | (with_reducible refine wpAny_loadPart_at ho ?_; rw [hc]) | wp_step))
  rw [hd]
  repeat (first | (with_reducible refine wpAny_nsGet hn ?_; rw [hv]) | wp_step)
  exact h

theorem fn_getAttr {f d : Addr} {o : Obj} {md : Str → Option Value} {name : Str} {v : Value} {ex : Bool} {Q : Value → Shared → Prop} (ho : s.heap.get? f = some o) (hc : o.cls = .type "function") (hnc : ∀ c, o.data ≠ .cls c)
    (hd : o.dict = some d) (hn : s.heap.Ns d md) (hv : md name = some v) (hl : typeLookup (.type "function") name = pure none) (hh : handedOut v = pure v) (h : Q v { s with toks := s.toks + 1 }) :
    wpAny (Md w) A (getAttr (.ref f) name ex) Q E s := by
  obtain ⟨hp, g, dr, t, os⟩ := s
  have hT : ∀ t, (⟨hp, g, dr, t, os⟩ : Shared).TypeIs (.ref f) "function" := fun _ => ⟨o, ho, hc⟩
  have f3 := slot_fn_ga.lookup
  have f4 := slot_fn_ga.bind (.ref f)
  unfold getAttr getAttrBy
  repeat (any_goals (first | assumption | (with_reducible refine wpAny_typeOf (hT _) ?_) | wp_step))
  rw [if_neg (by cases ex <;> exact Bool.false_ne_true)]
  repeat (any_goals (first | assumption | ((with_reducible show wpAny _ _ (call (Value.builtin "object.__getattribute__") _ _) _ _ _); refine wpAny_call_entry slot_fn_ga (hT _) F.entry_object_getattribute (fn_ga_entry ho hc hnc hd hn hv hl ⟨_, rfl, ?_⟩) (F.args_object_getattribute_2 _ _)) | wp_step))


theorem fn_getMethod {f d : Addr} {o : Obj} {md : Str → Option Value} {name : Str} {v : Value} {pl : Sem Bool} {Q : Value × List Value → Shared → Prop} (ho : s.heap.get? f = some o) (hc : o.cls = .type "function") (hnc : ∀ c, o.data ≠ .cls c)
    (hd : o.dict = some d) (hn : s.heap.Ns d md) (hv : md name = some v) (hl : typeLookup (.type "function") name = pure none) (hh : handedOut v = pure v) (h : Q (v, []) { s with toks := s.toks + 1 }) :
    wpAny (Md w) A (getMethod (.ref f) name pl) Q E s := by
  have hT : s.TypeIs (.ref f) "function" := ⟨o, ho, hc⟩
  unfold getMethod
  refine wpAny_bind (wpAny_specialOf hT slot_fn_ga.lookup ?_)
  show wpAny _ _ (if (Manifest.canonical "object.__getattribute__" != "object.__getattribute__") = true then _ else _) Q E s
  rw [F.canon_object_ga, if_neg Bool.false_ne_true]
  refine wpAny_bind (wpAny_specialOf hT fn_getattr_none ?_)
  refine wpAny_bind (wpAny_specialOf hT hl ?_)
  exact wpAny_bind (fn_getAttr ho hc hnc hd hn hv hl hh (wpAny_pure h))

theorem fn_truthy {f : Addr} {o : Obj} {Q : Bool → Shared → Prop} (ho : s.heap.get? f = some o) (hc : o.cls = .type "function") (h : Q true s) : wpAny (Md w) A (truthy (.ref f)) Q E s := by
  have hT : s.TypeIs (.ref f) "function" := ⟨o, ho, hc⟩
  have f1 := fn_bool_none
  have f2 := fn_len_none
  unfold truthy
  repeat (any_goals (first | assumption | wp_step))

theorem fn_passes (self : Value) : refuseLoop self "__setattr__" [.type "function", .type "object"] = pure () := by kernel_rfl
theorem args_sa (a b c : Value) : argsOk "object.__setattr__" ⟨[a, b, c], []⟩ := by unfold argsOk; kernel_rfl

/-- the first name set on a function: its dict is made -/
theorem fn_sa_new {f : Addr} {fd : FuncData} {name : Str} {v : Value} {tk : Tok} {Q : Fin → Shared → Prop} (ho : s.heap.get? f = some { cls := .type "function", data := .func fd })
    (hl : typeLookup (.type "function") name = pure none)
    (h : ∀ h' tk', h'.get? f = some { cls := .type "function", dict := some s.heap.objs.size, data := .func fd } → h'.Ns1 s.heap.objs.size (fun y => if y = name then some v else none) →
      Heap.ExtBut f s.heap h' → Q (.done (.ret .none)) { s with heap := h', toks := tk' }) :
    wpAny (Md w) A (Builtin.«object.__setattr__» ⟨[.ref f, .str name tk, v], []⟩) Q E s := by
  obtain ⟨hp, g, dr, t, os⟩ := s
  have ho' : hp.get? f = some { cls := .type "function", data := .func fd } := ho
  have hT : (⟨hp, g, dr, t, os⟩ : Shared).TypeIs (.ref f) "function" := ⟨_, ho, rfl⟩
  have hm := fn_mro
  have hpass := fn_passes (.ref f)
  unfold Builtin.«object.__setattr__»
  repeat (first | rw [refuse_eq] | (with_reducible refine wpAny_nsSet1 (Heap.Ns1.of_empty ?hn) fun h' hn' hs => ?_) | wp_step)
  case hn =>
    have hxs : f ≠ hp.objs.size := ne_lt (.inl (lts ho'))
    exact ⟨_, #[], _, (Heap.get?_update_ne _ _ _ _ hxs.symm).trans (Heap.get?_push_at rfl rfl), rfl, fun e he => absurd he (by simp), fun _ => rfl⟩
  have hxs : f ≠ hp.objs.size := ne_lt (.inl (lts ho'))
  obtain ⟨oD, esD, epD, hoD, hdD, hcD⟩ := hn'.count (Within.cons name v Within.nil)
  refine wpAny_bind (wpAny_lookBehind hoD (by rw [hdD]; exact pastItsLine_dict (Nat.le_trans hcD (by rw [List.length_cons, List.length_nil, sizeLine_eq]; omega))) ?_)
  refine wpAny_pure (h h' _ ?_ hn' fun b ob hb e => ?_)
  · exact (hs.2 f hxs).trans (Heap.get?_update_self _ (Heap.get?_push_of_some _ ho') rfl)
  · exact (hs.2 b (ne_lt (.inl (lts e)))).trans ((Heap.get?_update_ne _ _ _ _ hb).trans (Heap.get?_push_of_some _ e))

/-- a further name -/
theorem fn_sa_more {f d : Addr} {fd : FuncData} {name : Str} {v : Value} {tk : Tok} {mA : Str → Option Value} {ns : List Str} {Q : Fin → Shared → Prop} (ho : s.heap.get? f = some { cls := .type "function", dict := some d, data := .func fd })
    (hn : s.heap.Ns1 d mA) (hl : typeLookup (.type "function") name = pure none)
    (h : ∀ h' tk', h'.Ns1 d (fun y => if y = name then some v else mA y) → Heap.SameBut d s.heap h' → Q (.done (.ret .none)) { s with heap := h', toks := tk' })
    (hw : Within mA ns) (hsz : ns.length ≤ 1000) :
    wpAny (Md w) A (Builtin.«object.__setattr__» ⟨[.ref f, .str name tk, v], []⟩) Q E s := by
  obtain ⟨hp, g, dr, t, os⟩ := s
  have ho' : hp.get? f = some { cls := .type "function", dict := some d, data := .func fd } := ho
  have hT : (⟨hp, g, dr, t, os⟩ : Shared).TypeIs (.ref f) "function" := ⟨_, ho, rfl⟩
  have hm := fn_mro
  have hpass := fn_passes (.ref f)
  unfold Builtin.«object.__setattr__»
  repeat (first | rw [refuse_eq] | (with_reducible refine wpAny_nsSet1 hn fun h' hn' hs => ?_) | wp_step)
  obtain ⟨oD, esD, epD, hoD, hdD, hcD⟩ := hn'.count (Within.cons name v hw)
  refine wpAny_loadPart hoD ?_
  rw [hdD, pastItsLine_dict (Nat.le_trans hcD (by rw [List.length_cons, sizeLine_eq]; omega))]
  exact wpAny_pure (wpAny_pure (h h' _ hn' hs))

theorem fn_setAttr {f : Addr} {o : Obj} {name : Str} {v : Value} {Q : Unit → Shared → Prop} (ho : s.heap.get? f = some o) (hc : o.cls = .type "function")
    (h : wpAny (Md w) A.in1 (Builtin.«object.__setattr__» ⟨[.ref f, .str name s.toks, v], []⟩) (fun fin s' => fin = .done (.ret .none) ∧ Q () s') E { s with toks := s.toks + 1 }) :
    wpAny (Md w) A (setAttr (.ref f) name v) Q E s := by
  have hT : ∀ t, ({ s with toks := t } : Shared).TypeIs (.ref f) "function" := fun _ => ⟨o, ho, hc⟩
  unfold setAttr
  refine wpAny_bind (wpAny_mkText ?_)
  refine wpAny_bind (wpAny_callSpecial?_slot (name := Str.ofString "__setattr__") (hT _) slot_fn_sa (wpAny_call_entry slot_fn_sa (hT _) F.entry_object_sa (wpAny_mono h (fun fin s' h' => ?_) fun _ _ e => e) (args_sa _ _ _)))
  obtain ⟨rfl, hq⟩ := h'
  exact ⟨_, rfl, wpAny_pure hq⟩
end
end Mine

namespace Mine

abbrev tabs3 : List (Nat × Str) := [(30, qFind), (44, qRoom), (61, qLaw)]

theorem codeAmong_append {pos : Pos} {x y : Int} {c : Value} : ∀ (l : List Value), TriplesOk l → ∀ cv, codeAmong pos (l ++ [rawInt x, rawInt y, c]) = some cv → codeAmong pos l = some cv ∨ cv = c := by
  intro l
  fun_induction TriplesOk l with
  | case1 => intro _ cv h; right; simp only [List.nil_append, codeAmong, rawInt] at h; split at h
             · cases h; rfl
             · cases h
  | case2 a t b u z rest ih =>
    intro ht cv h
    simp only [List.cons_append, codeAmong] at h ⊢
    split at h
    · rename_i hc; rw [if_pos hc]; exact .inl h
    · rename_i hc; rw [if_neg hc]; exact ih ht cv h
  | case3 => intro ht; exact absurd ht id

section
variable {mg : Str → Option Value} {B₀ B B' : Heap} {s₀ s s' : Shared} {L : Nat} {m : Str → Option Value} {O : List (Nat × Obj)} {w : World} {A : Around} {env : Env} {E : Value → Shared → Prop}

theorem Ok.tabAt {h : Heap} (x : Ok mg B h) {P : Nat} {q : Str} (hP : (P, q) ∈ tabs3) : TabOk B h P q ∧ B.get? P = none ∧ P ≤ 61 ∧ P ≠ 3 := by
  simp only [tabs3, List.mem_cons, Prod.mk.injEq, List.not_mem_nil, or_false] at hP
  rcases hP with ⟨rfl, rfl⟩ | ⟨rfl, rfl⟩ | ⟨rfl, rfl⟩
  · exact ⟨x.t30, x.n30, by decide, by decide⟩
  · exact ⟨x.t44, x.n44, by decide, by decide⟩
  · exact ⟨x.t61, x.n61, by decide, by decide⟩

theorem Ok.setTab {h h' : Heap} (x : Ok mg B h) {P : Nat} {q : Str} (hP : (P, q) ∈ tabs3) (le : Le B B') (ext : Le B' h') (nn : ∀ a : Nat, a ≤ 61 → B.get? a = none → B'.get? a = none) (ht : TabOk B' h' P q) (hk : Heap.ExtBut P h h') : Ok mg B' h' := by
  have tab : ∀ {R r}, R ≠ P → TabOk B h R r → TabOk B' h' R r := fun hp y => y.mono le fun o e => hk _ _ hp e
  simp only [tabs3, List.mem_cons, Prod.mk.injEq, List.not_mem_nil, or_false] at hP
  rcases hP with ⟨rfl, rfl⟩ | ⟨rfl, rfl⟩ | ⟨rfl, rfl⟩
  · exact ⟨ext, x.gl.keeps le, nn _ (by decide) x.n30, nn _ (by decide) x.n44, nn _ (by decide) x.n61, ht, tab (by decide) x.t44, tab (by decide) x.t61⟩
  · exact ⟨ext, x.gl.keeps le, nn _ (by decide) x.n30, nn _ (by decide) x.n44, nn _ (by decide) x.n61, tab (by decide) x.t30, ht, tab (by decide) x.t61⟩
  · exact ⟨ext, x.gl.keeps le, nn _ (by decide) x.n30, nn _ (by decide) x.n44, nn _ (by decide) x.n61, tab (by decide) x.t30, tab (by decide) x.t44, ht⟩

abbrev lamObj (name qual : Str) (params : Arguments) (body : FuncBody) (scope : Scope) (clos : List (Str × Addr)) (dV doc pm cv ctv : Value) : Obj :=
  { cls := .type "function", data := .func (kdv_fn name qual params body scope clos dV doc pm cv ctv) }

theorem makeLam {name qual : Str} {params : Arguments} {body : FuncBody} {scope : Scope} {clos : List (Str × Addr)} {dV : Value} {pos : Pos} {fl : Nat} {c P : Nat} {Q : Value → Shared → Prop} (S : St mg B₀ s₀ L B m O s)
    (hP : (P, qual) ∈ tabs3) (hglo : env.globals = 3) (hcode : env.code = .ref c) (C : CodeHd B c P) (hcl : closureFor scope env = pure clos)
    (h : ∀ f cv ctv doc pm s' B', Le B B' → B'.CodeRec cv qual → St mg B₀ s₀ L B' m ((f, lamObj name qual params body scope clos dV doc pm cv ctv) :: O) s' → Q (.ref f) s') :
    wpAny (Md w) A (makeTail name qual params body scope env dV .none none pos fl) Q E s := by
  obtain ⟨⟨ps, hps, htr, hrec⟩, hn, hle, hn3⟩ := S.ok.tabAt hP
  have hg := S.ok.gl.g.keeps S.ok.ext
  have hb : s.heap.BuiltinsAt mg P := by
    obtain ⟨bm, ob, b1, b2, b3, b4, b5, b6⟩ := S.ok.gl.bm
    refine ⟨bm, ob, b1, b2, fun q => ?_, fun q => ?_, S.ok.ext _ _ b3, b4, b5, b6⟩
    · obtain ⟨o, es, ep, e, hd, _⟩ := S.ok.gl.g
      rw [q] at b3
      have e' : B.get? mainGlobals = some o := e
      rw [e'] at b3; cases b3; rw [hd] at b6; cases b6
    · rw [q, hn] at b3; cases b3
  cases hf : codeAmong pos ps.toList with
  | some cv =>
    refine kdv_makeTailHit (mg := mg) hcl hglo hg hcode (C.keeps S.ok.ext) hps htr hf hb fun ctv doc h' tk hk hsz => ?_
    have S1 := S.kept (h' := h') (t := tk) hk
    exact h _ cv ctv doc _ _ B (Le.rf _) (hrec _ _ hf) (S1.push _ (t := tk))
  | none =>
    refine kdv_makeTail (mg := mg) hcl hglo hg hcode (C.keeps S.ok.ext) hps htr hf (fun q => hn3 q.symm) hb fun c' ctv doc h' tk hx hge hlt hrec' htab => ?_
    have hbig := S.ok.lt
    have hge' : @LE.le Nat _ s.heap.objs.size c' := hge
    obtain ⟨c₂, oc, vs, t, e2, hoc, hd, hv⟩ := hrec'
    cases e2
    have extB : Le B h' := fun a o e => hx a o (fun q => by rw [q, hn] at e; cases e) (S.ok.ext a o e)
    have le := frz_le (a := c') extB
    have nn : ∀ b : Nat, b < s.heap.objs.size → B.get? b = none → (frz B h' c').get? b = none := fun b hb e => by
      cases q : (frz B h' c').get? b with
      | none => rfl
      | some o' => rcases frz_cases extB q with h | h
                   · rw [e] at h; cases h
                   · exact absurd h (ne_lt (.inl (by omega)))
    have rec2 : (frz B h' c').CodeRec (.ref c') qual := ⟨c', oc, vs, t, rfl, frz_self hoc, hd, hv⟩
    have hL : L < s.heap.objs.size := S.ltL
    have hlo := S.lo
    have hbig0 := S.big
    have S1 : St mg B₀ s₀ L (frz B h' c') m O { s with heap := h', toks := tk } := by
      refine ⟨let ⟨h, _, e⟩ := S.same; ⟨h', tk, by rw [e]⟩, fun a o ht e => ?_, Le.tr S.le le, fun a o e => ?_, S.ok.setTab hP le (fun a o e => (restrict_some e).2) (fun a ha e => nn a (by omega) e) ?_ hx, S.big, S.lo, nn _ hL S.nL, S.ns.extBut hx (ne_lt (.inr (by omega))), fun p hp => ?_, S.dis⟩
      · refine hx a o (fun q => ?_) (S.keep a o ht e)
        simp only [tabs3, List.mem_cons, Prod.mk.injEq, List.not_mem_nil, or_false] at hP
        rcases hP with ⟨h1, _⟩ | ⟨h1, _⟩ | ⟨h1, _⟩
        · exact ht.1 (q.trans h1)
        · exact ht.2.1 (q.trans h1)
        · exact ht.2.2 (q.trans h1)
      · rcases frz_cases extB e with h | h
        · exact S.new _ _ h
        · exact .inr (by rw [h]; exact (S.none0 hge').1)
      · refine ⟨_, htab, ?_, fun pos' cv hcv => ?_⟩
        · rw [Array.toList_append]; exact TriplesOk_snoc _ _ _ _ htr
        · rw [Array.toList_append] at hcv
          rcases codeAmong_append _ htr _ hcv with h | rfl
          · exact (hrec _ _ h).keeps le
          · exact rec2
      · obtain ⟨h1, h2, h3, h4, h5⟩ := S.own p hp
        refine ⟨hx _ _ (fun q => ?_) h1, h2, nn _ (lts h1) h3, h4, h5⟩
        simp only [tabs3, List.mem_cons, Prod.mk.injEq, List.not_mem_nil, or_false] at hP
        rcases hP with ⟨h1, _⟩ | ⟨h1, _⟩ | ⟨h1, _⟩
        · exact h5.1 (q.trans h1)
        · exact h5.2.1 (q.trans h1)
        · exact h5.2.2 (q.trans h1)
    exact h _ (.ref c') ctv doc _ _ _ le rec2 (S1.push _ (t := tk))
end
end Mine

namespace Mine

structure Rm (A : Around) (n : Nat) : Prop where
  hd : A.handled = none
  dp : A.depth + n ≤ 900
  un : A.units + 20 * n ≤ 9000
theorem Rm.deeper {A : Around} {n : Nat} {env : Env} (r : Rm A (n + 1)) : Rm (A.deeper env) n := ⟨r.hd, by have := r.dp; show A.depth + 1 + n ≤ 900; omega, by have := r.un; show A.units + 3 + 20 * n ≤ 9000; omega⟩
theorem Rm.in1 {A : Around} {n : Nat} (r : Rm A (n + 1)) : Rm A.in1 n := ⟨r.hd, by have := r.dp; show A.depth + n ≤ 900; omega, by have := r.un; show A.units + 1 + 20 * n ≤ 9000; omega⟩
theorem Rm.less {A : Around} {n k : Nat} (r : Rm A n) (h : k ≤ n) : Rm A k := ⟨r.hd, by have := r.dp; omega, by have := r.un; omega⟩
theorem Rm.room {A : Around} {n : Nat} (r : Rm A n) : A.depth < recursionLimit := by have := r.dp; show A.depth < 1000; omega
theorem Rm.units {A : Around} {n : Nat} (r : Rm A n) : A.units < cLine := by have := r.un; show A.units < 9900; omega

abbrev G := Int × Int × Int
def TupAt (B : Heap) (t : Nat) (g : G) : Prop := ∃ u1 u2 u3 n, B.get? t = some { cls := .type "tuple", data := .seq #[.int g.1 u1, .int g.2.1 u2, .int g.2.2 u3] n }
theorem TupAt.keeps {B B' : Heap} {t : Nat} {g : G} (x : TupAt B t g) (k : Le B B') : TupAt B' t g := let ⟨a, b, c, n, e⟩ := x; ⟨a, b, c, n, k _ _ e⟩

def lamAt (k i : Nat) : Arguments × Expr × Scope := match (dfn k).2.2.1[i]? with
  | some (.Assign _ (.Lambda a b sc _) _) => (a, b, sc)
  | _ => (⟨[], [], none, [], [], none, []⟩, .Constant .none 0 ⟨0, 0, 0, 0⟩, ⟨.function, [], false, false, []⟩)

abbrev lamO (k i : Nat) (q : Str) (clos : List (Str × Addr)) (dV doc pm cv ctv : Value) : Obj := lamObj "<lambda>" q (lamAt k i).1 (.expr (lamAt k i).2.1) (lamAt k i).2.2 clos dV doc pm cv ctv

def IsFind (B : Heap) (f t : Nat) (g : G) : Prop :=
  ∃ fd d md sp doc pm cv ctv c, B.get? f = some { cls := .type "function", dict := some d, data := .func fd } ∧ B.Ns d md ∧ md "span" = some (.ref sp) ∧ md "guest" = some (.ref t) ∧
    B.get? sp = some (lamO 5 1 qFind [("guest", c)] .none doc pm cv ctv) ∧ B.CodeRec cv qFind ∧ B.IsCell c (some (.ref t)) ∧ TupAt B t g
theorem IsFind.keeps {B B' : Heap} {f t : Nat} {g : G} (x : IsFind B f t g) (k : Le B B') : IsFind B' f t g :=
  let ⟨fd, d, md, sp, doc, pm, cv, ctv, c, h1, h2, h3, h4, h5, h6, h7, h8⟩ := x
  ⟨fd, d, md, sp, doc, pm, cv, ctv, c, k _ _ h1, h2.keeps k, h3, h4, k _ _ h5, h6.keeps k, h7.keeps k, h8.keeps k⟩

section
variable {mg : Str → Option Value} {B₀ B B' : Heap} {s₀ s s' : Shared} {L : Nat} {m : Str → Option Value} {O : List (Nat × Obj)} {w : World} {A : Around} {env : Env} {E : Value → Shared → Prop}

theorem St.start {s₁ : Shared} {m : Str → Option Value} {L : Nat} (ok : Ok mg B s.heap) (hs : ∃ h tk, s₁ = { s with heap := h, toks := tk }) (hk : ∀ b o, s.heap.get? b = some o → s₁.heap.get? b = some o) (hn : s₁.heap.Ns L m) (hL : s.heap.objs.size ≤ L) : St mg B s L B m [] s₁ := by
  have tab : ∀ {P q}, TabOk B s.heap P q → TabOk B s₁.heap P q := fun y => y.mono (Le.rf _) fun o e => hk _ _ e
  refine ⟨hs, fun a o _ e => hk a o e, Le.rf _, fun a o e => .inl e, ⟨fun a o e => hk _ _ (ok.ext a o e), ok.gl, ok.n30, ok.n44, ok.n61, tab ok.t30, tab ok.t44, tab ok.t61⟩, ok.lt, hL, ?_, hn, fun p hp => absurd hp List.not_mem_nil, List.Pairwise.nil⟩
  cases q : B.get? L with
  | none => rfl
  | some o => exact absurd (lts (ok.ext _ _ q)) (by omega)

theorem enterDef {k : Nat} {c : Addr} {pm : Value} {a : Nat} {args : List Value} {binds : List (Str × Value)} {n : Nat} {Q : Value → Shared → Prop} (r : Rm A n) (ok : Ok mg B s.heap) (hf : B.get? a = some (fnObj k c pm)) (hcd : B.CodeRec (.ref c) (dfn k).1)
    (hbind : bindArgs (fdOf k c pm) ⟨args, []⟩ = pure binds)
    (hkind : ∀ x ∈ binds, (dfn k).2.2.2.names.lookup x.1 = some .local ∨ ((dfn k).2.2.2.names.lookup x.1 = some .cell ∧ ((cellsFrom (s.heap.objs.size + 1) (dfn k).2.2.2.names []).lookup x.1).isSome = true))
    (h : ∀ s₁, St mg B s s.heap.objs.size B (bindL (callEnvC (fdOf k c pm) s.heap.objs.size a).kindOf binds fun _ => none) [] s₁ →
      InCallC s s.heap.objs.size (bindL (callEnvC (fdOf k c pm) s.heap.objs.size a).kindOf binds fun _ => none) (callEnvC (fdOf k c pm) s.heap.objs.size a).cells (bindC (callEnvC (fdOf k c pm) s.heap.objs.size a).kindOf binds fun _ => none) s₁ →
      wpAny (Md w) (A.deeper (callEnvC (fdOf k c pm) s.heap.objs.size a)) (execs (dfn k).2.2.1 (callEnvC (fdOf k c pm) s.heap.objs.size a)) (fun f s' => Q (match f with | .ret v => v | _ => .none) s') NE s₁)
    (hco : (dfn k).2.2.2.isCoroutine = false := by rfl) (hgen : (dfn k).2.2.2.isGenerator = false := by rfl) (hk : (dfn k).2.2.2.kind = .function := by rfl) :
    wpAny (Md w) A (call (.ref a) args) Q E s := by
  refine wpAny_call (codeAny_call_cells (fd := fdOf k c pm) r.room (ok.ext _ _ hf) rfl (ok.gl.lim.keeps ok.ext) (hcd.keeps ok.ext) rfl hbind rfl hkind (fun s₁ x => ?_) hco hgen hk)
  exact wpAny_mono (h s₁ (St.start ok x.toInCall.same x.toInCall.keep x.toInCall.ns x.toInCall.fresh) x) (fun f s' q => q) fun _ _ f => f.elim

abbrev lamEnv (q : Str) (scope : Scope) (L : Nat) (cl : List (Str × Addr)) (f : Nat) (cv : Value) : Env := newEnv scope L 3 cl (q ++ ".<locals>.") (some f) cv none 0

theorem enterLam {name qual : Str} {params : Arguments} {body : Expr} {scope : Scope} {clos : List (Str × Addr)} {dV doc pm cv ctv : Value} {od : Option Addr} {a : Nat} {args : List Value} {binds : List (Str × Value)} {n : Nat} {Q : Value → Shared → Prop} (r : Rm A n) (ok : Ok mg B s.heap)
    (hf : B.get? a = some { cls := .type "function", dict := od, data := .func (kdv_fn name qual params (.expr body) scope clos dV doc pm cv ctv) }) (hcd : B.CodeRec cv qual)
    (hbind : BindsTo s (kdv_fn name qual params (.expr body) scope clos dV doc pm cv ctv) ⟨args, []⟩ binds) (hloc : ∀ x ∈ binds, scope.names.lookup x.1 = some .local)
    (h : ∀ s₁, St mg B s s.heap.objs.size B (fun x => binds.reverse.lookup x) [] s₁ →
      wpAny (Md w) (A.deeper (lamEnv qual scope s.heap.objs.size clos a cv)) (eval body (lamEnv qual scope s.heap.objs.size clos a cv)) Q NE s₁)
    (hco : scope.isCoroutine = false := by rfl) (hgen : scope.isGenerator = false := by rfl) (hk : scope.kind = .function := by rfl) (hcell : ∀ x ∈ scope.names, x.2 ≠ .cell := by decide) :
    wpAny (Md w) A (call (.ref a) args) Q E s := by
  refine wpAny_call (kla_callFunE r.room (ok.ext _ _ hf) rfl hco hgen rfl (hcd.keeps ok.ext) (hbind _ _ _ _ ?_))
  refine wpAny_newFunctionEnv hcell hloc (fun h₁ hns hsb => ⟨(ok.gl.lim.keeps ok.ext).fresh _ hsb, ?_⟩) hk
  have hk₁ : ∀ b o, s.heap.get? b = some o → h₁.get? b = some o := fun b o e => hsb.extBut b o (Nat.ne_of_lt (Heap.lt_size e)) (Heap.get?_push_of_some _ e)
  refine kla_codeExpr (wpAny_mono (h _ (St.start ok ⟨h₁, _, rfl⟩ hk₁ hns (Nat.le_refl _))) (fun v s' q => q) fun _ _ f => f.elim)
end
end Mine

namespace Mine

section
variable {mg : Str → Option Value} {B₀ B : Heap} {s₀ s : Shared} {L : Nat} {m : Str → Option Value} {O : List (Nat × Obj)} {w : World} {A : Around} {env : Env} {E : Value → Shared → Prop}

/-- a lambda without defaults -/
theorem lamNew {params : Arguments} {body : Expr} {scope : Scope} {clos : List (Str × Addr)} {pos : Pos} {fl : Nat} {c P : Nat} {q : Str} {Q : Value → Shared → Prop} (S : St mg B₀ s₀ L B m O s)
    (hP : (P, q) ∈ tabs3) (hq : env.qual ++ "<lambda>" = q) (hglo : env.globals = 3) (hcode : env.code = .ref c) (C : CodeHd B c P) (hcl : closureFor scope env = pure clos)
    (h : ∀ f cv ctv doc pm s' B', Le B B' → B'.CodeRec cv q → St mg B₀ s₀ L B' m ((f, lamObj "<lambda>" q params (.expr body) scope clos .none doc pm cv ctv) :: O) s' → Q (.ref f) s') :
    wpAny (Md w) A (makeFunction "<lambda>" (env.qual ++ "<lambda>") params (.expr body) scope env [] [] [] pos fl) Q E s := by
  rw [makeFunction_eq, hq]
  simp only [List.zip_nil_right, List.filterMap_nil, List.isEmpty_nil, if_true, pure_bind]
  exact makeLam S hP hglo hcode C hcl h
end

section
variable {mg : Str → Option Value} {B : Heap} {s : Shared} {w : World} {A : Around}

theorem find_spec {t : Nat} {g : G} (r : Rm A 3) (ok : Ok mg B s.heap) (ht : TupAt B t g) :
    wpAny (Md w) A (call (.ref 35) [.ref t]) (fun v s' => ∃ B' f, v = .ref f ∧ Stp mg B s B' s' ∧ IsFind B' f t g) NE s := by
  obtain ⟨pm, hf⟩ := ok.gl.f35
  refine enterDef (binds := [("guest", .ref t)]) r ok hf ok.gl.c34 (by kernel_rfl) (by intro x hx; simp only [List.mem_singleton] at hx; subst hx; exact .inr ⟨by kernel_rfl, by rfl⟩) fun s₁ S x => ?_
  generalize hL : s.heap.objs.size = L at *
  generalize hE : callEnvC (fdOf 5 34 pm) L 35 = env at *
  have e : Ev env L := by rw [← hE]; exact ⟨rfl, rfl, rfl, rfl⟩
  have hcells : env.cells = [(Str.ofString "guest", L + 1)] := by rw [← hE]; rfl
  have kg : env.kindOf "guest" = some .cell := by rw [← hE]; rfl
  have kf : env.kindOf "find" = some .local := by rw [← hE]; rfl
  have hcode : env.code = .ref 34 := by rw [← hE]; rfl
  have hqual : env.qual ++ "<lambda>" = qFind := by rw [← hE]; rfl
  obtain ⟨oc, hoc, hocd⟩ := x.cell "guest" (L + 1) (by rw [hcells]; rfl)
  have hcv : bindC env.kindOf [("guest", Value.ref t)] (fun _ => none) "guest" = some (.ref t) := by simp [bindC, kg]
  rw [hcv] at hocd
  have S := S.adopt (a := L + 1) hoc (by omega) (by show L + 1 ≠ L; omega) (by
    cases q : B.get? (L + 1) with
    | none => rfl
    | some o => exact absurd (lts (ok.ext _ _ q)) (by omega)) (by intro p hp; cases hp)
  -- find = lambda: None
  refine wpAny_execs_cons (wpAny_Assign_Name (kla_eval rfl ?_))
  refine lamNew (c := 34) (clos := []) S (.head _) hqual e.glo hcode ok.gl.h34 rfl ?_
  intro f cv ctv doc pm' s₂ B₂ le₂ _ S
  refine storeL S e kf fun s₃ S => ?_
  -- find.span = lambda: (guest[0], guest[1])
  refine wpAny_execs_cons (plainObj_wpAny_Assign_Attribute (kla_eval rfl ?_))
  refine lamNew (c := 34) (clos := [(Str.ofString "guest", L + 1)]) S (.head _) hqual e.glo hcode (ok.gl.h34.keeps le₂) (by simp [closureFor, cellOf, hcells]) ?_
  intro sp cv2 ctv2 doc2 pm2 s₄ B₄ le₄ rec₄ S
  refine nameL S e kf rfl ?_
  have S := S.swap
  refine fn_setAttr (S.get (.head _)) rfl (fn_sa_new (S.get (.head _)) fn_span_none fun h' tk' h1 h2 h3 => ⟨rfl, ?_⟩)
  have hfr := S.fresh
  have hlo := S.lo
  have hlL := S.ltL
  have own := S.own
  have S' := S.upd h1 (t := tk') h3
  obtain ⟨od, es, ep, hod, hod2, hod3, hod4, hod5⟩ := h2
  have hlt : ∀ p ∈ [(f, ({ cls := .type "function", dict := some s₄.heap.objs.size, data := .func (kdv_fn "<lambda>" qFind ⟨[], [], none, [], [], none, []⟩ (.expr (.Constant .none 0 ⟨29, 19, 29, 23⟩)) ⟨.function, [], false, false, []⟩ [] .none doc pm' cv ctv) } : Obj)), (sp, lamO 5 1 qFind [(Str.ofString "guest", L + 1)] .none doc2 pm2 cv2 ctv2), (L + 1, oc)], s₄.heap.objs.size ≠ p.1 := by
    intro p hp
    simp only [List.mem_cons, List.not_mem_nil, or_false] at hp
    rcases hp with rfl | rfl | rfl
    · exact ne_lt (.inr (lts (S.get (.head _))))
    · exact ne_lt (.inr (lts (S.get (.tail _ (.head _)))))
    · exact ne_lt (.inr (lts (S.get (.tail _ (.tail _ (.head _))))))
  have S := S'.adopt (a := s₄.heap.objs.size) hod (by omega) (ne_lt (.inr hlL)) hfr hlt
  generalize s₄.heap.objs.size = d at *
  clear S' own hlt
  -- find.guest = guest
  refine wpAny_execs_cons (plainObj_wpAny_Assign_Attribute (nameC (c := L + 1) e kg (by rw [hcells]; rfl) ⟨oc, S.get (.tail _ (.tail _ (.tail _ (.head _)))), hocd⟩ (nameL S e kf rfl ?_)))
  refine fn_setAttr (S.get (.tail _ (.head _))) rfl (fn_sa_more (S.get (.tail _ (.head _))) ⟨od, es, ep, S.get (.head _), hod2, hod3, hod4, hod5⟩ fn_guest_none (fun h'' tk'' h1' h2' => ⟨rfl, ?_⟩) (Within.cons "span" (.ref sp) Within.nil) (by decide))
  obtain ⟨od', es', ep', hod', hr'⟩ := h1'
  have S := S.upd hod' (t := tk'') h2'.extBut
  -- return find
  refine wpAny_execs_cons (wpAny_Return_some (nameL S e kf rfl ?_))
  obtain ⟨B5, le5, b5, S⟩ := S.freeze
  obtain ⟨B6, le6, b6, S⟩ := S.freeze
  obtain ⟨B7, le7, b7, S⟩ := S.freeze
  obtain ⟨B8, le8, b8, S⟩ := S.freeze
  refine ⟨B8, f, rfl, S.end_, _, d, _, sp, doc2, pm2, cv2, ctv2, L + 1, le8 _ _ (le7 _ _ b6), ⟨od', es', ep', le8 _ _ (le7 _ _ (le6 _ _ b5)), hr'.1, hr'.2.1, hr'.2.2.2⟩, ?_, ?_, le8 _ _ b7, ?_, ⟨oc, b8, hocd⟩, ?_⟩
  · rfl
  · rfl
  · exact rec₄.keeps (Le.tr le5 (Le.tr le6 (Le.tr le7 le8)))
  · exact ht.keeps (Le.tr le₂ (Le.tr le₄ (Le.tr le5 (Le.tr le6 (Le.tr le7 le8)))))
end
end Mine

namespace Mine

/-- a guest with the place of its tuple -/
abbrev LG := Nat × G

/-- a frozen list of guests -/
def GL (B : Heap) (a : Nat) (ps : List LG) : Prop :=
  B.IsList a (ps.map fun p => Value.ref p.1).toArray ∧ ∀ p ∈ ps, TupAt B p.1 p.2
theorem GL.keeps {B B' : Heap} {a : Nat} {ps : List LG} (x : GL B a ps) (k : Le B B') : GL B' a ps :=
  ⟨let ⟨o, e, r⟩ := x.1; ⟨o, k _ _ e, r⟩, fun p hp => (x.2 p hp).keeps k⟩

theorem GL.item {B : Heap} {a : Nat} {ps : List LG} {i : Nat} {v : Value} (x : GL B a ps) (h : (ps.map fun p => Value.ref p.1).toArray[i]? = some v) : ∃ p, ps[i]? = some p ∧ v = .ref p.1 ∧ TupAt B p.1 p.2 := by
  rw [List.getElem?_toArray, List.getElem?_map] at h
  cases e : ps[i]? with
  | none => rw [e] at h; cases h
  | some p => rw [e] at h; cases h; exact ⟨p, rfl, rfl, x.2 p (List.mem_of_getElem? e)⟩

def ltb : Option LG → Int → Bool
  | none, _ => true
  | some b, x => decide (x < b.2.1)
def nx1 (st : Int) (best : Option LG) (p : LG) : Option LG := if (decide (p.2.1 ≥ st) && ltb best p.2.1) = true then some p else best
def nxt (ps : List LG) (st : Int) : Option LG := ps.foldl (nx1 st) none

theorem nx_mem {st : Int} : ∀ (ps : List LG) (b0 : Option LG) (b : LG), ps.foldl (nx1 st) b0 = some b → b ∈ ps ∨ b0 = some b
  | [], _, _, h => .inr h
  | p :: r, b0, b, h => by
    rw [List.foldl_cons] at h
    rcases nx_mem r _ b h with h | h
    · exact .inl (.tail _ h)
    · unfold nx1 at h
      by_cases hc : (decide (p.2.1 ≥ st) && ltb b0 p.2.1) = true
      · rw [if_pos hc] at h; cases h; exact .inl (.head _)
      · rw [if_neg hc] at h; exact .inr h
theorem foldl_take {α β : Type} {f : β → α → β} {l : List α} {i : Nat} {x : α} {b : β} (h : l[i]? = some x) : (l.take (i + 1)).foldl f b = f ((l.take i).foldl f b) x := by
  rw [List.take_add_one, h, List.foldl_append]; rfl

abbrev refOf : Option LG → Value
  | none => .none
  | some p => .ref p.1

section
variable {mg : Str → Option Value} {B₀ B : Heap} {s₀ s : Shared} {L : Nat} {m : Str → Option Value} {O : List (Nat × Obj)} {w : World} {A : Around} {env : Env} {E : Value → Shared → Prop}

/-- guest[0] -/
theorem sub0 {value : Expr} {pos p0 : Pos} {k0 : Nat} {t : Nat} {g : G} {Q : Value → Shared → Prop} (S : St mg B₀ s₀ L B m O s)
    (hv : ∀ Q', Q' (.ref t) s → wpAny (Md w) A (eval value env) Q' E s) (ht : TupAt B t g)
    (h : ∀ u s', St mg B₀ s₀ L B m O s' → Q (.int g.1 u) s') : wpAny (Md w) A (eval (.Subscript value (.Constant (.int 0) k0 p0) pos) env) Q E s := by
  obtain ⟨u1, u2, u3, n, e⟩ := ht
  refine Subscript_ (hv _ (constI S fun t' s' S' => ?_))
  exact item_tupleT (l := [.int g.1 u1, .int g.2.1 u2, .int g.2.2 u3]) ⟨_, S'.ok.ext _ _ e, rfl, n, rfl⟩ (by decide) (by decide) (j := 0) rfl rfl (h u1 s' S')
theorem sub1 {value : Expr} {pos p0 : Pos} {k0 : Nat} {t : Nat} {g : G} {Q : Value → Shared → Prop} (S : St mg B₀ s₀ L B m O s)
    (hv : ∀ Q', Q' (.ref t) s → wpAny (Md w) A (eval value env) Q' E s) (ht : TupAt B t g)
    (h : ∀ u s', St mg B₀ s₀ L B m O s' → Q (.int g.2.1 u) s') : wpAny (Md w) A (eval (.Subscript value (.Constant (.int 1) k0 p0) pos) env) Q E s := by
  obtain ⟨u1, u2, u3, n, e⟩ := ht
  refine Subscript_ (hv _ (constI S fun t' s' S' => ?_))
  exact item_tupleT (l := [.int g.1 u1, .int g.2.1 u2, .int g.2.2 u3]) ⟨_, S'.ok.ext _ _ e, rfl, n, rfl⟩ (by decide) (by decide) (j := 1) rfl rfl (h u2 s' S')

/-- f(x) of a def of the text -/
theorem call1 {x : Str} {np pos : Pos} {e1 : Expr} {f : Nat} {o : Obj} {fd : FuncData} {Q : Value → Shared → Prop} (S : St mg B₀ s₀ L B m O s) (e : Ev env L) (hl : env.kindOf x = some .globalImplicit) (hg : mg x = some (.ref f))
    (hs : backTo pos (starEach [e1] env) = [(false, eval e1 env)])
    (ho : B.get? f = some o) (hfd : o.data = .func fd)
    (h : wpAny (Md w) A (eval e1 env) (fun v s' => ∃ B' m' O', Le B B' ∧ St mg B₀ s₀ L B' m' O' s' ∧ wpAny (Md w) A (call (.ref f) [v]) Q E s') E s)
    (hd : (x == ("__debug__" : Str)) = false := by decide) :
    wpAny (Md w) A (eval (.Call (.Name x np) [e1] [] pos) env) Q E s := by
  refine wpAny_Call_NameR (nameG S.ok e hl hg ?_ hd)
  rw [hs]
  refine Calls.callWith_function (o := o) (fd := fd) (Calls.evalArgs_plain (Calls.spliced_cons (wpAny_mono h (fun v s' h' => Calls.spliced_nil ?_) fun _ _ q => q)))
  obtain ⟨B', m', O', le, S', h''⟩ := h'
  exact ⟨⟨S'.ok.ext _ _ (le _ _ ho), hfd⟩, h''⟩
end

section
variable {mg : Str → Option Value} {B : Heap} {s : Shared} {w : World} {A : Around}

theorem next_spec {a : Nat} {ps : List LG} {st : Int} {tk : Tok} (r : Rm A 5) (ok : Ok mg B s.heap) (hl : GL B a ps) :
    wpAny (Md w) A (call (.ref 42) [.ref a, .int st tk]) (fun v s' => ∃ B', Stp mg B s B' s' ∧ (match nxt ps st with | none => v = .none | some p => ∃ f, v = .ref f ∧ IsFind B' f p.1 p.2)) NE s := by
  obtain ⟨pm, hf⟩ := ok.gl.f42
  refine enterDef (binds := [("guests", .ref a), ("start", .int st tk)]) r ok hf ok.gl.c41 (by kernel_rfl) (by intro x hx; simp only [List.mem_cons, List.not_mem_nil, or_false] at hx; rcases hx with rfl | rfl <;> exact .inl (by kernel_rfl)) fun s₁ S x => ?_
  clear x
  have r := r.deeper (env := callEnvC (fdOf 6 41 pm) s.heap.objs.size 42)
  generalize s.heap.objs.size = L at *
  generalize hE : callEnvC (fdOf 6 41 pm) L 42 = env at *
  generalize A.deeper env = A' at *
  have e : Ev env L := by rw [← hE]; exact ⟨rfl, rfl, rfl, rfl⟩
  have k1 : env.kindOf "guests" = some .local := by rw [← hE]; rfl
  have k2 : env.kindOf "start" = some .local := by rw [← hE]; rfl
  have k3 : env.kindOf "best" = some .local := by rw [← hE]; rfl
  have k4 : env.kindOf "guest" = some .local := by rw [← hE]; rfl
  have k5 : env.kindOf "_law_find" = some .globalImplicit := by rw [← hE]; rfl
  have m1 : bindL env.kindOf [(Str.ofString "guests", Value.ref a), (Str.ofString "start", .int st tk)] (fun _ => none) "guests" = some (.ref a) := by simp [bindL, k1, k2]; decide
  have m2 : bindL env.kindOf [(Str.ofString "guests", Value.ref a), (Str.ofString "start", .int st tk)] (fun _ => none) "start" = some (.int st tk) := by simp [bindL, k1, k2]
  generalize bindL env.kindOf [(Str.ofString "guests", Value.ref a), (Str.ofString "start", .int st tk)] (fun _ => none) = m0 at *
  -- best = None
  refine wpAny_execs_cons (wpAny_Assign_Name (wpAny_Constant_none (storeL S e k3 fun s₂ S => ?_)))
  refine wpAny_execs_cons (for_list r.hd S (fun Q' h => nameL S e k1 m1 h) hl.1 (fun i B' m' O' => O' = [] ∧ m' "guests" = some (.ref a) ∧ m' "start" = some (.int st tk) ∧ m' "best" = some (refOf ((ps.take i).foldl (nx1 st) none)))
    ⟨rfl, m1, m2, rfl⟩ ?_ ?_)
  · intro i v B' m' O' I oI s' hv le hJ S
    obtain ⟨rfl, j1, j2, j3⟩ := hJ
    obtain ⟨p, hp, rfl, htup⟩ := hl.item hv
    have htup := htup.keeps le
    refine assignL S e k4 fun s₃ S => ?_
    rw [foldl_take hp]
    have hbest : ∀ b, (ps.take i).foldl (nx1 st) none = some b → TupAt B' b.1 b.2 := fun b hb => by
      rcases nx_mem _ _ _ hb with h | h
      · exact (hl.2 b (List.mem_of_mem_take h)).keeps le
      · cases h
    generalize (ps.take i).foldl (nx1 st) none = best at *
    have no : ∀ s₅, nx1 st best p = best → St mg B s L B' (fun y => if y = "guest" then some (Value.ref p.1) else m' y) [(I, oI)] s₅ → ∃ B'' m'' O'', Le B' B'' ∧ (O'' = [] ∧ m'' "guests" = some (.ref a) ∧ m'' "start" = some (.int st tk) ∧ m'' "best" = some (refOf (nx1 st best p))) ∧ St mg B s L B'' m'' ((I, oI) :: O'') s₅ :=
      fun s₅ hb S => by
        refine ⟨B', _, [], Le.rf _, ⟨rfl, ?_, ?_, ?_⟩, S⟩
        · exact j1
        · exact j2
        · rw [hb]; exact j3
    have yes : ∀ s₅, nx1 st best p = some p → St mg B s L B' (fun y => if y = "guest" then some (Value.ref p.1) else m' y) [(I, oI)] s₅ →
        wpAny (Md w) A' (execs [Stmt.Assign [Expr.Name (Str.ofString "best") ⟨37, 12, 37, 16⟩] (Expr.Name (Str.ofString "guest") ⟨37, 19, 37, 24⟩) ⟨37, 12, 37, 24⟩] env) (fun f s₃ => f = .next ∧ ∃ B'' m'' O'', Le B' B'' ∧ (O'' = [] ∧ m'' "guests" = some (.ref a) ∧ m'' "start" = some (.int st tk) ∧ m'' "best" = some (refOf (nx1 st best p))) ∧ St mg B s L B'' m'' ((I, oI) :: O'') s₃) NE s₅ :=
      fun s₅ hb S => wpAny_execs_cons (wpAny_Assign_Name (nameL S e k4 rfl (storeL S e k3 fun s₆ S => wpAny_execs_nil (by
        refine ⟨rfl, B', _, [], Le.rf _, ⟨rfl, ?_, ?_, ?_⟩, S⟩
        · exact j1
        · exact j2
        · rw [hb]; rfl))))
    refine wpAny_execs_cons (wpAny_If (wpAny_isTrue_BoolOp (wpAny_allTrue_And_cons (wpAny_isTrue_Compare1 (sub0 S (fun Q' h => nameL S e k4 rfl h) htup fun u s₄ S => nameL S e k2 j2 (P.ge_int (wpAny_truthy_bool ?_)))))))
    by_cases h1 : p.2.1 ≥ st
    · simp only [h1, decide_true, if_true]
      refine wpAny_allTrue_And_cons (wpAny_isTrue_BoolOp (wpAny_allTrue_Or_cons (wpAny_isTrue_Compare1 (nameL S e k3 j3 (wpAny_Constant_none ?_)))))
      cases best with
      | none =>
        refine wpAny_is_self rfl (wpAny_truthy_bool ?_)
        simp only [if_true]
        refine wpAny_allTrue_And_nil ?_
        simp only [if_true]
        refine wpAny_mono (yes s₄ (by simp [nx1, ltb, h1]) S) (fun f s₅ h => ?_) fun _ _ q => q
        obtain ⟨rfl, h⟩ := h
        exact wpAny_execs_nil h
      | some b =>
        refine wpAny_is_other rfl (by intro h; cases h) (wpAny_truthy_bool ?_)
        simp only [Bool.false_eq_true, if_false]
        refine wpAny_allTrue_Or_cons (wpAny_isTrue_Compare1 (sub0 S (fun Q' h => nameL S e k4 rfl h) htup fun u s₅ S => sub0 S (fun Q' h => nameL S e k3 j3 h) (hbest b rfl) fun u s₆ S => P.lt_int (wpAny_truthy_bool ?_)))
        by_cases h2 : p.2.1 < b.2.1
        · simp only [h2, decide_true, if_true]
          refine wpAny_allTrue_And_nil ?_
          simp only [if_true]
          refine wpAny_mono (yes s₆ (by simp [nx1, ltb, h1, h2]) S) (fun f s₅ h => ?_) fun _ _ q => q
          obtain ⟨rfl, h⟩ := h
          exact wpAny_execs_nil h
        · simp only [h2, decide_false, Bool.false_eq_true, if_false]
          refine wpAny_allTrue_Or_nil ?_
          simp only [Bool.false_eq_true, if_false]
          exact wpAny_execs_nil (wpAny_execs_nil (no s₆ (by simp [nx1, ltb, h2]) S))
    · simp only [h1, decide_false, Bool.false_eq_true, if_false]
      exact wpAny_execs_nil (wpAny_execs_nil (no s₄ (by simp [nx1, ltb, h1]) S))
  · intro B' m' O' s' le hJ S
    obtain ⟨rfl, j1, j2, j3⟩ := hJ
    have hsz : ps.take ((ps.map fun p => Value.ref p.1).toArray.size) = ps := by simp
    rw [hsz] at j3
    have hbest : ∀ b, nxt ps st = some b → TupAt B' b.1 b.2 := fun b hb => by
      rcases nx_mem _ _ _ hb with h | h
      · exact (hl.2 b h).keeps le
      · cases h
    change m' "best" = some (refOf (nxt ps st)) at j3
    refine wpAny_execs_cons (wpAny_Return_some (wpAny_IfExp (wpAny_isTrue_Compare1 (nameL S e k3 j3 (wpAny_Constant_none ?_)))))
    cases hn : nxt ps st with
    | none =>
      refine wpAny_is_self rfl (wpAny_truthy_bool ?_)
      simp only [if_true]
      exact wpAny_Constant_none ⟨B', S.end_, rfl⟩
    | some b =>
      refine wpAny_is_other rfl (by intro h; cases h) (wpAny_truthy_bool ?_)
      simp only [Bool.false_eq_true, if_false]
      obtain ⟨pm5, hf5⟩ := S.ok.gl.f35
      rw [hn] at j3
      refine call1 S e k5 S.ok.gl.fi rfl hf5 rfl (nameL S e k3 j3 ⟨B', _, _, Le.rf _, S, ?_⟩)
      refine wpAny_mono (find_spec (r.less (by decide)) S.ok (hbest b hn)) (fun v s₃ h => ?_) fun _ _ q => q
      obtain ⟨B3, f, rfl, hst, hfi⟩ := h
      have S := S.called hst
      exact ⟨B3, S.end_, f, rfl, hfi⟩
end
end Mine

namespace Mine

def PairAt (B : Heap) (t : Nat) (x y : Int) : Prop := ∃ u1 u2 n, B.get? t = some { cls := .type "tuple", data := .seq #[.int x u1, .int y u2] n }
theorem PairAt.keeps {B B' : Heap} {t : Nat} {x y : Int} (h : PairAt B t x y) (k : Le B B') : PairAt B' t x y := let ⟨a, b, n, e⟩ := h; ⟨a, b, n, k _ _ e⟩

def NextRes (B : Heap) (ps : List LG) (st : Int) (v : Value) : Prop := match nxt ps st with | none => v = .none | some p => ∃ f, v = .ref f ∧ IsFind B f p.1 p.2

section
variable {mg : Str → Option Value} {B₀ B : Heap} {s₀ s : Shared} {L : Nat} {m : Str → Option Value} {O : List (Nat × Obj)} {w : World} {A : Around} {env : Env} {E : Value → Shared → Prop}

theorem methCall {o : Expr} {name : Str} {apos pos : Pos} {args : List Expr} {Q : Value → Shared → Prop} (hbase : attributeBase o name env (eval o env) = eval o env)
    (hform : methodCallForm (args.length + ([] : List Keyword).length) (backTo pos (starEach args env)) (backToKw pos (keywordEach [] env)) = true) (hline : (apos.endLine == pos.line) = true)
    (h : wpAny (Md w) A (eval o env) (fun ov s₁ => ∀ pl, wpAny (Md w) A (getMethod ov name pl) (fun fp s₂ => wpAny (Md w) A (callWith pos fp.1 fp.2 (backTo pos (starEach args env)) []) Q E s₂) E s₁) E s) :
    wpAny (Md w) A (eval (.Call (.Attribute o name apos) args [] pos) env) Q E s := by
  rw [arm_eval_Call, hbase]
  refine wpAny_bind (wpAny_mono h (fun ov s₁ h₁ => ?_) fun _ _ e => e)
  refine wpAny_bind (wpAny_standAt ?_)
  have hpos : methodCallPos true o env apos pos = pure pos := by unfold methodCallPos; simp [hline]
  unfold methodCall
  rw [hform]
  refine wpAny_bind (wpAny_holding ?_)
  unfold calleeOf
  simp only [if_true]
  refine wpAny_mono (h₁ _) (fun fp s₂ h₂ => ?_) fun _ _ e => e
  rw [hpos]
  exact wpAny_bind (wpAny_pure h₂)

/-- f.name(..) where f has a dict and name is bound in it to a function -/
theorem fnMeth {o : Expr} {name : Str} {apos pos : Pos} {args : List Expr} {f d se : Nat} {fd fd' : FuncData} {ose : Obj} {md : Str → Option Value} {Q : Value → Shared → Prop} (S : St mg B₀ s₀ L B m O s)
    (hbase : attributeBase o name env (eval o env) = eval o env)
    (hform : methodCallForm (args.length + ([] : List Keyword).length) (backTo pos (starEach args env)) (backToKw pos (keywordEach [] env)) = true) (hline : (apos.endLine == pos.line) = true)
    (hv : ∀ Q', Q' (.ref f) s → wpAny (Md w) A (eval o env) Q' E s)
    (hf : B.get? f = some { cls := .type "function", dict := some d, data := .func fd }) (hd : B.Ns d md) (hm : md name = some (.ref se)) (hl : typeLookup (.type "function") name = pure none) (hse : B.get? se = some ose) (hfd : ose.data = .func fd')
    (h : ∀ s₁, St mg B₀ s₀ L B m O s₁ → wpAny (Md w) A (evalArgs (.ref se) true (backTo pos (starEach args env)) []) (fun x s₂ => (∃ B' m' O', Le B B' ∧ St mg B₀ s₀ L B' m' O' s₂) ∧ wpAny (Md w) A (call (.ref se) ([] ++ x.pos) x.kw) Q E s₂) E s₁) :
    wpAny (Md w) A (eval (.Call (.Attribute o name apos) args [] pos) env) Q E s := by
  refine methCall hbase hform hline (hv _ fun pl => ?_)
  refine fn_getMethod (S.ok.ext _ _ hf) rfl (by intro c q; cases q) rfl (hd.keeps S.ok.ext) hm hl rfl ?_
  refine Calls.callWith_function (o := ose) (fd := fd') (wpAny_mono (h _ (S.tok _)) (fun x s₂ h₂ => ?_) fun _ _ q => q)
  obtain ⟨⟨B', m', O', le, S'⟩, h2⟩ := h₂
  exact ⟨⟨S'.ok.ext _ _ (le _ _ hse), hfd⟩, h2⟩

/-- a frozen tuple of two -/
theorem St.pair (S : St mg B₀ s₀ L B m O s) {x y : Int} {u1 u2 : Tok} {t : Nat} : ∃ B', Le B B' ∧ PairAt B' s.heap.objs.size x y ∧ St mg B₀ s₀ L B' m O { s with heap := s.heap.push { cls := .type "tuple", data := .seq #[.int x u1, .int y u2] }, toks := t } := by
  obtain ⟨B', le, e, S'⟩ := (S.push { cls := .type "tuple", data := .seq #[.int x u1, .int y u2] } (t := t)).freeze
  exact ⟨B', le, ⟨u1, u2, _, e⟩, S'⟩

theorem span_spec {f t sp c : Nat} {g : G} {doc pm cv ctv : Value} (r : Rm A 3) (ok : Ok mg B s.heap) (hf : B.get? sp = some (lamO 5 1 qFind [("guest", c)] .none doc pm cv ctv)) (hcd : B.CodeRec cv qFind) (hc : B.IsCell c (some (.ref t))) (ht : TupAt B t g) :
    wpAny (Md w) A (call (.ref sp) []) (fun v s' => ∃ B' tt, v = .ref tt ∧ Stp mg B s B' s' ∧ PairAt B' tt g.1 g.2.1) NE s := by
  refine enterLam (binds := []) r ok hf hcd (BindsTo.of_eq (by kernel_rfl)) (by intro x hx; cases hx) (fun s₁ S => ?_) (hcell := by decide +kernel)
  generalize s.heap.objs.size = L at *
  generalize hE : lamEnv qFind (lamAt 5 1).2.2 L [(Str.ofString "guest", c)] sp cv = env at *
  have e : Ev env L := by rw [← hE]; exact ⟨rfl, rfl, rfl, rfl⟩
  have k1 : env.kindOf "guest" = some .free := by rw [← hE]; rfl
  have hcells : env.cells.lookup (Str.ofString "guest") = some c := by rw [← hE]; rfl
  refine Tuple_ (Calls.spliced_cons (sub0 S (fun Q' h => nameF e k1 hcells (hc.keeps S.ok.ext) h) ht fun u s₂ S => Calls.spliced_cons (sub1 S (fun Q' h => nameF e k1 hcells (hc.keeps S.ok.ext) h) ht fun u' s₃ S => Calls.spliced_nil ?_)))
  obtain ⟨B', le, hp, S'⟩ := S.pair (x := g.1) (y := g.2.1) (u1 := u) (u2 := u') (t := s₃.toks)
  exact wpAny_newObj_type ⟨B', _, rfl, S'.end_, hp⟩ (by size_fits)

theorem spanCall {o : Expr} {apos pos : Pos} {f t : Nat} {g : G} {Q : Value → Shared → Prop} (r : Rm A 3) (S : St mg B₀ s₀ L B m O s)
    (hbase : attributeBase o "span" env (eval o env) = eval o env) (hline : (apos.endLine == pos.line) = true)
    (hv : ∀ Q', Q' (.ref f) s → wpAny (Md w) A (eval o env) Q' NE s) (hf : IsFind B f t g)
    (h : ∀ tt s' B', Le B B' → PairAt B' tt g.1 g.2.1 → St mg B₀ s₀ L B' m O s' → Q (.ref tt) s') :
    wpAny (Md w) A (eval (.Call (.Attribute o "span" apos) [] [] pos) env) Q NE s := by
  obtain ⟨fd, d, md, sp, doc, pm, cv, ctv, c, h1, h2, h3, h4, h5, h6, h7, h8⟩ := hf
  refine fnMeth S hbase rfl hline hv h1 h2 h3 fn_span_none h5 rfl fun s₁ S => PySem.evalArgs_none ⟨⟨B, m, O, Le.rf _, S⟩, ?_⟩
  refine wpAny_mono (span_spec (g := g) (t := t) (f := f) r S.ok h5 h6 h7 h8) (fun v s' h' => ?_) fun _ _ q => q
  obtain ⟨B', tt, rfl, hst, hp⟩ := h'
  exact h tt s' B' hst.le hp (S.called hst)

/-- the program: its search looks among the guests ps -/
def IsProg (B : Heap) (pr a : Nat) : Prop :=
  ∃ fd d md se dt u n doc pm cv ctv c, B.get? pr = some { cls := .type "function", dict := some d, data := .func fd } ∧ B.Ns d md ∧ md "search" = some (.ref se) ∧
    B.get? se = some (lamO 7 1 qRoom [("guests", c)] (.ref dt) doc pm cv ctv) ∧ B.get? dt = some { cls := .type "tuple", data := .seq #[.int 0 u] n } ∧ B.CodeRec cv qRoom ∧ B.IsCell c (some (.ref a))
theorem IsProg.keeps {B B' : Heap} {pr a : Nat} (x : IsProg B pr a) (k : Le B B') : IsProg B' pr a :=
  let ⟨fd, d, md, se, dt, u, n, doc, pm, cv, ctv, c, h1, h2, h3, h4, h5, h6, h7⟩ := x
  ⟨fd, d, md, se, dt, u, n, doc, pm, cv, ctv, c, k _ _ h1, h2.keeps k, h3, k _ _ h4, k _ _ h5, h6.keeps k, h7.keeps k⟩

theorem call2 {x : Str} {np pos : Pos} {e1 e2 : Expr} {f : Nat} {o : Obj} {fd : FuncData} {Q : Value → Shared → Prop} (S : St mg B₀ s₀ L B m O s) (e : Ev env L) (hl : env.kindOf x = some .globalImplicit) (hg : mg x = some (.ref f))
    (hs : backTo pos (starEach [e1, e2] env) = [(false, eval e1 env), (false, eval e2 env)])
    (ho : B.get? f = some o) (hfd : o.data = .func fd)
    (h : wpAny (Md w) A (eval e1 env) (fun v s₁ => wpAny (Md w) A (eval e2 env) (fun u s' => ∃ B' m' O', Le B B' ∧ St mg B₀ s₀ L B' m' O' s' ∧ wpAny (Md w) A (call (.ref f) [v, u]) Q E s') E s₁) E s)
    (hd : (x == ("__debug__" : Str)) = false := by decide) :
    wpAny (Md w) A (eval (.Call (.Name x np) [e1, e2] [] pos) env) Q E s := by
  refine wpAny_Call_NameR (nameG S.ok e hl hg ?_ hd)
  rw [hs]
  refine Calls.callWith_function (o := o) (fd := fd) (Calls.evalArgs_plain (Calls.spliced_cons (wpAny_mono h (fun v s₁ h₁ => Calls.spliced_cons (wpAny_mono h₁ (fun u s' h' => Calls.spliced_nil ?_) fun _ _ q => q)) fun _ _ q => q)))
  obtain ⟨B', m', O', le, S', h''⟩ := h'
  exact ⟨⟨S'.ok.ext _ _ (le _ _ ho), hfd⟩, h''⟩

theorem search_body {a se c : Nat} {ps : List LG} {st : Int} {tk : Tok} {ch : Value} {cv : Value} {m : Str → Option Value} (r : Rm A 6) (S : St mg B₀ s₀ L B m [] s) (hl : GL B a ps) (hc : B.IsCell c (some (.ref a))) (hm : m "start" = some (.int st tk)) :
    wpAny (Md w) A (eval (lamAt 7 1).2.1 (lamEnv qRoom (lamAt 7 1).2.2 L [("guests", c)] se cv)) (fun v s' => ∃ B', Stp mg B₀ s₀ B' s' ∧ NextRes B' ps st v) NE s := by
  generalize hE : lamEnv qRoom (lamAt 7 1).2.2 L [(Str.ofString "guests", c)] se cv = env at *
  have e : Ev env L := by rw [← hE]; exact ⟨rfl, rfl, rfl, rfl⟩
  have k1 : env.kindOf "guests" = some .free := by rw [← hE]; rfl
  have k2 : env.kindOf "start" = some .local := by rw [← hE]; rfl
  have k3 : env.kindOf "_law_next" = some .globalImplicit := by rw [← hE]; rfl
  have hcells : env.cells.lookup (Str.ofString "guests") = some c := by rw [← hE]; rfl
  obtain ⟨pm4, hf4⟩ := S.ok.gl.f42
  refine call2 S e k3 S.ok.gl.nx rfl hf4 rfl (nameF e k1 hcells (hc.keeps S.ok.ext) (nameL S e k2 hm ⟨B, _, _, Le.rf _, S, ?_⟩))
  refine wpAny_mono (next_spec (r.less (by decide)) S.ok hl) (fun v s' h => ?_) fun _ _ q => q
  obtain ⟨B', hst, hres⟩ := h
  exact ⟨B', (S.called hst).end_, hres⟩

/-- prog.search(chars) and prog.search(chars, j) -/
theorem searchCall1 {o e1 : Expr} {apos pos : Pos} {pr a : Nat} {ps : List LG} {ch : Value} {Q : Value → Shared → Prop} (r : Rm A 7) (S : St mg B₀ s₀ L B m O s)
    (hbase : attributeBase o "search" env (eval o env) = eval o env) (hs : backTo pos (starEach [e1] env) = [(false, eval e1 env)]) (hline : (apos.endLine == pos.line) = true)
    (hv : ∀ Q', Q' (.ref pr) s → wpAny (Md w) A (eval o env) Q' NE s) (hf : IsProg B pr a) (hl : GL B a ps)
    (h1 : ∀ Q' s', St mg B₀ s₀ L B m O s' → Q' ch s' → wpAny (Md w) A (eval e1 env) Q' NE s')
    (h : ∀ v s' B', Le B B' → NextRes B' ps 0 v → St mg B₀ s₀ L B' m O s' → Q v s') :
    wpAny (Md w) A (eval (.Call (.Attribute o "search" apos) [e1] [] pos) env) Q NE s := by
  obtain ⟨fd, d, md, se, dt, u, n, doc, pm, cv, ctv, c, p1, p2, p3, p4, p5, p6, p7⟩ := hf
  refine fnMeth S hbase (by rw [hs]; rfl) hline hv p1 p2 p3 fn_search_none p4 rfl fun s₁ S => ?_
  rw [hs]
  refine Calls.evalArgs_plain (Calls.spliced_cons (h1 _ s₁ S (Calls.spliced_nil ⟨⟨B, m, O, Le.rf _, S⟩, ?_⟩)))
  refine wpAny_mono (Q := fun v s' => ∃ B', Stp mg B s₁ B' s' ∧ NextRes B' ps 0 v) (enterLam (binds := [("chars", ch), ("start", .int 0 u)]) r S.ok p4 p6 (BindsTo.of_defaults rfl (S.ok.ext _ _ p5) rfl rfl rfl) ?_ (fun s₂ S2 => search_body (ch := ch) (r.deeper) S2 hl p7 rfl) (hcell := by decide +kernel)) (fun v s' h' => ?_) fun _ _ q => q
  · intro x hx; simp only [List.mem_cons, List.not_mem_nil, or_false] at hx; rcases hx with rfl | rfl <;> kernel_rfl
  · obtain ⟨B', hst, hres⟩ := h'
    exact h v s' B' hst.le hres (S.called hst)

theorem searchCall2 {o e1 e2 : Expr} {apos pos : Pos} {pr a : Nat} {ps : List LG} {ch : Value} {j : Int} {tj : Tok} {Q : Value → Shared → Prop} (r : Rm A 7) (S : St mg B₀ s₀ L B m O s)
    (hbase : attributeBase o "search" env (eval o env) = eval o env) (hs : backTo pos (starEach [e1, e2] env) = [(false, eval e1 env), (false, eval e2 env)]) (hline : (apos.endLine == pos.line) = true)
    (hv : ∀ Q', Q' (.ref pr) s → wpAny (Md w) A (eval o env) Q' NE s) (hf : IsProg B pr a) (hl : GL B a ps)
    (h1 : ∀ Q' s', St mg B₀ s₀ L B m O s' → Q' ch s' → wpAny (Md w) A (eval e1 env) Q' NE s')
    (h2 : ∀ Q' s', St mg B₀ s₀ L B m O s' → Q' (.int j tj) s' → wpAny (Md w) A (eval e2 env) Q' NE s')
    (h : ∀ v s' B', Le B B' → NextRes B' ps j v → St mg B₀ s₀ L B' m O s' → Q v s') :
    wpAny (Md w) A (eval (.Call (.Attribute o "search" apos) [e1, e2] [] pos) env) Q NE s := by
  obtain ⟨fd, d, md, se, dt, u, n, doc, pm, cv, ctv, c, p1, p2, p3, p4, p5, p6, p7⟩ := hf
  refine fnMeth S hbase (by rw [hs]; rfl) hline hv p1 p2 p3 fn_search_none p4 rfl fun s₁ S => ?_
  rw [hs]
  refine Calls.evalArgs_plain (Calls.spliced_cons (h1 _ s₁ S (Calls.spliced_cons (h2 _ s₁ S (Calls.spliced_nil ⟨⟨B, m, O, Le.rf _, S⟩, ?_⟩)))))
  refine wpAny_mono (Q := fun v s' => ∃ B', Stp mg B s₁ B' s' ∧ NextRes B' ps j v) (enterLam (binds := [("chars", ch), ("start", .int j tj)]) r S.ok p4 p6 (BindsTo.of_defaults rfl (S.ok.ext _ _ p5) rfl rfl rfl) ?_ (fun s₂ S2 => search_body (ch := ch) (r.deeper) S2 hl p7 rfl) (hcell := by decide +kernel)) (fun v s' h' => ?_) fun _ _ q => q
  · intro x hx; simp only [List.mem_cons, List.not_mem_nil, or_false] at hx; rcases hx with rfl | rfl <;> kernel_rfl
  · obtain ⟨B', hst, hres⟩ := h'
    exact h v s' B' hst.le hres (S.called hst)
end
end Mine

namespace Mine

/-- how many come at j or later -/
def cnt (ps : List LG) (j : Int) : Nat := (ps.filter fun q => decide (j ≤ q.2.1)).length

theorem nx_ge {st : Int} : ∀ (ps : List LG) (b0 : Option LG) (b : LG), ps.foldl (nx1 st) b0 = some b → b.2.1 ≥ st ∨ b0 = some b
  | [], _, _, h => .inr h
  | p :: r, b0, b, h => by
    rw [List.foldl_cons] at h
    rcases nx_ge r _ b h with h | h
    · exact .inl h
    · unfold nx1 at h
      by_cases hc : (decide (p.2.1 ≥ st) && ltb b0 p.2.1) = true
      · rw [if_pos hc] at h; cases h
        simp only [Bool.and_eq_true, decide_eq_true_eq] at hc
        exact .inl hc.1
      · rw [if_neg hc] at h; exact .inr h
theorem nxt_mem {ps : List LG} {j : Int} {p : LG} (h : nxt ps j = some p) : p ∈ ps := by
  rcases nx_mem _ _ _ h with h | h
  · exact h
  · cases h
theorem nxt_ge {ps : List LG} {j : Int} {p : LG} (h : nxt ps j = some p) : p.2.1 ≥ j := by
  rcases nx_ge _ _ _ h with h | h
  · exact h
  · cases h
theorem cnt_lt {ps : List LG} {j j' : Int} (_hj : j < j') {p : LG} (hp : p ∈ ps) (h1 : p.2.1 ≥ j) (h2 : p.2.1 < j') : cnt ps j' < cnt ps j := by
  unfold cnt
  induction ps with
  | nil => cases hp
  | cons q r ih =>
    have mono : (r.filter fun q => decide (j' ≤ q.2.1)).length ≤ (r.filter fun q => decide (j ≤ q.2.1)).length := by
      clear ih hp
      induction r with
      | nil => exact Nat.le_refl _
      | cons x r ih =>
        simp only [List.filter_cons]
        by_cases a : x.2.1 ≥ j'
        · have b : x.2.1 ≥ j := by omega
          simp [a, b]; exact ih
        · by_cases b : x.2.1 ≥ j
          · simp [a, b]; omega
          · simp [a, b]; exact ih
    simp only [List.filter_cons]
    rcases List.mem_cons.mp hp with rfl | hp
    · have a : ¬ p.2.1 ≥ j' := by omega
      simp [a, h1]; omega
    · have ih := ih hp
      by_cases a : q.2.1 ≥ j'
      · have b : q.2.1 ≥ j := by omega
        simp [a, b]; exact ih
      · by_cases b : q.2.1 ≥ j
        · simp [a, b]; omega
        · simp [a, b]; exact ih
theorem cnt_next {ps : List LG} {j : Int} {p : LG} (h : nxt ps j = some p) (hp : p.2.1 < p.2.2.1) : cnt ps p.2.2.1 < cnt ps j :=
  cnt_lt (by have := nxt_ge h; omega) (nxt_mem h) (nxt_ge h) hp
theorem cnt_le (ps : List LG) (j : Int) : cnt ps j ≤ ps.length := List.length_filter_le _ _

def srF (ps : List LG) (col : Int) : Nat → LG → Option LG → Option LG
  | 0, _, f => f
  | k + 1, p, f => if p.2.1 < col ∧ p.2.2.1 ≤ col then (match nxt ps p.2.2.1 with | none => some p | some q => srF ps col k q (some p)) else f
def sr (ps : List LG) (col : Int) : Option LG := match nxt ps 0 with | none => none | some p => srF ps col (ps.length + 1) p none

def FindRes (B : Heap) (x : Option LG) (v : Value) : Prop := match x with | none => v = .none | some p => ∃ f, v = .ref f ∧ IsFind B f p.1 p.2
theorem FindRes.keeps {B B' : Heap} {x : Option LG} {v : Value} (h : FindRes B x v) (k : Le B B') : FindRes B' x v := by
  cases x with
  | none => exact h
  | some p => obtain ⟨f, e, h⟩ := h; exact ⟨f, e, h.keeps k⟩
theorem NextRes.find {B : Heap} {ps : List LG} {st : Int} {v : Value} (h : NextRes B ps st v) : FindRes B (nxt ps st) v := h

section
variable {mg : Str → Option Value} {B₀ B : Heap} {s₀ s : Shared} {L : Nat} {m : Str → Option Value} {O : List (Nat × Obj)} {w : World} {A : Around} {env : Env} {E : Value → Shared → Prop}

theorem whileN {test : Expr} {body : List Stmt} {pos : Pos} {Q : Flow → Shared → Prop} (I : Nat → Shared → Prop)
    (turn : ∀ n s, I n s → wpAny (Md w) A (isTrue test env (eval test env)) (fun b s₂ =>
        if b then wpAny (Md w) A (execs body env) (fun f s₃ => match f with
            | .next | .cont => ∃ k, k < n ∧ I k s₃
            | .brk => Q .next s₃
            | .ret v => Q (.ret v) s₃) NE s₂
        else Q .next s₂) NE s)
    (n : Nat) (h : I n s) : wpAny (Md w) A (exec (.While test body [] pos) env) Q NE s := by
  refine wpAny_While (codeAny_whileLoop I (fun n s hI => wpAny_mono (turn n s hI) (fun b s₂ h₂ => ?_) fun _ _ f => f.elim) n h)
  cases b with
  | false => exact wpAny_execs_nil h₂
  | true =>
    refine wpAny_mono h₂ (fun f s₃ h₃ => ?_) fun _ _ f => f.elim
    cases f <;> exact h₃

/-- x, y = (a pair) -/
theorem assignPair {x y : Str} {px py pos : Pos} {k0 : Nat} {t : Nat} {a b : Int} {Q : Unit → Shared → Prop} (hh : A.handled = none) (S : St mg B₀ s₀ L B m O s) (e : Ev env L) (hx : env.kindOf x = some .local) (hy : env.kindOf y = some .local) (hp : PairAt B t a b)
    (h : ∀ u1 u2 s', St mg B₀ s₀ L B (fun z => if z = y then some (.int b u2) else if z = x then some (.int a u1) else m z) O s' → Q () s') :
    wpAny (Md w) A (assign (.Tuple [.Name x px, .Name y py] k0 pos) env (.ref t)) Q E s := by
  obtain ⟨u1, u2, n, et⟩ := hp
  refine wpAny_assign_Tuple (items := #[.int a u1, .int b u2]) hh ⟨_, S.ok.ext _ _ et, rfl, n, rfl⟩ rfl rfl fun h' hx' => ?_
  have S1 := S.kept (h' := h') (t := s.toks) fun a o e => hx' a o (ne_lt (.inl (lts e))) e
  refine wpAny_assignInOrder_more (assignL S1 e hx fun s₂ S2 => wpAny_assignInOrder_more (assignL S2 e hy fun s₃ S3 => wpAny_assignInOrder_none (h u1 u2 s₃ S3)))

theorem truthyFind {x : Option LG} {v : Value} {Q : Bool → Shared → Prop} (ok : Ok mg B s.heap) (hv : FindRes B x v) (h : Q x.isSome s) : wpAny (Md w) A (truthy v) Q E s := by
  cases x with
  | none => rw [show v = .none from hv]; exact PyProof.Rows.truthy_none h
  | some p =>
    obtain ⟨f, rfl, fd, d, md, sp, doc, pm, cv, ctv, c, h1, _⟩ := hv
    exact fn_truthy (ok.ext _ _ h1) rfl h
end

section
variable {mg : Str → Option Value} {B : Heap} {s : Shared} {w : World} {A : Around}

theorem sr_spec {pr a : Nat} {ps : List LG} {ch : Value} {col : Int} {tc : Tok} (r : Rm A 10) (ok : Ok mg B s.heap) (hpr : IsProg B pr a) (hl : GL B a ps) (hpos : ∀ p ∈ ps, p.2.1 < p.2.2.1) :
    wpAny (Md w) A (call (.ref 21) [.ref pr, ch, .int col tc]) (fun v s' => ∃ B', Stp mg B s B' s' ∧ FindRes B' (sr ps col) v) NE s := by
  obtain ⟨pm, hf⟩ := ok.gl.f21
  refine enterDef (binds := [("prog", .ref pr), ("chars", ch), ("col", .int col tc)]) r ok hf ok.gl.c20 (by kernel_rfl) (by intro x hx; simp only [List.mem_cons, List.not_mem_nil, or_false] at hx; rcases hx with rfl | rfl | rfl <;> exact .inl (by kernel_rfl)) fun s₁ S x => ?_
  clear x
  have r := r.deeper (env := callEnvC (fdOf 1 20 pm) s.heap.objs.size 21)
  generalize s.heap.objs.size = L at *
  generalize hE : callEnvC (fdOf 1 20 pm) L 21 = env at *
  generalize A.deeper env = A' at *
  have e : Ev env L := by rw [← hE]; exact ⟨rfl, rfl, rfl, rfl⟩
  have k1 : env.kindOf "prog" = some .local := by rw [← hE]; rfl
  have k2 : env.kindOf "chars" = some .local := by rw [← hE]; rfl
  have k3 : env.kindOf "col" = some .local := by rw [← hE]; rfl
  have k4 : env.kindOf "m" = some .local := by rw [← hE]; rfl
  have k5 : env.kindOf "found" = some .local := by rw [← hE]; rfl
  have k6 : env.kindOf "i" = some .local := by rw [← hE]; rfl
  have k7 : env.kindOf "j" = some .local := by rw [← hE]; rfl
  have m1 : bindL env.kindOf [(Str.ofString "prog", Value.ref pr), (Str.ofString "chars", ch), (Str.ofString "col", .int col tc)] (fun _ => none) "prog" = some (.ref pr) := by simp only [bindL, k1, k2, k3, if_true]; rfl
  have m2 : bindL env.kindOf [(Str.ofString "prog", Value.ref pr), (Str.ofString "chars", ch), (Str.ofString "col", .int col tc)] (fun _ => none) "chars" = some ch := by simp only [bindL, k1, k2, k3, if_true]; rfl
  have m3 : bindL env.kindOf [(Str.ofString "prog", Value.ref pr), (Str.ofString "chars", ch), (Str.ofString "col", .int col tc)] (fun _ => none) "col" = some (.int col tc) := by simp only [bindL, k1, k2, k3, if_true]
  generalize bindL env.kindOf [(Str.ofString "prog", Value.ref pr), (Str.ofString "chars", ch), (Str.ofString "col", .int col tc)] (fun _ => none) = m0 at *
  -- m = prog.search(chars)
  refine wpAny_execs_cons (wpAny_Assign_Name (searchCall1 (r.less (by decide)) S rfl rfl rfl (fun Q' h => nameL S e k1 m1 h) hpr hl (fun Q' s' S h => nameL S e k2 m2 h) fun v s₂ B2 le2 hres S => storeL S e k4 fun s₃ S => ?_))
  have hres := hres.find
  -- if not m: return None
  refine wpAny_execs_cons (wpAny_If (wpAny_isTrue_Not (wpAny_isTrue_value (nameL S e k4 rfl (truthyFind S.ok hres ?_)))))
  cases hn : nxt ps 0 with
  | none =>
    simp only [Option.isSome_none, Bool.not_false, if_true]
    refine wpAny_execs_cons (wpAny_Return_some (wpAny_Constant_none ⟨B2, S.end_, ?_⟩))
    simp only [sr, hn]; rfl
  | some p =>
    simp only [Option.isSome_some, Bool.not_true, Bool.false_eq_true, if_false]
    refine wpAny_execs_nil ?_
    rw [hn] at hres
    obtain ⟨f, rfl, hfi⟩ := hres
    -- found = None
    refine wpAny_execs_cons (wpAny_Assign_Name (wpAny_Constant_none (storeL S e k5 fun s₄ S => ?_)))
    -- i, j = m.span()
    refine wpAny_execs_cons (wpAny_Assign_stores (spanCall (r.less (by decide)) S rfl rfl (fun Q' h => nameL S e k4 rfl h) hfi fun tt s₅ B5 le5 hpair S => ?_) rfl rfl)
    refine assignPair (k0 := 0) r.hd S e k6 k7 hpair fun u1 u2 s₆ S => ?_
    refine wpAny_execs_cons (whileN (fun k s' => ∃ (p : LG) (fo : Option LG) (B' : Heap) (m' : Str → Option Value) (fm : Nat) (vf : Value) (u1 u2 : Tok), srF ps col k p fo = sr ps col ∧ cnt ps p.2.2.1 < k ∧ p ∈ ps ∧ Le B B' ∧ IsFind B' fm p.1 p.2 ∧ FindRes B' fo vf ∧
        m' "i" = some (.int p.2.1 u1) ∧ m' "j" = some (.int p.2.2.1 u2) ∧ m' "m" = some (.ref fm) ∧ m' "found" = some vf ∧ m' "prog" = some (.ref pr) ∧ m' "chars" = some ch ∧ m' "col" = some (.int col tc) ∧ St mg B s L B' m' [] s') ?_ (ps.length + 1) ?_)
    · clear S hfi hpair hn hf hres
      rintro k s' ⟨p, fo, B', m', fm, vf, u1, u2, h1, h2, h3, h4, h5, h6, j1, j2, j3, j4, j5, j6, j7, S⟩
      have hpp := hpos p h3
      refine wpAny_isTrue_BoolOp (wpAny_allTrue_And_cons (wpAny_isTrue_Compare1 (nameL S e k6 j1 (nameL S e k3 j7 (P.lt_int (wpAny_truthy_bool ?_))))))
      have out : ∀ {f : Flow}, f = .next → srF ps col k p fo = fo → (match f with
        | .next => wpAny (Md w) A' (execs [Stmt.Return (some (Expr.Name (Str.ofString "found") ⟨16, 11, 16, 16⟩)) ⟨16, 4, 16, 16⟩] env) (fun f s' => ∃ B', Stp mg B s B' s' ∧ FindRes B' (sr ps col) (match f with | .ret v => v | _ => .none)) NE s'
        | f => ∃ B', Stp mg B s B' s' ∧ FindRes B' (sr ps col) (match f with | .ret v => v | _ => .none)) := by
        intro f hf hfo
        subst hf
        exact wpAny_execs_cons (wpAny_Return_some (nameL S e k5 j4 ⟨B', S.end_, by rw [← h1, hfo]; exact h6⟩))
      obtain ⟨k, rfl⟩ : ∃ k', k = k' + 1 := ⟨k - 1, by omega⟩
      by_cases c1 : p.2.1 < col
      · simp only [c1, decide_true, if_true]
        refine wpAny_allTrue_And_cons (wpAny_isTrue_Compare1 (nameL S e k7 j2 (nameL S e k3 j7 (P.le_int (wpAny_truthy_bool ?_)))))
        by_cases c2 : p.2.2.1 ≤ col
        · simp only [c2, decide_true, if_true]
          refine wpAny_allTrue_And_nil ?_
          simp only [if_true]
          simp only [srF, c1, c2, and_self, if_true] at h1
          -- found = m
          refine wpAny_execs_cons (wpAny_Assign_Name (nameL S e k4 j3 (storeL S e k5 fun s₂ S => ?_)))
          -- if i == j
          refine wpAny_execs_cons (wpAny_If (wpAny_isTrue_Compare1 (nameL S e k6 j1 (nameL S e k7 j2 (P.eq_int (wpAny_truthy_bool ?_))))))
          rw [if_neg (by simp; omega)]
          refine wpAny_execs_nil ?_
          -- m = prog.search(chars, j)
          refine wpAny_execs_cons (wpAny_Assign_Name (searchCall2 (r.less (by decide)) S rfl rfl rfl (fun Q' h => nameL S e k1 j5 h) (hpr.keeps h4) (hl.keeps h4) (fun Q' s' S h => nameL S e k2 j6 h) (fun Q' s' S h => nameL S e k7 j2 h) fun v s₃ B3 le3 hres S => storeL S e k4 fun s₄ S => ?_))
          have hres := hres.find
          -- if not m: break
          refine wpAny_execs_cons (wpAny_If (wpAny_isTrue_Not (wpAny_isTrue_value (nameL S e k4 rfl (truthyFind S.ok hres ?_)))))
          cases hn : nxt ps p.2.2.1 with
          | none =>
            simp only [Option.isSome_none, Bool.not_false, if_true]
            refine wpAny_execs_cons (wpAny_Break ?_)
            refine wpAny_execs_cons (wpAny_Return_some (nameL S e k5 rfl ⟨B3, S.end_, ?_⟩))
            rw [hn] at h1
            rw [← h1]
            exact ⟨fm, rfl, h5.keeps le3⟩
          | some q =>
            simp only [Option.isSome_some, Bool.not_true, Bool.false_eq_true, if_false]
            refine wpAny_execs_nil ?_
            rw [hn] at hres h1
            obtain ⟨f3, rfl, hfi⟩ := hres
            refine wpAny_execs_cons (wpAny_Assign_stores (spanCall (r.less (by decide)) S rfl rfl (fun Q' h => nameL S e k4 rfl h) hfi fun tt s₅ B5 le5 hpair S => ?_) rfl rfl)
            refine assignPair (k0 := 0) r.hd S e k6 k7 hpair fun u3 u4 s₆ S => ?_
            refine wpAny_execs_nil ?_
            have hq := nxt_mem hn
            have hlt := cnt_next hn (hpos q hq)
            refine ⟨k, by omega, q, some p, B5, _, f3, .ref fm, u3, u4, h1, by omega, hq, Le.tr h4 (Le.tr le3 le5), hfi.keeps le5, ⟨fm, rfl, h5.keeps (Le.tr le3 le5)⟩, ?_, ?_, ?_, ?_, ?_, ?_, ?_, S⟩
            · rfl
            · rfl
            · rfl
            · rfl
            · exact j5
            · exact j6
            · exact j7
        · simp only [c2, decide_false, Bool.false_eq_true, if_false]
          exact out rfl (by simp [srF, c2])
      · simp only [c1, decide_false, Bool.false_eq_true, if_false]
        exact out rfl (by simp [srF, c1])
    · refine ⟨p, none, B5, _, f, .none, u1, u2, by simp only [sr, hn], ?_, nxt_mem hn, Le.tr le2 le5, hfi.keeps le5, rfl, ?_, ?_, ?_, ?_, ?_, ?_, ?_, S⟩
      · have := cnt_le ps p.2.2.1; omega
      · rfl
      · rfl
      · rfl
      · rfl
      · exact m1
      · exact m2
      · exact m3
end
end Mine

namespace Mine

def colOf (turn : Nat) (p : LG) : Int := if turn % 2 = 0 then p.2.1 else p.2.2.1 - 1
def roomAcc (ps : List LG) : Nat → Nat → Int → List LG
  | 0, _, _ => []
  | k + 1, turn, col => match sr ps col with
    | none => []
    | some p => p :: roomAcc ps k (turn + 1) (colOf turn p)
def room (ps : List LG) : List LG := roomAcc ps ps.length 0 12

theorem srF_mem {ps : List LG} {col : Int} : ∀ (k : Nat) (p : LG) (f : Option LG) (q : LG), p ∈ ps → srF ps col k p f = some q → q ∈ ps ∨ f = some q
  | 0, _, _, _, _, h => .inr h
  | k + 1, p, f, q, hp, h => by
    unfold srF at h
    split at h
    · cases hn : nxt ps p.2.2.1 with
      | none => rw [hn] at h; cases h; exact .inl hp
      | some p' =>
        rw [hn] at h
        rcases srF_mem k p' (some p) q (nxt_mem hn) h with h | h
        · exact .inl h
        · cases h; exact .inl hp
    · exact .inr h
theorem sr_mem {ps : List LG} {col : Int} {q : LG} (h : sr ps col = some q) : q ∈ ps := by
  unfold sr at h
  cases hn : nxt ps 0 with
  | none => rw [hn] at h; cases h
  | some p =>
    rw [hn] at h
    rcases srF_mem _ p none q (nxt_mem hn) h with h | h
    · exact h
    · cases h

abbrev lstO (ps : List LG) (n : Nat) : Obj := { cls := .type "list", data := .seq (ps.map fun p => Value.ref p.1).toArray n }

section
variable {mg : Str → Option Value} {B₀ B : Heap} {s₀ s : Shared} {L : Nat} {m : Str → Option Value} {O : List (Nat × Obj)} {w : World} {A : Around} {env : Env} {E : Value → Shared → Prop}

/-- a built-in function of one argument -/
theorem callB {x : Str} {id : String} {np pos : Pos} {e1 : Expr} {mb : Str → Option Value} {Q : Value → Shared → Prop} (S : St mg B₀ s₀ L B m O s) (e : Ev env L) (hl : env.kindOf x = some .globalImplicit) (hm : mg x = none) (hb : B.Ns 0 mb) (hv : mb x = some (.builtin id))
    (hs : backTo pos (starEach [e1] env) = [(false, eval e1 env)])
    (h : wpAny (Md w) A (eval e1 env) (fun v s' => wpAny (Md w) A (call (.builtin id) [v]) Q E s') E s) (hd : (x == ("__debug__" : Str)) = false := by decide) :
    wpAny (Md w) A (eval (.Call (.Name x np) [e1] [] pos) env) Q E s := by
  refine wpAny_Call_NameR (nameB S.ok e hl hm hb hv ?_ hd)
  rw [hs]
  exact Calls.callWith_builtin rfl (Calls.evalArgs_plain (Calls.spliced_cons (wpAny_mono h (fun v s' h' => Calls.spliced_nil h') fun _ _ q => q)))

/-- range(e) -/
theorem rangeCall {np pos : Pos} {e1 : Expr} {n : Nat} (S : St mg B₀ s₀ L B m O s) (e : Ev env L) (hl : env.kindOf "range" = some .globalImplicit)
    (hs : backTo pos (starEach [e1] env) = [(false, eval e1 env)]) (hn : (n : Int) < 2 ^ 62)
    (h : wpAny (Md w) A (eval e1 env) (fun v s' => (∃ t, v = .int n t) ∧ St mg B₀ s₀ L B m O s') NE s) :
    wpAny (Md w) A (eval (.Call (.Name "range" np) [e1] [] pos) env) (fun x s₁ => ∃ (r : Nat) (t u v : Tok), x = .ref r ∧ IsRange s₁.heap r 0 n 1 t u v ∧ (n : Int) < 2 ^ 62 ∧ St mg B₀ s₀ L B m O s₁) NE s := by
  obtain ⟨mb, hb, hr, _⟩ := S.ok.gl.b
  refine wpAny_Call_NameR (nameB S.ok e hl S.ok.gl.nrange hb hr ?_)
  rw [hs]
  refine PySem.callWith_type rfl (Calls.evalArgs_plain (Calls.spliced_cons (wpAny_mono h (fun v s' h' => Calls.spliced_nil ?_) fun _ _ q => q)))
  obtain ⟨⟨t, rfl⟩, S⟩ := h'
  refine call_range_1 ⟨_, _, _, _, rfl, IsRange.new .., hn, S.kept fun a o e => Heap.get?_push_of_some _ e⟩

theorem lenL {a : Nat} {ps : List LG} {Q : Value → Shared → Prop} (S : St mg B₀ s₀ L B m O s) (hl : GL B a ps) (hlen : ps.length ≤ 1000) (h : ∀ t s', St mg B₀ s₀ L B m O s' → Q (.int ps.length t) s') : wpAny (Md w) A (call (.builtin "len") [.ref a]) Q E s := by
  have hl' : s.heap.IsList a (ps.map fun p => Value.ref p.1).toArray := let ⟨o, e, r⟩ := hl.1; ⟨o, S.ok.ext _ _ e, r⟩
  refine Calls.call_len_list hl' (by simp; omega) ?_
  have : (((ps.map fun p => Value.ref p.1).toArray.size : Nat) : Int) = ps.length := by simp
  rw [this]
  exact h _ _ (S.tok _)

/-- found.guest -/
theorem guestAttr {x : Str} {xp pos : Pos} {f t : Nat} {g : G} {Q : Value → Shared → Prop} (S : St mg B₀ s₀ L B m O s) (hv : ∀ Q', Q' (.ref f) s → wpAny (Md w) A (eval (.Name x xp) env) Q' E s) (hf : IsFind B f t g)
    (h : ∀ s', St mg B₀ s₀ L B m O s' → Q (.ref t) s') : wpAny (Md w) A (eval (.Attribute (.Name x xp) "guest" pos) env) Q E s := by
  obtain ⟨fd, d, md, sp, doc, pm, cv, ctv, c, h1, h2, h3, h4, h5, h6, h7, h8⟩ := hf
  exact Attribute_Name_ (hv _ (fn_getAttr (S.ok.ext _ _ h1) rfl (by intro c q; cases q) rfl (h2.keeps S.ok.ext) h4 fn_guest_none rfl (h _ (S.tok _))))

/-- xs.append(e) -/
theorem appendCall {x : Str} {xp apos pos : Pos} {e1 : Expr} {a : Nat} {items : Array Value} {n : Nat} {v : Value} {Q : Value → Shared → Prop} (S : St mg B₀ s₀ L B m ((a, { cls := .type "list", data := .seq items n }) :: O) s)
    (hline : (apos.endLine == pos.line) = true) (hs : backTo pos (starEach [e1] env) = [(false, eval e1 env)])
    (hv : ∀ Q', Q' (.ref a) s → wpAny (Md w) A (eval (.Name x xp) env) Q' E s) (hsz : items.size ≤ 1000)
    (h1 : ∀ Q', (∀ s', St mg B₀ s₀ L B m ((a, { cls := .type "list", data := .seq items n }) :: O) s' → Q' v s') → wpAny (Md w) A (eval e1 env) Q' E s)
    (h : ∀ s' n', St mg B₀ s₀ L B m ((a, { cls := .type "list", data := .seq (items.push v) n' }) :: O) s' → Q .none s') :
    wpAny (Md w) A (eval (.Call (.Attribute (.Name x xp) "append" apos) [e1] [] pos) env) Q E s := by
  refine methCall rfl (by rw [hs]; rfl) hline (hv _ fun pl => ?_)
  refine Calls.getMethod_list_append (S.get (.head _)) rfl rfl ?_
  rw [hs]
  refine Calls.callWith_builtin rfl (Calls.evalArgs_plain (Calls.spliced_cons (h1 _ fun s' S' => Calls.spliced_nil ?_)))
  refine wpAny_list_append_plain ⟨n, S'.get (.head _)⟩ (fun h' hp hsb => ?_) (by rw [sizeLine_eq]; omega)
  obtain ⟨n', e'⟩ := hp
  exact h _ n' (S'.upd e' hsb.extBut (t := s'.toks))

theorem call3 {x : Str} {np pos : Pos} {e1 e2 e3 : Expr} {f : Nat} {o : Obj} {fd : FuncData} {Q : Value → Shared → Prop} (S : St mg B₀ s₀ L B m O s) (e : Ev env L) (hl : env.kindOf x = some .globalImplicit) (hg : mg x = some (.ref f))
    (hs : backTo pos (starEach [e1, e2, e3] env) = [(false, eval e1 env), (false, eval e2 env), (false, eval e3 env)])
    (ho : B.get? f = some o) (hfd : o.data = .func fd)
    (h : wpAny (Md w) A (eval e1 env) (fun v s₁ => wpAny (Md w) A (eval e2 env) (fun u s₂ => wpAny (Md w) A (eval e3 env) (fun z s' => ∃ B' m' O', Le B B' ∧ St mg B₀ s₀ L B' m' O' s' ∧ wpAny (Md w) A (call (.ref f) [v, u, z]) Q E s') E s₂) E s₁) E s)
    (hd : (x == ("__debug__" : Str)) = false := by decide) :
    wpAny (Md w) A (eval (.Call (.Name x np) [e1, e2, e3] [] pos) env) Q E s := by
  refine wpAny_Call_NameR (nameG S.ok e hl hg ?_ hd)
  rw [hs]
  refine Calls.callWith_function (o := o) (fd := fd) (Calls.evalArgs_plain (Calls.spliced_cons (wpAny_mono h (fun v s₁ h₁ => Calls.spliced_cons (wpAny_mono h₁ (fun u s₂ h₂ => Calls.spliced_cons (wpAny_mono h₂ (fun z s' h' => Calls.spliced_nil ?_) fun _ _ q => q)) fun _ _ q => q)) fun _ _ q => q)))
  obtain ⟨B', m', O', le, S', h''⟩ := h'
  exact ⟨⟨S'.ok.ext _ _ (le _ _ ho), hfd⟩, h''⟩

/-- turn % 2 -/
theorem mod2 {value : Expr} {pos p0 : Pos} {k0 : Nat} {i : Nat} {ti : Tok} {Q : Value → Shared → Prop} (S : St mg B₀ s₀ L B m O s) (hv : ∀ Q', Q' (.int i ti) s → wpAny (Md w) A (eval value env) Q' E s)
    (h : ∀ u s', St mg B₀ s₀ L B m O s' → Q (.int ((i % 2 : Nat) : Int) u) s') : wpAny (Md w) A (eval (.BinOp value .Mod (.Constant (.int 2) k0 p0) pos) env) Q E s := by
  refine wpAny_BinOp (hv _ (constI S fun t s' S' => PyProof.Rows.mod_int (by decide) ?_))
  have : (i : Int).fmod 2 = ((i % 2 : Nat) : Int) := by
    rw [Int.fmod_eq_emod_of_nonneg _ (by decide)]; omega
  rw [this]
  exact h _ _ (S'.tok _)
end
end Mine

namespace Mine

section
variable {mg : Str → Option Value} {B₀ B : Heap} {s₀ s : Shared} {L : Nat} {m : Str → Option Value} {O : List (Nat × Obj)} {w : World} {A : Around} {env : Env} {E : Value → Shared → Prop}

theorem newListR {vs : List Value} {Q : Value → Shared → Prop} (S : St mg B₀ s₀ L B m O s) (hsz : vs.length ≤ 1000)
    (h : ∀ (a : Nat) s', St mg B₀ s₀ L B m ((a, { cls := .type "list", data := .seq vs.toArray }) :: O) s' → Q (.ref a) s') : wpAny (Md w) A (newList vs) Q E s :=
  wpAny_newObj_type (h _ _ (S.push _ (t := s.toks))) (by show vs.toArray.size ≤ sizeLine; rw [List.size_toArray, sizeLine_eq]; omega)
theorem newTupR {vs : List Value} {Q : Value → Shared → Prop} (S : St mg B₀ s₀ L B m O s) (hsz : vs.length ≤ 1000)
    (h : ∀ (a : Nat) s', St mg B₀ s₀ L B m ((a, { cls := .type "tuple", data := .seq vs.toArray }) :: O) s' → Q (.ref a) s') : wpAny (Md w) A (newTuple vs) Q E s :=
  wpAny_newObj_type (h _ _ (S.push _ (t := s.toks))) (by show vs.toArray.size ≤ sizeLine; rw [List.size_toArray, sizeLine_eq]; omega)
theorem lenStr {x : Str} {t : Tok} {n : Nat} {Q : Value → Shared → Prop} (S : St mg B₀ s₀ L B m O s) (hx : x.length = n) (hn : n ≤ 1000) (h : ∀ u s', St mg B₀ s₀ L B m O s' → Q (.int n u) s') :
    wpAny (Md w) A (call (.builtin "len") [.str x t]) Q E s := by
  refine PyProof.Rows.len_str (by rw [hx]; omega) ?_
  rw [hx]
  exact h _ _ (S.tok _)

theorem setAttrNew {f : Nat} {fd : FuncData} {name : Str} {v : Value} {Q : Unit → Shared → Prop} (S : St mg B₀ s₀ L B m ((f, { cls := .type "function", data := .func fd }) :: O) s) (hl : typeLookup (.type "function") name = pure none)
    (h : ∀ (s' : Shared) (d : Nat) (od : Obj) es ep, od.data = .dict es ep → StrKeys es → (∀ n, nsFind es n = if n = name then some v else none) → St mg B₀ s₀ L B m ((d, od) :: (f, { cls := .type "function", dict := some d, data := .func fd }) :: O) s' → Q () s') :
    wpAny (Md w) A (setAttr (.ref f) name v) Q E s := by
  refine fn_setAttr (S.get (.head _)) rfl (fn_sa_new (S.get (.head _)) hl fun h' tk' h1 h2 h3 => ⟨rfl, ?_⟩)
  have hfr := S.fresh
  have hlo := S.lo
  have hlL := S.ltL
  have S' := S.upd h1 (t := tk') h3
  obtain ⟨od, es, ep, hod, hod2, hod3, hod4, hod5⟩ := h2
  have S2 := S'.adopt (a := s.heap.objs.size) hod (by omega) (ne_lt (.inr hlL)) hfr (by
    intro p hp
    rcases List.mem_cons.mp hp with rfl | hp
    · exact ne_lt (.inr (lts (S.get (.head _))))
    · exact ne_lt (.inr (lts (S.own p (.tail _ hp)).1)))
  exact h _ _ od es ep hod2 hod3 hod5 S2

theorem assignSwapG {targets : List Expr} {value : Expr} {pos : Pos} {names : List Str} {Q : Flow → Shared → Prop}
    (hs : swapsWithSole targets value pos.line env = pure false) (hw : swappedStores targets value env = pure (some names))
    (h : wpAny (Md w) A (eval value env) (fun v s₁ => wpAny (Md w) A (unpackItems v names.length none) (fun items s₂ => wpAny (Md w) A (assignInOrder (names.reverse.map fun n => bindName env n) items.reverse) (fun _ s₃ => Q .next s₃) E s₂) E s₁) E s) :
    wpAny (Md w) A (exec (.Assign targets value pos) env) Q E s := by
  rw [exec_Assign_arm]
  refine wpAny_bind (wpAny_standAt ?_)
  rw [hs]
  refine wpAny_bind (wpAny_pure ?_)
  rw [if_neg (by decide)]
  refine wpAny_bind (wpAny_mono h (fun v s₁ h₁ => ?_) fun _ _ x => x)
  rw [hw]
  refine wpAny_bind (wpAny_pure ?_)
  unfold assignStores
  exact wpAny_bind (wpAny_rule (wpAny_bind (wpAny_mono h₁ (fun items s₂ h₂ => wpAny_bind (wpAny_mono h₂ (fun _ s₃ h₃ => wpAny_pure h₃) fun _ _ q => q)) fun _ _ q => q)))

/-- the stores of a pair, from behind -/
theorem storePair {x y : Str} {t : Nat} {vx vy : Value} {Q : Unit → Shared → Prop} (hh : A.handled = none) (S : St mg B₀ s₀ L B m O s) (e : Ev env L) (hx : env.kindOf x = some .local) (hy : env.kindOf y = some .local) (ht : s.heap.IsTuple t #[vx, vy])
    (h : ∀ s', St mg B₀ s₀ L B (fun z => if z = x then some vx else if z = y then some vy else m z) O s' → Q () s') :
    wpAny (Md w) A (unpackItems (.ref t) [x, y].length none) (fun items s₂ => wpAny (Md w) A (assignInOrder ([x, y].reverse.map fun n => bindName env n) items.reverse) Q E s₂) E s := by
  refine wpAny_unpackItems_tuple (items := #[vx, vy]) hh ht fun h' hx' => ?_
  have S1 := S.kept (h' := h') (t := s.toks) fun a o e => hx' a o (ne_lt (.inl (lts e))) e
  exact wpAny_assignInOrder_more (wpAny_bindName (storeL S1 e hy fun s₂ S2 => wpAny_assignInOrder_more (wpAny_bindName (storeL S2 e hx fun s₃ S3 => wpAny_assignInOrder_none (h s₃ S3)))))
end

section
variable {mg : Str → Option Value} {B : Heap} {s : Shared} {w : World} {A : Around}

theorem room_spec {a : Nat} {ps : List LG} {dx : Str} {td : Tok} (r : Rm A 14) (ok : Ok mg B s.heap) (hl : GL B a ps) (hpos : ∀ p ∈ ps, p.2.1 < p.2.2.1) (hdx : dx.length = 12) (hlen : ps.length ≤ 100) :
    wpAny (Md w) A (call (.ref 49) [.ref a, .str dx td]) (fun v s' => ∃ B' ra, v = .ref ra ∧ Stp mg B s B' s' ∧ GL B' ra (room ps)) NE s := by
  obtain ⟨pm, hf⟩ := ok.gl.f49
  refine enterDef (binds := [("guests", .ref a), ("day", .str dx td)]) r ok hf ok.gl.c48 (by kernel_rfl) (by intro x hx; simp only [List.mem_cons, List.not_mem_nil, or_false] at hx; rcases hx with rfl | rfl; exact .inr ⟨by kernel_rfl, by rfl⟩; exact .inl (by kernel_rfl)) fun s₁ S x => ?_
  have r := r.deeper (env := callEnvC (fdOf 7 48 pm) s.heap.objs.size 49)
  generalize hL : s.heap.objs.size = L at *
  generalize hE : callEnvC (fdOf 7 48 pm) L 49 = env at *
  generalize A.deeper env = A' at *
  have e : Ev env L := by rw [← hE]; exact ⟨rfl, rfl, rfl, rfl⟩
  have hcells : env.cells = [(Str.ofString "guests", L + 1)] := by rw [← hE]; rfl
  have k1 : env.kindOf "guests" = some .cell := by rw [← hE]; rfl
  have k2 : env.kindOf "day" = some .local := by rw [← hE]; rfl
  have k3 : env.kindOf "program" = some .local := by rw [← hE]; rfl
  have k4 : env.kindOf "room" = some .local := by rw [← hE]; rfl
  have k5 : env.kindOf "col" = some .local := by rw [← hE]; rfl
  have k6 : env.kindOf "turn" = some .local := by rw [← hE]; rfl
  have k7 : env.kindOf "found" = some .local := by rw [← hE]; rfl
  have k8 : env.kindOf "len" = some .globalImplicit := by rw [← hE]; rfl
  have k9 : env.kindOf "range" = some .globalImplicit := by rw [← hE]; rfl
  have k10 : env.kindOf "search_reverse" = some .globalImplicit := by rw [← hE]; rfl
  have hcode : env.code = .ref 48 := by rw [← hE]; rfl
  have hqual : env.qual ++ "<lambda>" = qRoom := by rw [← hE]; rfl
  obtain ⟨oc, hoc, hocd⟩ := x.cell "guests" (L + 1) (by rw [hcells]; rfl)
  have hcv : bindC env.kindOf [(Str.ofString "guests", Value.ref a), (Str.ofString "day", .str dx td)] (fun _ => none) "guests" = some (.ref a) := by simp [bindC, k1, k2]
  rw [hcv] at hocd
  have m2 : bindL env.kindOf [(Str.ofString "guests", Value.ref a), (Str.ofString "day", .str dx td)] (fun _ => none) "day" = some (.str dx td) := by simp [bindL, k1, k2]
  clear x
  generalize bindL env.kindOf [(Str.ofString "guests", Value.ref a), (Str.ofString "day", .str dx td)] (fun _ => none) = m0 at *
  have S := S.adopt (a := L + 1) hoc (by omega) (by show L + 1 ≠ L; omega) (by
    cases q : B.get? (L + 1) with
    | none => rfl
    | some o => exact absurd (lts (ok.ext _ _ q)) (by omega)) (by intro p hp; cases hp)
  -- program = lambda: None
  refine wpAny_execs_cons (wpAny_Assign_Name (kla_eval rfl ?_))
  refine lamNew (c := 48) (clos := []) S (.tail _ (.head _)) hqual e.glo hcode ok.gl.h48 rfl ?_
  intro f cv ctv doc pm' s₂ B₂ le₂ _ S
  refine storeL S e k3 fun s₃ S => ?_
  -- program.search = lambda chars, start=0: _law_next(guests, start)
  refine wpAny_execs_cons (plainObj_wpAny_Assign_Attribute (kdv_lam rfl rfl (kdv_all1 (constI S fun tz s₃ S => kdv_all0 ?_))))
  rw [makeFunction_eq, hqual]
  simp only [List.zip_nil_right, List.filterMap_nil, List.isEmpty_nil, if_true, pure_bind, List.isEmpty_cons, Bool.false_eq_true, if_false]
  refine wpAny_bind (wpAny_newTextTuple ?_)
  obtain ⟨B₃, le₃, b₃, S⟩ := (S.push { cls := .type "tuple", data := .seq #[.int 0 tz] } (t := s₃.toks)).freeze
  refine makeLam (c := 48) (clos := [(Str.ofString "guests", L + 1)]) S (.tail _ (.head _)) e.glo hcode (ok.gl.h48.keeps (Le.tr le₂ le₃)) (by simp [closureFor, cellOf, hcells]) ?_
  intro se cv2 ctv2 doc2 pm2 s₄ B₄ le₄ rec₄ S
  refine nameL S e k3 rfl ?_
  have S := S.swap
  refine setAttrNew S fn_search_none ?_
  intro s₅ d od es ep hod2 hod3 hod5 S
  obtain ⟨B5, le5, b5, S⟩ := S.freeze
  obtain ⟨B6, le6, b6, S⟩ := S.freeze
  obtain ⟨B7, le7, b7, S⟩ := S.freeze
  obtain ⟨B8, le8, b8, S⟩ := S.freeze
  have hprog : IsProg B8 f a := by
    refine ⟨_, d, _, se, _, tz, _, doc2, pm2, cv2, ctv2, L + 1, le8 _ _ (le7 _ _ b6), ⟨od, es, ep, le8 _ _ (le7 _ _ (le6 _ _ b5)), hod2, hod3, hod5⟩, ?_, le8 _ _ b7, le8 _ _ (le7 _ _ (le6 _ _ (le5 _ _ (le₄ _ _ b₃)))), ?_, ⟨oc, b8, hocd⟩⟩
    · rfl
    · exact rec₄.keeps (Le.tr le5 (Le.tr le6 (Le.tr le7 le8)))
  have leB : Le B B8 := Le.tr le₂ (Le.tr le₃ (Le.tr le₄ (Le.tr le5 (Le.tr le6 (Le.tr le7 le8)))))
  have hl := hl.keeps leB
  have hcell : B8.IsCell (L + 1) (some (.ref a)) := ⟨oc, b8, hocd⟩
  have m2' : (fun (y : Str) => if y = Str.ofString "program" then some (Value.ref f) else m0 y) (Str.ofString "day") = some (.str dx td) := m2
  have m3' : (fun (y : Str) => if y = Str.ofString "program" then some (Value.ref f) else m0 y) (Str.ofString "program") = some (.ref f) := rfl
  generalize (fun (y : Str) => if y = Str.ofString "program" then some (Value.ref f) else m0 y) = m1 at *
  clear b5 b6 b7 b8 b₃ hod2 hod3 hod5 hoc hocd m2 le5 le6 le7 le8 le₂ le₃ le₄ rec₄
  -- room, col = ([], len(day))
  obtain ⟨mb, hb, _, hblen, _⟩ := S.ok.gl.b
  refine wpAny_execs_cons (assignSwapG (names := ["room", "col"]) rfl (by rw [← hE]; kernel_rfl) (Tuple_ (Calls.spliced_cons (List_ (Calls.spliced_nil (newListR S (by decide) ?_))))))
  intro ra s₆ S
  refine Calls.spliced_cons (callB S e k8 S.ok.gl.nlen hb hblen rfl (nameL S e k2 m2' (lenStr S hdx (by decide) fun u s₇ S => Calls.spliced_nil (newTupR S (by show 2 ≤ 1000; decide) ?_))))
  intro tt s₈ S
  refine storePair r.hd S e k4 k5 ⟨_, S.get (.head _), rfl, _, rfl⟩ fun s₉ S => ?_
  have S := S.drop
  -- for turn in range(len(guests))
  have hcg : ∀ {s' : Shared}, Ok mg B8 s'.heap → s'.heap.IsCell (L + 1) (some (.ref a)) := fun ok => hcell.keeps ok.ext
  have fin : ∀ (B' : Heap) (m' : Str → Option Value) (s' : Shared) (n : Nat) (acc : List LG), Le B8 B' → acc = room ps → (∀ p ∈ acc, p ∈ ps) → m' "room" = some (.ref ra) → St mg B s L B' m' [(ra, lstO acc n)] s' →
      wpAny (Md w) A' (execs [Stmt.Return (some (Expr.Name (Str.ofString "room") ⟨49, 11, 49, 15⟩)) ⟨49, 4, 49, 15⟩] env) (fun f s' => ∃ B' ra, (match f with | .ret v => v | _ => .none) = .ref ra ∧ Stp mg B s B' s' ∧ GL B' ra (room ps)) NE s' := by
    intro B' m' s' n acc le hacc hin hm S
    subst hacc
    refine wpAny_execs_cons (wpAny_Return_some (nameL S e k4 hm ?_))
    obtain ⟨B9, le9, b9, S⟩ := S.freeze
    exact ⟨B9, ra, rfl, S.end_, ⟨_, b9, rfl, n, rfl⟩, fun p hp => (hl.2 p (hin p hp)).keeps (Le.tr le le9)⟩
  refine wpAny_execs_cons (for_range (n := ps.length) r.hd (rangeCall S e k9 rfl (by omega) (callB S e k8 S.ok.gl.nlen hb hblen rfl (nameC (c := L + 1) e k1 (by rw [hcells]; rfl) (hcg S.ok) (lenL S hl (by omega) fun t s' S => ⟨⟨t, rfl⟩, S⟩))))
    (fun i B' m' O' => ∃ (n : Nat) (acc : List LG) (col : Int) (tc : Tok), O' = [(ra, lstO acc n)] ∧ m' "room" = some (.ref ra) ∧ m' "col" = some (.int col tc) ∧ m' "program" = some (.ref f) ∧ m' "day" = some (.str dx td) ∧ acc ++ roomAcc ps (ps.length - i) i col = room ps ∧ acc.length = i ∧ ∀ p ∈ acc, p ∈ ps) ?_ ?_ ?_)
  · refine ⟨0, [], 12, u, rfl, ?_, ?_, ?_, ?_, rfl, rfl, by intro p hp; cases hp⟩
    · rfl
    · rfl
    · exact m3'
    · exact m2'
  · clear S
    intro i tk B' m' O' I oI s' hi le hJ S
    obtain ⟨n, acc, col, tc, rfl, j1, j2, j3, j4, j5, j6, j7⟩ := hJ
    refine assignL S e k6 fun s₂ S => ?_
    -- found = search_reverse(program, day, col)
    obtain ⟨pmS, hfS⟩ := S.ok.gl.f21
    refine wpAny_execs_cons (wpAny_Assign_Name (call3 S e k10 S.ok.gl.sr rfl hfS rfl (nameL S e k3 j3 (nameL S e k2 j4 (nameL S e k5 j2 ⟨B', _, _, Le.rf _, S, wpAny_mono (sr_spec (r.less (by decide)) S.ok (hprog.keeps le) (hl.keeps le) hpos) (fun v s₃ h => ?_) fun _ _ q => q⟩)))))
    obtain ⟨B3, hst, hres⟩ := h
    have le3 := hst.le
    have S := S.called hst
    refine storeL S e k7 fun s₄ S => ?_
    -- if not found: break
    refine wpAny_execs_cons (wpAny_If (wpAny_isTrue_Not (wpAny_isTrue_value (nameL S e k7 rfl (truthyFind S.ok hres ?_)))))
    have hk : ps.length - i = (ps.length - (i + 1)) + 1 := by omega
    rw [hk] at j5
    cases hn : sr ps col with
    | none =>
      simp only [Option.isSome_none, Bool.not_false, if_true]
      refine wpAny_execs_cons (wpAny_Break ?_)
      simp only [roomAcc, hn, List.append_nil] at j5
      refine fin B3 _ s₄ n acc (Le.tr le le3) j5 j7 ?_ S.drop
      exact j1
    | some p =>
      simp only [Option.isSome_some, Bool.not_true, Bool.false_eq_true, if_false]
      refine wpAny_execs_nil ?_
      rw [hn] at hres
      obtain ⟨fn, rfl, hfi⟩ := hres
      -- room.append(found.guest)
      have S := S.swap
      refine wpAny_execs_cons (wpAny_Expr (appendCall S rfl rfl (fun Q' h => nameL S e k4 j1 h) (by simp; omega) (fun Q' h => guestAttr S (fun Q'' h' => nameL S e k7 rfl h') hfi h) fun s₅ n' S => ?_) (by rw [← hE]; rfl) (by rw [← hE]; rfl))
      have S := S.swap
      -- col = found.span()[turn % 2] - turn % 2
      refine wpAny_execs_cons (wpAny_Assign_Name (wpAny_BinOp (Subscript_ (spanCall (r.less (by decide)) S rfl rfl (fun Q' h => nameL S e k7 rfl h) hfi fun tt s₆ B6 le6 hpair S => mod2 S (fun Q' h => nameL S e k6 rfl h) fun u s₇ S => ?_))))
      obtain ⟨u1, u2, n2, et⟩ := hpair
      have hx : ∃ tz, ([.int p.2.1 u1, .int p.2.2.1 u2] : List Value)[i % 2]? = some (.int (if i % 2 = 0 then p.2.1 else p.2.2.1) tz) := by
        rcases Nat.mod_two_eq_zero_or_one i with h | h <;> rw [h]
        · exact ⟨u1, rfl⟩
        · exact ⟨u2, rfl⟩
      obtain ⟨tz, hx⟩ := hx
      refine item_tupleT (l := [.int p.2.1 u1, .int p.2.2.1 u2]) (j := i % 2) ⟨_, S.ok.ext _ _ et, rfl, n2, rfl⟩ (by omega) (by omega) ?_ hx ?_
      · rcases Nat.mod_two_eq_zero_or_one i with h | h <;> rw [h] <;> rfl
      refine mod2 S (fun Q' h => nameL S e k6 rfl h) fun u' s₈ S => P.sub_int ?_
      refine storeL (S.tok _) e k5 fun s₉ S => wpAny_execs_nil ?_
      have hcol : (if i % 2 = 0 then p.2.1 else p.2.2.1) - ((i % 2 : Nat) : Int) = colOf i p := by
        unfold colOf
        rcases Nat.mod_two_eq_zero_or_one i with h | h <;> simp [h]
      rw [hcol] at S
      simp only [roomAcc, hn] at j5
      refine ⟨B6, _, _, Le.tr le3 le6, ⟨n', acc ++ [p], colOf i p, s₈.toks, ?_, ?_, ?_, ?_, ?_, ?_, by simp [j6], ?_⟩, S⟩
      · simp [lstO]
      · exact j1
      · rfl
      · exact j3
      · exact j4
      · rw [List.append_assoc]; exact j5
      · intro q hq
        rcases List.mem_append.mp hq with h | h
        · exact j7 q h
        · rw [List.mem_singleton.mp h]; exact sr_mem hn
  · intro B' m' O' s' le hJ S
    obtain ⟨n, acc, col, tc, rfl, j1, j2, j3, j4, j5, j6, j7⟩ := hJ
    simp only [Nat.sub_self, roomAcc, List.append_nil] at j5
    exact fin B' m' s' n acc le j5 j7 j1 S
end
end Mine

namespace Mine

theorem TupAt.inj {B : Heap} {t : Nat} {g g' : G} (x : TupAt B t g) (y : TupAt B t g') : g = g' := by
  obtain ⟨a, b, c, n, e⟩ := x
  obtain ⟨a', b', c', n', e'⟩ := y
  rw [e] at e'
  obtain ⟨g1, g2, g3⟩ := g
  obtain ⟨h1, h2, h3⟩ := g'
  injection e' with e'
  injection e' with _ _ e' _
  injection e' with e' _
  simp only [Array.mk.injEq, List.cons.injEq, Value.int.injEq, and_true] at e'
  rw [e'.1.1, e'.2.1.1, e'.2.2.1]

/-- a test of guests as a test of values -/
def pv (ps : List LG) (pred : LG → Bool) : Value → Bool
  | .ref t => match ps.find? (fun q => q.1 == t) with | some q => pred q | none => false
  | _ => false

theorem pv_ref {B : Heap} {ps : List LG} {pred : LG → Bool} (h : ∀ p ∈ ps, TupAt B p.1 p.2) {p : LG} (hp : p ∈ ps) : pv ps pred (.ref p.1) = pred p := by
  unfold pv
  simp only
  cases e : ps.find? (fun q => q.1 == p.1) with
  | none => exact absurd (List.find?_eq_none.mp e p hp) (by simp)
  | some q =>
    have h1 := List.find?_some e
    have h2 := List.mem_of_find?_eq_some e
    simp only [beq_iff_eq] at h1
    have : q = p := by
      have h3 := h q h2
      rw [h1] at h3
      have := (h3.inj (h p hp))
      obtain ⟨q1, q2⟩ := q
      obtain ⟨p1, p2⟩ := p
      simp only at h1 this
      rw [h1, this]
    rw [this]

theorem filter_map_pv {B : Heap} {all : List LG} {pred : LG → Bool} (h : ∀ p ∈ all, TupAt B p.1 p.2) : ∀ ps : List LG, (∀ p ∈ ps, p ∈ all) → (ps.map fun p => Value.ref p.1).filter (pv all pred) = (ps.filter pred).map fun p => Value.ref p.1
  | [], _ => rfl
  | p :: r, hs => by
    have ih := filter_map_pv (pred := pred) h r fun q hq => hs q (.tail _ hq)
    rw [List.map_cons, List.filter_cons, List.filter_cons, pv_ref h (hs p (.head _)), ih]
    cases pred p <;> rfl

theorem paired_eq {α : Type} : ∀ {l₁ l₂ : List α}, Paired (fun v y => y = v) l₁ l₂ → l₂ = l₁
  | _, _, .nil => rfl
  | _, _, .cons h t => by rw [h, paired_eq t]

section
variable {mg : Str → Option Value} {B₀ B : Heap} {s₀ s : Shared} {L : Nat} {m : Str → Option Value} {O : List (Nat × Obj)} {w : World} {A : Around} {env : Env} {E : Value → Shared → Prop}

/-- what a comprehension's test may lean on -/
def TestOk (w : World) (A : Around) (env : Env) (scope : Scope) (cl : List (Str × Addr)) (x : Str) (test : Expr) (B : Heap) (O : List (Nat × Obj)) (ps : List LG) (pred : LG → Bool) : Prop :=
  ∀ (C : Nat) (s₃ : Shared) (m₃ : Str → Option Value) (E' : Value → Shared → Prop) (p : LG), p ∈ ps → s₃.heap.Ns C m₃ → m₃ x = some (.ref p.1) → Le B s₃.heap → (∀ q ∈ O, s₃.heap.get? q.1 = some q.2) →
    wpAny (Md w) A (isTrue test (compEnvC scope cl C env) (eval test (compEnvC scope cl C env))) (fun ok s₄ => ok = pred p ∧ Keeps s₃ s₄) E' s₃

theorem quiet_of {x : Str} {ex : Pos} {test : Expr} {scope : Scope} {cl : List (Str × Addr)} {ps : List LG} {pred : LG → Bool} {I : Nat} {oI : Obj} (S : St mg B₀ s₀ L B m ((I, oI) :: O) s) (hkind : scope.kind = .function) (hx : scope.names.lookup x = some .local)
    (hd : (x == ("__debug__" : Str)) = false) (hl : ∀ p ∈ ps, TupAt B p.1 p.2) (ht : TestOk w A env scope cl x test B O ps pred) :
    QuietOnC Pg w A env scope cl x [test] (.Name x ex) [I] (fun i v => (ps.map fun p => Value.ref p.1).toArray[i]? = some v) (pv ps pred) (fun v y => y = v) s where
  tests := fun C i v s₃ m₃ E' _ hv hn hm hk _ => by
    have hv' : (ps.map fun p => Value.ref p.1)[i]? = some v := by simpa using hv
    rw [List.getElem?_map] at hv'
    cases e : ps[i]? with
    | none => rw [e] at hv'; cases hv'
    | some p =>
      rw [e] at hv'; cases hv'
      have hp := List.mem_of_getElem? e
      rw [pv_ref hl hp]
      have nI : ∀ q ∈ O, q.1 ∉ [I] := fun q hq => by
        have := (List.pairwise_cons.mp S.dis).1 q hq
        simp only [List.mem_singleton]
        exact Ne.symm this
      refine wpAny_tests_one (ht C s₃ m₃ E' p hp hn hm (fun a o e => hk a o ?_ (S.ok.ext _ _ e)) fun q hq => hk _ _ (nI q hq) (S.own q (.tail _ hq)).1)
      simp only [List.mem_singleton]
      intro q
      rw [q] at e
      rw [(S.own _ (.head _)).2.2.1] at e
      cases e
  elt := fun C i v s₃ m₃ E' _ hv _ hn hm _ _ => by
    refine wpAny_Name (wpAny_loadName_local (by simp [compEnvC, relabel, hkind]) (lookup_relabel_local hx) hn hm ⟨rfl, s₃.heap, s₃.toks, rfl, fun _ _ e => e⟩) hd

theorem vs_eq {ps : List LG} {vs : List Value} (hlen : vs.length = (ps.map fun p => Value.ref p.1).toArray.size) (h : ∀ (j : Nat) (v : Value), vs[j]? = some v → (ps.map fun p => Value.ref p.1).toArray[j]? = some v) : vs = ps.map fun p => Value.ref p.1 := by
  apply List.ext_getElem?
  intro j
  cases e : vs[j]? with
  | some v => have := h j v e; rw [List.getElem?_toArray] at this; exact this.symm
  | none =>
    have h1 := List.getElem?_eq_none_iff.mp e
    simp only [List.size_toArray] at hlen
    exact (List.getElem?_eq_none (by omega)).symm

/-- a new list, everything kept -/
theorem St.madeList (S : St mg B₀ s₀ L B m O s) {I : Nat} {oI : Obj} {D : Nat} {h' : Heap} {tk : Nat} {ys : Array Value} (hI : I = s.heap.objs.size) (hD : (s.heap.push oI).get? D = none) (hp : h'.PlainList D ys)
    (hk : ∀ b o, b ∉ [I] → (s.heap.push oI).get? b = some o → h'.get? b = some o) : ∃ n, St mg B₀ s₀ L B m ((D, { cls := .type "list", data := .seq ys n }) :: O) { s with heap := h', toks := tk } := by
  obtain ⟨n, e⟩ := hp
  have hk' : ∀ a o, s.heap.get? a = some o → h'.get? a = some o := fun a o e => hk a o (by simp only [List.mem_singleton]; rw [hI]; exact ne_lt (.inl (lts e))) (Heap.get?_push_of_some _ e)
  have hDn : s.heap.get? D = none := by
    cases q : s.heap.get? D with
    | none => rfl
    | some o => rw [Heap.get?_push_of_some _ q] at hD; cases hD
  have live : ∀ {a : Nat} {o : Obj}, s.heap.get? a = some o → D ≠ a := fun e q => by rw [q, e] at hDn; cases hDn
  obtain ⟨_, t30, _⟩ := S.ok.t30
  obtain ⟨_, t44, _⟩ := S.ok.t44
  obtain ⟨_, t61, _⟩ := S.ok.t61
  have hT : T3 D := ⟨live t30, live t44, live t61⟩
  refine ⟨n, (S.kept (t := tk) hk').adoptN e ?_ hT ?_ ?_ fun p hp => live (S.own p hp).1⟩
  · cases q : s₀.heap.get? D with
    | none => rfl
    | some o => rw [S.keep D o hT q] at hDn; cases hDn
  · obtain ⟨o, _, _, e, _⟩ := S.ns; exact live e
  · cases q : B.get? D with
    | none => rfl
    | some o => rw [S.ok.ext _ _ q] at hDn; cases hDn

theorem compEval {iter test : Expr} {x : Str} {ex px pos : Pos} {scope : Scope} {cl : List (Str × Addr)} {a : Nat} {ps : List LG} {pred : LG → Bool} {Q : Value → Shared → Prop} (hh : A.handled = none) (S : St mg B₀ s₀ L B m O s)
    (hclos : closureFor scope env = pure cl) (hcell : ∀ y ∈ scope.names, y.2 ≠ .cell) (hkind : scope.kind = .function) (hnames : ∀ y ∈ scope.names, y.2 = .local → scope.names.lookup y.1 = some .local) (hx : scope.names.lookup x = some .local)
    (hd : (x == ("__debug__" : Str)) = false) (hiter : ∀ Q', Q' (.ref a) s → wpAny (Md w) A (eval iter env) Q' E s) (hl : GL B a ps) (hlen : ps.length ≤ 1000)
    (ht : TestOk w A env scope cl x test B O ps pred)
    (h : ∀ (D : Nat) n s', St mg B₀ s₀ L B m ((D, lstO (ps.filter pred) n) :: O) s' → Q (.ref D) s')
    (hs : ∀ x, foldedSetIterable iter env x = pure x := by intro _; rfl) :
    wpAny (Md w) A (eval (.ListComp (.Name x ex) [⟨.Name x px, iter, [test], 0⟩] scope pos) env) Q E s := by
  have hl' : s.heap.IsList a (ps.map fun p => Value.ref p.1).toArray := let ⟨o, e, r⟩ := hl.1; ⟨o, S.ok.ext _ _ e, r⟩
  have hax : a < s.heap.objs.size := let ⟨_, e, _⟩ := hl'; lts e
  refine wpAny_ListComp_free (pv ps pred) (fun v y => y = v) hclos hcell hkind hnames hx (hiter _ (wpAny_pyIter_list hl' ?_)) hs
  have S1 := S.push { cls := .type "list_iterator", data := .fields #[.ref a, .int 0 0] } (t := s.toks)
  refine ⟨s.heap.objs.size, _, _, _, _, _, rfl, Walks.list hh s.heap.objs.size a (ne_lt (.inl hax)) _, by simp [sizeLine_eq]; omega, ⟨⟨_, S1.get (.head _), rfl, rfl⟩, hl'.push _⟩, ?_, quiet_of S1 hkind hx hd hl.2 ht, ?_⟩
  · intro b hb
    simp only [List.mem_cons, List.not_mem_nil, or_false] at hb
    rcases hb with rfl | rfl
    · show s.heap.objs.size < (s.heap.push _).objs.size; rw [Heap.size_push]; exact Nat.lt_succ_self _
    · show b < (s.heap.push _).objs.size; rw [Heap.size_push]; exact Nat.lt_succ_of_lt hax
  · intro D h' tk ys vs hD _ hpl hvl hvP hF hk
    have hvs := vs_eq hvl hvP
    have hys := paired_eq hF
    rw [hvs, filter_map_pv hl.2 ps (fun _ h => h)] at hys
    have hya : ys = ((ps.filter pred).map fun p => Value.ref p.1).toArray := by rw [← hys]
    rw [hya] at hpl
    obtain ⟨n, S2⟩ := S.madeList (tk := tk) rfl hD hpl hk
    exact h D n _ S2

theorem St.setX (x : St mg B₀ s₀ L B m O s) {h' : Heap} {m' : Str → Option Value} {t : Nat} (hn : h'.Ns L m') (hs : Heap.ExtBut L s.heap h') : St mg B₀ s₀ L B m' O { s with heap := h', toks := t } := by
  have hL : T3 L := t3_of_le x.big x.lo
  have tab : ∀ {P q}, P ≠ L → TabOk B s.heap P q → TabOk B h' P q := fun hp y => y.mono (Le.rf _) fun o e => hs _ _ hp e
  refine ⟨let ⟨h, _, e⟩ := x.same; ⟨h', t, by rw [e]⟩, fun a o ht e => ?_, x.le, x.new,
    ⟨fun a o e => hs a o (fun q => by rw [q, x.nL] at e; cases e) (x.ok.ext a o e), x.ok.gl, x.ok.n30, x.ok.n44, x.ok.n61, tab (Ne.symm hL.1) x.ok.t30, tab (Ne.symm hL.2.1) x.ok.t44, tab (Ne.symm hL.2.2) x.ok.t61⟩,
    x.big, x.lo, x.nL, hn, fun p hp => ?_, x.dis⟩
  · have := x.lo; have := lts e
    exact hs a o (ne_lt (by omega)) (x.keep a o ht e)
  · obtain ⟨h1, h2, h3⟩ := x.own p hp
    exact ⟨hs _ _ h2 h1, h2, h3⟩

theorem St.madeListL (S : St mg B₀ s₀ L B m O s) {I : Nat} {oI : Obj} {D : Nat} {h' : Heap} {tk : Nat} {ys : Array Value} {m' : Str → Option Value} (hI : I = s.heap.objs.size) (hD : (s.heap.push oI).get? D = none) (hp : h'.PlainList D ys) (hn : h'.Ns L m')
    (hk : ∀ b o, b ≠ L → b ∉ [I] → (s.heap.push oI).get? b = some o → h'.get? b = some o) : ∃ n, St mg B₀ s₀ L B m' ((D, { cls := .type "list", data := .seq ys n }) :: O) { s with heap := h', toks := tk } := by
  obtain ⟨n, e⟩ := hp
  have hk' : Heap.ExtBut L s.heap h' := fun a o ha e => hk a o ha (by simp only [List.mem_singleton]; rw [hI]; exact ne_lt (.inl (lts e))) (Heap.get?_push_of_some _ e)
  have hDn : s.heap.get? D = none := by
    cases q : s.heap.get? D with
    | none => rfl
    | some o => rw [Heap.get?_push_of_some _ q] at hD; cases hD
  have live : ∀ {a : Nat} {o : Obj}, s.heap.get? a = some o → D ≠ a := fun e q => by rw [q, e] at hDn; cases hDn
  obtain ⟨_, t30, _⟩ := S.ok.t30
  obtain ⟨_, t44, _⟩ := S.ok.t44
  obtain ⟨_, t61, _⟩ := S.ok.t61
  have hT : T3 D := ⟨live t30, live t44, live t61⟩
  refine ⟨n, (S.setX (t := tk) hn hk').adoptN e ?_ hT ?_ ?_ fun p hp => live (S.own p hp).1⟩
  · cases q : s₀.heap.get? D with
    | none => rfl
    | some o => rw [S.keep D o hT q] at hDn; cases hDn
  · obtain ⟨o, _, _, e, _⟩ := S.ns; exact live e
  · cases q : B.get? D with
    | none => rfl
    | some o => rw [S.ok.ext _ _ q] at hDn; cases hDn

theorem compAssign {iter test : Expr} {x y : Str} {ex px py pos spos : Pos} {scope : Scope} {cl : List (Str × Addr)} {a : Nat} {ps : List LG} {pred : LG → Bool} {Q : Flow → Shared → Prop} (hh : A.handled = none) (S : St mg B₀ s₀ L B m O s) (ev : Ev env L)
    (hsw : swapsWith (.ListComp (.Name x ex) [⟨.Name x px, iter, [test], 0⟩] scope pos) (some (.Name y py)) spos.line env = pure true)
    (hclos : closureFor scope env = pure cl) (hcell : ∀ y ∈ scope.names, y.2 ≠ .cell) (hkind : scope.kind = .function) (hnames : ∀ y ∈ scope.names, y.2 = .local → scope.names.lookup y.1 = some .local) (hx : scope.names.lookup x = some .local)
    (hd : (x == ("__debug__" : Str)) = false) (hy : env.kindOf y = some .local) (hiter : ∀ Q', Q' (.ref a) s → wpAny (Md w) A (eval iter env) Q' E s) (hl : GL B a ps) (hlen : ps.length ≤ 1000)
    (ht : TestOk w A env scope cl x test B O ps pred)
    (h : ∀ (D : Nat) n s', St mg B₀ s₀ L B (fun z => if z = y then some (.ref D) else m z) ((D, lstO (ps.filter pred) n) :: O) s' → Q .next s')
    (hs : ∀ x, foldedSetIterable iter env x = pure x := by intro _; rfl) :
    wpAny (Md w) A (exec (.Assign [.Name y py] (.ListComp (.Name x ex) [⟨.Name x px, iter, [test], 0⟩] scope pos) spos) env) Q E s := by
  have hl' : s.heap.IsList a (ps.map fun p => Value.ref p.1).toArray := let ⟨o, e, r⟩ := hl.1; ⟨o, S.ok.ext _ _ e, r⟩
  have hax : a < s.heap.objs.size := let ⟨_, e, _⟩ := hl'; lts e
  refine wpAny_Assign_ListComp_free (pv ps pred) (fun v y => y = v) hsw hclos hcell hkind hnames hx hy ev.hp (hiter _ (wpAny_pyIter_list hl' ?_)) hs
  have S1 := S.push { cls := .type "list_iterator", data := .fields #[.ref a, .int 0 0] } (t := s.toks)
  have hne : L ≠ s.heap.objs.size := ne_lt (.inl S.ltL)
  refine ⟨s.heap.objs.size, _, _, _, _, _, m, rfl, Walks.list hh s.heap.objs.size a (ne_lt (.inl hax)) _, by simp [sizeLine_eq]; omega, ⟨⟨_, S1.get (.head _), rfl, rfl⟩, hl'.push _⟩, ?_, ?_, ?_, quiet_of S1 hkind hx hd hl.2 ht, ?_⟩
  · intro b hb
    simp only [List.mem_cons, List.not_mem_nil, or_false] at hb
    rcases hb with rfl | rfl
    · show s.heap.objs.size < (s.heap.push _).objs.size; rw [Heap.size_push]; exact Nat.lt_succ_self _
    · show b < (s.heap.push _).objs.size; rw [Heap.size_push]; exact Nat.lt_succ_of_lt hax
  · rw [ev.loc]; simpa using hne
  · rw [ev.loc]; exact S1.ns
  · intro D h' tk ys vs hD _ hpl hvl hvP hF hn hk
    have hvs := vs_eq hvl hvP
    have hys := paired_eq hF
    rw [hvs, filter_map_pv hl.2 ps (fun _ h => h)] at hys
    have hya : ys = ((ps.filter pred).map fun p => Value.ref p.1).toArray := by rw [← hys]
    rw [hya] at hpl
    rw [ev.loc] at hn hk
    obtain ⟨n, S2⟩ := S.madeListL (tk := tk) rfl hD hpl hn hk
    exact h D n _ S2
end
end Mine

namespace Mine

def hbStep (ps : List LG) (st : List LG × Int) (hour : Nat) : List LG × Int := match ps.filter (fun p => decide (p.2.1 = (hour : Int))) with
  | [] => st
  | p :: _ => if st.2 ≤ (hour : Int) then (st.1 ++ [p], p.2.2.1) else st
def hbh (ps : List LG) : List LG := ((List.range 12).foldl (hbStep ps) ([], 0)).1

section
variable {mg : Str → Option Value} {B₀ B : Heap} {s₀ s : Shared} {L : Nat} {m : Str → Option Value} {O O' : List (Nat × Obj)} {w : World} {A : Around} {env : Env} {E : Value → Shared → Prop}

theorem St.perm (x : St mg B₀ s₀ L B m O s) (h : O.Perm O') : St mg B₀ s₀ L B m O' s :=
  { x with own := fun p hp => x.own p (h.mem_iff.mpr hp), dis := (h.pairwise_iff (fun h => Ne.symm h)).mp x.dis }

theorem sub0R {value : Expr} {pos p0 : Pos} {k0 : Nat} {t : Nat} {g : G} {Q : Value → Shared → Prop} (hv : ∀ Q', Q' (.ref t) s → wpAny (Md w) A (eval value env) Q' E s) (ht : TupAt s.heap t g)
    (h : ∀ u t', Q (.int g.1 u) { s with toks := t' }) : wpAny (Md w) A (eval (.Subscript value (.Constant (.int 0) k0 p0) pos) env) Q E s := by
  obtain ⟨u1, u2, u3, n, e⟩ := ht
  refine Subscript_ (hv _ (wpAny_Constant_int ?_))
  exact item_tupleT (l := [.int g.1 u1, .int g.2.1 u2, .int g.2.2 u3]) ⟨_, e, rfl, n, rfl⟩ (by decide) (by decide) (j := 0) rfl rfl (h u1 _)
theorem sub1R {value : Expr} {pos p0 : Pos} {k0 : Nat} {t : Nat} {g : G} {Q : Value → Shared → Prop} (hv : ∀ Q', Q' (.ref t) s → wpAny (Md w) A (eval value env) Q' E s) (ht : TupAt s.heap t g)
    (h : ∀ u t', Q (.int g.2.1 u) { s with toks := t' }) : wpAny (Md w) A (eval (.Subscript value (.Constant (.int 1) k0 p0) pos) env) Q E s := by
  obtain ⟨u1, u2, u3, n, e⟩ := ht
  refine Subscript_ (hv _ (wpAny_Constant_int ?_))
  exact item_tupleT (l := [.int g.1 u1, .int g.2.1 u2, .int g.2.2 u3]) ⟨_, e, rfl, n, rfl⟩ (by decide) (by decide) (j := 1) rfl rfl (h u2 _)

theorem truthyL {a : Nat} {ps : List LG} {Q : Bool → Shared → Prop} (S : St mg B₀ s₀ L B m O s) (hl : GL B a ps) (hlen : ps.length ≤ 1000) (h : ∀ s', St mg B₀ s₀ L B m O s' → Q (!ps.isEmpty) s') : wpAny (Md w) A (truthy (.ref a)) Q E s := by
  have hl' : s.heap.IsList a (ps.map fun p => Value.ref p.1).toArray := let ⟨o, e, r⟩ := hl.1; ⟨o, S.ok.ext _ _ e, r⟩
  refine wpAny_truthy_list hl' (by simp; omega) ?_
  have : (ps.map fun p => Value.ref p.1).toArray.isEmpty = ps.isEmpty := by cases ps <;> simp
  rw [this]
  exact h _ (S.tok _)

/-- xs[0] of a list of guests -/
theorem item0 {value : Expr} {pos p0 : Pos} {k0 : Nat} {a : Nat} {p : LG} {ps : List LG} {Q : Value → Shared → Prop} (S : St mg B₀ s₀ L B m O s) (hv : ∀ Q', Q' (.ref a) s → wpAny (Md w) A (eval value env) Q' E s) (hl : GL B a (p :: ps))
    (h : ∀ s', St mg B₀ s₀ L B m O s' → Q (.ref p.1) s') : wpAny (Md w) A (eval (.Subscript value (.Constant (.int 0) k0 p0) pos) env) Q E s := by
  refine Subscript_ (hv _ (constI S fun t' s' S' => ?_))
  have hl' : s'.heap.IsList a ((p :: ps).map fun p => Value.ref p.1).toArray := let ⟨o, e, r⟩ := hl.1; ⟨o, S'.ok.ext _ _ e, r⟩
  exact tail_any hl'.typeIs slot_list_getitem.lookup (wpAny_getItem_list hl' (by decide) (by decide) rfl (h s' S')) rfl
end

section
variable {mg : Str → Option Value} {B : Heap} {s : Shared} {w : World} {A : Around}

theorem hbh_spec {a : Nat} {ps : List LG} (r : Rm A 6) (ok : Ok mg B s.heap) (hl : GL B a ps) (hlen : ps.length ≤ 100) :
    wpAny (Md w) A (call (.ref 54) [.ref a]) (fun v s' => ∃ B' ra, v = .ref ra ∧ Stp mg B s B' s' ∧ GL B' ra (hbh ps)) NE s := by
  obtain ⟨pm, hf⟩ := ok.gl.f54
  refine enterDef (binds := [("guests", .ref a)]) r ok hf ok.gl.c53 (by kernel_rfl) (by intro x hx; simp only [List.mem_cons, List.not_mem_nil, or_false] at hx; subst hx; exact .inl (by kernel_rfl)) fun s₁ S x => ?_
  have r := r.deeper (env := callEnvC (fdOf 8 53 pm) s.heap.objs.size 54)
  generalize hL : s.heap.objs.size = L at *
  generalize hE : callEnvC (fdOf 8 53 pm) L 54 = env at *
  generalize A.deeper env = A' at *
  have e : Ev env L := by rw [← hE]; exact ⟨rfl, rfl, rfl, rfl⟩
  have hcells : env.cells = [(Str.ofString "hour", L + 1)] := by rw [← hE]; rfl
  have k1 : env.kindOf "guests" = some .local := by rw [← hE]; rfl
  have k2 : env.kindOf "taken" = some .local := by rw [← hE]; rfl
  have k3 : env.kindOf "free" = some .local := by rw [← hE]; rfl
  have k4 : env.kindOf "hour" = some .cell := by rw [← hE]; rfl
  have k5 : env.kindOf "coming" = some .local := by rw [← hE]; rfl
  have k6 : env.kindOf "range" = some .globalImplicit := by rw [← hE]; rfl
  obtain ⟨oc, hoc, hocd⟩ := x.cell "hour" (L + 1) (by rw [hcells]; rfl)
  have m1 : bindL env.kindOf [(Str.ofString "guests", Value.ref a)] (fun _ => none) "guests" = some (.ref a) := by simp [bindL, k1]
  clear x
  generalize bindC env.kindOf [(Str.ofString "guests", Value.ref a)] (fun _ => none) "hour" = v0 at *
  generalize bindL env.kindOf [(Str.ofString "guests", Value.ref a)] (fun _ => none) = m0 at *
  have S := S.adopt (a := L + 1) hoc (by omega) (by show L + 1 ≠ L; omega) (by
    cases q : B.get? (L + 1) with
    | none => rfl
    | some o => exact absurd (lts (ok.ext _ _ q)) (by omega)) (by intro p hp; cases hp)
  -- taken, free = ([], 0)
  refine wpAny_execs_cons (assignSwapG (names := ["taken", "free"]) rfl (by rw [← hE]; kernel_rfl) (Tuple_ (Calls.spliced_cons (List_ (Calls.spliced_nil (newListR S (by decide) ?_))))))
  intro ta s₆ S
  refine Calls.spliced_cons (constI (k := 0) (pos := ⟨51, 23, 51, 24⟩) S fun u s₇ S => Calls.spliced_nil (newTupR S (by show 2 ≤ 1000; decide) ?_))
  intro tt s₈ S
  refine storePair r.hd S e k2 k3 ⟨_, S.get (.head _), rfl, _, rfl⟩ fun s₉ S => ?_
  have S := S.drop
  -- for hour in range(12)
  refine wpAny_execs_cons (for_range (n := 12) r.hd (rangeCall S e k6 rfl (by decide) (constI S fun t s' S => ⟨⟨t, rfl⟩, S⟩))
    (fun i B' m' O' => ∃ (n : Nat) (oc : Obj) (v0 : Option Value) (taken : List LG) (free : Int) (tf : Tok), O' = [(ta, lstO taken n), (L + 1, oc)] ∧ oc.data = .cell v0 ∧ (List.range i).foldl (hbStep ps) ([], 0) = (taken, free) ∧
      m' "taken" = some (.ref ta) ∧ m' "free" = some (.int free tf) ∧ m' "guests" = some (.ref a) ∧ (∀ p ∈ taken, p ∈ ps) ∧ taken.length ≤ i) ?_ ?_ ?_)
  · refine ⟨0, oc, v0, [], 0, u, rfl, hocd, rfl, ?_, ?_, ?_, fun p hp => absurd hp List.not_mem_nil, Nat.le_refl _⟩
    · rfl
    · rfl
    · exact m1
  · clear S hoc hocd
    intro i tk B' m' O' I oI s' hi le hJ S
    obtain ⟨n, oc, v0, taken, free, tf, rfl, hoc, j1, j2, j3, j4, j5, j6⟩ := hJ
    -- the hour
    have S := S.perm (List.perm_append_comm (l₁ := [(I, oI), (ta, lstO taken n)]) (l₂ := [(L + 1, oc)]))
    refine wpAny_assign_Name (storeC S e k4 (by rw [hcells]; rfl) hoc fun s₂ oc hoc S => ?_)
    -- coming = [guest for guest in guests if guest[0] == hour]
    refine wpAny_execs_cons (compAssign (pred := fun p => decide (p.2.1 = (i : Int))) (cl := [(Str.ofString "hour", L + 1)]) r.hd S e (by rw [← hE]; kernel_rfl) (by simp [closureFor, cellOf, hcells]) (by decide) rfl (by decide) rfl rfl k5 (fun Q' h => nameL S e k1 j4 h) (hl.keeps le) (by omega) ?_ ?_)
    · intro C s₃ m₃ E' p hp hn hm hB hO
      refine wpAny_isTrue_Compare1 (sub0R (fun Q' h => wpAny_Name (wpAny_loadName_local (by rw [← hE]; rfl) (by rw [← hE]; rfl) hn hm h)) ((hl.2 p hp).keeps (Le.tr le hB)) fun u t' => wpAny_Name (wpAny_loadName_cell (c := L + 1) (by rw [← hE]; rfl) (by rw [← hE]; rfl) rfl ⟨oc, hO (L + 1, oc) (.head _), hoc⟩ (P.eq_int (wpAny_truthy_bool ⟨?_, _, _, rfl, fun _ _ e => e⟩))))
      by_cases h : p.2.1 = (i : Int) <;> simp [h]
    intro D n2 s₃ S
    obtain ⟨B4, le4, b4, S⟩ := S.freeze
    have hcom : GL B4 D (ps.filter fun p => decide (p.2.1 = (i : Int))) := ⟨⟨_, b4, rfl, n2, rfl⟩, fun p hp => (hl.2 p (List.mem_filter.mp hp).1).keeps (Le.tr le le4)⟩
    have hclen : (ps.filter fun p => decide (p.2.1 = (i : Int))).length ≤ 100 := Nat.le_trans (List.length_filter_le _ _) hlen
    have j1' : (List.range (i + 1)).foldl (hbStep ps) ([], 0) = hbStep ps (taken, free) i := by rw [List.range_succ, List.foldl_append, j1]; rfl
    -- if coming and hour >= free
    refine wpAny_execs_cons (wpAny_If (wpAny_isTrue_BoolOp (wpAny_allTrue_And_cons (wpAny_isTrue_value (nameL S e k5 rfl (truthyL S hcom (by omega) fun s₄ S => ?_))))))
    have skip : hbStep ps (taken, free) i = (taken, free) → ∀ s₅, St mg B s L B4 (fun z => if z = "coming" then some (.ref D) else m' z) [(L + 1, oc), (I, oI), (ta, lstO taken n)] s₅ →
        ∃ B'' m'' O'', Le B' B'' ∧ (∃ (n : Nat) (oc : Obj) (v0 : Option Value) (taken : List LG) (free : Int) (tf : Tok), O'' = [(ta, lstO taken n), (L + 1, oc)] ∧ oc.data = .cell v0 ∧ (List.range (i + 1)).foldl (hbStep ps) ([], 0) = (taken, free) ∧
          m'' "taken" = some (.ref ta) ∧ m'' "free" = some (.int free tf) ∧ m'' "guests" = some (.ref a) ∧ (∀ p ∈ taken, p ∈ ps) ∧ taken.length ≤ i + 1) ∧ St mg B s L B'' m'' ((I, oI) :: O'') s₅ := by
      intro hsk s₅ S
      have S := S.perm (List.perm_append_comm (l₁ := [(L + 1, oc)]) (l₂ := [(I, oI), (ta, lstO taken n)]))
      refine ⟨B4, _, _, le4, ⟨n, oc, _, taken, free, tf, rfl, hoc, by rw [j1', hsk], ?_, ?_, ?_, j5, by omega⟩, S⟩
      · exact j2
      · exact j3
      · exact j4
    cases hc : ps.filter (fun p => decide (p.2.1 = (i : Int))) with
    | nil =>
      simp only [List.isEmpty_nil, Bool.not_true, Bool.false_eq_true, if_false]
      exact wpAny_execs_nil (wpAny_execs_nil (skip (by simp [hbStep, hc]) _ S))
    | cons p rest =>
      simp only [List.isEmpty_cons, Bool.not_false, if_true]
      rw [hc] at hcom
      have hpin : p ∈ ps := (List.mem_filter.mp (hc ▸ List.mem_cons_self)).1
      refine wpAny_allTrue_And_cons (wpAny_isTrue_Compare1 (nameC (c := L + 1) e k4 (by rw [hcells]; rfl) ⟨oc, S.get (.head _), hoc⟩ (nameL S e k3 j3 (P.ge_int (wpAny_truthy_bool ?_)))))
      by_cases hfr : (i : Int) ≥ free
      · simp only [hfr, decide_true, if_true]
        refine wpAny_allTrue_And_nil ?_
        simp only [if_true]
        -- taken.append(coming[0])
        have S := S.perm (List.perm_append_comm (l₁ := [(L + 1, oc), (I, oI)]) (l₂ := [(ta, lstO taken n)]))
        refine wpAny_execs_cons (wpAny_Expr (appendCall S rfl rfl (fun Q' h => nameL S e k2 j2 h) (by simp; omega) (fun Q' h => item0 S (fun Q'' h' => nameL S e k5 rfl h') hcom h) fun s₅ n' S => ?_) (by rw [← hE]; rfl) (by rw [← hE]; rfl))
        -- free = coming[0][1]
        refine wpAny_execs_cons (wpAny_Assign_Name (Subscript_ (item0 S (fun Q'' h' => nameL S e k5 rfl h') hcom fun s₆ S => constI S fun t s₇ S => ?_)))
        obtain ⟨u1, u2, u3, nt, et⟩ := hcom.2 p (.head _)
        refine item_tupleT (l := [.int p.2.1 u1, .int p.2.2.1 u2, .int p.2.2.2 u3]) ⟨_, S.ok.ext _ _ et, rfl, nt, rfl⟩ (by decide) (by decide) (j := 1) rfl rfl (storeL S e k3 fun s₈ S => ?_)
        refine wpAny_execs_nil (wpAny_execs_nil ?_)
        have S := S.perm (List.perm_append_comm (l₁ := [(ta, _), (L + 1, oc)]) (l₂ := [(I, oI)]))
        refine ⟨B4, _, _, le4, ⟨n', oc, _, taken ++ [p], p.2.2.1, u2, ?_, hoc, ?_, ?_, ?_, ?_, ?_, by simp; omega⟩, S⟩
        · simp [lstO]
        · rw [j1']; simp [hbStep, hc, hfr]
        · exact j2
        · rfl
        · exact j4
        · intro q hq
          rcases List.mem_append.mp hq with h | h
          · exact j5 q h
          · rw [List.mem_singleton.mp h]; exact hpin
      · simp only [hfr, decide_false, Bool.false_eq_true, if_false]
        exact wpAny_execs_nil (wpAny_execs_nil (skip (by simp [hbStep, hc]; omega) _ S))
  · intro B' m' O' s' le hJ S
    obtain ⟨n, oc, v0, taken, free, tf, rfl, hoc, j1, j2, j3, j4, j5, j6⟩ := hJ
    refine wpAny_execs_cons (wpAny_Return_some (nameL S e k2 j2 ?_))
    obtain ⟨B9, le9, b9, S⟩ := S.freeze
    have : hbh ps = taken := by unfold hbh; rw [j1]
    rw [this]
    exact ⟨B9, ta, rfl, S.end_, ⟨_, b9, rfl, n, rfl⟩, fun p hp => (hl.2 p (j5 p hp)).keeps (Le.tr le le9)⟩
end
end Mine

namespace Mine

def here (h : Nat) (p : LG) : Bool := decide (p.2.1 ≤ (h : Int)) && decide ((h : Int) < p.2.2.1)
def depth (ps : List LG) (h : Nat) : Nat := (ps.filter (here h)).length
def IsMost (ps : List LG) (M : Int) : Prop := (∃ h, h < 12 ∧ M = depth ps h) ∧ ∀ h, h < 12 → (depth ps h : Int) ≤ M

section
variable {mg : Str → Option Value} {B₀ B : Heap} {s₀ s : Shared} {L L2 : Nat} {m : Str → Option Value} {O O' : List (Nat × Obj)} {w : World} {A : Around} {env : Env} {E : Value → Shared → Prop}

theorem storeC2 {x : Str} {v : Value} {c : Nat} {o : Obj} {v0 : Option Value} {Q : Unit → Shared → Prop} (S : St mg B₀ s₀ L B m ((c, o) :: O) s) (e : Ev env L2) (hl : env.kindOf x = some .cell) (hc : env.cells.lookup x = some c) (ho : o.data = .cell v0)
    (h : ∀ s' o', o'.data = .cell (some v) → St mg B₀ s₀ L B m ((c, o') :: O) s' → Q () s') : wpAny (Md w) A (storeName env x v) Q E s := by
  refine wpAny_storeName_cell e.kin hl hc ⟨o, S.get (.head _), ho⟩ fun h' hn hs => ?_
  obtain ⟨o', e1, e2⟩ := hn
  exact h _ o' e2 (S.upd e1 hs.extBut (t := s.toks))
theorem callB2 {x : Str} {id : String} {np pos : Pos} {e1 : Expr} {mb : Str → Option Value} {Q : Value → Shared → Prop} (ok : Ok mg B s.heap) (e : Ev env L2) (hl : env.kindOf x = some .globalImplicit) (hm : mg x = none) (hb : B.Ns 0 mb) (hv : mb x = some (.builtin id))
    (hs : backTo pos (starEach [e1] env) = [(false, eval e1 env)])
    (h : wpAny (Md w) A (eval e1 env) (fun v s' => wpAny (Md w) A (call (.builtin id) [v]) Q E s') E s) (hd : (x == ("__debug__" : Str)) = false := by decide) :
    wpAny (Md w) A (eval (.Call (.Name x np) [e1] [] pos) env) Q E s := by
  refine wpAny_Call_NameR (nameB ok e hl hm hb hv ?_ hd)
  rw [hs]
  exact Calls.callWith_builtin rfl (Calls.evalArgs_plain (Calls.spliced_cons (wpAny_mono h (fun v s' h' => Calls.spliced_nil h') fun _ _ q => q)))

theorem newCompEnv {scope : Scope} {globals : Addr} {cl : List (Str × Addr)} {qual : Str} {Q : Env → Shared → Prop}
    (h : Q (newEnv scope s.heap.objs.size globals (cellsFrom (s.heap.objs.size + 1) scope.names cl) qual none .none (some env) builtinsNs) { s with heap := pushCells (s.heap.push { cls := .type "dict", data := .dict #[] }) scope.names }) :
    wpAny (Md w) A (newFunctionEnv scope globals cl [] qual none .none (some env)) Q E s := by
  simp only [newFunctionEnv, Option.isSome_some, if_true]
  refine wpAny_bind (wpAny_alloc ?_)
  refine wpAny_bind (wpAny_layCells _ (fun name kind cells => by cases hkc : kind == NameKind.cell <;> simp [hkc]) _ _ _ _ ?_)
  rw [show ({ s with heap := s.heap.push { cls := .type "dict", data := .dict #[] } } : Shared).heap.objs.size = s.heap.objs.size + 1 from Heap.size_push ..]
  rw [List.forIn_nil]
  exact wpAny_bind (wpAny_pure (wpAny_pure h))

theorem maxInts {l : Nat} {xs : Array (Int × Tok)} {n : Nat} {Q : Value → Shared → Prop} (hh : A.handled = none) (S : St mg B₀ s₀ L B m ((l, { cls := .type "list", data := .seq (intItems xs) n }) :: O) s) (hne : 0 < xs.size)
    (h : ∀ s' k t, k < xs.size → (∀ j, j < xs.size → numAt xs j ≤ numAt xs k) → St mg B₀ s₀ L B m ((l, { cls := .type "list", data := .seq (intItems xs) n }) :: O) s' → Q (.int (numAt xs k) t) s') :
    wpAny (Md w) A (call (.builtin "max") [.ref l]) Q E s := by
  refine max_intList hh ⟨_, S.get (.head _), rfl, n, rfl⟩ hne fun v h' tk hv hk => ?_
  obtain ⟨t, rfl⟩ := intItems_at hv
  obtain ⟨h1, h2⟩ := argBest_gt (numAt xs) (xs.size - 1)
  exact h _ _ t (by omega) (fun j hj => h2 j (by omega)) (S.kept (t := tk) hk)
end

def mostE : Expr := match (dfn 9).2.2.1 with
  | [.Return (some (.Call _ [e] _ _)) _] => e
  | _ => .Constant .none 0 ⟨0, 0, 0, 0⟩
def mostSc : Scope := match mostE with
  | .ListComp _ _ sc _ => sc
  | _ => ⟨.function, [], false, false, []⟩

section
variable {mg : Str → Option Value} {B₀ B : Heap} {s₀ s : Shared} {L : Nat} {m : Str → Option Value} {w : World} {A : Around} {env : Env}

theorem most_loop {a : Nat} {ps : List LG} {I acc C gc : Nat} {oI oC oH og : Obj} {vH : Option Value} {pm : Value} {R : Result → Shared → Prop} (r : Rm A 1) (hE : callEnvC (fdOf 9 58 pm) L 59 = env) (cenv : Env)
    (hC : cenv = { scope := relabel mostSc env, locals := C, globals := env.globals, cells := [(Str.ofString "hour", C + 1), (Str.ofString "guests", gc)], qual := env.qual, func := none, code := env.code, frame := env.frame, builtins := env.builtins })
    (S : St mg B₀ s₀ L B m [(I, oI), (acc, { cls := .type "list", data := .seq #[] }), (C + 1, oH), (C, oC), (gc, og)] s) (hst : IsRangeIter s.heap I 0 12 1) (hH : oH.data = .cell vH) (hg : og.data = .cell (some (.ref a))) (hl : GL B a ps) (hlen : ps.length ≤ 100)
    (h : ∀ B' oH s' xs n, Le B B' → St mg B₀ s₀ L B' m [(acc, { cls := .type "list", data := .seq (intItems xs) n }), (C + 1, oH), (C, oC), (gc, og)] s' → xs.toList.map (·.1) = (List.range 12).map (fun k => (depth ps k : Int)) → R (.ok .next) s') :
    codeAny (Md w) A (.compLoop mostE 0 (.ref I) (.ref acc) cenv) R s := by
  have e : Ev cenv C := by rw [hC, ← hE]; exact ⟨rfl, rfl, rfl, rfl⟩
  have k1 : cenv.kindOf "hour" = some .cell := by rw [hC, ← hE]; rfl
  have k2 : cenv.kindOf "len" = some .globalImplicit := by rw [hC, ← hE]; rfl
  have k3 : cenv.kindOf "guests" = some .cell := by rw [hC, ← hE]; rfl
  have c1 : cenv.cells.lookup (Str.ofString "hour") = some (C + 1) := by rw [hC]; rfl
  have c2 : cenv.cells.lookup (Str.ofString "guests") = some gc := by rw [hC]; rfl
  have W := Walks.range (prog := Pg) (w := w) r.hd I 0 1 12
  refine codeAny_compLoop_list (fun k s' => ∃ (i : Nat) (B' : Heap) (oI oH : Obj) (vH : Option Value) (xs : Array (Int × Tok)) (n : Nat), k = 12 + 1 - i ∧ i ≤ 12 ∧ Le B B' ∧ St mg B₀ s₀ L B' m [(I, oI), (acc, { cls := .type "list", data := .seq (intItems xs) n }), (C + 1, oH), (C, oC), (gc, og)] s' ∧
      IsRangeIter s'.heap I (0 + (i : Nat) * 1) (((12 : Nat) : Int) - (i : Nat)) 1 ∧ oH.data = .cell vH ∧ xs.toList.map (·.1) = (List.range i).map (fun k => (depth ps k : Int))) ?_ 13
    ⟨0, B, oI, oH, vH, #[], 0, rfl, Nat.zero_le _, Le.rf _, by simpa [intItems] using S, by simpa using hst, hH, rfl⟩
  rintro k s' ⟨i, B', oI, oH, vH, xs, n, rfl, hi, le, S, hst, hH, hxs⟩
  by_cases hlt : i < 12
  · refine W.item i s' _ _ hlt hst fun v h' tk hP hst' hk => ?_
    obtain ⟨tv, rfl⟩ := hP
    rw [show (0 : Int) + (i : Int) * 1 = i by omega]
    obtain ⟨oI2, hoI2, hkeep⟩ : ∃ o, h'.get? I = some o ∧ ∀ h2 : Heap, h2.get? I = some o → IsRangeIter h2 I (0 + ((i + 1 : Nat) : Int) * 1) (((12 : Nat) : Int) - ((i + 1 : Nat) : Int)) 1 := ⟨_, hst', fun _ e => e⟩
    have S := S.upd hoI2 (t := tk) fun b o hb e => hk b o (by simpa using hb) e
    have S := S.perm (List.perm_append_comm (l₁ := [(I, _), (acc, _)]) (l₂ := [(C + 1, oH), (C, oC), (gc, og)]))
    refine wpAny_assign_Name (storeC2 S e k1 c1 hH fun s₂ oH hH S => ?_)
    obtain ⟨mb, hb, _, hblen, _⟩ := S.ok.gl.b
    refine callB2 S.ok e k2 S.ok.gl.nlen hb hblen rfl ?_
    refine compEval (pred := here i) (cl := [(Str.ofString "hour", C + 1)]) r.hd S (by simp [closureFor, cellOf, c1]) (by decide) rfl (by decide) rfl rfl (fun Q' h => nameC (c := gc) e k3 c2 ⟨og, S.get (.tail _ (.tail _ (.head _))), hg⟩ h) (hl.keeps le) (by omega) ?_ ?_
    · intro C' s₃ m₃ E' p hp hn hm hB hO
      have hT := (hl.2 p hp).keeps (Le.tr le hB)
      refine isTrue_chain (sub0R (fun Q' h => wpAny_Name (wpAny_loadName_local (by rw [hC, ← hE]; rfl) (by rw [hC, ← hE]; rfl) hn hm h)) hT fun u t' => ?_)
      refine test_link (wpAny_Name (wpAny_loadName_cell (c := C + 1) (by rw [hC, ← hE]; rfl) (by rw [hC, ← hE]; rfl) rfl ⟨oH, hO (C + 1, oH) (.head _), hH⟩ (P.le_int (wpAny_truthy_bool ?_))))
      by_cases h1 : p.2.1 ≤ (i : Int)
      · simp only [h1, decide_true, if_true]
        refine test_last (sub1R (fun Q' h => wpAny_Name (wpAny_loadName_local (by rw [hC, ← hE]; rfl) (by rw [hC, ← hE]; rfl) hn hm h)) hT fun u t' => P.lt_int (wpAny_truthy_bool ⟨?_, _, _, rfl, fun _ _ e => e⟩))
        simp [here, h1]
      · simp only [h1, decide_false, Bool.false_eq_true, if_false]
        exact ⟨by simp [here, h1], _, _, rfl, fun _ _ e => e⟩
    · intro D n2 s₃ S
      obtain ⟨B4, le4, b4, S⟩ := S.freeze
      have hcom : GL B4 D (ps.filter (here i)) := ⟨⟨_, b4, rfl, n2, rfl⟩, fun p hp => (hl.2 p (List.mem_filter.mp hp).1).keeps (Le.tr le le4)⟩
      refine lenL S hcom (Nat.le_trans (List.length_filter_le _ _) (by omega)) fun t s₄ S => ?_
      have S := S.perm (List.perm_append_comm (l₁ := [(C + 1, oH), (C, oC), (gc, og), (I, _)]) (l₂ := [(acc, _)]))
      have hxl : xs.size = i := by
        have := congrArg List.length hxs
        simpa using this
      refine wpAny_list_append_plain ⟨n, S.get (.head _)⟩ (fun h' hp hsb => ?_) (by rw [sizeLine_eq]; simp [intItems]; omega)
      obtain ⟨n', e'⟩ := hp
      have S := S.upd e' hsb.extBut (t := s₄.toks)
      have hst2 := S.get (.tail _ (.tail _ (.tail _ (.tail _ (.head _)))))
      refine ⟨12 + 1 - (i + 1), by omega, i + 1, B4, oI2, oH, _, xs.push ((ps.filter (here i)).length, t), n', rfl, hlt, Le.tr le le4, ?_, ?_, hH, ?_⟩
      · have S := S.perm (List.perm_append_comm (l₁ := [(acc, _), (C + 1, oH), (C, oC), (gc, og)]) (l₂ := [(I, _)]))
        have hi : intItems (xs.push (((ps.filter (here i)).length : Int), t)) = (intItems xs).push (.int ((ps.filter (here i)).length : Int) t) := by simp [intItems]
        rw [hi]
        exact S
      · exact hkeep _ hst2
      · rw [Array.toList_push, List.map_append, hxs, List.range_succ, List.map_append]; rfl
  · have hin : i = 12 := by omega
    subst hin
    refine W.done s' _ _ hst fun h' tk hk => ?_
    exact h B' oH _ xs n le (S.lose (t := tk) fun b o hb e => hk b o (by simpa using hb) e) hxs
end

section
variable {mg : Str → Option Value} {B : Heap} {s : Shared} {w : World} {A : Around}

theorem most_spec {a : Nat} {ps : List LG} (r : Rm A 6) (ok : Ok mg B s.heap) (hl : GL B a ps) (hlen : ps.length ≤ 100) :
    wpAny (Md w) A (call (.ref 59) [.ref a]) (fun v s' => ∃ B' M t, v = .int M t ∧ Stp mg B s B' s' ∧ IsMost ps M) NE s := by
  obtain ⟨pm, hf⟩ := ok.gl.f59
  refine enterDef (binds := [("guests", .ref a)]) r ok hf ok.gl.c58 (by kernel_rfl) (by intro x hx; simp only [List.mem_cons, List.not_mem_nil, or_false] at hx; subst hx; exact .inr ⟨by kernel_rfl, by rfl⟩) fun s₁ S x => ?_
  have r := r.deeper (env := callEnvC (fdOf 9 58 pm) s.heap.objs.size 59)
  generalize hL : s.heap.objs.size = L at *
  generalize hE : callEnvC (fdOf 9 58 pm) L 59 = env at *
  generalize A.deeper env = A' at *
  have e : Ev env L := by rw [← hE]; exact ⟨rfl, rfl, rfl, rfl⟩
  have hcells : env.cells = [(Str.ofString "guests", L + 1)] := by rw [← hE]; rfl
  have k1 : env.kindOf "guests" = some .cell := by rw [← hE]; rfl
  have k2 : env.kindOf "max" = some .globalImplicit := by rw [← hE]; rfl
  have k6 : env.kindOf "range" = some .globalImplicit := by rw [← hE]; rfl
  obtain ⟨oc, hoc, hocd⟩ := x.cell "guests" (L + 1) (by rw [hcells]; rfl)
  have hcv : bindC env.kindOf [(Str.ofString "guests", Value.ref a)] (fun _ => none) "guests" = some (.ref a) := by simp [bindC, k1]
  rw [hcv] at hocd
  clear x hcv
  generalize bindL env.kindOf [(Str.ofString "guests", Value.ref a)] (fun _ => none) = m0 at *
  have S := S.adopt (a := L + 1) hoc (by omega) (by show L + 1 ≠ L; omega) (by
    cases q : B.get? (L + 1) with
    | none => rfl
    | some o => exact absurd (lts (ok.ext _ _ q)) (by omega)) (by intro p hp; cases hp)
  obtain ⟨mb, hb, _, hblen, _, hbmax⟩ := S.ok.gl.b
  refine wpAny_execs_cons (wpAny_Return_some (callB S e k2 S.ok.gl.nmax hb hbmax rfl ?_))
  rw [eval_ListComp]
  refine wpAny_comprehension_free (use := none) (cl := [(Str.ofString "guests", L + 1)]) rfl (by intro _; rfl) (by simp [closureFor, cellOf, hcells]) rfl (by decide) ?_
  refine wpAny_mono (rangeCall (n := 12) S e k6 rfl (by decide) (constI S fun t s' S => ⟨⟨t, rfl⟩, S⟩)) (fun x s₂ h => ?_) fun _ _ q => q
  obtain ⟨rr, t, u, v, rfl, hr, hn, S⟩ := h
  refine wpAny_pyIter_range hr (small_one (by decide) (by decide) (by omega) (by omega)) ?_
  have hsz : Builtin.Range.rangeSize 0 (12 : Nat) 1 = (12 : Nat) := by rw [rangeSize_one]; split <;> omega
  rw [hsz]
  have S := S.push { cls := .type "range_iterator", data := .fields #[rawInt 0, rawInt (12 : Nat), rawInt 1] } (t := s₂.toks)
  generalize s₂.heap.objs.size = I at *
  generalize ({ s₂ with heap := s₂.heap.push { cls := .type "range_iterator", data := .fields #[rawInt 0, rawInt (12 : Nat), rawInt 1] } } : Shared) = s₃ at *
  refine newListR S (by decide) ?_
  intro acc s₄ S
  refine newCompEnv ?_
  have S := S.push { cls := .type "dict", data := .dict #[] } (t := s₄.toks)
  have S := S.push { cls := .type "cell", data := .cell none } (t := s₄.toks)
  rw [show ({ s₄ with heap := s₄.heap.push { cls := .type "dict", data := .dict #[] }, toks := s₄.toks } : Shared).heap.objs.size = s₄.heap.objs.size + 1 from Heap.size_push ..] at S
  have S := S.perm (List.perm_append_comm (l₁ := [(s₄.heap.objs.size + 1, _), (s₄.heap.objs.size, _)]) (l₂ := [(acc, _), (I, _), (L + 1, oc)]))
  have S := S.perm (O' := [(I, _), (acc, _), (s₄.heap.objs.size + 1, _), (s₄.heap.objs.size, _), (L + 1, oc)]) ((List.Perm.swap _ _ _).trans (.cons _ (.cons _ (List.perm_append_comm (l₁ := [(L + 1, oc)]) (l₂ := [(s₄.heap.objs.size + 1, _), (s₄.heap.objs.size, _)])))))
  have done : ∀ B' oH s' xs n, Le B B' → St mg B s L B' m0 [(acc, { cls := .type "list", data := .seq (intItems xs) n }), (s₄.heap.objs.size + 1, oH), (s₄.heap.objs.size, { cls := .type "dict", data := .dict #[] }), (L + 1, oc)] s' → xs.toList.map (·.1) = (List.range 12).map (fun k => (depth ps k : Int)) →
      compPost (Md w) A' NE none (fun v s' => wpAny (Md w) A' (call (.builtin "max") [v]) (fun v s' => ∃ B' M t, v = .int M t ∧ Stp mg B s B' s' ∧ IsMost ps M) NE s') (.ref acc) s₄.heap.objs.size (.ok .next) s' := by
    intro B' oH s' xs n le S hxs
    refine ⟨fun _ => none, ⟨_, #[], 0, S.get (.tail _ (.tail _ (.head _))), rfl, fun _ he => by simp at he, fun _ => rfl⟩, fun h' hsb => ?_⟩
    have S := S.perm (List.perm_append_comm (l₁ := [(acc, _), (s₄.heap.objs.size + 1, oH)]) (l₂ := [(s₄.heap.objs.size, _), (L + 1, oc)]))
    have S := S.lose (t := s'.toks) hsb.extBut
    have S := S.drop
    have hxl : xs.size = 12 := by
      have := congrArg List.length hxs
      simpa using this
    have hat : ∀ j, j < 12 → numAt xs j = depth ps j := fun j hj => by
      have := congrArg (fun l => l[j]?) hxs
      simp only [List.getElem?_map, List.getElem?_range hj, Option.map_some] at this
      unfold numAt
      rw [← Array.getElem?_toList, this]; rfl
    refine maxInts r.hd S (by omega) fun s'' k t hk hmax S => ⟨B', _, t, rfl, S.end_, ⟨k, by omega, hat k (by omega)⟩, fun j hj => ?_⟩
    rw [← hat j hj]
    exact hmax j (by omega)
  have hst : IsRangeIter (s₄.heap.push { cls := .type "dict", data := .dict #[] } |>.push { cls := .type "cell", data := .cell none }) I 0 12 1 := S.get (.head _)
  have loop := most_loop (w := w) (C := s₄.heap.objs.size) (r.less (by decide)) hE _ rfl S hst rfl hocd hl hlen done
  exact codeAny_compStart_list loop ((Walks.range (prog := Pg) (w := w) r.hd I 0 1 12).self 0 _ _ _ (by have h := hst; rw [show (0 : Int) = 0 + ((0 : Nat) : Int) * 1 from rfl, show (12 : Int) = ((12 : Nat) : Int) - ((0 : Nat) : Int) from rfl] at h; exact h) loop)
end
end Mine

namespace Mine

/-! guests as data -/
def gD (g : G) : PyData := .tuple [.int g.1, .int g.2.1, .int g.2.2]
def lD (ps : List LG) : PyData := .list (ps.map fun p => gD p.2)

theorem gD_lay (g : G) : (gD g).canLay0 = true := rfl
theorem gD_depth (g : G) : (gD g).depth = 1 := rfl
theorem lDs_lay : ∀ ps : List LG, PyData.canLayAll0 (ps.map fun p => gD p.2) = true
  | [] => rfl
  | p :: r => by rw [List.map_cons]; unfold PyData.canLayAll0; rw [lDs_lay r]; rfl
theorem lDs_depth : ∀ ps : List LG, PyData.depthAll (ps.map fun p => gD p.2) ≤ 1
  | [] => by simp [PyData.depthAll]
  | p :: r => by
    have := lDs_depth r
    rw [List.map_cons]; unfold PyData.depthAll; rw [gD_depth]; omega
theorem gD_eqv (g h : G) : PyData.eqv (gD g) (gD h) = decide (g = h) := by
  obtain ⟨a, b, c⟩ := g
  obtain ⟨x, y, z⟩ := h
  simp only [gD, PyData.eqv, PyData.eqvAll, Bool.and_true]
  by_cases h1 : a = x <;> by_cases h2 : b = y <;> by_cases h3 : c = z <;> simp [h1, h2, h3]
theorem lDs_eqv : ∀ ps qs : List LG, PyData.eqvAll (ps.map fun p => gD p.2) (qs.map fun p => gD p.2) = decide (ps.map (·.2) = qs.map (·.2))
  | [], [] => by simp [PyData.eqvAll]
  | [], q :: r => by simp [PyData.eqvAll]
  | p :: r, [] => by simp [PyData.eqvAll]
  | p :: r, q :: t => by
    simp only [List.map_cons, PyData.eqvAll, gD_eqv, lDs_eqv r t]
    by_cases h1 : p.2 = q.2 <;> by_cases h2 : r.map (·.2) = t.map (·.2) <;> simp [h1, h2]

theorem TupAt.reads {h : Heap} {t : Nat} {g : G} (x : TupAt h t g) : ∃ as, Reads h (.ref t) (gD g) as := by
  obtain ⟨u1, u2, u3, n, e⟩ := x
  exact ⟨_, Reads.tuple e rfl rfl (.cons (.int _ _) (.cons (.int _ _) (.cons (.int _ _) .nil)))⟩
theorem readsAllG {h : Heap} : ∀ ps : List LG, (∀ p ∈ ps, TupAt h p.1 p.2) → ∃ as, ReadsAll h (ps.map fun p => Value.ref p.1) (ps.map fun p => gD p.2) as
  | [], _ => ⟨_, .nil⟩
  | p :: r, hs => by
    obtain ⟨as, h1⟩ := (hs p (.head _)).reads
    obtain ⟨bs, h2⟩ := readsAllG r fun q hq => hs q (.tail _ hq)
    exact ⟨_, .cons h1 h2⟩
theorem GL.reads {B : Heap} {a : Nat} {ps : List LG} (x : GL B a ps) : ∃ as, Reads B (.ref a) (lD ps) as := by
  obtain ⟨⟨o, e, hc, n, hd⟩, ht⟩ := x
  obtain ⟨as, h1⟩ := readsAllG ps ht
  exact ⟨_, Reads.list e hc hd (by simpa using h1)⟩

/-- is a guest like p among qs -/
def inR (qs : List LG) (p : LG) : Bool := qs.any fun q => decide (q.2 = p.2)
theorem inR_data (qs : List LG) (p : LG) : (qs.map fun q => gD q.2).any (fun y => PyData.eqv y (gD p.2)) = inR qs p := by
  unfold inR
  rw [List.any_map]
  congr 1
  funext q
  exact gD_eqv _ _
theorem inR_filter (qs : List LG) (p : LG) : (!(qs.filter fun q => decide (q.2 = p.2)).isEmpty) = inR qs p := by
  unfold inR
  induction qs with
  | nil => rfl
  | cons q r ih =>
    rw [List.filter_cons, List.any_cons, ← ih]
    by_cases h : q.2 = p.2 <;> simp [h]

section
variable {mg : Str → Option Value} {B₀ B : Heap} {s₀ s : Shared} {L : Nat} {m : Str → Option Value} {O : List (Nat × Obj)} {w : World} {A : Around} {env : Env} {E : Value → Shared → Prop}

theorem neLists {a b : Nat} {ps qs : List LG} {n : Nat} {Q : Value → Shared → Prop} (r : Rm A n) (hn : 5 ≤ n) (ha : GL s.heap a ps) (hb : GL s.heap b qs) (h : Q (.bool (!decide (ps.map (·.2) = qs.map (·.2)))) s) : wpAny (Md w) A (compareOp .NotEq (.ref a) (.ref b)) Q E s := by
  obtain ⟨_, ra⟩ := ha.reads
  obtain ⟨_, rb⟩ := hb.reads
  refine SeqAt.compareNe_reads ra rb (lDs_lay ps) (lDs_lay qs) ?_ ?_
  · have h1 := lDs_depth ps
    have := r.un
    show A.units + min (PyData.depthAll (ps.map fun p => gD p.2) + 1) (PyData.depthAll (qs.map fun p => gD p.2) + 1) < 9900
    omega
  · rw [show PyData.eqv (lD ps) (lD qs) = decide (ps.map (·.2) = qs.map (·.2)) from lDs_eqv ps qs]; exact h

theorem inList {a t : Nat} {p : LG} {qs : List LG} {n : Nat} {Q : Value → Shared → Prop} (r : Rm A n) (hn : 5 ≤ n) (ha : GL s.heap a qs) (ht : TupAt s.heap t p.2) (h : Q (.bool (inR qs p)) s) : wpAny (Md w) A (compareOp .In (.ref t) (.ref a)) Q E s := by
  obtain ⟨_, ra⟩ := ha.reads
  obtain ⟨_, rb⟩ := ht.reads
  refine SeqAt.in_list_reads ra rb (lDs_lay qs) (gD_lay _) ?_ (by rw [inR_data]; exact h)
  have := r.un
  rw [gD_depth]
  show A.units + 1 + min _ 1 < 9900
  omega
theorem notInList {a t : Nat} {p : LG} {qs : List LG} {n : Nat} {Q : Value → Shared → Prop} (r : Rm A n) (hn : 5 ≤ n) (ha : GL s.heap a qs) (ht : TupAt s.heap t p.2) (h : Q (.bool (!inR qs p)) s) : wpAny (Md w) A (compareOp .NotIn (.ref t) (.ref a)) Q E s := by
  obtain ⟨_, ra⟩ := ha.reads
  obtain ⟨_, rb⟩ := ht.reads
  refine SeqAt.notIn_list_reads ra rb (lDs_lay qs) (gD_lay _) ?_ (by rw [inR_data]; exact h)
  have := r.un
  rw [gD_depth]
  show A.units + 1 + min _ 1 < 9900
  omega
theorem eqTups {a b : Nat} {g h' : G} {n : Nat} {Q : Value → Shared → Prop} (r : Rm A n) (hn : 5 ≤ n) (ha : TupAt s.heap a g) (hb : TupAt s.heap b h') (h : Q (.bool (decide (g = h'))) s) : wpAny (Md w) A (compareOp .Eq (.ref a) (.ref b)) Q E s := by
  obtain ⟨_, ra⟩ := ha.reads
  obtain ⟨_, rb⟩ := hb.reads
  refine SeqAt.compareEq_reads ra rb (gD_lay _) (gD_lay _) ?_ (by rw [gD_eqv]; exact h)
  have := r.un
  rw [gD_depth, gD_depth]
  show A.units + min 1 1 < 9900
  omega
end

/-! the predicate -/
def predLam : Arguments × Expr × Scope := match (dfn 10).2.2.1[(4 : Nat)]? with
  | some (.While _ b _ _) => (match b[(4 : Nat)]? with
    | some (.If (.Compare (.Call _ [_, .Lambda a bd sc _] _ _) _ _ _) _ _ _) => (a, bd, sc)
    | _ => (⟨[], [], none, [], [], none, []⟩, .Constant .none 0 ⟨0, 0, 0, 0⟩, ⟨.function, [], false, false, []⟩))
  | _ => (⟨[], [], none, [], [], none, []⟩, .Constant .none 0 ⟨0, 0, 0, 0⟩, ⟨.function, [], false, false, []⟩)
abbrev predO (clos : List (Str × Addr)) (doc pm cv ctv : Value) : Obj := lamObj "<lambda>" qLaw predLam.1 (.expr predLam.2.1) predLam.2.2 clos .none doc pm cv ctv

section
variable {mg : Str → Option Value} {B : Heap} {s : Shared} {w : World} {A : Around}

theorem pred_spec {pf c ra t : Nat} {p : LG} {qs : List LG} {doc pm cv ctv : Value} (r : Rm A 8) (ok : Ok mg B s.heap) (hf : B.get? pf = some (predO [(Str.ofString "room", c)] doc pm cv ctv)) (hcd : B.CodeRec cv qLaw)
    (hc : s.heap.IsCell c (some (.ref ra))) (hT : T3 c) (hl : GL B ra qs) (hlen : qs.length ≤ 100) (ht : TupAt B t p.2) :
    wpAny (Md w) A (call (.ref pf) [.ref t]) (fun v s' => ∃ B' D, v = .ref D ∧ Stp mg B s B' s' ∧ GL B' D (qs.filter fun q => decide (q.2 = p.2))) NE s := by
  refine wpAny_call (kla_callFunE r.room (ok.ext _ _ hf) rfl rfl rfl rfl (hcd.keeps ok.ext) ?_)
  rw [show bindArgs (kdv_fn "<lambda>" qLaw predLam.1 (.expr predLam.2.1) predLam.2.2 [(Str.ofString "room", c)] .none doc pm cv ctv) ⟨[.ref t], []⟩ = pure [(Str.ofString "guest", Value.ref t)] from by kernel_rfl]
  refine wpAny_pure ?_
  simp only [newFunctionEnv, Option.isSome_none, Bool.false_eq_true, if_false]
  refine wpAny_bind (wpAny_alloc ?_)
  refine wpAny_bind (wpAny_layCells _ (fun name kind cells => by cases hkc : kind == NameKind.cell <;> simp [hkc]) _ _ _ _ ?_)
  rw [show ({ s with heap := s.heap.push { cls := .type "frame", data := .dict #[] } } : Shared).heap.objs.size = s.heap.objs.size + 1 from Heap.size_push ..]
  obtain ⟨env, hE⟩ : ∃ env : Env, env = { scope := predLam.2.2, locals := s.heap.objs.size, globals := mainGlobals, cells := cellsFrom (s.heap.objs.size + 1) predLam.2.2.names [(Str.ofString "room", c)], qual := qLaw ++ Str.ofString ".<locals>.", func := some pf, code := cv, frame := some s.heap.objs.size, builtins := builtinsNs } := ⟨_, rfl⟩
  rw [← hE]
  simp only [List.forIn_cons, List.forIn_nil]
  have S := St.start (s := s) (B := B) (mg := mg) (L := s.heap.objs.size) (m := fun _ => none) (s₁ := { s with heap := (s.heap.push { cls := .type "frame", data := .dict #[] }).push { cls := .type "cell", data := .cell none } }) ok ⟨_, s.toks, rfl⟩
    (fun b o e => Heap.get?_push_of_some _ (Heap.get?_push_of_some _ e)) ((Heap.Ns.new s.heap (.type "frame")).push _) (Nat.le_refl _)
  have hcell : ((s.heap.push { cls := .type "frame", data := .dict #[] }).push { cls := .type "cell", data := .cell none }).get? (s.heap.objs.size + 1) = some { cls := .type "cell", data := .cell none } := by
    have := Heap.get?_push_size (s.heap.push { cls := .type "frame", data := .dict #[] }) (o := { cls := .type "cell", data := .cell none }) rfl
    rwa [Heap.size_push] at this
  have S := S.adopt (a := s.heap.objs.size + 1) hcell (by omega) (by show s.heap.objs.size + 1 ≠ s.heap.objs.size; omega) (by
    cases q : B.get? (s.heap.objs.size + 1) with
    | none => rfl
    | some o => exact absurd (lts (ok.ext _ _ q)) (by omega)) (by intro p hp; cases hp)
  generalize hL : s.heap.objs.size = L at *
  have e : Ev env L := by rw [hE]; exact ⟨rfl, rfl, rfl, rfl⟩
  have k1 : env.kindOf "guest" = some .cell := by rw [hE]; rfl
  have k2 : env.kindOf "room" = some .free := by rw [hE]; rfl
  have hcells : env.cells = [(Str.ofString "guest", L + 1), (Str.ofString "room", c)] := by rw [hE]; rfl
  refine wpAny_bind (wpAny_bind (wpAny_bind (storeC (c := L + 1) S e k1 (by rw [hcells]; rfl) rfl fun s₂ oc hoc S => wpAny_pure (wpAny_pure (wpAny_pure ⟨S.ok.gl.lim.keeps S.ok.ext, ?_⟩)))))
  refine kla_codeExpr (wpAny_mono (Q := fun v s' => ∃ B' D, v = .ref D ∧ Stp mg B s B' s' ∧ GL B' D (qs.filter fun q => decide (q.2 = p.2))) (E := NE) ?_ (fun v s' q => q) fun _ _ f => f.elim)
  have r := r.deeper (env := env)
  have hcr : s₂.heap.IsCell c (some (.ref ra)) := let ⟨o, e1, e2⟩ := hc; ⟨o, S.keep _ _ hT e1, e2⟩
  refine compEval (pred := fun q => decide (q.2 = p.2)) (cl := [(Str.ofString "guest", L + 1)]) r.hd S (by simp [closureFor, cellOf, hcells]) (by decide) rfl (by decide) rfl rfl (fun Q' h => nameF (c := c) e k2 (by rw [hcells]; rfl) hcr h) hl (by omega) ?_ ?_
  · intro C s₃ m₃ E' q hq hn hm hB hO
    refine wpAny_isTrue_Compare1 (wpAny_Name (wpAny_loadName_local (by rw [hE]; rfl) (by rw [hE]; rfl) hn hm (wpAny_Name (wpAny_loadName_cell (c := L + 1) (by rw [hE]; rfl) (by rw [hE]; rfl) rfl ⟨oc, hO (L + 1, oc) (.head _), hoc⟩ (eqTups r (by decide) ((hl.2 q hq).keeps hB) (ht.keeps hB) (wpAny_truthy_bool ⟨rfl, _, _, rfl, fun _ _ e => e⟩))))))
  · intro D n s₃ S
    obtain ⟨B4, le4, b4, S⟩ := S.freeze
    exact ⟨B4, D, rfl, S.end_, ⟨_, b4, rfl, n, rfl⟩, fun q hq => (hl.2 q (List.mem_filter.mp hq).1).keeps le4⟩
end
end Mine

namespace Mine

theorem filter_take {p : LG → Bool} {l : List LG} {i : Nat} {x : LG} (h : l[i]? = some x) : (l.take (i + 1)).filter p = (l.take i).filter p ++ (if p x then [x] else []) := by
  rw [List.take_add_one, h, List.filter_append]
  cases e : p x <;> simp [e]

section
variable {mg : Str → Option Value} {B : Heap} {s : Shared} {w : World} {A : Around}

theorem split_spec {a pf c ra : Nat} {ps qs : List LG} {doc pm' cv ctv : Value} (r : Rm A 10) (ok : Ok mg B s.heap) (hf' : B.get? pf = some (predO [(Str.ofString "room", c)] doc pm' cv ctv)) (hcd : B.CodeRec cv qLaw)
    (hc : s.heap.IsCell c (some (.ref ra))) (hT : T3 c) (hq : GL B ra qs) (hqlen : qs.length ≤ 100) (hl : GL B a ps) (hlen : ps.length ≤ 100) :
    wpAny (Md w) A (call (.ref 28) [.ref a, .ref pf]) (fun v s' => ∃ (B' : Heap) (tt ya na n : Nat), v = .ref tt ∧ Stp mg B s B' s' ∧ B'.get? tt = some { cls := .type "tuple", data := .seq #[.ref ya, .ref na] n } ∧ GL B' ya (ps.filter (inR qs)) ∧ GL B' na (ps.filter fun p => !inR qs p)) NE s := by
  obtain ⟨pm, hf⟩ := ok.gl.f28
  refine enterDef (binds := [("s", .ref a), ("predicate", .ref pf)]) r ok hf ok.gl.c27 (by kernel_rfl) (by intro x hx; simp only [List.mem_cons, List.not_mem_nil, or_false] at hx; rcases hx with rfl | rfl <;> exact .inl (by kernel_rfl)) fun s₁ S x => ?_
  clear x
  have r := r.deeper (env := callEnvC (fdOf 3 27 pm) s.heap.objs.size 28)
  generalize s.heap.objs.size = L at *
  generalize hE : callEnvC (fdOf 3 27 pm) L 28 = env at *
  generalize A.deeper env = A' at *
  have e : Ev env L := by rw [← hE]; exact ⟨rfl, rfl, rfl, rfl⟩
  have k1 : env.kindOf "s" = some .local := by rw [← hE]; rfl
  have k2 : env.kindOf "predicate" = some .local := by rw [← hE]; rfl
  have k3 : env.kindOf "yes" = some .local := by rw [← hE]; rfl
  have k4 : env.kindOf "no" = some .local := by rw [← hE]; rfl
  have k5 : env.kindOf "x" = some .local := by rw [← hE]; rfl
  have m1 : bindL env.kindOf [(Str.ofString "s", Value.ref a), (Str.ofString "predicate", .ref pf)] (fun _ => none) "s" = some (.ref a) := by simp only [bindL, k1, k2, if_true]; rfl
  have m2 : bindL env.kindOf [(Str.ofString "s", Value.ref a), (Str.ofString "predicate", .ref pf)] (fun _ => none) "predicate" = some (.ref pf) := by simp only [bindL, k1, k2, if_true]
  generalize bindL env.kindOf [(Str.ofString "s", Value.ref a), (Str.ofString "predicate", .ref pf)] (fun _ => none) = m0 at *
  refine wpAny_execs_cons (wpAny_Assign_Name (List_ (Calls.spliced_nil (newListR S (by decide) fun ya s₂ S => storeL S e k3 fun s₃ S => ?_))))
  refine wpAny_execs_cons (wpAny_Assign_Name (List_ (Calls.spliced_nil (newListR S (by decide) fun na s₂ S => storeL S e k4 fun s₃ S => ?_))))
  refine wpAny_execs_cons (for_list r.hd S (fun Q' h => nameL S e k1 m1 h) hl.1 (fun i B' m' O' => ∃ n1 n2, O' = [(na, lstO ((ps.take i).filter fun p => !inR qs p) n2), (ya, lstO ((ps.take i).filter (inR qs)) n1)] ∧
      m' "predicate" = some (.ref pf) ∧ m' "yes" = some (.ref ya) ∧ m' "no" = some (.ref na)) ?_ ?_ ?_)
  · refine ⟨0, 0, rfl, ?_, ?_, ?_⟩
    · exact m2
    · rfl
    · rfl
  · clear S
    intro i v B' m' O' I oI s' hv le hJ S
    obtain ⟨n1, n2, rfl, j1, j2, j3⟩ := hJ
    obtain ⟨p, hp, rfl, htup⟩ := hl.item hv
    have hpin := List.mem_of_getElem? hp
    refine assignL S e k5 fun s₃ S => ?_
    refine wpAny_execs_cons (wpAny_If (wpAny_isTrue_value (wpAny_Call_NameR (nameL S e k2 j1 ?_))))
    rw [show backTo ⟨22, 11, 22, 23⟩ (starEach [Expr.Name (Str.ofString "x") ⟨22, 21, 22, 22⟩] env) = [(false, eval (Expr.Name (Str.ofString "x") ⟨22, 21, 22, 22⟩) env)] from rfl]
    refine Calls.callWith_function (o := predO [(Str.ofString "room", c)] doc pm' cv ctv) (Calls.evalArgs_plain (Calls.spliced_cons (nameL S e k5 rfl (Calls.spliced_nil ⟨⟨S.ok.ext _ _ (le _ _ hf'), rfl⟩, ?_⟩))))
    have hcr : s₃.heap.IsCell c (some (.ref ra)) := let ⟨o, e1, e2⟩ := hc; ⟨o, S.keep _ _ hT e1, e2⟩
    refine wpAny_mono (pred_spec (p := p) (r.less (by decide)) S.ok (le _ _ hf') (hcd.keeps le) hcr hT (hq.keeps le) hqlen (htup.keeps le)) (fun v s₄ h => ?_) fun _ _ q => q
    obtain ⟨B4, D, rfl, hst, hD⟩ := h
    have le4 := hst.le
    have S := S.called hst
    refine truthyL S hD (Nat.le_trans (List.length_filter_le _ _) (by omega)) fun s₅ S => ?_
    rw [inR_filter]
    have sz1 : (((ps.take i).filter (inR qs)).map fun p => Value.ref p.1).toArray.size ≤ 1000 := by
      simp only [List.size_toArray, List.length_map]
      exact Nat.le_trans (List.length_filter_le _ _) (by rw [List.length_take]; omega)
    have sz2 : (((ps.take i).filter fun p => !inR qs p).map fun p => Value.ref p.1).toArray.size ≤ 1000 := by
      simp only [List.size_toArray, List.length_map]
      exact Nat.le_trans (List.length_filter_le _ _) (by rw [List.length_take]; omega)
    cases hin : inR qs p with
    | true =>
      simp only [if_true]
      have S := S.perm (List.perm_append_comm (l₁ := [(I, oI), (na, _)]) (l₂ := [(ya, _)]))
      refine wpAny_execs_cons (wpAny_Expr (appendCall S rfl rfl (fun Q' h => nameL S e k3 j2 h) sz1 (fun Q' h => nameL S e k5 rfl (h _ S)) fun s₆ n' S => ?_) (by rw [← hE]; rfl) (by rw [← hE]; rfl))
      refine wpAny_execs_nil (wpAny_execs_nil ?_)
      have S := S.perm (List.perm_append_comm (l₁ := [(ya, _)]) (l₂ := [(I, oI), (na, _)]))
      refine ⟨B4, _, _, le4, ⟨n', n2, ?_, ?_, ?_, ?_⟩, S⟩
      · rw [filter_take hp, filter_take hp, hin]; simp [lstO]
      · exact j1
      · exact j2
      · exact j3
    | false =>
      simp only [Bool.false_eq_true, if_false]
      have S := S.swap
      refine wpAny_execs_cons (wpAny_Expr (appendCall S rfl rfl (fun Q' h => nameL S e k4 j3 h) sz2 (fun Q' h => nameL S e k5 rfl (h _ S)) fun s₆ n' S => ?_) (by rw [← hE]; rfl) (by rw [← hE]; rfl))
      refine wpAny_execs_nil (wpAny_execs_nil ?_)
      have S := S.swap
      refine ⟨B4, _, _, le4, ⟨n1, n', ?_, ?_, ?_, ?_⟩, S⟩
      · rw [filter_take hp, filter_take hp, hin]; simp [lstO]
      · exact j1
      · exact j2
      · exact j3
  · intro B' m' O' s' le hJ S
    obtain ⟨n1, n2, rfl, j1, j2, j3⟩ := hJ
    have hsz : ps.take ((ps.map fun p => Value.ref p.1).toArray.size) = ps := by simp
    rw [hsz] at S
    refine wpAny_execs_cons (wpAny_Return_some (Tuple_ (Calls.spliced_cons (nameL S e k3 j2 (Calls.spliced_cons (nameL S e k4 j3 (Calls.spliced_nil (newTupR S (by show 2 ≤ 1000; decide) fun tt s₂ S => ?_))))))))
    obtain ⟨B5, le5, b5, S⟩ := S.freeze
    obtain ⟨B6, le6, b6, S⟩ := S.freeze
    obtain ⟨B7, le7, b7, S⟩ := S.freeze
    exact ⟨B7, tt, ya, na, _, rfl, S.end_, le7 _ _ (le6 _ _ b5), ⟨⟨_, b7, rfl, n1, rfl⟩, fun p hp => (hl.2 p (List.mem_filter.mp hp).1).keeps (Le.tr le (Le.tr le5 (Le.tr le6 le7)))⟩,
      ⟨⟨_, le7 _ _ b6, rfl, n2, rfl⟩, fun p hp => (hl.2 p (List.mem_filter.mp hp).1).keeps (Le.tr le (Le.tr le5 (Le.tr le6 le7)))⟩⟩
end
end Mine

namespace Mine

/-! the plain law -/
structure Good (ps : List LG) : Prop where
  lo : ∀ p ∈ ps, 0 ≤ p.2.1
  lt : ∀ p ∈ ps, p.2.1 < p.2.2.1
  hi : ∀ p ∈ ps, p.2.2.1 ≤ 11
  nd : (ps.map (·.2)).Nodup

theorem Good.filter {ps : List LG} (g : Good ps) (f : LG → Bool) : Good (ps.filter f) where
  lo := fun p hp => g.lo p (List.mem_filter.mp hp).1
  lt := fun p hp => g.lt p (List.mem_filter.mp hp).1
  hi := fun p hp => g.hi p (List.mem_filter.mp hp).1
  nd := g.nd.sublist ((List.filter_sublist).map _)

inductive Ch (ps : List LG) : Int → List LG → Prop
  | nil {j} : nxt ps j = none → Ch ps j []
  | cons {j p l} : nxt ps j = some p → Ch ps p.2.2.1 l → Ch ps j (p :: l)

theorem nx_least {st : Int} : ∀ (ps : List LG) (b0 b : Option LG), ps.foldl (nx1 st) b0 = b → (∀ x, b0 = some x → ∃ y, b = some y ∧ y.2.1 ≤ x.2.1) ∧ ∀ p ∈ ps, st ≤ p.2.1 → ∃ y, b = some y ∧ y.2.1 ≤ p.2.1
  | [], b0, b, h => ⟨fun x hx => ⟨x, by rw [← h]; exact hx, Int.le_refl _⟩, fun p hp => absurd hp List.not_mem_nil⟩
  | q :: r, b0, b, h => by
    rw [List.foldl_cons] at h
    obtain ⟨i1, i2⟩ := nx_least r _ b h
    have step : (∀ x, b0 = some x → ∃ y, nx1 st b0 q = some y ∧ y.2.1 ≤ x.2.1) ∧ (st ≤ q.2.1 → ∃ y, nx1 st b0 q = some y ∧ y.2.1 ≤ q.2.1) := by
      unfold nx1
      by_cases hc : (decide (q.2.1 ≥ st) && ltb b0 q.2.1) = true
      · rw [if_pos hc]
        refine ⟨fun x hx => ⟨q, rfl, ?_⟩, fun _ => ⟨q, rfl, Int.le_refl _⟩⟩
        subst hx
        simp only [ltb, Bool.and_eq_true, decide_eq_true_eq] at hc
        omega
      · rw [if_neg hc]
        refine ⟨fun x hx => ⟨x, hx, Int.le_refl _⟩, fun hs => ?_⟩
        cases b0 with
        | none => exact absurd (by simp [ltb]; omega) hc
        | some x =>
          refine ⟨x, rfl, ?_⟩
          simp only [ltb, Bool.and_eq_true, decide_eq_true_eq] at hc
          omega
    constructor
    · intro x hx
      obtain ⟨y, h1, h2⟩ := step.1 x hx
      obtain ⟨z, h3, h4⟩ := i1 y h1
      exact ⟨z, h3, by omega⟩
    · intro p hp hs
      rcases List.mem_cons.mp hp with rfl | hp
      · obtain ⟨y, h1, h2⟩ := step.2 hs
        obtain ⟨z, h3, h4⟩ := i1 y h1
        exact ⟨z, h3, by omega⟩
      · exact i2 p hp hs
theorem nxt_none {ps : List LG} {j : Int} (h : nxt ps j = none) {p : LG} (hp : p ∈ ps) : p.2.1 < j := by
  by_cases hs : j ≤ p.2.1
  · obtain ⟨y, h1, _⟩ := (nx_least ps none _ h).2 p hp hs
    cases h1
  · omega
theorem nxt_some {ps : List LG} {j : Int} {b : LG} (h : nxt ps j = some b) {p : LG} (hp : p ∈ ps) (hs : j ≤ p.2.1) : b.2.1 ≤ p.2.1 := by
  obtain ⟨y, h1, h2⟩ := (nx_least ps none _ h).2 p hp hs
  cases h1; exact h2

theorem nx_stay {j : Int} : ∀ (ps : List LG) (b : LG), b.2.1 = j → ps.foldl (nx1 j) (some b) = some b
  | [], _, _ => rfl
  | q :: r, b, hb => by
    rw [List.foldl_cons, show nx1 j (some b) q = some b from ?_]
    · exact nx_stay r b hb
    · unfold nx1
      rw [if_neg]
      simp only [ltb, Bool.and_eq_true, decide_eq_true_eq]
      omega
theorem nx_first {j : Int} {p : LG} : ∀ (ps rest : List LG) (b0 : Option LG), (∀ b, b0 = some b → j < b.2.1) → ps.filter (fun q => decide (q.2.1 = j)) = p :: rest → ps.foldl (nx1 j) b0 = some p
  | [], _, _, _, h => by cases h
  | q :: r, rest, b0, hb, h => by
    rw [List.foldl_cons]
    by_cases hq : q.2.1 = j
    · rw [List.filter_cons_of_pos (by simpa using hq)] at h
      injection h with h1 h2
      subst h1
      rw [show nx1 j b0 q = some q from ?_]
      · exact nx_stay r q hq
      · unfold nx1
        rw [if_pos]
        cases b0 with
        | none => simp [ltb]; omega
        | some b => have := hb b rfl; simp [ltb]; omega
    · rw [List.filter_cons_of_neg (by simpa using hq)] at h
      refine nx_first r rest _ ?_ h
      intro b hb'
      unfold nx1 at hb'
      by_cases hc : (decide (q.2.1 ≥ j) && ltb b0 q.2.1) = true
      · rw [if_pos hc] at hb'
        cases hb'
        simp only [Bool.and_eq_true, decide_eq_true_eq] at hc
        omega
      · rw [if_neg hc] at hb'; exact hb b hb'
theorem nx_skip {j : Int} : ∀ (ps : List LG) (b0 : Option LG), ps.filter (fun q => decide (q.2.1 = j)) = [] → ps.foldl (nx1 j) b0 = ps.foldl (nx1 (j + 1)) b0
  | [], _, _ => rfl
  | q :: r, b0, h => by
    by_cases hq : q.2.1 = j
    · rw [List.filter_cons_of_pos (by simpa using hq)] at h; cases h
    · rw [List.filter_cons_of_neg (by simpa using hq)] at h
      rw [List.foldl_cons, List.foldl_cons, nx_skip r _ h]
      congr 1
      unfold nx1
      have : decide (q.2.1 ≥ j) = decide (q.2.1 ≥ j + 1) := by
        by_cases a : q.2.1 ≥ j + 1
        · have b : q.2.1 ≥ j := by omega
          simp [a, b]
        · have b : ¬ q.2.1 ≥ j := by omega
          simp [a, b]
      rw [this]

/-- hour by hour is the chain -/
theorem hb_chain {ps : List LG} (g : Good ps) : ∀ (k h : Nat) (taken : List LG) (free : Int), h + k = 12 → ∃ l fr, Ch ps (max free h) l ∧ (List.range' h k).foldl (hbStep ps) (taken, free) = (taken ++ l, fr)
  | 0, h, taken, free, hk => by
    refine ⟨[], free, .nil ?_, by simp⟩
    cases e : nxt ps (max free h) with
    | none => rfl
    | some p =>
      have h1 := nxt_ge e
      have h2 := g.hi p (nxt_mem e)
      have h3 := g.lt p (nxt_mem e)
      omega
  | k + 1, h, taken, free, hk => by
    rw [List.range'_succ, List.foldl_cons]
    cases hf : ps.filter (fun p => decide (p.2.1 = (h : Int))) with
    | nil =>
      have : hbStep ps (taken, free) h = (taken, free) := by unfold hbStep; rw [hf]
      rw [this]
      obtain ⟨l, fr, h1, h2⟩ := hb_chain g k (h + 1) taken free (by omega)
      refine ⟨l, fr, ?_, h2⟩
      by_cases hfr : free ≤ (h : Int)
      · rw [show max free (h : Int) = h by omega]
        rw [show max free ((h + 1 : Nat) : Int) = (h : Int) + 1 by omega] at h1
        have hn : nxt ps h = nxt ps ((h : Int) + 1) := nx_skip ps none hf
        cases h1 with
        | nil e => exact .nil (hn.trans e)
        | cons e c => exact .cons (hn.trans e) c
      · rw [show max free (h : Int) = free by omega]
        rw [show max free ((h + 1 : Nat) : Int) = free by omega] at h1
        exact h1
    | cons p rest =>
      by_cases hfr : free ≤ (h : Int)
      · have : hbStep ps (taken, free) h = (taken ++ [p], p.2.2.1) := by unfold hbStep; rw [hf]; simp only; rw [if_pos hfr]
        rw [this]
        obtain ⟨l, fr, h1, h2⟩ := hb_chain g k (h + 1) (taken ++ [p]) p.2.2.1 (by omega)
        have hp : p ∈ ps ∧ p.2.1 = (h : Int) := by
          have := List.mem_filter.mp (hf ▸ List.mem_cons_self : p ∈ ps.filter (fun p => decide (p.2.1 = (h : Int))))
          exact ⟨this.1, by simpa using this.2⟩
        have hlt := g.lt p hp.1
        refine ⟨p :: l, fr, ?_, by rw [h2]; simp⟩
        rw [show max free (h : Int) = h by omega]
        rw [show max p.2.2.1 ((h + 1 : Nat) : Int) = p.2.2.1 by omega] at h1
        exact .cons (nx_first ps rest none (fun b hb => by cases hb) hf) h1
      · have : hbStep ps (taken, free) h = (taken, free) := by unfold hbStep; rw [hf]; simp only; rw [if_neg hfr]
        rw [this]
        obtain ⟨l, fr, h1, h2⟩ := hb_chain g k (h + 1) taken free (by omega)
        refine ⟨l, fr, ?_, h2⟩
        rw [show max free (h : Int) = free by omega]
        rw [show max free ((h + 1 : Nat) : Int) = free by omega] at h1
        exact h1

theorem hbh_ch {ps : List LG} (g : Good ps) : Ch ps 0 (hbh ps) := by
  obtain ⟨l, fr, h1, h2⟩ := hb_chain g 12 0 [] 0 rfl
  have : hbh ps = l := by
    unfold hbh
    rw [List.range_eq_range', h2]; rfl
  rw [this]; exact h1

theorem Ch.mem {ps : List LG} (g : Good ps) {j : Int} {l : List LG} (c : Ch ps j l) : ∀ p ∈ l, p ∈ ps ∧ j ≤ p.2.1 := by
  induction c with
  | nil _ => intro p hp; exact absurd hp List.not_mem_nil
  | cons e _ ih =>
    intro q hq
    have h1 := nxt_ge e
    rcases List.mem_cons.mp hq with rfl | hq
    · exact ⟨nxt_mem e, h1⟩
    · have h2 := ih q hq
      have h3 := g.lt _ (nxt_mem e)
      exact ⟨h2.1, by omega⟩

theorem Ch.len {ps : List LG} (g : Good ps) {j : Int} {l : List LG} (c : Ch ps j l) : l.length ≤ cnt ps j := by
  induction c with
  | nil _ => exact Nat.zero_le _
  | cons e _ ih =>
    have := cnt_next e (g.lt _ (nxt_mem e))
    simp only [List.length_cons]
    omega

/-- what search_reverse tells -/
theorem srF_ch {ps : List LG} (g : Good ps) {col : Int} : ∀ (l1 l2 : List LG) (l : List LG) (k : Nat) (p : LG) (f : Option LG), Ch ps p.2.2.1 l → p ∈ ps → p :: l = l1 ++ l2 → (∀ q ∈ l1, q.2.2.1 ≤ col) → (∀ q, l2.head? = some q → col < q.2.2.1) → l1.length ≤ k → srF ps col k p f = l1.getLast?.or f
  | [], l2, l, k, p, f, c, hp, hl, h1, h2, hk => by
    rw [List.nil_append] at hl
    have := h2 p (by rw [← hl]; rfl)
    cases k with
    | zero => rfl
    | succ k =>
      unfold srF
      rw [if_neg (by omega)]; rfl
  | x :: l1, l2, l, k, p, f, c, hp, hl, h1, h2, hk => by
    rw [List.cons_append] at hl
    injection hl with e1 e2
    subst e1
    cases k with
    | zero => simp at hk
    | succ k =>
      have hlt := g.lt p hp
      have hle := h1 p (.head _)
      unfold srF
      rw [if_pos (by omega)]
      cases c with
      | nil e =>
        rw [e]
        have : l1 = [] := (List.append_eq_nil_iff.mp e2.symm).1
        rw [this]; rfl
      | cons e c' =>
        rename_i q l'
        rw [e]
        have ih := srF_ch g l1 l2 l' k q (some p) c' (nxt_mem e) e2 (fun q hq => h1 q (.tail _ hq)) h2 (by simp at hk; omega)
        simp only
        rw [ih]
        cases l1 with
        | nil => rfl
        | cons y r =>
          rw [List.getLast?_cons_cons]
          have : ∃ z, (y :: r).getLast? = some z := ⟨_, List.getLast?_eq_some_getLast (by simp)⟩
          obtain ⟨z, hz⟩ := this
          rw [hz]; rfl

theorem sr_ch {ps : List LG} (g : Good ps) {col : Int} {l l1 l2 : List LG} (c : Ch ps 0 l) (hl : l = l1 ++ l2) (h1 : ∀ q ∈ l1, q.2.2.1 ≤ col) (h2 : ∀ q, l2.head? = some q → col < q.2.2.1) : sr ps col = l1.getLast? := by
  have hlen := c.len g
  have := cnt_le ps 0
  unfold sr
  cases c with
  | nil e =>
    rw [e]
    have : l1 = [] := (List.append_eq_nil_iff.mp hl.symm).1
    rw [this]; rfl
  | cons e c' =>
    rename_i p l'
    rw [e]
    simp only
    have h3 : l1.length ≤ (p :: l').length := by rw [hl]; simp
    rw [srF_ch g l1 l2 l' _ p none c' (nxt_mem e) hl h1 h2 (by omega)]
    cases l1.getLast? <;> rfl

theorem Ch.before {ps : List LG} (g : Good ps) {q : LG} {l2 : List LG} : ∀ (l1 : List LG) (j : Int), Ch ps j (l1 ++ q :: l2) → ∀ p ∈ l1, p.2.2.1 ≤ q.2.1
  | [], _, _, p, hp => absurd hp List.not_mem_nil
  | x :: l1, j, c, p, hp => by
    cases c with
    | cons e c' =>
      rcases List.mem_cons.mp hp with rfl | hp
      · exact (c'.mem g q (by simp)).2
      · exact Ch.before g l1 _ c' p hp

theorem roomAcc_ch {ps : List LG} (g : Good ps) {l : List LG} (c : Ch ps 0 l) : ∀ (n : Nat) (l1 l2 : List LG) (k turn : Nat) (col : Int), l1.length = n → l = l1 ++ l2 → (∀ q ∈ l1, q.2.2.1 ≤ col) → (∀ q, l2.head? = some q → col < q.2.2.1) → n ≤ k → roomAcc ps k turn col = l1.reverse
  | 0, l1, l2, k, turn, col, hn, hl, h1, h2, hk => by
    have hnil : l1 = [] := List.length_eq_zero_iff.mp hn
    subst hnil
    have := sr_ch g c hl h1 h2
    cases k with
    | zero => rfl
    | succ k => simp only [roomAcc, this]; rfl
  | n + 1, l1, l2, k, turn, col, hn, hl, h1, h2, hk => by
    have hs := sr_ch g c hl h1 h2
    have hne : l1 ≠ [] := by intro h; rw [h] at hn; cases hn
    obtain ⟨l1', p, rfl⟩ : ∃ a b, l1 = a ++ [b] := ⟨_, _, (List.dropLast_concat_getLast hne).symm⟩
    rw [List.getLast?_append] at hs
    simp only [List.getLast?_singleton, Option.some_or] at hs
    cases k with
    | zero => omega
    | succ k =>
      simp only [roomAcc, hs]
      rw [List.append_assoc, List.singleton_append] at hl
      have hb := Ch.before g l1' 0 (hl ▸ c)
      have hpm := (c.mem g p (by rw [hl]; simp)).1
      have hlt := g.lt p hpm
      have hcol : p.2.1 ≤ colOf turn p ∧ colOf turn p < p.2.2.1 := by
        unfold colOf
        split <;> omega
      rw [roomAcc_ch g c n l1' (p :: l2) k (turn + 1) (colOf turn p) (by simpa using hn) hl (fun q hq => by have := hb q hq; omega) (fun q hq => by cases hq; exact hcol.2) (by omega)]
      simp

theorem room_ch {ps : List LG} (g : Good ps) : (room ps).reverse = hbh ps := by
  have c := hbh_ch g
  have hlen := c.len g
  have := cnt_le ps 0
  unfold room
  rw [roomAcc_ch g c (hbh ps).length (hbh ps) [] ps.length 0 12 rfl (by simp) (fun q hq => by have := g.hi q (c.mem g q hq).1; omega) (fun q hq => by cases hq) (by omega)]
  simp

/-- an hour that the chain leaves free -/
theorem Ch.gap {ps : List LG} {j : Int} {l : List LG} {h : Int} (c : Ch ps j l) (hj : j ≤ h) (hun : ∀ p ∈ l, ¬ (p.2.1 ≤ h ∧ h < p.2.2.1)) :
    (∀ p ∈ ps, ¬ (j ≤ p.2.1 ∧ p.2.1 ≤ h)) ∨ ∃ q ∈ l, q.2.2.1 ≤ h ∧ ∀ p ∈ ps, ¬ (q.2.2.1 ≤ p.2.1 ∧ p.2.1 ≤ h) := by
  induction c with
  | nil e => exact .inl fun p hp => by have := nxt_none e hp; omega
  | cons e _ ih =>
    rename_i p l _
    by_cases hp : h < p.2.1
    · exact .inl fun q hq hh => by have := nxt_some e hq hh.1; omega
    · have h1 := hun p (.head _)
      have h2 : p.2.2.1 ≤ h := by omega
      rcases ih h2 (fun q hq => hun q (.tail _ hq)) with i | ⟨q, hq, i1, i2⟩
      · exact .inr ⟨p, .head _, h2, i⟩
      · exact .inr ⟨q, .tail _ hq, i1, i2⟩

theorem nd_inj : ∀ {ps : List LG}, (ps.map (·.2)).Nodup → ∀ {p q : LG}, p ∈ ps → q ∈ ps → p.2 = q.2 → p = q
  | [], _, _, _, hp, _, _ => absurd hp List.not_mem_nil
  | x :: r, hn, p, q, hp, hq, e => by
    rw [List.map_cons, List.nodup_cons] at hn
    rcases List.mem_cons.mp hp with rfl | hp'
    · rcases List.mem_cons.mp hq with rfl | hq'
      · rfl
      · exact absurd (List.mem_map.mpr ⟨q, hq', e.symm⟩) hn.1
    · rcases List.mem_cons.mp hq with rfl | hq'
      · exact absurd (List.mem_map.mpr ⟨p, hp', e⟩) hn.1
      · exact nd_inj hn.2 hp' hq' e

theorem inR_iff {ps l : List LG} (g : Good ps) (hl : ∀ p ∈ l, p ∈ ps) {p : LG} (hp : p ∈ ps) : inR l p = true ↔ p ∈ l := by
  unfold inR
  rw [List.any_eq_true]
  constructor
  · rintro ⟨q, hq, e⟩
    have : q = p := nd_inj g.nd (hl q hq) hp (of_decide_eq_true e)
    exact this ▸ hq
  · intro h
    exact ⟨p, h, by simp⟩

theorem room_mem {ps : List LG} (g : Good ps) {p : LG} : p ∈ room ps ↔ p ∈ hbh ps := by
  rw [← room_ch g, List.mem_reverse]
theorem room_sub {ps : List LG} (g : Good ps) : ∀ p ∈ room ps, p ∈ ps := fun p hp => ((hbh_ch g).mem g p ((room_mem g).mp hp)).1

abbrev others (ps : List LG) : List LG := ps.filter fun p => !inR (room ps) p

theorem chain_first {ps : List LG} (g : Good ps) (hne : ps ≠ []) : ∃ p, p ∈ ps ∧ p ∈ room ps := by
  have c := hbh_ch g
  cases hl : hbh ps with
  | nil =>
    rw [hl] at c
    cases c with
    | nil e =>
      obtain ⟨p, hp⟩ := List.exists_mem_of_ne_nil ps hne
      have := nxt_none e hp
      have := g.lo p hp
      omega
  | cons p l =>
    have : p ∈ hbh ps := by rw [hl]; exact .head _
    exact ⟨p, (c.mem g p this).1, (room_mem g).mpr this⟩

theorem others_lt {ps : List LG} (g : Good ps) (hne : ps ≠ []) : (others ps).length < ps.length := by
  obtain ⟨p, hp, hr⟩ := chain_first g hne
  have h1 : (others ps).length ≤ ps.length := List.length_filter_le _ _
  refine Nat.lt_of_le_of_ne h1 fun h => ?_
  have h2 := List.length_filter_eq_length_iff.mp h p hp
  rw [(inR_iff g (room_sub g) hp).mpr hr] at h2
  cases h2

theorem pair_disj {ps : List LG} (g : Good ps) {h : Int} {j : Int} {l : List LG} (c : Ch ps j l) : ∀ p ∈ l, ∀ q ∈ l, (p.2.1 ≤ h ∧ h < p.2.2.1) → (q.2.1 ≤ h ∧ h < q.2.2.1) → p = q := by
  induction c with
  | nil _ => intro p hp; exact absurd hp List.not_mem_nil
  | cons e c' ih =>
    intro p hp q hq h1 h2
    rcases List.mem_cons.mp hp with rfl | hp'
    · rcases List.mem_cons.mp hq with rfl | hq'
      · rfl
      · have := (c'.mem g q hq').2; omega
    · rcases List.mem_cons.mp hq with rfl | hq'
      · have := (c'.mem g p hp').2; omega
      · exact ih p hp' q hq' h1 h2

theorem filter_le_one {f : LG → Bool} : ∀ {ps : List LG}, ps.Nodup → (∀ p ∈ ps, ∀ q ∈ ps, f p = true → f q = true → p = q) → (ps.filter f).length ≤ 1
  | [], _, _ => Nat.zero_le _
  | x :: r, hn, h => by
    rw [List.nodup_cons] at hn
    by_cases hx : f x = true
    · rw [List.filter_cons_of_pos hx]
      have : r.filter f = [] := List.filter_eq_nil_iff.mpr fun q hq hf => hn.1 (by
        have := h x (.head _) q (.tail _ hq) hx hf
        exact this ▸ hq)
      rw [this]; exact Nat.le_refl _
    · rw [List.filter_cons_of_neg hx]
      exact filter_le_one hn.2 fun p hp q hq => h p (.tail _ hp) q (.tail _ hq)

theorem filter_split (f k : LG → Bool) : ∀ ps : List LG, (ps.filter k).length = ((ps.filter fun p => !f p).filter k).length + (ps.filter fun p => f p && k p).length
  | [] => rfl
  | x :: r => by
    have ih := filter_split f k r
    cases hf : f x <;> cases hk : k x <;> simp [hf, hk, ih] <;> omega

theorem filter_mono {f k : LG → Bool} : ∀ ps : List LG, (∀ p ∈ ps, f p = true → k p = true) → (ps.filter f).length ≤ (ps.filter k).length
  | [], _ => Nat.le_refl _
  | x :: r, h => by
    have ih := filter_mono r fun p hp => h p (.tail _ hp)
    cases hf : f x
    · rw [List.filter_cons_of_neg (by simp [hf])]
      exact Nat.le_trans ih (by rw [List.filter_cons]; split <;> simp)
    · rw [List.filter_cons_of_pos hf, List.filter_cons_of_pos (h x (.head _) hf)]
      simpa using ih
theorem filter_more {f k : LG → Bool} : ∀ {ps : List LG}, (∀ p ∈ ps, f p = true → k p = true) → ∀ {q : LG}, q ∈ ps → f q = false → k q = true → (ps.filter f).length < (ps.filter k).length
  | [], _, _, hq, _, _ => absurd hq List.not_mem_nil
  | x :: r, h, q, hq, h1, h2 => by
    rcases List.mem_cons.mp hq with rfl | hq
    · rw [List.filter_cons_of_neg (by simp [h1]), List.filter_cons_of_pos h2]
      have := filter_mono r fun p hp => h p (.tail _ hp)
      simp; omega
    · have ih := filter_more (fun p hp => h p (.tail _ hp)) hq h1 h2
      cases hf : f x
      · rw [List.filter_cons_of_neg (by simp [hf])]
        exact Nat.lt_of_lt_of_le ih (by rw [List.filter_cons]; split <;> simp)
      · rw [List.filter_cons_of_pos hf, List.filter_cons_of_pos (h x (.head _) hf)]
        simpa using ih

theorem depth_cases {ps : List LG} (g : Good ps) (hne : ps ≠ []) (h : Nat) (hh : h < 12) :
    depth ps h ≤ depth (others ps) h + 1 ∧ ∃ h', h' < 12 ∧ depth (others ps) h + 1 ≤ depth ps h' := by
  have c := hbh_ch g
  have hnd : ps.Nodup := (List.pairwise_map.mp g.nd).imp fun h e => h (by rw [e])
  have hs := filter_split (inR (room ps)) (here h) ps
  have here_iff : ∀ (k : Nat) (p : LG), here k p = true ↔ p.2.1 ≤ (k : Int) ∧ (k : Int) < p.2.2.1 := fun k p => by simp [here]
  have key : ∀ p ∈ ps, (inR (room ps) p && here h p) = true → p ∈ hbh ps ∧ p.2.1 ≤ (h : Int) ∧ (h : Int) < p.2.2.1 := fun p hp hx => by
    rw [Bool.and_eq_true] at hx
    exact ⟨(room_mem g).mp ((inR_iff g (room_sub g) hp).mp hx.1), (here_iff h p).mp hx.2⟩
  have h1 : (ps.filter fun p => inR (room ps) p && here h p).length ≤ 1 := filter_le_one hnd fun p hp q hq hx hy => by
    obtain ⟨a1, a2⟩ := key p hp hx
    obtain ⟨b1, b2⟩ := key q hq hy
    exact pair_disj g c p a1 q b1 a2 b2
  have e1 : depth ps h = depth (others ps) h + (ps.filter fun p => inR (room ps) p && here h p).length := hs
  refine ⟨by omega, ?_⟩
  by_cases hz : (ps.filter fun p => inR (room ps) p && here h p).length = 0
  · have hnil := List.filter_eq_nil_iff.mp (List.length_eq_zero_iff.mp hz)
    have hun : ∀ p ∈ hbh ps, ¬ (p.2.1 ≤ (h : Int) ∧ (h : Int) < p.2.2.1) := fun p hp hx => by
      have hpp := (c.mem g p hp).1
      refine hnil p hpp ?_
      rw [(inR_iff g (room_sub g) hpp).mpr ((room_mem g).mpr hp), (here_iff h p).mpr hx]; rfl
    rcases c.gap (by omega) hun with hg | ⟨q, hq, hq1, hq2⟩
    · have h0 : depth ps h = 0 := by
        unfold depth
        rw [List.length_eq_zero_iff, List.filter_eq_nil_iff]
        intro p hp hx
        have := (here_iff h p).mp hx
        exact hg p hp ⟨g.lo p hp, this.1⟩
      obtain ⟨p, hp, _⟩ := chain_first g hne
      have a1 := g.lo p hp
      have a2 := g.lt p hp
      have a3 := g.hi p hp
      refine ⟨p.2.1.toNat, by omega, ?_⟩
      have : 0 < depth ps p.2.1.toNat := by
        unfold depth
        refine List.length_pos_of_mem (a := p) (List.mem_filter.mpr ⟨hp, ?_⟩)
        rw [here_iff]; omega
      omega
    · have hqp := (c.mem g q hq).1
      have a1 := g.lo q hqp
      have a2 := g.lt q hqp
      have a3 := g.hi q hqp
      refine ⟨(q.2.2.1 - 1).toNat, by omega, ?_⟩
      have : depth ps h < depth ps (q.2.2.1 - 1).toNat := by
        unfold depth
        refine filter_more (fun p hp hx => ?_) hqp ?_ ?_
        · have hx := (here_iff h p).mp hx
          have := hq2 p hp
          rw [here_iff]; omega
        · cases hx : here h q with
          | false => rfl
          | true => have := (here_iff h q).mp hx; omega
        · rw [here_iff]; omega
      omega
  · exact ⟨h, hh, by omega⟩

theorem most_less {ps : List LG} (g : Good ps) (hne : ps ≠ []) {M M' : Int} (hM : IsMost ps M) (hM' : IsMost (others ps) M') : M' = M - 1 := by
  obtain ⟨⟨h1, l1, e1⟩, u1⟩ := hM
  obtain ⟨⟨h2, l2, e2⟩, u2⟩ := hM'
  have a := (depth_cases g hne h1 l1).1
  have b := u2 h1 l1
  obtain ⟨h3, l3, e3⟩ := (depth_cases g hne h2 l2).2
  have d := u1 h3 l3
  omega

theorem room_len {ps : List LG} (g : Good ps) : (room ps).length ≤ ps.length := by
  have := (hbh_ch g).len g
  have h2 := cnt_le ps 0
  rw [← room_ch g, List.length_reverse] at this
  omega
end Mine

namespace Mine

section
variable {mg : Str → Option Value} {B₀ B : Heap} {s₀ s : Shared} {L : Nat} {m : Str → Option Value} {O : List (Nat × Obj)} {w : World} {A : Around} {env : Env} {E : Value → Shared → Prop}

/-- xs[::-1] of a frozen list of guests -/
theorem revSlice {value : Expr} {p p1 p2 pos : Pos} {k0 : Nat} {a : Nat} {ps : List LG} {Q : Value → Shared → Prop} (S : St mg B₀ s₀ L B m O s) (hv : ∀ Q', Q' (.ref a) s → wpAny (Md w) A (eval value env) Q' E s) (hl : GL B a ps) (hlen : ps.length ≤ 1000)
    (h : ∀ (B' : Heap) (D : Nat) s', Le B B' → GL B' D ps.reverse → St mg B₀ s₀ L B' m O s' → Q (.ref D) s') (ht : ∀ o r, letTemporaryGo value o r = pure () := by intro _ _; rfl) :
    wpAny (Md w) A (eval (.Subscript value (.Slice none none (some (.UnaryOp .USub (.Constant (.int 1) k0 p1) p2)) p) pos) env) Q E s := by
  refine wpAny_Subscript_Slice_step (T := "list") list_getitem_lookup (hv _ (wpAny_Slice ?_)) ht
  rw [evalPart_none]
  refine wpAny_pure (wpAny_pure ?_)
  rw [evalPart_some]
  refine wpAny_UnaryOp (constI S fun t s₁ S => P.neg_int ?_)
  have S := S.tok (s₁.toks + 1)
  generalize s₁.toks = tk at *
  generalize hs2 : ({ s₁ with toks := tk + 1 } : Shared) = s₂ at *
  have S := S.push { cls := .type "slice", data := .fields #[.none, .none, .int (-1) tk] } (t := s₂.toks)
  have hl' := (hl.1 : B.IsList a _)
  have hl2 : (s₂.heap.push { cls := .type "slice", data := .fields #[.none, .none, .int (-1) tk] }).IsList a (ps.map fun p => Value.ref p.1).toArray := let ⟨o, e, r⟩ := hl'; ⟨o, S.ok.ext _ _ e, r⟩
  refine ⟨hl2.typeIs, wpAny_getItem_list_slice (lo := none) (hi := none) (st := some (-1)) hl2 (Heap.IsSliceOf.new ..) .none .none (.int _ _) (by decide) ?_ (by rw [sizeLine_eq]; simp; omega)⟩
  have S := S.drop.push { cls := .type "list", data := .seq (slicePick (ps.map fun p => Value.ref p.1).toArray none none (some (-1))) } (t := s₂.toks)
  obtain ⟨B4, le4, b4, S⟩ := S.freeze
  refine h B4 _ _ le4 ⟨⟨_, b4, rfl, 0, ?_⟩, fun p hp => (hl.2 p (List.mem_reverse.mp hp)).keeps le4⟩ S
  rw [krv_pick]
  simp

end
end Mine

namespace Mine

section
variable {mg : Str → Option Value} {B₀ B : Heap} {s₀ s : Shared} {L : Nat} {m : Str → Option Value} {O : List (Nat × Obj)} {w : World} {A : Around} {env : Env} {E : Value → Shared → Prop}

theorem pair_reads {h : Heap} {tt ya na n : Nat} {ps qs : List LG} (ht : h.get? tt = some { cls := .type "tuple", data := .seq #[.ref ya, .ref na] n }) (hy : GL h ya ps) (hn : GL h na qs) : ∃ as, Reads h (.ref tt) (.tuple [lD ps, lD qs]) as := by
  obtain ⟨_, r1⟩ := hy.reads
  obtain ⟨_, r2⟩ := hn.reads
  exact ⟨_, Reads.tuple ht rfl rfl (.cons r1 (.cons r2 .nil))⟩

theorem pairs_lay (ps qs : List LG) : (PyData.tuple [lD ps, lD qs]).canLay0 = true := by
  show PyData.canLayAll0 [lD ps, lD qs] = true
  unfold PyData.canLayAll0
  rw [show (lD ps).canLay0 = true from lDs_lay ps]
  unfold PyData.canLayAll0
  rw [show (lD qs).canLay0 = true from lDs_lay qs]
  rfl
theorem pairs_depth (ps qs : List LG) : (PyData.tuple [lD ps, lD qs]).depth ≤ 3 := by
  have h1 : (lD ps).depth ≤ 2 := by have := lDs_depth ps; show PyData.depthAll _ + 1 ≤ 2; omega
  have h2 : (lD qs).depth ≤ 2 := by have := lDs_depth qs; show PyData.depthAll _ + 1 ≤ 2; omega
  show PyData.depthAll [lD ps, lD qs] + 1 ≤ 3
  unfold PyData.depthAll
  unfold PyData.depthAll
  unfold PyData.depthAll
  omega

theorem nePairs {tt t2 ya na ha oa n1 n2 n : Nat} {ps qs : List LG} {Q : Value → Shared → Prop} (r : Rm A n) (hn : 5 ≤ n) (h1 : s.heap.get? tt = some { cls := .type "tuple", data := .seq #[.ref ya, .ref na] n1 }) (h2 : s.heap.get? t2 = some { cls := .type "tuple", data := .seq #[.ref ha, .ref oa] n2 })
    (x1 : GL s.heap ya ps) (x2 : GL s.heap na qs) (y1 : GL s.heap ha ps) (y2 : GL s.heap oa qs) (h : Q (.bool false) s) : wpAny (Md w) A (compareOp .NotEq (.ref tt) (.ref t2)) Q E s := by
  obtain ⟨_, ra⟩ := pair_reads h1 x1 x2
  obtain ⟨_, rb⟩ := pair_reads h2 y1 y2
  refine SeqAt.compareNe_reads ra rb (pairs_lay ps qs) (pairs_lay ps qs) ?_ ?_
  · have := pairs_depth ps qs
    have := r.un
    show A.units + min _ _ < 9900
    omega
  · have e : PyData.eqv (.tuple [lD ps, lD qs]) (.tuple [lD ps, lD qs]) = true := by
      show PyData.eqvAll [lD ps, lD qs] [lD ps, lD qs] = true
      simp only [PyData.eqvAll, Bool.and_true]
      rw [show PyData.eqv (lD ps) (lD ps) = _ from lDs_eqv ps ps, show PyData.eqv (lD qs) (lD qs) = _ from lDs_eqv qs qs]
      simp
    rw [e]; exact h
end

def lawTail : List Stmt := (dfn 10).2.2.1.drop 4

theorem GL.to {B h : Heap} {a : Nat} {ps : List LG} (x : GL B a ps) (k : Le B h) : GL h a ps := x.keeps k

section
variable {mg : Str → Option Value} {B₀ B : Heap} {s₀ s : Shared} {L : Nat} {m : Str → Option Value} {w : World} {A : Around} {env : Env}

theorem law_loop {a : Nat} {ps : List LG} {oc : Obj} {v0 : Option Value} {pm : Value} (r : Rm A 15) (hE : callEnvC (fdOf 10 63 pm) L 64 = env) (S : St mg B₀ s₀ L B m [(L + 4, oc)] s) (hoc : oc.data = .cell v0)
    (hm : m "left" = some (.ref a)) (hl : GL B a ps) (g : Good ps) (hlen : ps.length ≤ 6) :
    wpAny (Md w) A (execs lawTail env) (fun f s' => (match f with | .ret v => v | _ => .none) = .bool true ∧ ∃ B', Stp mg B₀ s₀ B' s') NE s := by
  have e : Ev env L := by rw [← hE]; exact ⟨rfl, rfl, rfl, rfl⟩
  have hcells : env.cells = [(Str.ofString "room", L + 4), (Str.ofString "numbers", L + 3), (Str.ofString "start", L + 2), (Str.ofString "row", L + 1)] := by rw [← hE]; rfl
  have c4 : env.cells.lookup (Str.ofString "room") = some (L + 4) := by rw [hcells]; rfl
  have k1 : env.kindOf "left" = some .local := by rw [← hE]; rfl
  have k2 : env.kindOf "housed" = some .local := by rw [← hE]; rfl
  have k3 : env.kindOf "others" = some .local := by rw [← hE]; rfl
  have k4 : env.kindOf "room" = some .cell := by rw [← hE]; rfl
  have g1 : env.kindOf "_law_room" = some .globalImplicit := by rw [← hE]; rfl
  have g2 : env.kindOf "_law_hour_by_hour" = some .globalImplicit := by rw [← hE]; rfl
  have g3 : env.kindOf "_law_most" = some .globalImplicit := by rw [← hE]; rfl
  have g4 : env.kindOf "_split_list" = some .globalImplicit := by rw [← hE]; rfl
  have hcode : env.code = .ref 63 := by rw [← hE]; rfl
  have hqual : env.qual ++ "<lambda>" = qLaw := by rw [← hE]; rfl
  refine wpAny_execs_cons (whileN (fun n s' => ∃ (ps : List LG) (a : Nat) (B' : Heap) (m' : Str → Option Value) (oc : Obj) (v0 : Option Value), ps.length = n ∧ ps.length ≤ 6 ∧ oc.data = .cell v0 ∧ m' "left" = some (.ref a) ∧ GL B' a ps ∧ Good ps ∧
      St mg B₀ s₀ L B' m' [(L + 4, oc)] s') ?_ ps.length ⟨ps, a, B, m, oc, v0, rfl, hlen, hoc, hm, hl, g, S⟩)
  clear S hoc hm hl g hlen
  rintro n s' ⟨ps, a, B', m', oc, v0, rfl, hlen, hoc, hm, hl, g, S⟩
  refine wpAny_isTrue_value (nameL S e k1 hm (truthyL S hl (by omega) fun s₁ S => ?_))
  by_cases hne : ps = []
  · subst hne
    simp only [List.isEmpty_nil, Bool.not_true, Bool.false_eq_true, if_false]
    exact wpAny_execs_cons (wpAny_Return_some (wpAny_Constant_bool ⟨rfl, B', S.end_⟩))
  have he : ps.isEmpty = false := by cases ps with
    | nil => exact absurd rfl hne
    | cons _ _ => rfl
  simp only [he, Bool.not_false, if_true]
  -- room = _law_room(left, '.' * 12)
  obtain ⟨pm1, hf1⟩ := S.ok.gl.f49
  refine wpAny_execs_cons (wpAny_Assign_Name (call2 S e g1 S.ok.gl.rm rfl hf1 rfl (nameL S e k1 hm (wpAny_BinOp (wpAny_Constant_str (constI (S.tok _) fun t s₂ S => SB.mul ⟨by decide, by decide, by decide⟩ fun t' tk => ?_))))))
  have S := S.tok tk
  refine ⟨B', _, _, Le.rf _, S, wpAny_mono (room_spec (r.less (by decide)) S.ok hl g.lt (by decide) (by omega)) (fun v s₃ h => ?_) fun _ _ q => q⟩
  obtain ⟨B2, ra, rfl, hst, hroom⟩ := h
  have le2 := hst.le
  have S := S.called hst
  refine storeC S e k4 c4 hoc fun s₄ oc hoc S => ?_
  have hl := hl.keeps le2
  have hrl := room_len g
  -- if room[::-1] != _law_hour_by_hour(left)
  refine wpAny_execs_cons (wpAny_If (wpAny_isTrue_Compare1 (revSlice S (fun Q' h => nameC (c := L + 4) e k4 c4 ⟨oc, S.get (.head _), hoc⟩ h) hroom (by omega) fun B3 D s₅ le3 hD S => ?_)))
  have hl := hl.keeps le3
  have hroom := hroom.keeps le3
  obtain ⟨pm2, hf2⟩ := S.ok.gl.f54
  refine call1 S e g2 S.ok.gl.hb rfl hf2 rfl (nameL S e k1 hm ⟨B3, _, _, Le.rf _, S, wpAny_mono (hbh_spec (r.less (by decide)) S.ok hl (by omega)) (fun v s₆ h => ?_) fun _ _ q => q⟩)
  obtain ⟨B4, rb, rfl, hst, hhb⟩ := h
  have le4 := hst.le
  have S := S.called hst
  have hl := hl.keeps le4
  have hroom := hroom.keeps le4
  refine neLists r (by decide) ((hD.keeps le4).to S.ok.ext) (hhb.to S.ok.ext) (wpAny_truthy_bool ?_)
  rw [room_ch g]
  simp only [decide_true, Bool.not_true, Bool.false_eq_true, if_false]
  refine wpAny_execs_nil ?_
  -- housed
  refine wpAny_execs_cons (compAssign (pred := inR (room ps)) (cl := [(Str.ofString "room", L + 4)]) r.hd S e (by rw [← hE]; kernel_rfl) (by simp [closureFor, cellOf, hcells]) (by decide) rfl (by decide) rfl rfl k2 (fun Q' h => nameL S e k1 hm h) hl (by omega) ?_ ?_)
  · intro C s₃ m₃ E' p hp hn hm hB hO
    refine wpAny_isTrue_Compare1 (wpAny_Name (wpAny_loadName_local (by rw [← hE]; rfl) (by rw [← hE]; rfl) hn hm (wpAny_Name (wpAny_loadName_cell (c := L + 4) (by rw [← hE]; rfl) (by rw [← hE]; rfl) rfl ⟨oc, hO (L + 4, oc) (.head _), hoc⟩ (inList r (by decide) (hroom.to hB) ((hl.2 p hp).keeps hB) (wpAny_truthy_bool ⟨rfl, _, _, rfl, fun _ _ e => e⟩))))))
  intro hoa nh s₇ S
  obtain ⟨B5, le5, b5, S⟩ := S.freeze
  have hhd : GL B5 hoa (ps.filter (inR (room ps))) := ⟨⟨_, b5, rfl, nh, rfl⟩, fun p hp => (hl.2 p (List.mem_filter.mp hp).1).keeps le5⟩
  have hl := hl.keeps le5
  have hroom := hroom.keeps le5
  -- others
  refine wpAny_execs_cons (compAssign (pred := fun p => !inR (room ps) p) (cl := [(Str.ofString "room", L + 4)]) r.hd S e (by rw [← hE]; kernel_rfl) (by simp [closureFor, cellOf, hcells]) (by decide) rfl (by decide) rfl rfl k3 (fun Q' h => nameL S e k1 hm h) hl (by omega) ?_ ?_)
  · intro C s₃ m₃ E' p hp hn hm hB hO
    refine wpAny_isTrue_Compare1 (wpAny_Name (wpAny_loadName_local (by rw [← hE]; rfl) (by rw [← hE]; rfl) hn hm (wpAny_Name (wpAny_loadName_cell (c := L + 4) (by rw [← hE]; rfl) (by rw [← hE]; rfl) rfl ⟨oc, hO (L + 4, oc) (.head _), hoc⟩ (notInList r (by decide) (hroom.to hB) ((hl.2 p hp).keeps hB) (wpAny_truthy_bool ⟨rfl, _, _, rfl, fun _ _ e => e⟩))))))
  intro ota no s₈ S
  obtain ⟨B6, le6, b6, S⟩ := S.freeze
  have hot : GL B6 ota (others ps) := ⟨⟨_, b6, rfl, no, rfl⟩, fun p hp => (hl.2 p (List.mem_filter.mp hp).1).keeps le6⟩
  have hl := hl.keeps le6
  have hroom := hroom.keeps le6
  have hhd := hhd.keeps le6
  -- if _split_list(left, lambda ...) != (housed, others)
  obtain ⟨pm3, hf3⟩ := S.ok.gl.f28
  refine wpAny_execs_cons (wpAny_If (wpAny_isTrue_Compare1 (call2 S e g4 S.ok.gl.sp rfl hf3 rfl (nameL S e k1 hm (kla_eval rfl (lamNew (c := 63) (P := 61) (q := qLaw) (clos := [(Str.ofString "room", L + 4)]) S (by simp [tabs3]) hqual e.glo hcode S.ok.gl.h63 (by simp [closureFor, cellOf, hcells]) ?_))))))
  intro f cv ctv doc pm4 s₉ B7 le7 rec7 S
  obtain ⟨B8, le8, b8, S⟩ := S.freeze
  have hl := hl.keeps (Le.tr le7 le8)
  have hroom := hroom.keeps (Le.tr le7 le8)
  have hhd := hhd.keeps (Le.tr le7 le8)
  have hot := hot.keeps (Le.tr le7 le8)
  refine ⟨B8, _, _, Le.tr le7 le8, S, wpAny_mono (split_spec (r.less (by decide)) S.ok b8 (rec7.keeps le8) ⟨oc, S.get (.head _), hoc⟩ (S.own _ (.head _)).2.2.2.2 hroom (by omega) hl (by omega)) (fun v s₁₀ h => ?_) fun _ _ q => q⟩
  obtain ⟨B9, tt, ya, na, nt, rfl, hst, htt, hya, hna⟩ := h
  have le9 := hst.le
  have S := S.called hst
  have hl := hl.keeps le9
  have hhd := hhd.keeps le9
  have hot := hot.keeps le9
  refine Tuple_ (Calls.spliced_cons (nameL S e k2 rfl (Calls.spliced_cons (nameL S e k3 rfl (Calls.spliced_nil (newTupR S (by show 2 ≤ 1000; decide) fun t2 s₁₁ S => ?_))))))
  refine nePairs r (by decide) (S.ok.ext _ _ htt) (S.get (.head _)) (hya.to S.ok.ext) (hna.to S.ok.ext) (hhd.to S.ok.ext) (hot.to S.ok.ext) (wpAny_truthy_bool ?_)
  simp only [Bool.false_eq_true, if_false]
  refine wpAny_execs_nil ?_
  have S := S.drop
  -- if _law_most(others) != _law_most(left) - 1
  have hol : (others ps).length ≤ 6 := Nat.le_trans (List.length_filter_le _ _) hlen
  obtain ⟨pm5, hf5⟩ := S.ok.gl.f59
  refine wpAny_execs_cons (wpAny_If (wpAny_isTrue_Compare1 (call1 S e g3 S.ok.gl.mo rfl hf5 rfl (nameL S e k3 rfl ⟨B9, _, _, Le.rf _, S, wpAny_mono (most_spec (r.less (by decide)) S.ok hot (by omega)) (fun v s₁₂ h => ?_) fun _ _ q => q⟩))))
  obtain ⟨B10, M', tM', rfl, hst, hM'⟩ := h
  have le10 := hst.le
  have S := S.called hst
  have hl := hl.keeps le10
  have hot := hot.keeps le10
  refine wpAny_BinOp (call1 S e g3 S.ok.gl.mo rfl (le10 _ _ hf5) rfl (nameL S e k1 hm ⟨B10, _, _, Le.rf _, S, wpAny_mono (most_spec (r.less (by decide)) S.ok hl (by omega)) (fun v s₁₃ h => ?_) fun _ _ q => q⟩))
  obtain ⟨B11, M, tM, rfl, hst, hM⟩ := h
  have le11 := hst.le
  have S := S.called hst
  have hot := hot.keeps le11
  refine constI S fun t s₁₄ S => P.sub_int (P.ne_int (wpAny_truthy_bool ?_))
  have hMM := most_less g hne hM hM'
  have S := S.tok (s₁₄.toks + 1)
  rw [hMM]
  simp only [bne_self_eq_false, Bool.false_eq_true, if_false]
  refine wpAny_execs_nil ?_
  -- left = others
  refine wpAny_execs_cons (wpAny_Assign_Name (nameL S e k3 rfl (storeL S e k1 fun s₁₅ S => wpAny_execs_nil ?_)))
  refine ⟨(others ps).length, others_lt g hne, others ps, ota, B11, _, oc, _, rfl, hol, hoc, ?_, hot, g.filter _, S⟩
  rfl
end
end Mine

namespace Mine

theorem pickInts (xs : Array (Int × Tok)) (lo hi st : Option Int) : ∃ ys, slicePick (intItems xs) lo hi st = intItems ys := by
  have key : ∀ l : List Nat, ∃ ys : List (Int × Tok), l.filterMap ((intItems xs)[·]?) = ys.map fun p => Value.int p.1 p.2 := by
    intro l
    induction l with
    | nil => exact ⟨[], rfl⟩
    | cons k r ih =>
      obtain ⟨ys, h⟩ := ih
      rw [List.filterMap_cons]
      have e : (intItems xs)[k]? = (xs[k]?).map fun p => Value.int p.1 p.2 := by simp [intItems]
      rw [e]
      cases xs[k]? with
      | none => exact ⟨ys, h⟩
      | some p => exact ⟨p :: ys, by simp [h]⟩
  unfold slicePick
  obtain ⟨ys, h⟩ := key (sliceRange (sliceBounds lo hi st (intItems xs).size).1 (sliceBounds lo hi st (intItems xs).size).2.1 (sliceBounds lo hi st (intItems xs).size).2.2)
  refine ⟨ys.toArray, ?_⟩
  rw [h]
  simp [intItems]

theorem intItems_get {xs : Array (Int × Tok)} {j : Nat} (h : j < xs.size) : ∃ t, (intItems xs)[j]? = some (.int (numAt xs j) t) := by
  refine ⟨xs[j].2, ?_⟩
  have e : xs[j]? = some xs[j] := Array.getElem?_eq_getElem h
  unfold numAt
  simp [intItems, e]

theorem intItems_size (xs : Array (Int × Tok)) : (intItems xs).size = xs.size := by simp [intItems]

section
variable {mg : Str → Option Value} {B₀ B : Heap} {s₀ s : Shared} {L : Nat} {m : Str → Option Value} {O : List (Nat × Obj)} {w : World} {A : Around} {env cenv : Env} {E : Value → Shared → Prop}

/-- xs[i] in a comprehension over i -/
theorem subI {x : Str} {c na C j : Nat} {ti : Tok} {xs : Array (Int × Tok)} {m₃ : Str → Option Value} {p1 p2 pos : Pos} {Q : Value → Shared → Prop} (kin : cenv.scope.kind = .function) (hi : cenv.kindOf "i" = some .local) (hloc : cenv.locals = C)
    (hx : cenv.kindOf x = some .cell) (hc : cenv.cells.lookup x = some c) (hcell : s.heap.IsCell c (some (.ref na))) (hn : s.heap.Ns C m₃) (hm : m₃ "i" = some (.int j ti)) (hl : s.heap.IsList na (intItems xs)) (hj : j < xs.size) (hjj : j ≤ 1000)
    (h : ∀ t, Q (.int (numAt xs j) t) s) (hd : (x == ("__debug__" : Str)) = false := by decide) : wpAny (Md w) A (eval (.Subscript (.Name x p1) (.Name "i" p2) pos) cenv) Q E s := by
  refine Subscript_ (wpAny_Name (wpAny_loadName_cell kin hx hc hcell (wpAny_Name (wpAny_loadName_local kin hi (hloc ▸ hn) hm ?_))) hd)
  obtain ⟨t, e⟩ := intItems_get hj
  exact tail_any hl.typeIs slot_list_getitem.lookup (wpAny_getItem_list hl (by omega) (by omega) e (h t)) rfl

/-- sum(xs[i::6]) in a comprehension over i -/
theorem sumI {x : Str} {c na C j k0 : Nat} {ti : Tok} {xs : Array (Int × Tok)} {m₃ : Str → Option Value} {p0 p1 p2 p3 p4 p5 pos : Pos} {Q : Value → Shared → Prop} (hh : A.handled = none) (gl : Gl mg B) (le : Le B s.heap) (hsz : xs.size ≤ 1000) (kin : cenv.scope.kind = .function) (hi : cenv.kindOf "i" = some .local) (hloc : cenv.locals = C) (hglo : cenv.globals = 3) (hbui : cenv.builtins = 0)
    (hsum : cenv.kindOf "sum" = some .globalImplicit)
    (hs : backTo pos (starEach [Expr.Subscript (.Name x p1) (.Slice (some (.Name "i" p2)) none (some (.Constant (.int 6) k0 p3)) p4) p5] cenv) = [(false, eval (.Subscript (.Name x p1) (.Slice (some (.Name "i" p2)) none (some (.Constant (.int 6) k0 p3)) p4) p5) cenv)])
    (hx : cenv.kindOf x = some .cell) (hc : cenv.cells.lookup x = some c) (hcell : s.heap.IsCell c (some (.ref na))) (hn : s.heap.Ns C m₃) (hm : m₃ "i" = some (.int j ti)) (hl : s.heap.IsList na (intItems xs))
    (h : ∀ y t h' tk, (∀ b o, s.heap.get? b = some o → h'.get? b = some o) → Q (.int y t) { s with heap := h', toks := tk }) (hd : (x == ("__debug__" : Str)) = false := by decide) :
    wpAny (Md w) A (eval (.Call (.Name "sum" p0) [.Subscript (.Name x p1) (.Slice (some (.Name "i" p2)) none (some (.Constant (.int 6) k0 p3)) p4) p5] [] pos) cenv) Q E s := by
  obtain ⟨mb, hb, _, _, hbs, _⟩ := gl.b
  refine wpAny_Call_NameR (Calls.Name_function_global kin hsum (Calls.loadGlobal_builtin (by rw [hglo]; exact gl.g.keeps le) gl.nsum (by rw [hbui]; exact hb.keeps le) hbs ?_) (by decide))
  rw [hs]
  refine Calls.callWith_builtin rfl (Calls.evalArgs_plain (Calls.spliced_cons (wpAny_Subscript_Slice_step (T := "list") list_getitem_lookup (wpAny_Name (wpAny_loadName_cell kin hx hc hcell (wpAny_Slice ?_)) hd))))
  rw [evalPart_some]
  refine wpAny_Name (wpAny_loadName_local kin hi (hloc ▸ hn) hm ?_)
  rw [evalPart_none]
  refine wpAny_pure ?_
  rw [evalPart_some]
  refine wpAny_Constant_int ?_
  have hl1 := hl.push { cls := .type "slice", data := .fields #[.int j ti, .none, .int 6 s.toks] }
  refine ⟨hl1.typeIs, wpAny_getItem_list_slice (lo := some (j : Int)) (hi := none) (st := some 6) hl1 (Heap.IsSliceOf.new ..) (.int _ _) .none (.int _ _) (by decide) ?_ (by rw [sizeLine_eq, intItems_size]; omega)⟩
  refine Calls.spliced_nil ?_
  obtain ⟨ys, hys⟩ := pickInts xs (some (j : Int)) none (some 6)
  rw [hys]
  refine sum_intListG (xs := ys) hh ⟨_, Heap.get?_push_size _ rfl, rfl, _, rfl⟩ fun h' tk t' hk => ?_
  exact h _ t' h' tk fun b o e => hk b o (Heap.get?_push_of_some _ (Heap.get?_push_of_some _ e))
end
end Mine

namespace Mine

def gOf (x : Int) (j : Nat) : G := (x.fmod 8, x.fmod 8 + 1 + (x.fdiv 8).fmod 4, j)
theorem good_of {ps : List LG} {f : Nat → Int} (h : ps.map (·.2) = (List.range 6).map fun j => gOf (f j) j) : Good ps := by
  have key : ∀ p ∈ ps, ∃ x j, p.2 = gOf x j := fun p hp => by
    have : p.2 ∈ ps.map (·.2) := List.mem_map.mpr ⟨p, hp, rfl⟩
    rw [h] at this
    obtain ⟨j, _, e⟩ := List.mem_map.mp this
    exact ⟨_, _, e.symm⟩
  have bnd : ∀ x : Int, 0 ≤ x.fmod 8 ∧ x.fmod 8 ≤ 7 ∧ 0 ≤ (x.fdiv 8).fmod 4 ∧ (x.fdiv 8).fmod 4 ≤ 3 := fun x => by
    rw [Int.fmod_eq_emod_of_nonneg _ (by decide), Int.fmod_eq_emod_of_nonneg _ (by decide)]
    omega
  refine ⟨fun p hp => ?_, fun p hp => ?_, fun p hp => ?_, ?_⟩
  · obtain ⟨x, j, e⟩ := key p hp
    have := bnd x
    rw [e]; unfold gOf; simp only; omega
  · obtain ⟨x, j, e⟩ := key p hp
    have := bnd x
    rw [e]; unfold gOf; simp only; omega
  · obtain ⟨x, j, e⟩ := key p hp
    have := bnd x
    rw [e]; unfold gOf; simp only; omega
  · rw [h]
    refine List.pairwise_map.mpr (List.nodup_range.imp fun {a b} hab e => hab ?_)
    have : (gOf (f a) a).2.2 = (gOf (f b) b).2.2 := by rw [e]
    simp only [gOf] at this
    omega

def leftE : Expr := match (dfn 10).2.2.1[(3 : Nat)]? with
  | some (.Assign _ e _) => e
  | _ => .Constant .none 0 ⟨0, 0, 0, 0⟩
def leftSc : Scope := match leftE with
  | .ListComp _ _ sc _ => sc
  | _ => ⟨.function, [], false, false, []⟩

section
variable {mg : Str → Option Value} {B₀ B : Heap} {s₀ s : Shared} {L : Nat} {m : Str → Option Value} {w : World} {A : Around} {env : Env}

theorem left_loop {I acc C na : Nat} {oI oC o3 o4 : Obj} {xs : Array (Int × Tok)} {mC : Str → Option Value} {pm : Value} {R : Result → Shared → Prop} (r : Rm A 1) (hE : callEnvC (fdOf 10 63 pm) L 64 = env) (cenv : Env)
    (hC : cenv = compEnvC leftSc [(Str.ofString "numbers", L + 3)] C env)
    (S : St mg B₀ s₀ L B m [(I, oI), (acc, lstO [] 0), (C, oC), (L + 3, o3), (L + 4, o4)] s) (hst : IsRangeIter s.heap I 0 6 1) (hN : ∀ h : Heap, h.get? C = some oC → h.Ns C mC) (h3 : o3.data = .cell (some (.ref na))) (hl : B.IsList na (intItems xs)) (hxs : xs.size = 6)
    (h : ∀ B' oC mC s' ps n, Le B B' → St mg B₀ s₀ L B' m [(acc, lstO ps n), (C, oC), (L + 3, o3), (L + 4, o4)] s' → (∀ h : Heap, h.get? C = some oC → h.Ns C mC) → (∀ p ∈ ps, TupAt B' p.1 p.2) → ps.map (·.2) = (List.range 6).map (fun j => gOf (numAt xs j) j) → R (.ok .next) s') :
    codeAny (Md w) A (.compLoop leftE 0 (.ref I) (.ref acc) cenv) R s := by
  have kin : cenv.scope.kind = .function := by rw [hC]; rfl
  have k1 : cenv.kindOf "i" = some .local := by rw [hC, ← hE]; rfl
  have k2 : cenv.kindOf "numbers" = some .cell := by rw [hC, ← hE]; rfl
  have c2 : cenv.cells.lookup (Str.ofString "numbers") = some (L + 3) := by rw [hC]; rfl
  have hloc : cenv.locals = C := by rw [hC]; rfl
  have W := Walks.range (prog := Pg) (w := w) r.hd I 0 1 6
  refine codeAny_compLoop_list (fun k s' => ∃ (i : Nat) (B' : Heap) (oI oC : Obj) (mC : Str → Option Value) (ps : List LG) (n : Nat), k = 6 + 1 - i ∧ i ≤ 6 ∧ Le B B' ∧ St mg B₀ s₀ L B' m [(I, oI), (acc, lstO ps n), (C, oC), (L + 3, o3), (L + 4, o4)] s' ∧
      IsRangeIter s'.heap I (0 + (i : Nat) * 1) (((6 : Nat) : Int) - (i : Nat)) 1 ∧ (∀ h : Heap, h.get? C = some oC → h.Ns C mC) ∧ (∀ p ∈ ps, TupAt B' p.1 p.2) ∧ ps.map (·.2) = (List.range i).map (fun j => gOf (numAt xs j) j)) ?_ 7
    ⟨0, B, oI, oC, mC, [], 0, rfl, Nat.zero_le _, Le.rf _, S, by simpa using hst, hN, fun p hp => absurd hp List.not_mem_nil, rfl⟩
  rintro k s' ⟨i, B', oI, oC, mC, ps, n, rfl, hi, le, S, hst, hN, hT, hps⟩
  by_cases hlt : i < 6
  · refine W.item i s' _ _ hlt hst fun v h' tk hP hst' hk => ?_
    obtain ⟨tv, rfl⟩ := hP
    rw [show (0 : Int) + (i : Int) * 1 = i by omega]
    obtain ⟨oI2, hoI2, hkeep⟩ : ∃ o, h'.get? I = some o ∧ ∀ h2 : Heap, h2.get? I = some o → IsRangeIter h2 I (0 + ((i + 1 : Nat) : Int) * 1) (((6 : Nat) : Int) - ((i + 1 : Nat) : Int)) 1 := ⟨_, hst', fun _ e => e⟩
    have S := S.upd hoI2 (t := tk) fun b o hb e => hk b o (by simpa using hb) e
    have S := S.perm (List.perm_append_comm (l₁ := [(I, _), (acc, _)]) (l₂ := [(C, oC), (L + 3, o3), (L + 4, o4)]))
    refine wpAny_assign_Name (wpAny_storeName_local k1 (by rw [hloc]; exact hN _ (S.get (.head _))) (fun h2 hn2 hs2 => ?_) (by rw [kin]; rfl))
    rw [hloc] at hn2 hs2
    obtain ⟨oC2, es, ep, e1, e2, e3, e4⟩ := hn2
    have S := S.upd e1 (t := tk + 1) hs2.extBut
    have hN2 : ∀ h : Heap, h.get? C = some oC2 → h.Ns C (fun x => if x = "i" then some (.int i tv) else mC x) := fun h e => ⟨oC2, es, ep, e, e2, e3, e4⟩
    clear e1 e2 e3 e4 hs2
    generalize hss : ({ s' with heap := h2, toks := tk + 1 } : Shared) = s₂ at S
    clear hss
    have hl1 : ∀ {s : Shared}, Ok mg B' s.heap → s.heap.IsList na (intItems xs) := fun ok => let ⟨o, e, r⟩ := hl; ⟨o, ok.ext _ _ (le _ _ e), r⟩
    have num : ∀ {s : Shared} {p1 p2 pos : Pos} {Q : Value → Shared → Prop} {E : Value → Shared → Prop}, St mg B₀ s₀ L B' m [(C, oC2), (L + 3, o3), (L + 4, o4), (I, oI2), (acc, lstO ps n)] s → (∀ t, Q (.int (numAt xs i) t) s) → wpAny (Md w) A (eval (.Subscript (.Name "numbers" p1) (.Name "i" p2) pos) cenv) Q E s :=
      fun S h => subI (x := "numbers") (xs := xs) (ti := tv) kin k1 hloc k2 c2 ⟨o3, S.get (.tail _ (.head _)), h3⟩ (hN2 _ (S.get (.head _))) rfl (hl1 S.ok) (by omega) (by omega) h
    refine Tuple_ (Calls.spliced_cons (wpAny_BinOp (num S fun t => constI S fun t s₃ S => PyProof.Rows.mod_int (by decide) ?_)))
    have S := S.tok (s₃.toks + 1)
    refine Calls.spliced_cons (wpAny_BinOp (wpAny_BinOp (wpAny_BinOp (num S fun t => constI S fun t s₄ S => PyProof.Rows.mod_int (by decide) ?_))))
    have S := S.tok (s₄.toks + 1)
    refine constI S fun t s₅ S => P.add_int ?_
    have S := S.tok (s₅.toks + 1)
    refine wpAny_BinOp (wpAny_BinOp (num S fun t => constI S fun t s₆ S => PyProof.Rows.floordiv_int (by decide) ?_))
    have S := S.tok (s₆.toks + 1)
    refine constI S fun t s₇ S => PyProof.Rows.mod_int (by decide) (P.add_int ?_)
    have S := S.tok (s₇.toks + 1 + 1)
    refine Calls.spliced_cons (wpAny_Name (wpAny_loadName_local kin k1 (by rw [hloc]; exact hN2 _ (S.get (.head _))) rfl (Calls.spliced_nil (newTupR S (by show 3 ≤ 1000; decide) fun tt s₈ S => ?_))))
    obtain ⟨B4, le4, b4, S⟩ := S.freeze
    have S := S.perm (List.perm_append_comm (l₁ := [(C, oC2), (L + 3, o3), (L + 4, o4), (I, oI2)]) (l₂ := [(acc, lstO ps n)]))
    have hpl : ps.length = i := by
      have := congrArg List.length hps
      simpa using this
    refine wpAny_list_append_plain ⟨n, S.get (.head _)⟩ (fun h' hp hsb => ?_) (by rw [sizeLine_eq]; simp; omega)
    obtain ⟨n', e'⟩ := hp
    have S := S.upd e' hsb.extBut (t := s₈.toks)
    have hst2 := S.get (.tail _ (.tail _ (.tail _ (.tail _ (.head _)))))
    have S := S.perm (List.perm_append_comm (l₁ := [(acc, _), (C, oC2), (L + 3, o3), (L + 4, o4)]) (l₂ := [(I, oI2)]))
    refine ⟨6 + 1 - (i + 1), by omega, i + 1, B4, oI2, oC2, _, ps ++ [(tt, gOf (numAt xs i) i)], n', rfl, hlt, Le.tr le le4, ?_, hkeep _ hst2, hN2, ?_, ?_⟩
    · have : lstO (ps ++ [(tt, gOf (numAt xs i) i)]) n' = { cls := .type "list", data := .seq ((ps.map fun p => Value.ref p.1).toArray.push (.ref tt)) n' } := by simp [lstO]
      rw [this]
      exact S
    · intro p hp
      rcases List.mem_append.mp hp with h | h
      · exact (hT p h).keeps le4
      · rw [List.mem_singleton.mp h]
        exact ⟨_, _, _, _, b4⟩
    · rw [List.map_append, hps, List.range_succ, List.map_append]; rfl
  · have hin : i = 6 := by omega
    subst hin
    refine W.done s' _ _ hst fun h' tk hk => ?_
    exact h B' oC mC _ ps n le (S.lose (t := tk) fun b o hb e => hk b o (by simpa using hb) e) hN hT hps
end
end Mine

namespace Mine

def numSc : Scope := match (dfn 10).2.2.1[(2 : Nat)]? with
  | some (.Assign _ (.ListComp _ _ sc _) _) => sc
  | _ => ⟨.function, [], false, false, []⟩

theorem walks_bound {A : Around} {w : World} {I : Addr} {fp wr : List Addr} {n : Nat} {P : Nat → Value → Prop} {St : Nat → Heap → Prop} (W : Walks Pg w A I fp wr n P St) : Walks Pg w A I fp wr n (fun i v => i < n ∧ P i v) St where
  sub := W.sub
  frame := W.frame
  item := fun i s Q E hi st hQ => W.item i s Q E hi st fun v h' tk hP => hQ v h' tk ⟨hi, hP⟩
  done := W.done
  self := W.self

theorem true_filter {p : Value → Bool} (hp : ∀ v, p v = true) (vs : List Value) : vs.filter p = vs := List.filter_eq_self.mpr fun v _ => hp v

theorem assignComp {w : World} {A : Around} {E : Value → Shared → Prop} {env : Env} {s : Shared} {elt iter : Expr} {x y : Str} {px py : Pos} {ifs : List Expr} {scope : Scope} {cl : List (Str × Addr)} {pos spos : Pos} {Q : Flow → Shared → Prop}
    (hsw : swapsWith (.ListComp elt [⟨.Name x px, iter, ifs, 0⟩] scope pos) (some (.Name y py)) spos.line env = pure true)
    (hclos : closureFor scope env = pure cl) (hkind : scope.kind = .function) (hnames : ∀ z ∈ scope.names, z.2 = .local → scope.names.lookup z.1 = some .local)
    (h : wpAny (Md w) A (eval iter env) (fun x' s₁ => wpAny (Md w) A (pyIter x') (fun it s₂ => wpAny (Md w) A (newList []) (fun acc s₃ => wpAny (Md w) A (newFunctionEnv scope env.globals cl [] env.qual none .none (some env)) (fun cenv s₄ =>
      codeAny (Md w) A (.compStart (.ListComp elt [⟨.Name x px, iter, ifs, 0⟩] scope pos) 0 it acc { cenv with scope := relabel scope env }) (compPost (Md w) A E (some (assign (.Name y py) env)) (fun _ s' => Q .next s') acc cenv.locals) s₄) E s₃) E s₂) E s₁) E s)
    (hs : ∀ x, foldedSetIterable iter env x = pure x := by intro _; rfl) :
    wpAny (Md w) A (exec (.Assign [.Name y py] (.ListComp elt [⟨.Name x px, iter, ifs, 0⟩] scope pos) spos) env) Q E s := by
  rw [exec_Assign_Name_used _ _ _ _ hsw]
  refine wpAny_bind (wpAny_standAt (wpAny_bind ?_))
  show wpAny _ A (do let _ ← comprehension (.ListComp elt [⟨.Name x px, iter, ifs, 0⟩] scope pos) scope env _ (newList []) false (eval iter env) (some (assign (.Name y py) env))) _ _ s
  exact wpAny_bind (wpAny_mono (wpAny_comprehension_free (use := some (assign (.Name y py) env)) (Q := fun _ s' => Q .next s') rfl hs hclos hkind hnames h) (fun _ s' hq => wpAny_pure (wpAny_pure hq)) fun _ _ e => e)

section
variable {mg : Str → Option Value} {B : Heap} {s : Shared} {w : World} {A : Around}

theorem law_spec {scr : Nat} {xs : Array (Int × Tok)} {pm : Value} {R : Result → Shared → Prop} (r : Rm A 16) (ok : Ok mg B s.heap) (hf : B.get? 64 = some (fnObj 10 63 pm)) (hcd : B.CodeRec (.ref 63) (dfn 10).1) (hl : B.IsList scr (intItems xs)) (hsz : xs.size ≤ 63)
    (h : ∀ B' s', Stp mg B s B' s' → R (.ok (.ret (.bool true))) s') :
    codeAny (Md w) A (.call (.ref 64) ⟨[.ref scr], []⟩) R s := by
  refine codeAny_call_cells (fd := fdOf 10 63 pm) (binds := [("script", .ref scr)]) r.room (ok.ext _ _ hf) rfl (ok.gl.lim.keeps ok.ext) (hcd.keeps ok.ext) rfl (by kernel_rfl) rfl (by intro x hx; simp only [List.mem_cons, List.not_mem_nil, or_false] at hx; subst hx; exact .inl (by kernel_rfl)) fun s₁ x => ?_
  have S := St.start ok x.toInCall.same x.toInCall.keep x.toInCall.ns x.toInCall.fresh
  rw [show (callEnvC (fdOf 10 63 pm) s.heap.objs.size 64).locals = s.heap.objs.size from rfl] at S x
  refine wpAny_mono (Q := fun f s' => (match f with | .ret v => v | _ => .none) = .bool true ∧ ∃ B', Stp mg B s B' s') (E := NE) ?_ (fun f s' q => by
    obtain ⟨q1, B', q2⟩ := q
    have q3 := h B' s' q2
    rw [← q1] at q3; exact q3) fun _ _ f => f.elim
  clear h
  have r := r.deeper (env := callEnvC (fdOf 10 63 pm) s.heap.objs.size 64)
  generalize hL : s.heap.objs.size = L at *
  generalize hE : callEnvC (fdOf 10 63 pm) L 64 = env at *
  generalize A.deeper env = A' at *
  have e : Ev env L := by rw [← hE]; exact ⟨rfl, rfl, rfl, rfl⟩
  have hcells : env.cells = [(Str.ofString "room", L + 4), (Str.ofString "numbers", L + 3), (Str.ofString "start", L + 2), (Str.ofString "row", L + 1)] := by rw [← hE]; rfl
  have k0 : env.kindOf "script" = some .local := by rw [← hE]; rfl
  have k1 : env.kindOf "row" = some .cell := by rw [← hE]; rfl
  have k2 : env.kindOf "start" = some .cell := by rw [← hE]; rfl
  have k3 : env.kindOf "numbers" = some .cell := by rw [← hE]; rfl
  have k5 : env.kindOf "left" = some .local := by rw [← hE]; rfl
  have k6 : env.kindOf "range" = some .globalImplicit := by rw [← hE]; rfl
  have c1 : env.cells.lookup (Str.ofString "row") = some (L + 1) := by rw [hcells]; rfl
  have c2 : env.cells.lookup (Str.ofString "start") = some (L + 2) := by rw [hcells]; rfl
  have c3 : env.cells.lookup (Str.ofString "numbers") = some (L + 3) := by rw [hcells]; rfl
  have c4 : env.cells.lookup (Str.ofString "room") = some (L + 4) := by rw [hcells]; rfl
  obtain ⟨o1, g1, d1⟩ := x.cell "row" (L + 1) c1
  obtain ⟨o2, g2, d2⟩ := x.cell "start" (L + 2) c2
  obtain ⟨o3, g3, d3⟩ := x.cell "numbers" (L + 3) c3
  obtain ⟨o4, g4, d4⟩ := x.cell "room" (L + 4) c4
  have m0 : bindL env.kindOf [(Str.ofString "script", Value.ref scr)] (fun _ => none) "script" = some (.ref scr) := by simp [bindL, k0]
  clear x
  generalize bindC env.kindOf [(Str.ofString "script", Value.ref scr)] (fun _ => none) "row" = v1 at *
  generalize bindC env.kindOf [(Str.ofString "script", Value.ref scr)] (fun _ => none) "start" = v2 at *
  generalize bindC env.kindOf [(Str.ofString "script", Value.ref scr)] (fun _ => none) "numbers" = v3 at *
  generalize bindC env.kindOf [(Str.ofString "script", Value.ref scr)] (fun _ => none) "room" = v4 at *
  generalize bindL env.kindOf [(Str.ofString "script", Value.ref scr)] (fun _ => none) = mL at *
  have nB : ∀ k : Nat, L ≤ k → B.get? k = none := fun k hk => by
    cases q : B.get? k with
    | none => rfl
    | some o => exact absurd (lts (ok.ext _ _ q)) (by omega)
  have S := S.adopt (a := L + 4) g4 (by omega) (by omega) (nB _ (by omega)) (by intro p hp; cases hp)
  have S := S.adopt (a := L + 3) g3 (by omega) (by omega) (nB _ (by omega)) (by intro p hp; simp only [List.mem_cons, List.not_mem_nil, or_false] at hp; subst hp; show L + 3 ≠ L + 4; omega)
  have S := S.adopt (a := L + 2) g2 (by omega) (by omega) (nB _ (by omega)) (by intro p hp; simp only [List.mem_cons, List.not_mem_nil, or_false] at hp; rcases hp with rfl | rfl; show L + 2 ≠ L + 3; omega; show L + 2 ≠ L + 4; omega)
  have S := S.adopt (a := L + 1) g1 (by omega) (by omega) (nB _ (by omega)) (by intro p hp; simp only [List.mem_cons, List.not_mem_nil, or_false] at hp; rcases hp with rfl | rfl | rfl; show L + 1 ≠ L + 2; omega; show L + 1 ≠ L + 3; omega; show L + 1 ≠ L + 4; omega)
  clear g1 g2 g3 g4 nB
  -- row = script[:63]
  refine wpAny_execs_cons (wpAny_Assign_Name (wpAny_Subscript_list_slice (nameL S e k0 m0 ?_)))
  rw [evalPart_none]
  refine wpAny_pure ?_
  rw [evalPart_some]
  refine constI S fun t s₂ S => ?_
  refine ⟨scr, _, none, some 63, rfl, (let ⟨o, e, r⟩ := hl; ⟨o, S.ok.ext _ _ e, r⟩), by rw [sizeLine_eq, intItems_size]; omega, .none, .int _ _, ?_⟩
  have hsz2 := slicePick_size_le (intItems xs) none (some 63) none
  obtain ⟨xr, hxr⟩ := pickInts xs none (some 63) none
  rw [hxr] at hsz2 ⊢
  rw [intItems_size, intItems_size] at hsz2
  have S := (S.push { cls := .type "slice", data := .fields #[.none, .int 63 t, .none] } (t := s₂.toks)).drop.push { cls := .type "list", data := .seq (intItems xr) } (t := s₂.toks)
  rw [show (({ s₂ with heap := s₂.heap.push { cls := .type "slice", data := .fields #[.none, .int 63 t, .none] }, toks := s₂.toks } : Shared).heap.objs.size) = s₂.heap.objs.size + 1 from Heap.size_push ..] at S
  generalize s₂.heap.objs.size + 1 = ra at S ⊢
  obtain ⟨B1, le1, b1, S⟩ := S.freeze
  have hra : B1.IsList ra (intItems xr) := ⟨_, b1, rfl, _, rfl⟩
  clear b1
  refine storeC S e k1 c1 d1 fun s₃ o1 d1 S => ?_
  -- start = [...]
  refine wpAny_execs_cons (wpAny_Assign_Name (List_ (Calls.spliced_cons (constI (k := 0) (pos := ⟨62, 13, 62, 15⟩) S fun t1 s₄ S => Calls.spliced_cons (constI (k := 0) (pos := ⟨62, 17, 62, 18⟩) S fun t2 s₅ S => Calls.spliced_cons (constI (k := 0) (pos := ⟨62, 20, 62, 22⟩) S fun t3 s₆ S => Calls.spliced_cons (constI (k := 0) (pos := ⟨62, 24, 62, 26⟩) S fun t4 s₇ S => Calls.spliced_cons (constI (k := 0) (pos := ⟨62, 28, 62, 30⟩) S fun t5 s₈ S => Calls.spliced_cons (constI (k := 0) (pos := ⟨62, 32, 62, 34⟩) S fun t6 s₉ S => Calls.spliced_nil (newListR S (by show 6 ≤ 1000; decide) fun sa s₁₀ S => ?_))))))))))
  obtain ⟨B2, le2, b2, S⟩ := S.freeze
  have hsa : B2.IsList sa (intItems #[(16, t1), (9, t2), (11, t3), (26, t4), (21, t5), (27, t6)]) := ⟨_, b2, rfl, 0, by simp [intItems]⟩
  have hra : B2.IsList ra (intItems xr) := let ⟨o, e, r⟩ := hra; ⟨o, le2 _ _ e, r⟩
  clear b2
  have S := S.swap
  refine storeC S e k2 c2 d2 fun s₁₁ o2 d2 S => ?_
  -- numbers = [...]
  refine wpAny_execs_cons (wpAny_Assign_Name (wpAny_ListComp_free (cl := [(Str.ofString "start", L + 2), (Str.ofString "row", L + 1)]) (fun _ => true) (fun _ y => ∃ a t, y = .int a t) (by simp [closureFor, cellOf, hcells]; rfl) (by decide) rfl (by decide) rfl ?_) (by rw [← hE]; rfl))
  refine wpAny_mono (rangeCall (n := 6) S e k6 rfl (by decide) (constI S fun t s' S => ⟨⟨t, rfl⟩, S⟩)) (fun xv s₁₂ h => ?_) fun _ _ q => q
  obtain ⟨rr, t, u, v, rfl, hr, hn, S⟩ := h
  refine wpAny_pyIter_range hr (small_one (by decide) (by decide) (by omega) (by omega)) ?_
  have hsz6 : Builtin.Range.rangeSize 0 (6 : Nat) 1 = (6 : Nat) := by rw [rangeSize_one]; split <;> omega
  rw [hsz6]
  have S1 := S.push { cls := .type "range_iterator", data := .fields #[rawInt 0, rawInt (6 : Nat), rawInt 1] } (t := s₁₂.toks)
  refine ⟨s₁₂.heap.objs.size, _, _, _, _, _, rfl, walks_bound (Walks.range (prog := Pg) (w := w) r.hd s₁₂.heap.objs.size 0 1 6), by rw [sizeLine_eq]; decide, ?_, ?_, ?_, ?_⟩
  · have := S1.get (.head _)
    simpa using this
  · intro b hb
    rw [List.mem_singleton.mp hb]
    show s₁₂.heap.objs.size < (s₁₂.heap.push _).objs.size
    rw [Heap.size_push]; exact Nat.lt_succ_self _
  · have kin : ∀ C, (compEnvC numSc [(Str.ofString "start", L + 2), (Str.ofString "row", L + 1)] C env).scope.kind = .function := fun C => by rw [← hE]; rfl
    have q1 : ∀ C, (compEnvC numSc [(Str.ofString "start", L + 2), (Str.ofString "row", L + 1)] C env).kindOf "i" = some .local := fun C => by rw [← hE]; rfl
    have q2 : ∀ C, (compEnvC numSc [(Str.ofString "start", L + 2), (Str.ofString "row", L + 1)] C env).kindOf "row" = some .cell := fun C => by rw [← hE]; rfl
    have q3 : ∀ C, (compEnvC numSc [(Str.ofString "start", L + 2), (Str.ofString "row", L + 1)] C env).kindOf "start" = some .cell := fun C => by rw [← hE]; rfl
    have q4 : ∀ C, (compEnvC numSc [(Str.ofString "start", L + 2), (Str.ofString "row", L + 1)] C env).kindOf "sum" = some .globalImplicit := fun C => by rw [← hE]; rfl
    refine ⟨fun C i v s₃ m₃ E' _ hv hn hm hk _ => wpAny_tests_nil ⟨rfl, _, _, rfl, fun _ _ e => e⟩, fun C i v s₃ m₃ E' _ hv _ hn hm hk _ => ?_⟩
    obtain ⟨hi, tv, rfl⟩ := hv
    rw [show (0 : Int) + (i : Int) * 1 = i by omega] at hm
    have nI : ∀ {b : Nat} {o : Obj}, s₁₂.heap.get? b = some o → s₃.heap.get? b = some o := fun {b o} e => hk b o (by simp only [List.mem_singleton]; exact ne_lt (.inl (lts e))) (Heap.get?_push_of_some _ e)
    have hB : Le B2 s₃.heap := fun b o e => nI (S.ok.ext _ _ e)
    have hcr : s₃.heap.IsCell (L + 1) (some (.ref ra)) := ⟨o1, nI (S.get (.tail _ (.head _))), d1⟩
    have hcs : s₃.heap.IsCell (L + 2) (some (.ref sa)) := ⟨o2, nI (S.get (.head _)), d2⟩
    refine wpAny_BinOp (subI (x := "start") (c := L + 2) (ti := tv) (kin C) (q1 C) rfl (q3 C) rfl hcs hn hm (let ⟨o, e, r⟩ := hsa; ⟨o, hB _ _ e, r⟩) hi (by omega) fun t => ?_)
    refine sumI (x := "row") (c := L + 1) (ti := tv) r.hd S.ok.gl hB (by omega) (kin C) (q1 C) rfl e.glo e.bui (q4 C) rfl (q2 C) rfl hcr hn hm (let ⟨o, e, r⟩ := hra; ⟨o, hB _ _ e, r⟩) fun y t h' tk hk' => P.add_int ⟨⟨_, _, rfl⟩, _, _, rfl, hk'⟩
  intro D h' tk ys vs hD _ hpl hvl hvP hF hk
  have hall : AllInts ys := fun y hy => by
    obtain ⟨_, h⟩ := Paired.right hF y (by simpa using hy)
    exact h
  have hys : ys.size = 6 := by
    have h1 := hF.length
    rw [true_filter (fun _ => rfl), hvl] at h1
    simpa using h1.symm
  obtain ⟨xn, rfl⟩ := hall.items
  rw [intItems_size] at hys
  obtain ⟨nn, S⟩ := S.madeList (tk := tk) rfl hD hpl hk
  obtain ⟨B3, le3, b3, S⟩ := S.freeze
  have hna : B3.IsList D (intItems xn) := ⟨_, b3, rfl, _, rfl⟩
  clear S1 hpl hk hF hvP hvl b3 hall
  have S := S.drop.drop
  refine storeC S e k3 c3 d3 fun s₁₃ o3 d3 S => ?_
  -- left = [...]
  refine wpAny_execs_cons (assignComp (cl := [(Str.ofString "numbers", L + 3)]) (by rw [← hE]; kernel_rfl) (by simp [closureFor, cellOf, hcells]; rfl) rfl (by decide) ?_)
  refine wpAny_mono (rangeCall (n := 6) S e k6 rfl (by decide) (constI S fun t s' S => ⟨⟨t, rfl⟩, S⟩)) (fun xv s₁₄ h => ?_) fun _ _ q => q
  obtain ⟨rr2, t, u, v, rfl, hr, hn, S⟩ := h
  refine wpAny_pyIter_range hr (small_one (by decide) (by decide) (by omega) (by omega)) ?_
  rw [hsz6]
  have S := S.push { cls := .type "range_iterator", data := .fields #[rawInt 0, rawInt (6 : Nat), rawInt 1] } (t := s₁₄.toks)
  generalize s₁₄.heap.objs.size = I at *
  generalize ({ s₁₄ with heap := s₁₄.heap.push { cls := .type "range_iterator", data := .fields #[rawInt 0, rawInt (6 : Nat), rawInt 1] } } : Shared) = s₁₅ at *
  refine newListR S (by decide) ?_
  intro acc s₁₆ S
  refine newCompEnv ?_
  have S := S.push { cls := .type "dict", data := .dict #[] } (t := s₁₆.toks)
  have S := S.perm (O' := [(I, _), (acc, lstO [] 0), (s₁₆.heap.objs.size, _), (L + 3, o3), (L + 4, o4)]) (((List.Perm.swap _ _ _).trans (.cons _ (.swap _ _ _))).trans (.swap _ _ _))
  have hst : IsRangeIter (s₁₆.heap.push { cls := .type "dict", data := .dict #[] }) I 0 6 1 := S.get (.head _)
  have done : ∀ B' oC mC s' ps n, Le B3 B' → St mg B s L B' mL [(acc, lstO ps n), (s₁₆.heap.objs.size, oC), (L + 3, o3), (L + 4, o4)] s' → (∀ h : Heap, h.get? s₁₆.heap.objs.size = some oC → h.Ns s₁₆.heap.objs.size mC) → (∀ p ∈ ps, TupAt B' p.1 p.2) → ps.map (·.2) = (List.range 6).map (fun j => gOf (numAt xn j) j) →
      compPost (Md w) A' NE (some (assign (.Name "left" ⟨64, 4, 64, 8⟩) env)) (fun _ s' => wpAny (Md w) A' (execs lawTail env) (fun f s' => (match f with | .ret v => v | _ => .none) = .bool true ∧ ∃ B', Stp mg B s B' s') NE s') (.ref acc) s₁₆.heap.objs.size (.ok .next) s' := by
    intro B' oC mC s' ps n le S hN hT hps
    refine assignL S e k5 fun s'' S => ⟨mC, hN _ (S.get (.tail _ (.head _))), fun h' hsb => ?_⟩
    have S := S.swap.lose (t := s''.toks) hsb.extBut
    obtain ⟨B4, le4, b4, S⟩ := S.freeze
    have S := S.drop
    have hlen : ps.length = 6 := by
      have := congrArg List.length hps
      simpa using this
    refine law_loop r hE S d4 rfl ⟨⟨_, b4, rfl, n, rfl⟩, fun p hp => (hT p hp).keeps le4⟩ (good_of (f := fun j => numAt xn j) hps) (by omega)
  have loop := left_loop (w := w) (C := s₁₆.heap.objs.size) (mC := fun _ => none) (r.less (by decide)) hE _ rfl S hst (fun h e => ⟨_, #[], 0, e, rfl, fun _ he => by simp at he, fun _ => rfl⟩) d3 hna hys done
  exact codeAny_compStart_list loop ((Walks.range (prog := Pg) (w := w) r.hd I 0 1 6).self 0 _ _ _ (by have h := hst; rw [show (0 : Int) = 0 + ((0 : Nat) : Int) * 1 from rfl, show (6 : Int) = ((6 : Nat) : Int) - ((0 : Nat) : Int) from rfl] at h; exact h) loop)
end
end Mine

namespace Mine

abbrev tabsL : List (Addr × Addr) := [(34, 30), (48, 44), (63, 61)]

structure KF (K : Frag) : Prop where
  nt : noTabs K = true
  sr : nsIn K mainGlobals "search_reverse" = some (some (.ref 21))
  sp : nsIn K mainGlobals "_split_list" = some (some (.ref 28))
  fi : nsIn K mainGlobals "_law_find" = some (some (.ref 35))
  nx : nsIn K mainGlobals "_law_next" = some (some (.ref 42))
  rm : nsIn K mainGlobals "_law_room" = some (some (.ref 49))
  hb : nsIn K mainGlobals "_law_hour_by_hour" = some (some (.ref 54))
  mo : nsIn K mainGlobals "_law_most" = some (some (.ref 59))
  la : nsIn K mainGlobals "law" = some (some (.ref 64))
  nrange : nsIn K mainGlobals "range" = some none
  nlen : nsIn K mainGlobals "len" = some none
  nsum : nsIn K mainGlobals "sum" = some none
  nmax : nsIn K mainGlobals "max" = some none
  f21 : ∃ pm, K.lookup 21 = some (fnObj 1 20 pm)
  f28 : ∃ pm, K.lookup 28 = some (fnObj 3 27 pm)
  f35 : ∃ pm, K.lookup 35 = some (fnObj 5 34 pm)
  f42 : ∃ pm, K.lookup 42 = some (fnObj 6 41 pm)
  f49 : ∃ pm, K.lookup 49 = some (fnObj 7 48 pm)
  f54 : ∃ pm, K.lookup 54 = some (fnObj 8 53 pm)
  f59 : ∃ pm, K.lookup 59 = some (fnObj 9 58 pm)
  f64 : ∃ pm, K.lookup 64 = some (fnObj 10 63 pm)
  c20 : codeIn K (.ref 20) (dfn 1).1 = true
  c27 : codeIn K (.ref 27) (dfn 3).1 = true
  c34 : codeIn K (.ref 34) (dfn 5).1 = true
  c41 : codeIn K (.ref 41) (dfn 6).1 = true
  c48 : codeIn K (.ref 48) (dfn 7).1 = true
  c53 : codeIn K (.ref 53) (dfn 8).1 = true
  c58 : codeIn K (.ref 58) (dfn 9).1 = true
  c63 : codeIn K (.ref 63) (dfn 10).1 = true

section
variable {K : Frag} {h₁ : Heap} {mg mb : Str → Option Value} {p : Program} {loose : List Str} {mean : ExcName → Option Value}

theorem boot_range : bootBuiltins "range" = some (.type "range") := by first | boot_by_name | rfl | kernel_rfl
theorem boot_len : bootBuiltins "len" = some (.builtin "len") := by first | boot_by_name | rfl | kernel_rfl
theorem boot_sum : bootBuiltins "sum" = some (.builtin "sum") := by first | boot_by_name | rfl | kernel_rfl
theorem boot_max : bootBuiltins "max" = some (.builtin "max") := by first | boot_by_name | rfl | kernel_rfl

theorem gl_of (k : KF K) (T : Top p loose mean mg mb h₁) (KX : K.In h₁) (hT : TabsAt tabsL h₁) : Gl mg (ghostOf h₁ tabsL) := by
  have X := ghost_K hT KX k.nt
  have T' := ghost_top hT T
  have C := ghost_code hT
  exact {
    g := T'.g
    sr := mg_of KX T.g k.sr
    sp := mg_of KX T.g k.sp
    fi := mg_of KX T.g k.fi
    nx := mg_of KX T.g k.nx
    rm := mg_of KX T.g k.rm
    hb := mg_of KX T.g k.hb
    mo := mg_of KX T.g k.mo
    nrange := mg_none_of KX T.g k.nrange
    nlen := mg_none_of KX T.g k.nlen
    nsum := mg_none_of KX T.g k.nsum
    nmax := mg_none_of KX T.g k.nmax
    b := ⟨mb, T'.b, (T.builtins _ (by decide)).trans boot_range, (T.builtins _ (by decide)).trans boot_len, (T.builtins _ (by decide)).trans boot_sum, (T.builtins _ (by decide)).trans boot_max⟩
    lim := T'.nolimit
    bm := T'.bmain
    f21 := let ⟨pm, e⟩ := k.f21; ⟨pm, X _ _ e⟩
    f28 := let ⟨pm, e⟩ := k.f28; ⟨pm, X _ _ e⟩
    f35 := let ⟨pm, e⟩ := k.f35; ⟨pm, X _ _ e⟩
    f42 := let ⟨pm, e⟩ := k.f42; ⟨pm, X _ _ e⟩
    f49 := let ⟨pm, e⟩ := k.f49; ⟨pm, X _ _ e⟩
    f54 := let ⟨pm, e⟩ := k.f54; ⟨pm, X _ _ e⟩
    f59 := let ⟨pm, e⟩ := k.f59; ⟨pm, X _ _ e⟩
    c20 := codeRec_of X k.c20
    c27 := codeRec_of X k.c27
    c34 := codeRec_of X k.c34
    c41 := codeRec_of X k.c41
    c48 := codeRec_of X k.c48
    c53 := codeRec_of X k.c53
    c58 := codeRec_of X k.c58
    h34 := C.1
    h48 := C.2.1
    h63 := C.2.2.1 }

theorem ok_of (k : KF K) (T : Top p loose mean mg mb h₁) (KX : K.In h₁) (hT : TabsAt tabsL h₁) : Ok mg (ghostOf h₁ tabsL) h₁ where
  ext := fun b o e => of_hideAll _ e
  gl := gl_of k T KX hT
  n30 := hideAll_none _ (by decide)
  n44 := hideAll_none _ (by decide)
  n61 := hideAll_none _ (by decide)
  t30 := ⟨#[], (hT (34, 30) (by decide)).2, trivial, fun pos cv h => by cases h⟩
  t44 := ⟨#[], (hT (48, 44) (by decide)).2, trivial, fun pos cv h => by cases h⟩
  t61 := ⟨#[], (hT (63, 61) (by decide)).2, trivial, fun pos cv h => by cases h⟩

theorem grown_of {B h : Heap} (ok : Ok mg B h) : GrownAll tabsL h :=
  ⟨let ⟨ps, e, _⟩ := ok.t30; ⟨ps, e⟩, let ⟨ps, e, _⟩ := ok.t44; ⟨ps, e⟩, let ⟨ps, e, _⟩ := ok.t61; ⟨ps, e⟩, trivial⟩

theorem rm_caller : Rm callerA 16 := ⟨rfl, by decide, by decide⟩

theorem finish {w : World} {s₁ : Shared} {c : ClaimW} {cl : Str → Option Addr} {args : List WData} {scr : Nat} {vs : List Value} {ns : List Int} {fa : Nat} (k : KF K) (T : Top p loose mean mg mb s₁.heap) (KX : K.In s₁.heap) (hT : TabsAt tabsL s₁.heap)
    (hfa : mg "law" = some (.ref fa)) (hl : s₁.heap.IsList scr vs.toArray) (hI : IntsAre vs ns) (hn : ¬ ((63 : Int) < (ns.length : Int))) (hg : s₁.gens = #[]) (hnr : ∀ cls, c.raises args cls = false) (hp : c.post args (.bool true) args = true) :
    codeAny (Md w) callerA (.call (.ref fa) ⟨[.ref scr], []⟩) (fun r s' => GoodW c cl mean args { s₁ with heap := ghostOf s₁.heap tabsL } r s' ∧ GrownAll tabsL s'.heap) s₁ := by
  have e64 : fa = 64 := by
    have := (mg_of KX T.g k.la).symm.trans hfa
    cases this; rfl
  subst e64
  obtain ⟨pm, hf⟩ := k.f64
  obtain ⟨xs, hxs⟩ := (hI.allInts).items
  have hlen : xs.size = ns.length := by
    have h1 := congrArg Array.size hxs
    rw [intItems_size] at h1
    rw [← h1, List.size_toArray, hI.length]
  have X := ghost_K hT KX k.nt
  have hl' := ghost_list hT hl
  rw [hxs] at hl'
  refine law_spec (r := rm_caller) (ok := ok_of k T KX hT) (hf := X _ _ hf) (hcd := codeRec_of X k.c63) (hl := hl') (hsz := by omega) fun B' s' st => ⟨⟨.inl ⟨_, .bool true, [], rfl, hnr, .bool true, hp, fun _ => ⟨List.nodup_nil, fun _ h => absurd h List.not_mem_nil⟩⟩, fun b o e => st.ok.ext _ _ (st.le _ _ e), ?_, ?_⟩, grown_of st.ok⟩
  · obtain ⟨h, tk, e⟩ := st.same
    rw [e]
  · obtain ⟨h, tk, e⟩ := st.same
    rw [e]; exact hg
end
end Mine

set_option maxHeartbeats 8000000 in
theorem PySem.Challenge.cw_ph0016_01_holds : PySem.Challenge.rw_ph0016_01.Holds := by
  w_on
  o_law
  k_head
  (case hw => w_witness2)
  k_fill
  intro w s₀ s₁ mg mb G Y fa o pm cd doc dV kV ho hd hcd hD hmg hg args vals as hpre hlay hrd hwl hlo
  have KX := km_in_of Y
  km_tabs Y
  have X := (Ground.X G).1
  have V := (Ground.X G).2
  refine Ground.open G ?_
  intro T B D TE TW
  try (refine guard_noD D (by decide +kernel) ?_; clear D)
  km_lay T hmg ho hd cd
  wrow_args hpre hlay hrd hwl hlo
  all_goals (first | refine callC_kw (enter_call ?_) | refine enter_call ?_)
  w_top on
  kn_posts
  rename_i hl _ _ _ hI _ hn _
  refine Mine.finish ?_ T KX (by assumption) hmg hl hI hn hg (fun _ => rfl) (by first | rfl | decide +kernel | kernel_rfl)
  exact {
    nt := by kernel_rfl
    sr := by kernel_rfl
    sp := by kernel_rfl
    fi := by kernel_rfl
    nx := by kernel_rfl
    rm := by kernel_rfl
    hb := by kernel_rfl
    mo := by kernel_rfl
    la := by kernel_rfl
    nrange := by kernel_rfl
    nlen := by kernel_rfl
    nsum := by kernel_rfl
    nmax := by kernel_rfl
    f21 := ⟨.str "cpy313.idlelib.searchengine" 187, by kernel_rfl⟩
    f28 := ⟨.str "cpy313.pydoc" 202, by kernel_rfl⟩
    f35 := ⟨.str "law_ph0016_01" 215, by kernel_rfl⟩
    f42 := ⟨.str "law_ph0016_01" 215, by kernel_rfl⟩
    f49 := ⟨.str "law_ph0016_01" 215, by kernel_rfl⟩
    f54 := ⟨.str "law_ph0016_01" 215, by kernel_rfl⟩
    f59 := ⟨.str "law_ph0016_01" 215, by kernel_rfl⟩
    f64 := ⟨.str "law_ph0016_01" 215, by kernel_rfl⟩
    c20 := by kernel_rfl
    c27 := by kernel_rfl
    c34 := by kernel_rfl
    c41 := by kernel_rfl
    c48 := by kernel_rfl
    c53 := by kernel_rfl
    c58 := by kernel_rfl
    c63 := by kernel_rfl }
