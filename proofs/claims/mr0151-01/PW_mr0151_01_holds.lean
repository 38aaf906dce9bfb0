import PyProof.Rows.All
import Wide.All
import OpenK.AllK
import Wide.FinOn
import PySem.Challenge.RW_mr0151_01
set_option Elab.async false
/-! Fw -/
namespace Mine
set_option linter.unusedVariables false
open PySem PySem.W PySem.Calls PySem.Spec PyProof.Rows

abbrev Led := List (Addr × Obj)
def IsTab (o : Obj) : Prop := ∃ ps : Array Value, o = tabObj ps ∧ TriplesOk ps.toList
/-- what may become of an entry: nothing; a frame's slots; of the tables in tb the rows -/
def TurnB (tb : List Addr) (p q : Addr × Obj) : Prop := q.1 = p.1 ∧ (q.2 = p.2 ∨ ((∃ es n, p.2.data = .dict es n) ∧ ∃ sl, q.2 = { p.2 with slots := sl }) ∨ (p.1 ∈ tb ∧ IsTab p.2 ∧ IsTab q.2))
inductive TurnsB (tb : List Addr) : Led → Led → Prop
  | nil : TurnsB tb [] []
  | cons {p q : Addr × Obj} {ps qs : Led} : TurnB tb p q → TurnsB tb ps qs → TurnsB tb (p :: ps) (q :: qs)
abbrev Turns := TurnsB []

theorem TurnB.refl {tb : List Addr} (p : Addr × Obj) : TurnB tb p p := ⟨rfl, .inl rfl⟩
theorem TurnB.trans {tb : List Addr} {p q r : Addr × Obj} (x : TurnB tb p q) (y : TurnB tb q r) : TurnB tb p r := by
  obtain ⟨x1, x2⟩ := x
  obtain ⟨y1, y2⟩ := y
  refine ⟨y1.trans x1, ?_⟩
  rcases x2 with x2 | ⟨⟨es, n, xd⟩, sl, x2⟩ | ⟨xt, x2, x3⟩
  · rw [x2, x1] at y2; exact y2
  · rcases y2 with y2 | ⟨_, sl', y2⟩ | ⟨_, ⟨ps, y2, _⟩, _⟩
    · exact .inr (.inl ⟨⟨es, n, xd⟩, sl, y2.trans x2⟩)
    · exact .inr (.inl ⟨⟨es, n, xd⟩, sl', by rw [y2, x2]⟩)
    · rw [x2] at y2
      have := congrArg Obj.data y2
      rw [show ({ p.2 with slots := sl } : Obj).data = p.2.data from rfl, xd] at this
      cases this
  · rcases y2 with y2 | ⟨⟨es, n, yd⟩, sl', y2⟩ | ⟨_, _, y3⟩
    · rw [← y2] at x3; exact .inr (.inr ⟨xt, x2, x3⟩)
    · obtain ⟨ps, e, _⟩ := x3
      rw [e] at yd; cases yd
    · exact .inr (.inr ⟨xt, x2, y3⟩)
theorem TurnB.up {tb tb' : List Addr} {p q : Addr × Obj} (x : TurnB tb p q) (h : ∀ a ∈ tb, a ∈ tb') : TurnB tb' p q := ⟨x.1, x.2.imp id fun y => y.imp id fun z => ⟨h _ z.1, z.2⟩⟩
theorem TurnsB.up {tb tb' : List Addr} {a b : Led} (x : TurnsB tb a b) (h : ∀ a ∈ tb, a ∈ tb') : TurnsB tb' a b := by
  induction x with
  | nil => exact .nil
  | cons t _ ih => exact .cons (t.up h) ih
theorem TurnsB.refl {tb : List Addr} : ∀ l : Led, TurnsB tb l l
  | [] => .nil
  | p :: r => .cons (TurnB.refl p) (TurnsB.refl r)
theorem TurnsB.trans {tb : List Addr} : ∀ {a b c : Led}, TurnsB tb a b → TurnsB tb b c → TurnsB tb a c
  | _, _, _, .nil, .nil => .nil
  | _, _, _, .cons x xs, .cons y ys => .cons (x.trans y) (TurnsB.trans xs ys)
theorem TurnsB.append {tb : List Addr} {a a' b b' : Led} (x : TurnsB tb a a') (y : TurnsB tb b b') : TurnsB tb (a ++ b) (a' ++ b') := by
  induction x with
  | nil => exact y
  | cons t _ ih => exact .cons t ih
theorem TurnsB.split {tb : List Addr} {b c : Led} : ∀ {a : Led}, TurnsB tb (a ++ b) c → ∃ a' b', c = a' ++ b' ∧ TurnsB tb a a' ∧ TurnsB tb b b'
  | [], x => ⟨[], c, rfl, .nil, x⟩
  | p :: a, x => by
    cases x with
    | cons t r =>
      obtain ⟨a', b', rfl, h1, h2⟩ := TurnsB.split r
      exact ⟨_ :: a', b', rfl, .cons t h1, h2⟩
theorem TurnsB.mem {tb : List Addr} {a b : Led} (x : TurnsB tb a b) {p : Addr × Obj} (hp : p ∈ a) : ∃ q ∈ b, TurnB tb p q := by
  induction x with
  | nil => exact nomatch hp
  | cons t _ ih =>
    cases hp with
    | head => exact ⟨_, .head _, t⟩
    | tail _ hp => obtain ⟨q, hq, ht⟩ := ih hp; exact ⟨q, .tail _ hq, ht⟩
theorem TurnsB.back {tb : List Addr} {a b : Led} (x : TurnsB tb a b) {q : Addr × Obj} (hq : q ∈ b) : ∃ p ∈ a, TurnB tb p q := by
  induction x with
  | nil => exact nomatch hq
  | cons t _ ih =>
    cases hq with
    | head => exact ⟨_, .head _, t⟩
    | tail _ hq => obtain ⟨p, hp, ht⟩ := ih hq; exact ⟨p, .tail _ hp, ht⟩
def Fixed (o : Obj) : Prop := (∀ es n, o.data ≠ .dict es n) ∧ ¬ IsTab o
theorem fixed_seq {c : String} {d : Option Addr} {vs : Array Value} {n : Nat} {sl : Array (Option Value)} : Fixed ⟨.type c, d, .seq vs n, sl⟩ :=
  ⟨fun es n q => (by cases q), fun ⟨ps, q, _⟩ => (by cases q)⟩
theorem fixed_cls {c : Value} {d : Option Addr} {vs : Array Value} {sl : Array (Option Value)} (hc : c ≠ .none) : Fixed ⟨c, d, .fields vs, sl⟩ :=
  ⟨fun es n q => (by cases q), fun ⟨ps, q, _⟩ => hc (congrArg Obj.cls q)⟩
theorem fixed_func {c : Value} {d : Option Addr} {fd : FuncData} {sl : Array (Option Value)} : Fixed ⟨c, d, .func fd, sl⟩ :=
  ⟨fun es n q => (by cases q), fun ⟨ps, q, _⟩ => (by cases q)⟩
theorem fixed_cell {c : Value} {d : Option Addr} {v : Option Value} {sl : Array (Option Value)} : Fixed ⟨c, d, .cell v, sl⟩ :=
  ⟨fun es n q => (by cases q), fun ⟨ps, q, _⟩ => (by cases q)⟩
theorem fixed_code {o : Obj} {vs : Array Value} {x : Str} {t : Tok} (hd : o.data = .fields vs) (h1 : vs[1]? = some (.str x t)) : Fixed o :=
  ⟨fun es n q => (by rw [hd] at q; cases q), by
    rintro ⟨ps, q, ht⟩
    rw [q] at hd
    have hd : ps = vs := by injection hd
    subst hd
    obtain ⟨l⟩ := ps
    cases l with
    | nil => simp at h1
    | cons a l =>
      cases l with
      | nil => simp at h1
      | cons b l =>
        have hb : b = .str x t := by simpa using h1
        subst hb
        cases l <;> cases a <;> exact ht⟩
theorem TurnB.fixed {tb : List Addr} {p q : Addr × Obj} (t : TurnB tb p q) (h : Fixed p.2) : q = p := by
  obtain ⟨t1, t2⟩ := t
  have : q.2 = p.2 := by
    rcases t2 with e | ⟨⟨es, n, e⟩, _⟩ | ⟨_, e, _⟩
    · exact e
    · exact absurd e (h.1 es n)
    · exact absurd e h.2
  exact Prod.ext t1 this
theorem TurnsB.head {tb : List Addr} {a : Addr} {o : Obj} {r l : Led} (x : TurnsB tb ((a, o) :: r) l) (h : Fixed o) : ∃ r', l = (a, o) :: r' ∧ TurnsB tb r r' := by
  cases x with
  | cons t xs => rw [t.fixed h]; exact ⟨_, rfl, xs⟩
theorem TurnsB.all {tb : List Addr} {l l' : Led} (x : TurnsB tb l l') (h : ∀ p ∈ l, Fixed p.2) : l' = l := by
  induction x with
  | nil => rfl
  | cons t _ ih => rw [t.fixed (h _ (.head _)), ih fun p hp => h p (.tail _ hp)]
theorem TurnsB.keepsIn {tb : List Addr} {l l' : Led} (x : TurnsB tb l l') {p : Addr × Obj} (hp : p ∈ l) (h : Fixed p.2) : p ∈ l' := by
  obtain ⟨q, hq, t⟩ := x.mem hp
  rw [t.fixed h] at hq; exact hq
theorem TurnsB.keepsTab {tb : List Addr} {l l' : Led} (x : TurnsB tb l l') {P : Addr} {ps : Array Value} (hp : (P, tabObj ps) ∈ l) (hn : P ∉ tb) : (P, tabObj ps) ∈ l' := by
  obtain ⟨q, hq, e1, e2⟩ := x.mem hp
  have : q = (P, tabObj ps) := by
    rcases e2 with e2 | ⟨⟨es, n, e2⟩, _⟩ | ⟨e2, _⟩
    · exact Prod.ext e1 e2
    · cases e2
    · exact absurd e2 hn
  rw [← this]; exact hq

/-- the outer frames lie in the ledger -/
def FrsIn (outer : List Env) (led : Led) : Prop := ∀ env ∈ outer, env.scope.kind ≠ .module ∧ ∃ L o, env.frame = some L ∧ (L, o) ∈ led ∧ ∃ es n, o.data = .dict es n
theorem FrsIn.turns {tb : List Addr} {outer : List Env} {a b : Led} (x : FrsIn outer a) (t : TurnsB tb a b) : FrsIn outer b := fun env he => by
  obtain ⟨h1, L, o, h2, h3, es, n, h4⟩ := x env he
  obtain ⟨⟨L', o'⟩, hq, e1, e2⟩ := t.mem h3
  refine ⟨h1, L', o', by rw [h2]; exact congrArg some e1.symm, hq, es, n, ?_⟩
  rcases e2 with e | ⟨_, sl, e⟩ | ⟨_, ⟨ps, e, _⟩, _⟩
  · have : o' = o := e
    rw [this]; exact h4
  · have : o' = { o with slots := sl } := e
    rw [this]; exact h4
  · have : o = tabObj ps := e
    rw [this] at h4; cases h4
theorem FrsIn.mono {outer : List Env} {a b : Led} (x : FrsIn outer a) (h : ∀ p ∈ a, p ∈ b) : FrsIn outer b := fun env he =>
  let ⟨h1, L, o, h2, h3, r⟩ := x env he; ⟨h1, L, o, h2, h _ h3, r⟩

abbrev fas (outer : List Env) : List Addr := outer.filterMap (·.frame)
theorem FrsIn.at {outer : List Env} {led : Led} (x : FrsIn outer led) {b : Addr} (hb : b ∈ fas outer) : ∃ o, (b, o) ∈ led ∧ ∃ es n, o.data = .dict es n := by
  obtain ⟨env, he, hf⟩ := List.mem_filterMap.mp hb
  obtain ⟨_, L, o, h2, h3, r⟩ := x env he
  rw [h2] at hf
  cases hf
  exact ⟨o, h3, r⟩

section
variable {h₀ h hm h' : Heap} {L : Addr} {m : Str → Option Value} {led : Led} {outer : List Env}
theorem base_old (F : Fr h₀ L h m) (N : News h₀ L h led) (O : FrsIn outer led) {b : Addr} {o : Obj} (e : h₀.get? b = some o) : b ∉ L :: fas outer := fun hb => by
  rcases List.mem_cons.mp hb with rfl | hb
  · exact absurd (Nat.lt_of_lt_of_le (Heap.lt_size e) F.above) (Nat.lt_irrefl _)
  · obtain ⟨o', ho', _⟩ := O.at hb
    rw [(N _ ho').2.2] at e; cases e
theorem led_of {tb : List Addr} : ∀ {led : Led}, (∀ p ∈ led, ∃ q, TurnB tb p q ∧ h'.get? q.1 = some q.2) → ∃ led', TurnsB tb led led' ∧ ∀ q ∈ led', h'.get? q.1 = some q.2
  | [], _ => ⟨[], .nil, fun _ h => nomatch h⟩
  | p :: r, x => by
    obtain ⟨q, t, hq⟩ := x p (.head _)
    obtain ⟨r', ts, hr⟩ := led_of (led := r) fun p hp => x p (.tail _ hp)
    refine ⟨q :: r', .cons t ts, fun z hz => ?_⟩
    cases hz with
    | head => exact hq
    | tail _ hz => exact hr z hz
theorem news_turned (N : News h₀ L h led) {tb : List Addr} {led' : Led} (t : TurnsB tb led led') (x : ∀ q ∈ led', h'.get? q.1 = some q.2) : News h₀ L h' led' := fun q hq => by
  obtain ⟨p, hp, e, _⟩ := t.back hq
  exact ⟨x q hq, by rw [e]; exact (N p hp).2.1, by rw [e]; exact (N p hp).2.2⟩

theorem after_note (F : Fr h₀ L h m) (N : News h₀ L h led) (O : FrsIn outer led) (hk : ∀ b o, h.get? b = some o → hm.get? b = some o) (st : (TI.gone h (L :: fas outer)).StaysIn h') (up : hm.UpToSlots h') :
    (∃ led', Turns led led' ∧ Fr h₀ L h' m ∧ News h₀ L h' led') ∧ ∀ T oT ts, (TI.gone h (L :: fas outer)).get? T = none → h'.get? T = some oT → oT.data = .fields ts → h.get? T = none := by
  have frame : ∀ b ∈ fas outer, ∃ o es n, h.get? b = some o ∧ o.data = .dict es n ∧ ∃ sl, h'.get? b = some { o with slots := sl } := fun b hb => by
    obtain ⟨o, ho, es, n, hd⟩ := O.at hb
    have h1 := (N _ ho).1
    obtain ⟨sl, h2⟩ := up b o (hk _ _ h1) fun vs q => by rw [hd] at q; cases q
    exact ⟨o, es, n, h1, hd, sl, h2⟩
  have hNs : hm.Ns L m := let ⟨o, es, ep, ho, r⟩ := F.ns; ⟨o, es, ep, hk _ _ ho, r⟩
  have hNs' : h'.Ns L m := up.ns hNs
  refine ⟨?_, fun T oT ts hb hT hd => ?_⟩
  · obtain ⟨led', t, x⟩ := led_of (tb := []) (h' := h') (led := led) fun p hp => by
      have hpl := (N p hp).1
      by_cases hf : p.1 ∈ fas outer
      · obtain ⟨o, es, n, h1, hd, sl, h2⟩ := frame _ hf
        rw [hpl] at h1
        have e : p.2 = o := Option.some.inj h1
        exact ⟨(p.1, { p.2 with slots := sl }), ⟨rfl, .inr (.inl ⟨⟨es, n, by rw [e]; exact hd⟩, sl, rfl⟩)⟩, by rw [e]; exact h2⟩
      · have hn : p.1 ∉ L :: fas outer := fun q => by
          rcases List.mem_cons.mp q with q | q
          · exact (N p hp).2.1 q
          · exact hf q
        exact ⟨p, TurnB.refl p, st _ _ ((TI.gone_get hn).trans hpl)⟩
    exact ⟨led', t, ⟨hNs', fun b o e => st _ _ ((TI.gone_get (base_old F N O e)).trans (F.keep b o e)), F.above⟩, news_turned N t x⟩
  · cases hq : h.get? T with
    | none => rfl
    | some o =>
      by_cases hn : T ∈ L :: fas outer
      · rcases List.mem_cons.mp hn with rfl | hn
        · obtain ⟨oL, es, ep, hL, hLd, _⟩ := hNs'
          rw [hL] at hT; cases hT
          rw [hLd] at hd; cases hd
        · obtain ⟨o', es, n, h1, hd', sl, h2⟩ := frame _ hn
          rw [h2] at hT; cases hT
          have : o'.data = .fields ts := hd
          rw [hd'] at this; cases this
      · rw [(TI.gone_get hn).trans hq] at hb; cases hb
theorem funs_of {base : Heap} : ∀ {l : List Env}, (∀ env ∈ l, env.scope.kind ≠ .module ∧ ∃ L o, env.frame = some L ∧ base.get? L = none ∧ hm.get? L = some o ∧ ∀ vs, o.data ≠ .fields vs) → hm.FunFrames base l
  | [], _ => trivial
  | env :: r, x => by
    obtain ⟨h1, L, o, h2, h3, h4, h5⟩ := x env (.head _)
    exact ⟨h1, ⟨L, o, h2, h3, h4, h5⟩, funs_of fun e he => x e (.tail _ he)⟩
theorem funs (F : Fr h₀ L h m) (N : News h₀ L h led) (O : FrsIn outer led) (hk : ∀ b o, h.get? b = some o → hm.get? b = some o) {env : Env} (hf : env.frame = some L) (hke : env.scope.kind ≠ .module) :
    hm.FunFrames (TI.gone h (L :: fas outer)) (env :: outer) := funs_of fun e he => by
  cases he with
  | head =>
    obtain ⟨o, es, ep, ho, hd, _⟩ := F.ns
    exact ⟨hke, L, o, hf, TI.gone_none (.head _), hk _ _ ho, fun vs q => by rw [hd] at q; cases q⟩
  | tail _ he =>
    obtain ⟨h1, L', o, h2, h3, es, n, h4⟩ := O e he
    exact ⟨h1, L', o, h2, TI.gone_none (.tail _ (List.mem_filterMap.mpr ⟨e, he, h2⟩)), hk _ _ (N _ h3).1, fun vs q => by rw [h4] at q; cases q⟩
end

/-- an exception made behind h, its traceback begun behind h -/
def Tr (h h' : Heap) (e : Addr) (cls a0 fl : Value) : Prop := h.get? e = none ∧ h'.TracedAtW h e cls a0 fl
structure Pre (h h₀ : Heap) (L : Addr) (led : Led) : Prop where
  led : ∀ p ∈ led, ∃ o, h.get? p.1 = some o
  fr : ∃ o, h.get? L = some o
  old : ∀ b o, h₀.get? b = some o → ∃ o', h.get? b = some o'
theorem Pre.of {h h₀ : Heap} {L : Addr} {led : Led} {m : Str → Option Value} (F : Fr h₀ L h m) (N : News h₀ L h led) : Pre h h₀ L led :=
  ⟨fun p hp => ⟨_, (N p hp).1⟩, let ⟨o, _, _, ho, _⟩ := F.ns; ⟨o, ho⟩, fun b o e => ⟨o, F.keep b o e⟩⟩
theorem Pre.turns {tb : List Addr} {h h₀ : Heap} {L : Addr} {led led' : Led} (P : Pre h h₀ L led) (t : TurnsB tb led led') : Pre h h₀ L led' :=
  ⟨fun q hq => by obtain ⟨p, hp, e, _⟩ := t.back hq; rw [e]; exact P.led p hp, P.fr, P.old⟩

section
variable {prog : Program} {w : World} {A : Around} {E : Value → Shared → Prop} {s : Shared} {h₀ h : Heap} {L e : Addr} {m : Str → Option Value} {led : Led} {outer : List Env} {env : Env} {Q : Unit → Shared → Prop}

theorem note_first {oe : Obj} {vs : Array Value} {a0 : Value} (hfr : A.frames = some (env :: outer)) (hf : env.frame = some L) (hke : env.scope.kind ≠ .module) (F : Fr h₀ L h m) (N : News h₀ L h led) (O : FrsIn outer led)
    (hk : ∀ b o, h.get? b = some o → s.heap.get? b = some o) (hn : h.get? e = none) (he : s.heap.get? e = some oe) (hd : oe.data = .fields vs) (h1 : vs[1]? = some .none) (h0 : vs[0]? = some a0)
    (k : ∀ h' led', Turns led led' → Fr h₀ L h' m → News h₀ L h' led' → Tr h h' e oe.cls a0 (rawInt L) → s.heap.UpToSlots h' → Q () { s with heap := h' }) : wpAny (model prog w) A (noteFrame (.ref e) env) Q E s := by
  unfold noteFrame
  simp only [hf]
  refine wpAny_bind (wpAny_field he hd h1 ?_)
  rw [if_neg (by decide)]
  have hen : (TI.gone h (L :: fas outer)).get? e = none := TI.none_of (fun b o eb => (TI.gone_some eb).2) hn
  refine wpAny_entryW (a0 := a0) hfr (funs F N O hk hf hke) hf he (fun b o eb => hk b o (TI.gone_some eb).2) hen hd (Array.getElem?_eq_some_iff.mp h1).1 h0 fun h' hN => ?_
  obtain ⟨k1, _, k3, k4⟩ := hN
  obtain ⟨⟨led', t, F', N'⟩, hT⟩ := after_note F N O hk k1 k4
  obtain ⟨oe', vs', T, oT, ts, g1, g2, g3, g4, g5, g6, g7, g8, g9⟩ := k3
  exact k h' led' t F' N' ⟨hn, oe', vs', T, oT, ts, g1, g2, g3, g4, hT T oT ts g5 g7 g8, g6, g7, g8, g9⟩ k4

end
/-- from a callee's end back into the caller's words -/
def Back (h₀ : Heap) (L : Addr) (m : Str → Option Value) (led : Led) (g : Heap) (fs : Led) : Prop :=
  ∀ (tb : List Addr) (L' : Addr) (h' : Heap) (m' : Str → Option Value) (new fs' : Led), Fr g L' h' m' → News g L' h' (new ++ fs') → TurnsB tb fs fs' → (∀ p ∈ new, ∀ q ∈ fs', q.1 ≠ p.1) →
    ∃ oL led', fs' = (L, oL) :: led' ∧ (∃ es n, oL.data = .dict es n) ∧ TurnsB tb led led' ∧ Fr h₀ L h' m ∧ News h₀ L h' (new ++ led')

section
variable {prog : Program} {w : World} {A : Around} {E : Value → Shared → Prop} {s : Shared} {h₀ : Heap} {L : Addr} {m : Str → Option Value} {led : Led} {outer : List Env} {env : Env} {Q : Value → Shared → Prop}
theorem hide_facts (hf : env.frame = some L) (hke : env.scope.kind ≠ .module) (F : Fr h₀ L s.heap m) (N : News h₀ L s.heap led) (O : FrsIn outer led) :
    ∃ oL, (∀ b o, h₀.get? b = some o → (hideAll s.heap (L :: led.map (·.1))).get? b = some o) ∧ s.heap.get? L = some oL ∧ FrsIn (env :: outer) ((L, oL) :: led) ∧ Back h₀ L m led (hideAll s.heap (L :: led.map (·.1))) ((L, oL) :: led) ∧
      ∀ p ∈ (L, oL) :: led, p.1 < s.heap.objs.size ∧ s.heap.get? p.1 = some p.2 ∧ (hideAll s.heap (L :: led.map (·.1))).get? p.1 = none := by
  obtain ⟨oL, es, ep, hL, hLd, hLk, hLf⟩ := F.ns
  have st : ∀ b o, h₀.get? b = some o → (hideAll s.heap (L :: led.map (·.1))).get? b = some o := fun b o e => hideAll_get _ (F.keep b o e) fun q => by
    rcases List.mem_cons.mp q with rfl | q
    · exact absurd (Nat.lt_of_lt_of_le (Heap.lt_size e) F.above) (Nat.lt_irrefl _)
    · obtain ⟨p, hp, rfl⟩ := List.mem_map.mp q
      rw [(N p hp).2.2] at e; cases e
  refine ⟨oL, st, hL, fun e he => ?_, fun tb L' h' m' new fs' F' N' t ap => ?_, fun p hp => ?_⟩
  · cases he with
    | head => exact ⟨hke, L, oL, hf, .head _, es, ep, hLd⟩
    | tail _ he => obtain ⟨h1, a, o, h2, h3, r⟩ := O e he; exact ⟨h1, a, o, h2, .tail _ h3, r⟩
  · cases t with
    | @cons _ q _ led' t ts =>
      obtain ⟨a', oL'⟩ := q
      obtain ⟨e1, e2⟩ := t
      have e1 : a' = L := e1
      subst e1
      have hL' : h'.get? a' = some oL' := (N' _ (List.mem_append_right _ (.head _))).1
      have hns : h'.Ns a' m ∧ ∃ es n, oL'.data = .dict es n := by
        rcases e2 with e2 | ⟨_, sl, e2⟩ | ⟨_, ⟨ps, e2, _⟩, _⟩
        · have e2 : oL' = oL := e2
          exact ⟨⟨oL', es, ep, hL', by rw [e2]; exact hLd, hLk, hLf⟩, es, ep, by rw [e2]; exact hLd⟩
        · have e2 : oL' = { oL with slots := sl } := e2
          exact ⟨⟨oL', es, ep, hL', by rw [e2]; exact hLd, hLk, hLf⟩, es, ep, by rw [e2]; exact hLd⟩
        · have e2 : oL = tabObj ps := e2
          rw [e2] at hLd; cases hLd
      refine ⟨oL', led', rfl, hns.2, ts, ⟨hns.1, fun b o e => F'.keep b o (st b o e), F.above⟩, fun p hp => ?_⟩
      rcases List.mem_append.mp hp with hp | hp
      · refine ⟨(N' p (List.mem_append_left _ hp)).1, fun q => ap p hp _ (.head _) q.symm, ?_⟩
        cases q : h₀.get? p.1 with
        | none => rfl
        | some o => have := (N' p (List.mem_append_left _ hp)).2.2; rw [st _ _ q] at this; cases this
      · obtain ⟨p', hp', e, _⟩ := ts.back hp
        exact ⟨(N' p (List.mem_append_right _ (.tail _ hp))).1, by rw [e]; exact (N p' hp').2.1, by rw [e]; exact (N p' hp').2.2⟩
  · cases hp with
    | head => exact ⟨Heap.lt_size hL, hL, hideAll_none _ (.head _)⟩
    | tail _ hp => exact ⟨Heap.lt_size (N p hp).1, (N p hp).1, hideAll_none _ (.tail _ (List.mem_map_of_mem hp))⟩

theorem enterS {f : Addr} {fo : Obj} {fd : FuncData} {body : List Stmt} {pos : List Value} {kw : List (Str × Value)} {binds : List (Str × Value)} (hA : A.frames = some (env :: outer)) (hf : env.frame = some L) (hke : env.scope.kind ≠ .module)
    (F : Fr h₀ L s.heap m) (N : News h₀ L s.heap led) (O : FrsIn outer led) (ho : s.heap.get? f = some fo) (hd : fo.data = .func fd) (hlim : h₀.NoLimit) (hcd : s.heap.CodeRec fd.code fd.qualname) (hroom : A.depth < recursionLimit)
    (hbody : fd.body = .stmts body) (hbind : BindsTo s fd ⟨pos, kw⟩ binds) (hcell : ∀ x ∈ fd.scope.names, x.2 ≠ .cell) (hloc : ∀ x ∈ binds, fd.scope.names.lookup x.1 = some .local)
    (h : ∀ g h₁ oL, (∀ b o, h₀.get? b = some o → g.get? b = some o) → Fr g s.heap.objs.size h₁ (fun x => binds.reverse.lookup x) → News g s.heap.objs.size h₁ ((L, oL) :: led) → FrsIn (env :: outer) ((L, oL) :: led) →
      Back h₀ L m led g ((L, oL) :: led) → (∀ p ∈ (L, oL) :: led, p.1 < s.heap.objs.size) → (∀ b o, s.heap.get? b = some o → h₁.get? b = some o) →
      wpAny (model prog w) (A.deeper (callEnv fd s.heap.objs.size f)) (execs body (callEnv fd s.heap.objs.size f)) (fun fl s' => Q (match fl with | .ret v => v | _ => .none) s')
        (fun e s' => wpAny (model prog w) (A.deeper (callEnv fd s.heap.objs.size f)) (leaving (callEnv fd s.heap.objs.size f) e) (fun _ s'' => E e s'') (fun e' s'' => E e' s'') s')
        { s with heap := h₁, toks := s.toks + binds.length })
    (hco : fd.scope.isCoroutine = false) (hgen : fd.scope.isGenerator = false) (hk : fd.scope.kind = .function) : wpAny (model prog w) A (call (.ref f) pos kw) Q E s := by
  obtain ⟨oL, st, hL, O', bk, x⟩ := hide_facts hf hke F N O
  refine wpAny_call (codeAny_call_def (binds := binds) hroom ho hd (hlim.keeps F.keep) hcd hbody hbind hcell hloc (fun h₁ hns hk₁ => ?_) hco hgen hk)
  exact h _ h₁ oL st ⟨hns, fun b o e => hk₁ b o (of_hideAll _ e), Nat.le_of_eq (hideAll_size _ _)⟩ (fun p hp => ⟨hk₁ _ _ (x p hp).2.1, Nat.ne_of_lt (x p hp).1, (x p hp).2.2⟩) O' bk (fun p hp => (x p hp).1) hk₁
theorem enter {f : Addr} {fo : Obj} {fd : FuncData} {body : List Stmt} {pos : List Value} {kw : List (Str × Value)} {binds : List (Str × Value)} (hA : A.frames = some (env :: outer)) (hf : env.frame = some L) (hke : env.scope.kind ≠ .module)
    (F : Fr h₀ L s.heap m) (N : News h₀ L s.heap led) (O : FrsIn outer led) (ho : h₀.get? f = some fo) (hd : fo.data = .func fd) (hlim : h₀.NoLimit) (hcd : h₀.CodeRec fd.code fd.qualname) (hroom : A.depth < recursionLimit)
    (hbody : fd.body = .stmts body) (hbind : BindsTo s fd ⟨pos, kw⟩ binds) (hcell : ∀ x ∈ fd.scope.names, x.2 ≠ .cell) (hloc : ∀ x ∈ binds, fd.scope.names.lookup x.1 = some .local)
    (h : ∀ g h₁ oL, (∀ b o, h₀.get? b = some o → g.get? b = some o) → Fr g s.heap.objs.size h₁ (fun x => binds.reverse.lookup x) → News g s.heap.objs.size h₁ ((L, oL) :: led) → FrsIn (env :: outer) ((L, oL) :: led) →
      Back h₀ L m led g ((L, oL) :: led) → (∀ p ∈ (L, oL) :: led, p.1 < s.heap.objs.size) → (∀ b o, s.heap.get? b = some o → h₁.get? b = some o) →
      wpAny (model prog w) (A.deeper (callEnv fd s.heap.objs.size f)) (execs body (callEnv fd s.heap.objs.size f)) (fun fl s' => Q (match fl with | .ret v => v | _ => .none) s')
        (fun e s' => wpAny (model prog w) (A.deeper (callEnv fd s.heap.objs.size f)) (leaving (callEnv fd s.heap.objs.size f) e) (fun _ s'' => E e s'') (fun e' s'' => E e' s'') s')
        { s with heap := h₁, toks := s.toks + binds.length })
    (hco : fd.scope.isCoroutine = false) (hgen : fd.scope.isGenerator = false) (hk : fd.scope.kind = .function) : wpAny (model prog w) A (call (.ref f) pos kw) Q E s :=
  enterS hA hf hke F N O (F.keep _ _ ho) hd hlim (hcd.keeps F.keep) hroom hbody hbind hcell hloc h hco hgen hk
end
end Mine
/-! KDef -/
namespace Mine
set_option linter.unusedVariables false
open PySem PySem.W PySem.Calls PySem.Spec PyProof.Rows
abbrev prog : Program := PySem.Challenge.pw_mr0151_01
def stAt (i : Nat) : Stmt := (prog.main.body[i]?).getD (.Pass default)
def paramsOf : Stmt → Arguments
  | .FunctionDef _ a _ _ _ _ _ _ _ _ => a
  | _ => default
def bodyOf : Stmt → List Stmt
  | .FunctionDef _ _ b _ _ _ _ _ _ _ => b
  | _ => []
def scopeOf : Stmt → Scope
  | .FunctionDef _ _ _ _ _ _ sc _ _ _ => sc
  | _ => default
abbrev vS (x : String) (t : Tok) : Value := .str (Str.ofString x) t
abbrev kH (P : Params) (x : String) : Int := PyData.keyHash P (Str.ofString x)
abbrev eN (P : Params) (x : String) (t : Tok) (v : Value) : DictEntry := { hash := kH P x, key := vS x t, val := v }
abbrev fdAt (i : Nat) (nm : String) (dv pm : Value) (cd : Addr) : FuncData :=
  { name := Str.ofString nm, qualname := Str.ofString nm, params := paramsOf (stAt i), body := .stmts (bodyOf (stAt i)), scope := scopeOf (stAt i), globals := 3, closure := [], defaults := dv, kwdefaults := .none, pyModule := pm, code := .ref cd }
abbrev fnObj (i : Nat) (nm : String) (dv pm : Value) (cd : Addr) : Obj := { cls := .type "function", data := .func (fdAt i nm dv pm cd) }

def o3 (P : Params) : Obj := { cls := Value.type "dict", data := Data.dict #[eN P "__name__" 165 (vS ("law_mr0151_01") 421), eN P "__doc__" 166 (Value.none), eN P "__package__" 167 (Value.none), eN P "__loader__" 168 (Value.builtin "__main__.__loader__#opaque"), eN P "__spec__" 169 (Value.none), eN P "__annotations__" 170 (Value.ref 6), eN P "__builtins__" 171 (Value.ref 4), eN P "__file__" 173 (vS ("/claim/cut.py") 172), eN P "__cached__" 174 (Value.none), eN P "ASCII_CTRL" 332 (Value.ref 31), eN P "ILLEGAL_BASIC_STR_CHARS" 336 (Value.ref 36), eN P "ILLEGAL_LITERAL_STR_CHARS" 337 (Value.ref 36), eN P "ILLEGAL_COMMENT_CHARS" 338 (Value.ref 36), eN P "TOMLDecodeError" 356 (Value.ref 46), eN P "skip_chars" 365 (Value.ref 56), eN P "skip_until" 377 (Value.ref 63), eN P "skip_comment" 386 (Value.ref 70), eN P "parse_literal_str" 395 (Value.ref 77), eN P "suffixed_err" 405 (Value.ref 84), eN P "_initial_missing" 408 (Value.ref 85), eN P "reduce" 420 (Value.ref 93), eN P "_law_pieces" 428 (Value.ref 98), eN P "_law_written" 437 (Value.ref 105), eN P "_law_step" 449 (Value.ref 112), eN P "_law_read" 458 (Value.ref 119), eN P "_law_cut" 469 (Value.ref 126), eN P "_law_spoilt" 484 (Value.ref 133), eN P "law" 490 (Value.ref 138)] 28 }
def o37 (P : Params) : Obj := { cls := Value.type "tuple", data := Data.seq #[Value.type "ValueError"] }
def o44 (P : Params) : Obj := { cls := Value.type "tuple", data := Data.seq #[] }
def o45 (P : Params) : Obj := { cls := Value.type "dict", data := Data.dict #[eN P "__module__" 346 (vS ("cpy313.tomllib._parser") 187), eN P "__firstlineno__" 350 (Value.int 6 349), eN P "__static_attributes__" 351 (Value.ref 44), eN P "__weakref__" 353 (Value.ref 47), eN P "__doc__" 354 (Value.none)] 3 }
def o46 (P : Params) : Obj := { cls := Value.type "type", data := Data.cls { name := Str.ofString "TOMLDecodeError", bases := [Value.type "ValueError"], mro := [Value.ref 46, Value.type "ValueError", Value.type "Exception", Value.type "BaseException", Value.type "object"], ns := 45, qualname := Str.ofString "TOMLDecodeError" }, slots := #[some (Value.ref 37), none, some (vS ("TOMLDecodeError") 339), some (vS ("TOMLDecodeError") 347), some (Value.builtin "ValueError.__new__"), some (Value.bool true)] }
def o47 (P : Params) : Obj := { cls := Value.type "getset_descriptor", data := Data.fields #[vS ("__weakref__") 352, Value.ref 46, Value.builtin "ExceptionGroup.__weakref__", Value.none] }
def o55 (P : Params) : Obj := { cls := Value.type "code", data := Data.fields #[vS ("skip_chars") 357, vS ("skip_chars") 358, vS ("/claim/cut.py") 359, Value.int 8 0, Value.int 3 0, Value.int 0 0, Value.int 0 0, Value.int 3 0, Value.ref 50, Value.bool true, Value.int 181 0, Value.ref 51, Value.none, Value.ref 52, Value.ref 53, Value.ref 54, Value.int 363 0, Value.int 8 0, vS ("/claim/cut.py") 364] }
abbrev o56 : Obj := fnObj 6 "skip_chars" (Value.none) (vS "cpy313.tomllib._parser" 187) 55
def o62 (P : Params) : Obj := { cls := Value.type "code", data := Data.fields #[vS ("skip_until") 366, vS ("skip_until") 367, vS ("/claim/cut.py") 368, Value.int 15 0, Value.int 3 0, Value.int 0 0, Value.int 2 0, Value.int 3 0, Value.ref 57, Value.bool true, Value.int 181 0, Value.ref 58, Value.none, Value.ref 59, Value.ref 60, Value.ref 61, Value.int 375 0, Value.int 15 0, vS ("/claim/cut.py") 376] }
abbrev o63 : Obj := fnObj 7 "skip_until" (Value.none) (vS "cpy313.tomllib._parser" 187) 62
def o69 (P : Params) : Obj := { cls := Value.type "code", data := Data.fields #[vS ("skip_comment") 378, vS ("skip_comment") 379, vS ("/claim/cut.py") 380, Value.int 27 0, Value.int 2 0, Value.int 0 0, Value.int 0 0, Value.int 3 0, Value.ref 64, Value.bool true, Value.int 181 0, Value.ref 65, Value.none, Value.ref 66, Value.ref 67, Value.ref 68, Value.int 384 0, Value.int 27 0, vS ("/claim/cut.py") 385] }
abbrev o70 : Obj := fnObj 8 "skip_comment" (Value.none) (vS "cpy313.tomllib._parser" 187) 69
def o76 (P : Params) : Obj := { cls := Value.type "code", data := Data.fields #[vS ("parse_literal_str") 387, vS ("parse_literal_str") 388, vS ("/claim/cut.py") 389, Value.int 35 0, Value.int 2 0, Value.int 0 0, Value.int 0 0, Value.int 3 0, Value.ref 71, Value.bool true, Value.int 181 0, Value.ref 72, Value.none, Value.ref 73, Value.ref 74, Value.ref 75, Value.int 393 0, Value.int 35 0, vS ("/claim/cut.py") 394] }
abbrev o77 : Obj := fnObj 9 "parse_literal_str" (Value.none) (vS "cpy313.tomllib._parser" 187) 76
def o83 (P : Params) : Obj := { cls := Value.type "code", data := Data.fields #[vS ("suffixed_err") 396, vS ("suffixed_err") 397, vS ("/claim/cut.py") 398, Value.int 40 0, Value.int 3 0, Value.int 0 0, Value.int 0 0, Value.int 3 0, Value.ref 78, Value.bool true, Value.int 181 0, Value.ref 79, Value.none, Value.ref 80, Value.ref 81, Value.ref 82, Value.int 403 0, Value.int 40 0, vS ("/claim/cut.py") 404] }
abbrev o84 : Obj := fnObj 10 "suffixed_err" (Value.none) (vS "cpy313.tomllib._parser" 187) 83
def o85 (P : Params) : Obj := { cls := Value.type "object" }
def o86 (P : Params) : Obj := { cls := Value.type "tuple", data := Data.seq #[Value.ref 85] }
def o92 (P : Params) : Obj := { cls := Value.type "code", data := Data.fields #[vS ("reduce") 409, vS ("reduce") 410, vS ("/claim/cut.py") 411, Value.int 54 0, Value.int 3 0, Value.int 0 0, Value.int 0 0, Value.int 3 0, Value.ref 87, Value.bool true, Value.int 181 0, Value.ref 88, Value.none, Value.ref 89, Value.ref 90, Value.ref 91, Value.int 418 0, Value.int 54 0, vS ("/claim/cut.py") 419] }
abbrev o93 : Obj := fnObj 13 "reduce" (Value.ref 86) (vS "cpy313.functools" 406) 92
def o97 (P : Params) : Obj := { cls := Value.type "code", data := Data.fields #[vS ("_law_pieces") 423, vS ("_law_pieces") 424, vS ("/claim/cut.py") 425, Value.int 67 0, Value.int 1 0, Value.int 0 0, Value.int 0 0, Value.int 3 0, Value.ref 94, Value.bool true, Value.int 181 0, Value.ref 95, Value.none, Value.none, Value.none, Value.ref 96, Value.int 426 0, Value.int 67 0, vS ("/claim/cut.py") 427] }
abbrev o98 : Obj := fnObj 15 "_law_pieces" (Value.none) (vS "law_mr0151_01" 421) 97
def o104 (P : Params) : Obj := { cls := Value.type "code", data := Data.fields #[vS ("_law_written") 429, vS ("_law_written") 430, vS ("/claim/cut.py") 431, Value.int 81 0, Value.int 1 0, Value.int 0 0, Value.int 0 0, Value.int 3 0, Value.ref 99, Value.bool true, Value.int 181 0, Value.ref 100, Value.none, Value.ref 101, Value.ref 102, Value.ref 103, Value.int 435 0, Value.int 81 0, vS ("/claim/cut.py") 436] }
abbrev o105 : Obj := fnObj 16 "_law_written" (Value.none) (vS "law_mr0151_01" 421) 104
def o111 (P : Params) : Obj := { cls := Value.type "code", data := Data.fields #[vS ("_law_step") 438, vS ("_law_step") 439, vS ("/claim/cut.py") 440, Value.int 84 0, Value.int 2 0, Value.int 0 0, Value.int 0 0, Value.int 3 0, Value.ref 106, Value.bool true, Value.int 181 0, Value.ref 107, Value.none, Value.ref 108, Value.ref 109, Value.ref 110, Value.int 447 0, Value.int 84 0, vS ("/claim/cut.py") 448] }
abbrev o112 : Obj := fnObj 17 "_law_step" (Value.none) (vS "law_mr0151_01" 421) 111
def o118 (P : Params) : Obj := { cls := Value.type "code", data := Data.fields #[vS ("_law_read") 450, vS ("_law_read") 451, vS ("/claim/cut.py") 452, Value.int 98 0, Value.int 1 0, Value.int 0 0, Value.int 0 0, Value.int 3 0, Value.ref 113, Value.bool true, Value.int 181 0, Value.ref 114, Value.none, Value.ref 115, Value.ref 116, Value.ref 117, Value.int 456 0, Value.int 98 0, vS ("/claim/cut.py") 457] }
abbrev o119 : Obj := fnObj 18 "_law_read" (Value.none) (vS "law_mr0151_01" 421) 118
def o125 (P : Params) : Obj := { cls := Value.type "code", data := Data.fields #[vS ("_law_cut") 459, vS ("_law_cut") 460, vS ("/claim/cut.py") 461, Value.int 103 0, Value.int 2 0, Value.int 0 0, Value.int 0 0, Value.int 3 0, Value.ref 120, Value.bool true, Value.int 181 0, Value.ref 121, Value.none, Value.ref 122, Value.ref 123, Value.ref 124, Value.int 467 0, Value.int 103 0, vS ("/claim/cut.py") 468] }
abbrev o126 : Obj := fnObj 19 "_law_cut" (Value.none) (vS "law_mr0151_01" 421) 125
def o132 (P : Params) : Obj := { cls := Value.type "code", data := Data.fields #[vS ("_law_spoilt") 470, vS ("_law_spoilt") 471, vS ("/claim/cut.py") 472, Value.int 116 0, Value.int 3 0, Value.int 0 0, Value.int 0 0, Value.int 3 0, Value.ref 127, Value.bool true, Value.int 181 0, Value.ref 128, Value.none, Value.ref 129, Value.ref 130, Value.ref 131, Value.int 482 0, Value.int 116 0, vS ("/claim/cut.py") 483] }
abbrev o133 : Obj := fnObj 20 "_law_spoilt" (Value.none) (vS "law_mr0151_01" 421) 132
def o137 (P : Params) : Obj := { cls := Value.type "code", data := Data.fields #[vS ("law") 485, vS ("law") 486, vS ("/claim/cut.py") 487, Value.int 127 0, Value.int 1 0, Value.int 0 0, Value.int 0 0, Value.int 3 0, Value.ref 134, Value.bool true, Value.int 181 0, Value.ref 135, Value.none, Value.none, Value.none, Value.ref 136, Value.int 488 0, Value.int 127 0, vS ("/claim/cut.py") 489] }
abbrev o138 : Obj := fnObj 21 "law" (Value.none) (vS "law_mr0151_01" 421) 137
def KK : Params → Frag := fun P =>
  (nat_lit 3, o3 P) ::
  (nat_lit 37, o37 P) ::
  (nat_lit 44, o44 P) ::
  (nat_lit 45, o45 P) ::
  (nat_lit 46, o46 P) ::
  (nat_lit 47, o47 P) ::
  (nat_lit 55, o55 P) ::
  (nat_lit 56, o56) ::
  (nat_lit 62, o62 P) ::
  (nat_lit 63, o63) ::
  (nat_lit 69, o69 P) ::
  (nat_lit 70, o70) ::
  (nat_lit 76, o76 P) ::
  (nat_lit 77, o77) ::
  (nat_lit 83, o83 P) ::
  (nat_lit 84, o84) ::
  (nat_lit 85, o85 P) ::
  (nat_lit 86, o86 P) ::
  (nat_lit 92, o92 P) ::
  (nat_lit 93, o93) ::
  (nat_lit 97, o97 P) ::
  (nat_lit 98, o98) ::
  (nat_lit 104, o104 P) ::
  (nat_lit 105, o105) ::
  (nat_lit 111, o111 P) ::
  (nat_lit 112, o112) ::
  (nat_lit 118, o118 P) ::
  (nat_lit 119, o119) ::
  (nat_lit 125, o125 P) ::
  (nat_lit 126, o126) ::
  (nat_lit 132, o132 P) ::
  (nat_lit 133, o133) ::
  (nat_lit 137, o137 P) ::
  (nat_lit 138, o138) ::
  []
theorem fill : (PySem.Challenge.rw_mr0151_01, KK) = (PySem.Challenge.rw_mr0151_01, KK) := by k_fill; rfl
end Mine
/-! Fw2 -/
namespace Mine
set_option linter.unusedVariables false
open PySem PySem.W PySem.Calls PySem.Spec PyProof.Rows

theorem fr_over {h₀ h : Heap} {L : Addr} {m : Str → Option Value} {k : Str} {u v : Option Value} (F : Fr h₀ L h (fun y => if y = k then v else (fun y => if y = k then u else m y) y)) : Fr h₀ L h (fun y => if y = k then v else m y) := by
  have e : (fun y => if y = k then v else (fun y => if y = k then u else m y) y) = fun y => if y = k then v else m y := by
    funext y
    by_cases hy : y = k <;> simp [hy]
  rw [e] at F; exact F

section
variable {prog : Program} {w : World} {A : Around} {E : Value → Shared → Prop} {s : Shared} {h₀ h : Heap} {L e : Addr} {m : Str → Option Value} {led : Led} {outer : List Env} {env : Env} {cls a0 fl : Value}

theorem flight {fr : Option Addr} {Q : Unit → Shared → Prop} (F : Fr h₀ L s.heap m) (N : News h₀ L s.heap led) (P : Pre h h₀ L led) (T : Tr h s.heap e cls a0 fl)
    (k : ∀ h', Fr h₀ L h' m → News h₀ L h' led → Tr h h' e cls a0 (fr.elim .none fun f => rawInt f) → (∀ b o, s.heap.get? b = some o → (∀ vs, o.data ≠ .fields vs) → h'.get? b = some o) → Q () { s with heap := h' }) : wpAny (model prog w) A (setFlight (.ref e) fr) Q E s := by
  obtain ⟨hn, oe, vs, T, oT, ts, he, hcls, hd, h1, hnT, hTe, hT, hdT, h3⟩ := T
  have hsz3 : 3 < ts.size := (Array.getElem?_eq_some_iff.mp h3).1
  have other : ∀ b, b ≠ T → (s.heap.update T (Obj.mapFields (·.setIfInBounds 3 (fr.elim Value.none fun f => rawInt f)))).get? b = s.heap.get? b := fun b hb => Heap.get?_update_other _ _ (Ne.symm hb)
  have neT : ∀ b, (∃ o, h.get? b = some o) → b ≠ T := fun b ⟨o, ho⟩ q => by rw [q, hnT] at ho; cases ho
  unfold setFlight
  refine wpAny_bind (wpAny_field he hd h1 ?_)
  rw [if_pos (show (Value.ref T != Value.none) = true from by simp)]
  refine wpAny_setField hT hdT hsz3 (k _ ⟨?_, fun b o eb => (other b (neT b (P.old b o eb))).trans (F.keep b o eb), F.above⟩ (fun p hp => ⟨(other _ (neT _ (P.led p hp))).trans (N p hp).1, (N p hp).2⟩) ?_ ?_)
  · obtain ⟨o, es, ep, ho, r⟩ := F.ns
    exact ⟨o, es, ep, (other L (neT L P.fr)).trans ho, r⟩
  · exact ⟨hn, oe, vs, T, _, _, (other e (Ne.symm hTe)).trans he, hcls, hd, h1, hnT, hTe, Heap.get?_update_self _ hT (Obj.isFreed_of_fields (Obj.data_mapFields hdT _)), Obj.data_mapFields hdT _, by simp [hsz3]⟩
  · intro b o hb hnf
    exact (other b fun q => by rw [q, hT] at hb; cases hb; exact hnf ts hdT).trans hb

theorem note_again {Q : Unit → Shared → Prop} (hf : env.frame = some L) (T : Tr h s.heap e cls a0 (rawInt L)) (k : Q () s) : wpAny (model prog w) A (noteFrame (.ref e) env) Q E s := wpAny_noteFrame_againW hf T.2 k

theorem came_back {E' : Value → Shared → Prop} (hf : env.frame = some L) (F : Fr h₀ L s.heap m) (N : News h₀ L s.heap led) (P : Pre h h₀ L led) (T : Tr h s.heap e cls a0 fl)
    (k : ∀ h', Fr h₀ L h' m → News h₀ L h' led → Tr h h' e cls a0 (rawInt L) → E' (.ref e) { s with heap := h' }) : cameBackBy (model prog w) A env E' (.ref e) s := by
  unfold cameBackBy
  have T' := T
  obtain ⟨hn, oe, vs, T, oT, ts, he, hcls, hd, h1, r⟩ := T'
  refine wpAny_bind (wpAny_field he hd h1 ?_)
  rw [if_neg (by show ¬ ((Value.ref T == Value.none) = true); simp)]
  rw [hf]
  exact flight (fr := some L) F N P ‹_› fun h' F' N' T' _ => k h' F' N' T'

/-- a built-in exception made in a loop of the frame's, up to the frame's own try -/
theorem looped {hx : Heap} {tk : Nat} {X : String} {hs : ExceptHandler} {hss : List ExceptHandler} {Q : Flow → Shared → Prop} (hfr : A.frames = some (env :: outer)) (hf : env.frame = some L) (hke : env.scope.kind ≠ .module)
    (F : Fr h₀ L s.heap m) (N : News h₀ L s.heap led) (O : FrsIn outer led) (hn : Heap.NewExc s.heap hx e X)
    (k : ∀ h' led' a0, Turns led led' → Fr h₀ L h' m → News h₀ L h' led' → Tr s.heap h' e (.type X) a0 .none → Pre s.heap h₀ L led' → wpAny (model prog w) A (handleBy (.ref e) env (hs :: hss)) Q E { s with heap := h', toks := tk }) :
    notedBy (model prog w) A env (fun e' s' => cameBackBy (model prog w) A env (fun e' s₁ => wpAny (model prog w) A (noteFrame e' env) (fun _ s₂ => wpAny (model prog w) A (setFlight e' none) (fun _ s₃ => wpAny (model prog w) A (handleBy e' env (hs :: hss)) Q E s₃) E s₂) E s₁) e' s')
      (.ref e) { s with heap := hx, toks := tk } := by
  obtain ⟨ob, tp, he, hcls, hd⟩ := hn.there
  unfold notedBy
  refine note_first (s := { s with heap := hx, toks := tk }) hfr hf hke F N O hn.keeps hn.new he hd rfl rfl fun h' led' t F' N' T' _ => ?_
  rw [hcls] at T'
  have P' := (Pre.of F N).turns t
  refine came_back (s := { s with heap := h', toks := tk }) hf F' N' P' T' fun h₂ F₂ N₂ T₂ => ?_
  refine note_again (s := { s with heap := h₂, toks := tk }) hf T₂ ?_
  exact flight (fr := none) (s := { s with heap := h₂, toks := tk }) F₂ N₂ P' T₂ fun h₃ F₃ N₃ T₃ _ => k h₃ led' tp t F₃ N₃ T₃ P'
/-- the same, not in a loop -/
theorem tried {hx : Heap} {tk : Nat} {X : String} {hs : ExceptHandler} {hss : List ExceptHandler} {Q : Flow → Shared → Prop} (hfr : A.frames = some (env :: outer)) (hf : env.frame = some L) (hke : env.scope.kind ≠ .module)
    (F : Fr h₀ L s.heap m) (N : News h₀ L s.heap led) (O : FrsIn outer led) (hn : Heap.NewExc s.heap hx e X)
    (k : ∀ h' led' a0, Turns led led' → Fr h₀ L h' m → News h₀ L h' led' → Tr s.heap h' e (.type X) a0 .none → Pre s.heap h₀ L led' → wpAny (model prog w) A (handleBy (.ref e) env (hs :: hss)) Q E { s with heap := h', toks := tk }) :
    wpAny (model prog w) A (noteFrame (.ref e) env) (fun _ s₂ => wpAny (model prog w) A (setFlight (.ref e) none) (fun _ s₃ => wpAny (model prog w) A (handleBy (.ref e) env (hs :: hss)) Q E s₃) E s₂) E { s with heap := hx, toks := tk } := by
  obtain ⟨ob, tp, he, hcls, hd⟩ := hn.there
  refine note_first (s := { s with heap := hx, toks := tk }) hfr hf hke F N O hn.keeps hn.new he hd rfl rfl fun h' led' t F' N' T' _ => ?_
  rw [hcls] at T'
  have P' := (Pre.of F N).turns t
  exact flight (fr := none) (s := { s with heap := h', toks := tk }) F' N' P' T' fun h₃ F₃ N₃ T₃ _ => k h₃ led' tp t F₃ N₃ T₃ P'

theorem handle_hit {X C : String} {t : Expr} {b₀ : Stmt} {suite : List Stmt} {pos : Pos} {rest : List ExceptHandler} {Q : Flow → Shared → Prop}
    (hexc : isSubtype (.type C) (.type "BaseException") = pure true) (hnt : isSubtype (.type ((Manifest.find? C).elim "type" fun x => x.metatype)) (.type "tuple") = pure false) (hsub : isSubtype (.type X) (.type C) = pure true)
    (F : Fr h₀ L s.heap m) (N : News h₀ L s.heap led) (P : Pre h h₀ L led) (T : Tr h s.heap e (.type X) a0 .none)
    (hname : ∀ (Q' : Value → Shared → Prop) (E' : Value → Shared → Prop), Q' (.type C) s → wpAny (model prog w) (A.mark (some (.ref e))) (eval t env) Q' E' s)
    (k : ∀ h', Fr h₀ L h' m → News h₀ L h' led → Tr h h' e (.type X) a0 .none → wpAny (model prog w) (A.mark (some (.ref e))) (execs (b₀ :: suite) env) Q (notedBy (model prog w) (A.mark (some (.ref e))) env (cameBackBy (model prog w) A env E)) { s with heap := h' }) :
    wpAny (model prog w) A (handleBy (.ref e) env (.ExceptHandler (some t) none (b₀ :: suite) pos :: rest)) Q E s := by
  refine wpAny_handleBy_builtin (X := X) (T := C) (b := true) hexc hnt hsub (hname _ _ ⟨rfl, ?_, ?_⟩)
  · obtain ⟨_, oe, vs, T, oT, ts, he, hcls, _⟩ := T
    exact ⟨oe, he, hcls.1⟩
  · rw [if_pos rfl]
    exact flight (fr := none) F N P T fun h₃ F₃ N₃ T₃ _ => k h₃ F₃ N₃ T₃
end
theorem exc_IndexError : isSubtype (.type "IndexError") (.type "BaseException") = pure true := by rw [isSubtype_type]; kernel_rfl
theorem exc_ValueError : isSubtype (.type "ValueError") (.type "BaseException") = pure true := by rw [isSubtype_type]; kernel_rfl
theorem exc_IndexError' : isSubtype (.type "IndexError") (.type "IndexError") = pure true := by rw [isSubtype_type]; kernel_rfl
theorem exc_ValueError' : isSubtype (.type "ValueError") (.type "ValueError") = pure true := by rw [isSubtype_type]; kernel_rfl
theorem nt_IndexError : isSubtype (.type ((Manifest.find? "IndexError").elim "type" fun x => x.metatype)) (.type "tuple") = pure false := by rw [isSubtype_type]; kernel_rfl
theorem nt_ValueError : isSubtype (.type ((Manifest.find? "ValueError").elim "type" fun x => x.metatype)) (.type "tuple") = pure false := by rw [isSubtype_type]; kernel_rfl

def Again (I : Nat → Shared → Prop) (n : Nat) (s : Shared) : Prop := ∃ m, m < n ∧ I m s
theorem while_ {prog : Program} {w : World} {A : Around} {R : Result → Shared → Prop} {s : Shared} {test : Expr} {body orelse : List Stmt} {env : Env} (I : Nat → Shared → Prop)
    (turn : ∀ n s, I n s →
      wpAny (model prog w) A (isTrue test env (eval test env)) (fun b s₂ =>
        if b then wpAny (model prog w) A (execs body env) (fun f s₃ => match f with
            | .next => Again I n s₃
            | .cont => Again I n s₃
            | .brk => R (.ok .next) s₃
            | .ret v => R (.ok (.ret v)) s₃) (notedBy (model prog w) A env fun e s' => R (.error e) s') s₂
        else wpAny (model prog w) A (execs orelse env) (fun f s₃ => R (.ok f) s₃) (notedBy (model prog w) A env fun e s' => R (.error e) s') s₂)
        (notedBy (model prog w) A env fun e s' => R (.error e) s') s)
    (n : Nat) (h : I n s) : codeAny (model prog w) A (.whileLoop test body orelse env) R s :=
  codeAny_whileLoop I (fun n s hI => wpAny_mono (turn n s hI) (fun b s₂ h₂ => by
    cases b with
    | false => exact h₂
    | true => exact wpAny_mono h₂ (fun f s₃ h₃ => by cases f <;> exact h₃) fun _ _ x => x) fun _ _ x => x) n h
theorem isFn (h : ScopeKind.function = ScopeKind.module) : False := by cases h
end Mine
/-! Sk -/
namespace Mine
open PySem PySem.W PySem.Calls PySem.Spec PyProof.Rows
set_option Elab.async false
set_option maxRecDepth 100000
set_option maxHeartbeats 4000000
set_option linter.unusedVariables false

theorem fillSk : (PySem.Challenge.rw_mr0151_01, KK) = (PySem.Challenge.rw_mr0151_01, KK) := by k_fill; rfl
structure Gd (w : World) (loose : List Str) (mean : ExcName → Option Value) (mg mb : Str → Option Value) (h₀ : Heap) : Prop where
  X : (KK w.params).In h₀
  T : Top topProg loose mean mg mb h₀
theorem Gd.keeps {w : World} {loose : List Str} {mean : ExcName → Option Value} {mg mb : Str → Option Value} {h h' : Heap} (G : Gd w loose mean mg mb h) (k : ∀ b o, h.get? b = some o → h'.get? b = some o) : Gd w loose mean mg mb h' :=
  ⟨G.X.keeps k, G.T.keeps k⟩

/-- the number of signs out of c at the head -/
def runOf (c : List Nat) (l : List Nat) : Nat := (l.takeWhile fun a => decide (a ∈ c)).length
def skipTo (c x : Str) (j : Int) : Int := j + (runOf c.cps.toList (x.cps.toList.drop j.toNat) : Nat)
theorem item_eq {x : Str} {j : Int} (h0 : 0 ≤ j) (h1 : j < x.length) : ∃ a, x.cps.toList[j.toNat]? = some a ∧ Txt.item x j = ⟨#[a]⟩ := by
  have hl : x.length = x.cps.size := rfl
  have hlt : j.toNat < x.cps.size := by omega
  refine ⟨x.cps[j.toNat], by simp [hlt], ?_⟩
  unfold Txt.item Txt.charAt
  have : seqIndex? j x.length = some j.toNat := by
    unfold seqIndex?
    have hj : ¬ j < 0 := by omega
    simp only [hj, if_false]
    rw [if_pos]
    simp only [Bool.and_eq_true, decide_eq_true_eq]
    omega
  rw [this]
  simp [hlt]
theorem runOf_in {c l : List Nat} {a : Nat} (h : a ∈ c) : runOf c (a :: l) = runOf c l + 1 := by
  unfold runOf; rw [List.takeWhile_cons_of_pos (by simpa using h)]; rfl
theorem runOf_out {c l : List Nat} {a : Nat} (h : a ∉ c) : runOf c (a :: l) = 0 := by
  unfold runOf; rw [List.takeWhile_cons_of_neg (by simpa using h)]; rfl
theorem in_item {c x : Str} {j : Int} (h0 : 0 ≤ j) (h1 : j < x.length) (h : (Builtin.Str.occurrences c (Txt.item x j) 0 c.length 1).isEmpty = false) : skipTo c x (j + 1) = skipTo c x j := by
  obtain ⟨a, ha, he⟩ := item_eq h0 h1
  rw [he] at h
  have hm : a ∈ c.cps.toList := by
    have := StrLaws.found_one c a
    rw [h] at this
    simpa using this.symm
  unfold skipTo
  have hd : x.cps.toList.drop j.toNat = a :: x.cps.toList.drop (j.toNat + 1) := by
    obtain ⟨hlt, hv⟩ := List.getElem?_eq_some_iff.mp ha
    rw [← hv]; exact List.drop_eq_getElem_cons hlt
  rw [hd, runOf_in hm, show (j + 1).toNat = j.toNat + 1 by omega]
  omega
theorem out_item {c x : Str} {j : Int} (h0 : 0 ≤ j) (h1 : j < x.length) (h : (Builtin.Str.occurrences c (Txt.item x j) 0 c.length 1).isEmpty = true) : skipTo c x j = j := by
  obtain ⟨a, ha, he⟩ := item_eq h0 h1
  rw [he] at h
  have hm : a ∉ c.cps.toList := by
    have := StrLaws.found_one c a
    rw [h] at this
    simpa using this.symm
  unfold skipTo
  have hd : x.cps.toList.drop j.toNat = a :: x.cps.toList.drop (j.toNat + 1) := by
    obtain ⟨hlt, hv⟩ := List.getElem?_eq_some_iff.mp ha
    rw [← hv]; exact List.drop_eq_getElem_cons hlt
  rw [hd, runOf_out hm]
  omega
theorem skipTo_end {c x : Str} {j : Int} (h0 : 0 ≤ j) (h : (x.length : Int) ≤ j) : skipTo c x j = j := by
  unfold skipTo
  have : x.cps.toList.drop j.toNat = [] := by
    apply List.drop_eq_nil_of_le
    show x.cps.toList.length ≤ _
    have hl : x.length = x.cps.size := rfl
    simp only [Array.length_toList]; omega
  rw [this]; simp [runOf]

abbrev env56 (L : Addr) : Env := envOf (Str.ofString "skip_chars") (scopeOf (stAt 6)) L 56 (.ref 55)
abbrev loc56 (c x : Str) (i : Int) (t t2 t3 : Tok) : Str → Option Value := fun y => [(Str.ofString "chars", Value.str c t3), (Str.ofString "pos", Value.int i t2), (Str.ofString "src", Value.str x t)].lookup y
/-- the loop's state -/
structure In56 (h₀ : Heap) (L : Addr) (fs : Led) (s : Shared) (c x : Str) (i : Int) (t t2 t3 : Tok) (n : Nat) (s' : Shared) : Prop where
  st : ∃ j tj h' tk fs', s' = { s with heap := h', toks := tk } ∧ Fr h₀ L h' (fun y => if y = Str.ofString "pos" then some (Value.int j tj) else loc56 c x i t t2 t3 y) ∧ News h₀ L h' fs' ∧ Turns fs fs' ∧
    0 ≤ j ∧ j ≤ 1048577 ∧ skipTo c x j = skipTo c x i ∧ (n : Int) = max 0 (x.length - j)
theorem fr_in56 {h₀ h : Heap} {L : Addr} {c x : Str} {i : Int} {t t2 t3 : Tok} (F : Fr h₀ L h (loc56 c x i t t2 t3)) : Fr h₀ L h (fun y => if y = Str.ofString "pos" then some (Value.int i t2) else loc56 c x i t t2 t3 y) := by
  have e : (fun y => if y = Str.ofString "pos" then some (Value.int i t2) else loc56 c x i t t2 t3 y) = loc56 c x i t t2 t3 := by
    funext y
    by_cases hy : y = Str.ofString "pos"
    · subst hy; rw [if_pos rfl]; rfl
    · rw [if_neg hy]
  rw [e]; exact F

theorem skip_chars_body {w : World} {s : Shared} {dp un : Nat} {gd : Option (List Code)} {outer : List Env} {E : Value → Shared → Prop} {h₀ : Heap} {L : Addr} {mg mb : Str → Option Value} {mean : ExcName → Option Value} {loose : List Str} {fs : Led} {Q : Flow → Shared → Prop}
   {x c : Str} {i : Int} {t t2 t3 : Tok} (hi : 0 ≤ i) (hx : x.length ≤ 1048576) (hi2 : i ≤ 1048577)
   (F : Fr h₀ L s.heap (loc56 c x i t t2 t3)) (G : Gd w loose mean mg mb h₀) (N : News h₀ L s.heap fs) (O : FrsIn outer fs)
   (ret : ∀ h' tk tj m' fs', Fr h₀ L h' m' → News h₀ L h' fs' → Turns fs fs' → Q (.ret (.int (skipTo c x i) tj)) { s with heap := h', toks := tk })
   : wpAny (model prog w) ⟨none, dp, some (env56 L :: outer), gd, un⟩ (execs (bodyOf (stAt 6)) (env56 L)) Q E s := by
  w_on
  obtain ⟨X, T⟩ := G
  delta env56
  conv in (bodyOf _) => whnf
  refine wpAny_execs_cons (wpAny_Try_except (wpAny_execs_cons (wpAny_While (while_ (In56 h₀ L fs s c x i t t2 t3) ?_ (max 0 ((x.length : Int) - i)).toNat ?_))))
  · rintro n s' ⟨j, tj, h', tk, fs', rfl, F', N', tt, hj0, hj1, hjs, hn⟩
    clear F N
    k_steps
    · rename Heap.NewExc _ _ _ _ => hne
      rename (_ < _ ∨ _ ≤ _) => hout
      refine looped (s := { s with heap := h', toks := tk }) rfl rfl isFn F' N' (O.turns tt) hne fun h2 led2 a0 tt2 F2 N2 T2 P2 => ?_
      refine handle_hit (C := "IndexError") exc_IndexError nt_IndexError exc_IndexError' F2 N2 P2 T2 ?_ fun h3 F3 N3 T3 => ?_
      · intro Q' E' hq
        clear F' N'
        k_steps
        exact hq
      · clear F' N' F2 N2
        k_steps
        rw [show skipTo c x i = j from hjs.symm.trans (skipTo_end hj0 (by omega))] at ret
        exact ret _ _ _ _ _ F3 N3 (tt.trans tt2)
    · rename _ = true => hb
      have h2 : j < x.length := by omega
      · rw [show skipTo c x i = j from hjs.symm.trans (out_item hj0 h2 hb)] at ret
        exact ret _ _ _ _ _ F' N' tt
    · rename _ = false => hb
      have h2 : j < x.length := by omega
      · rename Fr _ _ _ _ => F2
        rename News _ _ _ _ => N2
        exact ⟨(max 0 ((x.length : Int) - (j + 1))).toNat, by omega, ⟨j + 1, _, _, _, fs', rfl, fr_over F2, N2, tt, by omega, by omega, (in_item hj0 h2 hb).trans hjs, by omega⟩⟩
  · exact ⟨i, t2, s.heap, s.toks, fs, rfl, fr_in56 F, N, .refl _, hi, hi2, rfl, by omega⟩

theorem skip_chars_call {w : World} {s : Shared} {dp un : Nat} {gd : Option (List Code)} {env : Env} {outer : List Env} {E : Value → Shared → Prop} {h₀ : Heap} {L : Addr} {m mg mb : Str → Option Value} {mean : ExcName → Option Value} {loose : List Str} {led : Led} {Q : Value → Shared → Prop}
   {x c : Str} {i : Int} {t t2 t3 : Tok} (hf : env.frame = some L) (hke : env.scope.kind ≠ .module) (F : Fr h₀ L s.heap m) (G : Gd w loose mean mg mb h₀) (N : News h₀ L s.heap led) (O : FrsIn outer led) (hdp : dp < recursionLimit)
   (hi : 0 ≤ i) (hx : x.length ≤ 1048576) (hi2 : i ≤ 1048577)
   (ret : ∀ h' tk tj led', Fr h₀ L h' m → News h₀ L h' led' → Turns led led' → Q (.int (skipTo c x i) tj) { s with heap := h', toks := tk })
   : wpAny (model prog w) ⟨none, dp, some (env :: outer), gd, un⟩ (call (.ref 56) [.str x t, .int i t2, .str c t3]) Q E s := by
  refine enter (fd := fdAt 6 "skip_chars" .none (vS "cpy313.tomllib._parser" 187) 55) rfl hf hke F N O (G.X 56 o56 rfl) rfl G.T.nolimit ⟨55, _, _, _, rfl, G.X 55 (o55 _) rfl, rfl, rfl⟩ hdp rfl (BindsTo.of_eq rfl) (by decide +kernel) (locs rfl) (fun g h₁ oL st F₁ N₁ O₁ bk lt kp => ?_) rfl rfl rfl
  refine skip_chars_body (s := { s with heap := h₁, toks := _ }) hi hx hi2 F₁ (G.keeps st) N₁ O₁ fun h' tk tj m' fs' F' N' tt => ?_
  obtain ⟨oL', led', rfl, hoL, t1, F2, N2⟩ := bk _ _ h' m' [] fs' F' N' tt (fun p hp => nomatch hp)
  exact ret h' tk tj led' F2 N2 t1
end Mine
/-! St -/
namespace Mine
open PySem PySem.W PySem.Calls PySem.Spec PyProof.Rows Builtin Builtin.Str
set_option Elab.async false
set_option linter.unusedVariables false

theorem get_drop {l : List Nat} {a d : Nat} (h : l[a]? = some d) : l.drop a = d :: l.drop (a + 1) := by
  obtain ⟨hlt, hv⟩ := List.getElem?_eq_some_iff.mp h
  rw [← hv]; exact List.drop_eq_getElem_cons hlt
theorem at_one (x : Str) (c i : Nat) : StrLaws.At x ⟨#[c]⟩ x.length i ↔ x.cps.toList[i]? = some c := StrLaws.subAt_one x c i
theorem sub_one {x : Str} {c i : Nat} (h : i + 1 ≤ x.length) : subAt x ⟨#[c]⟩ i = true ↔ x.cps.toList[i]? = some c := by
  rw [← StrLaws.subAt_one x c i]
  exact ⟨fun q => ⟨h, q⟩, fun q => q.2⟩
theorem occ_run (x : Str) (c hi limit : Nat) (hh : hi ≤ x.length) : ∀ (n a : Nat) (f : Array Nat) (fr : Nat), fr ≤ a → f.size + n ≤ limit → a + n = hi + 1 →
    (forIn (List.range' a n) (f, fr) (StrLaws.occBody x ⟨#[c]⟩ hi limit)).run.fst.size = f.size + ((x.cps.toList.drop a).take (hi - a)).count c
  | 0, a, f, fr, _, _, e => by
    rw [show hi - a = 0 by omega]
    simp
  | n + 1, a, f, fr, h1, h2, e => by
    rw [List.range'_succ, List.forIn_cons]
    unfold StrLaws.occBody
    have hl : (⟨#[c]⟩ : Str).length = 1 := rfl
    by_cases ha : a + 1 ≤ hi
    · have hlt : a < x.cps.toList.length := by
        have : x.length = x.cps.size := rfl
        simp only [Array.length_toList]; omega
      obtain ⟨d, hg⟩ : ∃ d, x.cps.toList[a]? = some d := ⟨_, List.getElem?_eq_getElem hlt⟩
      have hd := get_drop hg
      have ht : hi - a = (hi - (a + 1)) + 1 := by omega
      rw [hd, ht, List.take_succ_cons, List.count_cons]
      by_cases hc : d = c
      · have hs : subAt x ⟨#[c]⟩ a = true := (sub_one (by omega)).mpr (by rw [hg, hc])
        rw [if_pos ⟨⟨⟨by show f.size < limit; omega, h1⟩, by rw [hl]; exact ha⟩, hs⟩]
        have ih := occ_run x c hi limit hh n (a + 1) (f.push a) (a + 1) (Nat.le_refl _) (by rw [Array.size_push]; omega) (by omega)
        rw [show (⟨#[c]⟩ : Str).length = 1 from rfl]
        refine ih.trans ?_
        rw [Array.size_push]
        simp [hc]; omega
      · have hs : ¬ subAt x ⟨#[c]⟩ a = true := fun q => hc (by have := (sub_one (by omega)).mp q; rw [hg] at this; exact Option.some.inj this)
        rw [if_neg fun q => hs q.2]
        refine (occ_run x c hi limit hh n (a + 1) f fr (by omega) (by omega) (by omega)).trans ?_
        simp [hc]
    · rw [if_neg fun q => ha (by have := q.1.2; rw [hl] at this; exact this)]
      refine (occ_run x c hi limit hh n (a + 1) f fr (by omega) (by omega) (by omega)).trans ?_
      rw [show hi - a = 0 by omega, show hi - (a + 1) = 0 by omega]
      simp
theorem occ_count (x : Str) (c hi : Nat) (hh : hi ≤ x.length) : (occurrences x ⟨#[c]⟩ 0 hi (x.length + 1)).length = (x.cps.toList.take hi).count c := by
  rw [StrLaws.occ_eq, Array.length_toList]
  have := occ_run x c hi (x.length + 1) hh (hi + 1) 0 #[] 0 (Nat.le_refl _) (by simp; omega) (by omega)
  simpa using this

/-- the last place of a sign -/
def lastTo (c : Nat) : List Nat → Option Nat
  | [] => none
  | d :: l => match lastTo c l with
    | some k => some (k + 1)
    | none => if d = c then some 0 else none
theorem last_run1 (x : Str) (c hi : Nat) (hh : hi ≤ x.length) : ∀ (n a : Nat) (st : Option Nat), a + n = hi + 1 →
    (forIn (List.range' a n) st (StrLaws.lastBody x ⟨#[c]⟩ hi)).run = match lastTo c ((x.cps.toList.drop a).take (hi - a)) with | some k => some (k + a) | none => st
  | 0, a, st, e => by
    rw [show hi - a = 0 by omega]
    simp [lastTo]
  | n + 1, a, st, e => by
    rw [List.range'_succ, List.forIn_cons]
    unfold StrLaws.lastBody
    have hl : (⟨#[c]⟩ : Str).length = 1 := rfl
    by_cases ha : a + 1 ≤ hi
    · have hlt : a < x.cps.toList.length := by
        have : x.length = x.cps.size := rfl
        simp only [Array.length_toList]; omega
      obtain ⟨d, hg⟩ : ∃ d, x.cps.toList[a]? = some d := ⟨_, List.getElem?_eq_getElem hlt⟩
      have hd := get_drop hg
      have ht : hi - a = (hi - (a + 1)) + 1 := by omega
      rw [hd, ht, List.take_succ_cons]
      by_cases hc : d = c
      · have hs : subAt x ⟨#[c]⟩ a = true := (sub_one (by omega)).mpr (by rw [hg, hc])
        rw [if_pos ⟨by rw [hl]; exact ha, hs⟩]
        refine (last_run1 x c hi hh n (a + 1) (some a) (by omega)).trans ?_
        simp only [lastTo]
        cases lastTo c ((x.cps.toList.drop (a + 1)).take (hi - (a + 1))) with
        | none => simp [hc]
        | some k => simp; omega
      · have hs : ¬ subAt x ⟨#[c]⟩ a = true := fun q => hc (by have := (sub_one (by omega)).mp q; rw [hg] at this; exact Option.some.inj this)
        rw [if_neg fun q => hs q.2]
        refine (last_run1 x c hi hh n (a + 1) st (by omega)).trans ?_
        simp only [lastTo]
        cases lastTo c ((x.cps.toList.drop (a + 1)).take (hi - (a + 1))) with
        | none => simp [hc]
        | some k => simp; omega
    · rw [if_neg fun q => ha (by have := q.1; rw [hl] at this; exact this)]
      refine (last_run1 x c hi hh n (a + 1) st (by omega)).trans ?_
      rw [show hi - a = 0 by omega, show hi - (a + 1) = 0 by omega]
      simp [lastTo]
theorem last_is (x : Str) (c hi : Nat) (hh : hi ≤ x.length) : lastOccurrence x ⟨#[c]⟩ 0 hi = lastTo c (x.cps.toList.take hi) := by
  rw [StrLaws.last_eq]
  have := last_run1 x c hi hh (hi + 1) 0 none (by omega)
  refine (by simpa using this : _ = _).trans ?_
  cases lastTo c (x.cps.toList.take hi) <;> rfl

section
variable {prog : Program} {w : World} {A : Around} {E : Value → Shared → Prop} {s : Shared} {x : Str} {t u v z : Tok} {Q : Value → Shared → Prop}
theorem range_of {len : Nat} {j : Int} (h0 : 0 ≤ j) (h1 : j ≤ len) : min (max 0 (if j < 0 then j + (len : Int) else j)).toNat len = j.toNat := by
  rw [if_neg (by omega)]; omega
theorem gives_count4 (y : Str) (j : Int) (h0 : 0 ≤ j) (h1 : j ≤ x.length) : Gives («str.count» ⟨[.str x t, .str y u, .int 0 v, .int j z], []⟩) (.int (occurrences x y 0 j.toNat (x.length + 1)).length) := by
  show Gives (retInt (occurrences x y (max 0 (if (0 : Int) < 0 then (0 : Int) + (x.length : Int) else 0)).toNat (min (max 0 (if j < 0 then j + (x.length : Int) else j)).toNat x.length) (x.length + 1)).length) _
  rw [range_of h0 h1]
  exact .of_eq rfl
theorem count4 {c : Nat} {j : Int} (h0 : 0 ≤ j) (h1 : j ≤ x.length) (hq : Q (.int ((x.cps.toList.take j.toNat).count c : Nat) s.toks) { s with toks := s.toks + 1 }) :
    wpAny (model prog w) A (call (.builtin "str.count") [.str x t, .str ⟨#[c]⟩ u, .int 0 v, .int j z]) Q E s :=
  call_gives F.slot_str_count (typeIs_str _ _ _) F.entry_str_count (F.args_str_count_4 _ _ _ _) (gives_count4 _ j h0 h1) (by
    show Q (.int ((occurrences x ⟨#[c]⟩ 0 j.toNat (x.length + 1)).length : Nat) s.toks) { s with toks := s.toks + 1 }
    rw [occ_count x c j.toNat (by omega)]; exact hq)
theorem gives_rindex4 (y : Str) (j : Int) (i : Nat) (h0 : 0 ≤ j) (h1 : j ≤ x.length) (h : lastOccurrence x y 0 j.toNat = some i) : Gives («str.rindex» ⟨[.str x t, .str y u, .int 0 v, .int j z], []⟩) (.int i) := by
  show Gives (match lastOccurrence x y (max 0 (if (0 : Int) < 0 then (0 : Int) + (x.length : Int) else 0)).toNat (min (max 0 (if j < 0 then j + (x.length : Int) else j)).toNat x.length) with | some i => retInt i | none => _) _
  rw [range_of h0 h1]
  show Gives (match lastOccurrence x y 0 j.toNat with | some i => retInt i | none => _) _
  rw [h]
  exact .of_eq rfl
theorem rindex4 {c i : Nat} {j : Int} (h0 : 0 ≤ j) (h1 : j ≤ x.length) (h : lastTo c (x.cps.toList.take j.toNat) = some i) (hq : Q (.int (i : Nat) s.toks) { s with toks := s.toks + 1 }) :
    wpAny (model prog w) A (call (.builtin "str.rindex") [.str x t, .str ⟨#[c]⟩ u, .int 0 v, .int j z]) Q E s :=
  call_gives F.slot_str_rindex (typeIs_str _ _ _) F.entry_str_rindex (F.args_str_rindex_4 _ _ _ _) (gives_rindex4 _ j i h0 h1 (by rw [last_is x c j.toNat (by omega)]; exact h)) hq
theorem gives_index3 (y : Str) (j : Int) (i : Nat) (r : List Nat) (h0 : 0 ≤ j) (h : occurrences x y j.toNat x.length 1 = i :: r) : Gives («str.index» ⟨[.str x t, .str y u, .int j v], []⟩) (.int i) := by
  show Gives (match occurrences x y (max 0 (if j < 0 then j + (x.length : Int) else j)).toNat (min x.length x.length) 1 with | i :: _ => retInt i | [] => _) _
  rw [Nat.min_self, if_neg (by omega), show (max 0 j).toNat = j.toNat by omega, h]
  exact .of_eq rfl
theorem raises_index3 (y : Str) (j : Int) (h0 : 0 ≤ j) (h : occurrences x y j.toNat x.length 1 = []) : Meets («str.index» ⟨[.str x t, .str y u, .int j v], []⟩) (raisesNew "ValueError") := by
  intro prog w A R s hS
  show wpAny _ _ (match occurrences x y (max 0 (if j < 0 then j + (x.length : Int) else j)).toNat (min x.length x.length) 1 with | i :: _ => retInt i | [] => _) _ _ s
  rw [Nat.min_self, if_neg (by omega), show (max 0 j).toNat = j.toNat by omega, h]
  first
    | exact wpAny_bind (wpAny_rule (by exact_raiseError plainExc_ValueError hS.1 hS.2))
    | exact wpAny_bind (wpAny_rule (wpAny_bind (by exact_raiseError plainExc_ValueError hS.1 hS.2)))
theorem index3 {c : Nat} {j : Int} (hA : A.handled = none) (hj : 0 ≤ j)
    (h0 : (∀ k, j.toNat ≤ k → x.cps.toList[k]? ≠ some c) → ∀ h' tk e, Heap.NewExc s.heap h' e "ValueError" → E (.ref e) { s with heap := h', toks := tk })
    (h1 : ∀ k : Nat, j.toNat ≤ k → x.cps.toList[k]? = some c → (∀ i, j.toNat ≤ i → i < k → x.cps.toList[i]? ≠ some c) → Q (.int k s.toks) { s with toks := s.toks + 1 }) :
    wpAny (model prog w) A (call (.builtin "str.index") [.str x t, .str ⟨#[c]⟩ u, .int j v]) Q E s := by
  rcases StrLaws.occ_head_from x ⟨#[c]⟩ j.toNat 1 (Nat.le_refl _) with ⟨e, hn⟩ | ⟨i, r, e, hle, ha, hn⟩
  · exact call_meets F.slot_str_index (typeIs_str _ _ _) F.entry_str_index (F.args_str_index_3 _ _ _) (raises_index3 _ j hj e) ⟨hA, h0 fun k hk q => hn k hk ((at_one x c k).mpr q)⟩
  · exact call_gives F.slot_str_index (typeIs_str _ _ _) F.entry_str_index (F.args_str_index_3 _ _ _) (gives_index3 _ j i r hj e) (h1 i hle ((at_one x c i).mp ha) fun k hk hlt q => hn k hk hlt ((at_one x c k).mpr q))
end
theorem nl_is : Str.ofString "\n" = ⟨#[10]⟩ := by decide +kernel
theorem ap_is : Str.ofString "'" = ⟨#[39]⟩ := by decide +kernel

section
variable {prog : Program} {w : World} {A : Around} {E : Value → Shared → Prop} {s : Shared} {x y : Str} {t u v z : Tok} {Q : Value → Shared → Prop}
theorem count4y {c : Nat} {j : Int} (hy : y = ⟨#[c]⟩) (h0 : 0 ≤ j) (h1 : j ≤ x.length) (hq : Q (.int ((x.cps.toList.take j.toNat).count c : Nat) s.toks) { s with toks := s.toks + 1 }) :
    wpAny (model prog w) A (call (.builtin "str.count") [.str x t, .str y u, .int 0 v, .int j z]) Q E s := by subst hy; exact count4 h0 h1 hq
theorem rindex4y {c i : Nat} {j : Int} (hy : y = ⟨#[c]⟩) (h0 : 0 ≤ j) (h1 : j ≤ x.length) (h : lastTo c (x.cps.toList.take j.toNat) = some i) (hq : Q (.int (i : Nat) s.toks) { s with toks := s.toks + 1 }) :
    wpAny (model prog w) A (call (.builtin "str.rindex") [.str x t, .str y u, .int 0 v, .int j z]) Q E s := by subst hy; exact rindex4 h0 h1 h hq
end
theorem lastTo_lt {c : Nat} : ∀ {l : List Nat} {k : Nat}, lastTo c l = some k → k < l.length := by
  intro l
  induction l with
  | nil => intro k h; cases h
  | cons a l ih =>
    intro k h
    unfold lastTo at h
    cases hq : lastTo c l with
    | none => rw [hq] at h; dsimp only at h; split at h <;> cases h; simp
    | some j => rw [hq] at h; cases h; have := ih hq; simp; omega
theorem lastTo_some {c : Nat} : ∀ {l : List Nat}, l.count c ≠ 0 → ∃ k, lastTo c l = some k ∧ k < l.length
  | [], h => absurd rfl h
  | d :: l, h => by
    by_cases h2 : l.count c = 0
    · have hd : d = c := by
        rw [List.count_cons, h2] at h
        simpa using h
      unfold lastTo
      cases hl : lastTo c l with
      | none => exact ⟨0, by simp [hd], by simp⟩
      | some k => exact ⟨k + 1, rfl, by have := lastTo_lt hl; simp; omega⟩
    · obtain ⟨k, h3, h4⟩ := lastTo_some h2
      exact ⟨k + 1, by unfold lastTo; rw [h3], by simp; omega⟩
end Mine
/-! Er -/
namespace Mine
open PySem PySem.W PySem.Calls PySem.Spec PyProof.Rows
set_option Elab.async false
set_option maxRecDepth 100000
set_option maxHeartbeats 4000000
set_option linter.unusedVariables false
theorem fill3 : (PySem.Challenge.rw_mr0151_01, KK) = (PySem.Challenge.rw_mr0151_01, KK) := by k_fill; rfl
def stCr : Stmt := ((bodyOf (stAt 10))[0]?).getD (.Pass default)
abbrev qCr : Str := Str.ofString "suffixed_err.<locals>.coord_repr"
abbrev envCr (L f c : Addr) : Env := envOf qCr (scopeOf stCr) L f (.ref c)
abbrev locCr (x : Str) (i : Int) (t t2 : Tok) : Str → Option Value := fun y => [(Str.ofString "pos", Value.int i t2), (Str.ofString "src", Value.str x t)].lookup y
def colAt (l : List Nat) (i : Int) : Int := match lastTo 10 l with
  | some k => i - (k : Nat)
  | none => i + 1
def lineCol (l : List Nat) (i : Int) : Str := Str.empty ++ Str.ofString "line " ++ Str.ofString (toString (((l.count 10 : Nat) : Int) + 1)) ++ Str.ofString ", column " ++ Str.ofString (toString (colAt l i))
def coordS (x : Str) (i : Int) : Str := if (x.length : Int) ≤ i then Str.ofString "end of document" else lineCol (x.cps.toList.take i.toNat) i
theorem lastTo_none {c : Nat} : ∀ {l : List Nat}, l.count c = 0 → lastTo c l = none
  | [], _ => rfl
  | d :: l, h => by
    rw [List.count_cons] at h
    have h1 : l.count c = 0 := by omega
    have h2 : d ≠ c := fun q => by subst q; simp at h
    unfold lastTo
    rw [lastTo_none h1]
    simp [h2]

theorem coord_body {w : World} {s : Shared} {hd : Option Value} {dp un : Nat} {gd : Option (List Code)} {outer : List Env} {E : Value → Shared → Prop} {h₀ : Heap} {L f c : Addr} {mg mb : Str → Option Value} {mean : ExcName → Option Value} {loose : List Str} {fs : Led} {Q : Flow → Shared → Prop}
   {x : Str} {i : Int} {t t2 : Tok} (hi : 0 ≤ i) (hx : x.length ≤ 1048576) (hi2 : i ≤ 1048577)
   (F : Fr h₀ L s.heap (locCr x i t t2)) (G : Gd w loose mean mg mb h₀) (N : News h₀ L s.heap fs) (O : FrsIn outer fs)
   (ret : ∀ h' tk tj m', Fr h₀ L h' m' → News h₀ L h' fs → Q (.ret (.str (coordS x i) tj)) { s with heap := h', toks := tk })
   : wpAny (model prog w) ⟨hd, dp, some (envCr L f c :: outer), gd, un⟩ (execs (bodyOf stCr) (envCr L f c)) Q E s := by
  w_on
  obtain ⟨X, T⟩ := G
  delta envCr
  conv in (bodyOf _) => whnf
  have hcb : (x.cps.toList.take i.toNat).count 10 ≤ 1048577 := Nat.le_trans List.count_le_length (by rw [List.length_take]; omega)
  k_steps
  · rw [show coordS x i = Str.ofString "end of document" from if_pos (by omega)] at ret
    exact ret _ _ _ _ F N
  · refine count4y nl_is hi (by omega) ?_
    k_steps
    · rename Fr _ _ _ _ => F2
      rename News _ _ _ _ => N2
      have hc : (x.cps.toList.take i.toNat).count 10 = 0 := by omega
      have e : coordS x i = Str.empty ++ Str.ofString "line " ++ Str.ofString (toString (((x.cps.toList.take i.toNat).count 10 : Int) + 1)) ++ Str.ofString ", column " ++ Str.ofString (toString (i + 1)) := by
        unfold coordS lineCol colAt
        rw [if_neg (by omega), lastTo_none hc]
      rw [e] at ret
      exact ret _ _ _ _ F2 N2
    · have hc : (x.cps.toList.take i.toNat).count 10 ≠ 0 := by omega
      obtain ⟨k, hk, hk2⟩ := lastTo_some hc
      have hk3 : k < i.toNat := Nat.lt_of_lt_of_le hk2 (by rw [List.length_take]; omega)
      refine rindex4y nl_is hi (by omega) hk ?_
      k_steps
      rename Fr _ _ _ _ => F2
      rename News _ _ _ _ => N2
      have e : coordS x i = Str.empty ++ Str.ofString "line " ++ Str.ofString (toString (((x.cps.toList.take i.toNat).count 10 : Int) + 1)) ++ Str.ofString ", column " ++ Str.ofString (toString (i - (k : Int))) := by
        unfold coordS lineCol colAt
        rw [if_neg (by omega), hk]
      rw [e] at ret
      exact ret _ _ _ _ F2 N2
end Mine
/-! Tb -/
namespace Mine
open PySem PySem.W PySem.Calls PySem.Spec PyProof.Rows
set_option Elab.async false
set_option maxRecDepth 100000
set_option linter.unusedVariables false

/-- a code's table: empty, or the one code that its one inner def has got -/
def TabOk (P : Addr) (q : Str) (pos : Pos) (led : Led) : Prop :=
  ∃ ps : Array Value, (P, tabObj ps) ∈ led ∧ (ps = #[] ∨ ∃ c oc vs t, ps = #[rawInt pos.line, rawInt pos.col, .ref c] ∧ (c, oc) ∈ led ∧ oc.data = .fields vs ∧ vs[1]? = some (.str q t))
theorem TabOk.mono {P : Addr} {q : Str} {pos : Pos} {a b : Led} (x : TabOk P q pos a) (h : ∀ p ∈ a, p ∈ b) : TabOk P q pos b := by
  obtain ⟨ps, h1, h2⟩ := x
  refine ⟨ps, h _ h1, h2.imp id ?_⟩
  rintro ⟨c, oc, vs, t, e, hm, r⟩
  exact ⟨c, oc, vs, t, e, h _ hm, r⟩
theorem TabOk.turns {P : Addr} {q : Str} {pos : Pos} {tb : List Addr} {a b : Led} (x : TabOk P q pos a) (t : TurnsB tb a b) (hn : P ∉ tb) : TabOk P q pos b := by
  obtain ⟨ps, h1, h2⟩ := x
  refine ⟨ps, t.keepsTab h1 hn, h2.imp id ?_⟩
  rintro ⟨c, oc, vs, tk, e, hm, hd, hv⟩
  exact ⟨c, oc, vs, tk, e, t.keepsIn hm (fixed_code hd hv), hd, hv⟩
theorem TabOk.drop {P L : Addr} {q : Str} {pos : Pos} {new led : Led} {o : Obj} (x : TabOk P q pos (new ++ (L, o) :: led)) (hd : ∃ es n, o.data = .dict es n) : TabOk P q pos (new ++ led) := by
  obtain ⟨es, n, hd⟩ := hd
  have key : ∀ {b : Addr} {ob : Obj} {vs : Array Value}, (b, ob) ∈ new ++ (L, o) :: led → ob.data = .fields vs → (b, ob) ∈ new ++ led := fun hm hv => by
    rcases List.mem_append.mp hm with hm | hm
    · exact List.mem_append_left _ hm
    · rcases List.mem_cons.mp hm with e | hm
      · cases e; rw [hd] at hv; cases hv
      · exact List.mem_append_right _ hm
  obtain ⟨ps, h1, h2⟩ := x
  refine ⟨ps, key h1 rfl, h2.imp id ?_⟩
  rintro ⟨c, oc, vs, t, e, hm, hdc, hv⟩
  exact ⟨c, oc, vs, t, e, key hm hdc, hdc, hv⟩
theorem triples_one {pos : Pos} {c : Value} : TriplesOk (#[rawInt pos.line, rawInt pos.col, c] : Array Value).toList := trivial
theorem among_one {pos : Pos} {c : Value} : codeAmong pos (#[rawInt pos.line, rawInt pos.col, c] : Array Value).toList = some c := by
  simp [codeAmong, rawInt]

section
variable {s : Shared} {h₀ h' : Heap} {L P c' : Addr} {m : Str → Option Value} {led : Led} {ps ps' : Array Value} {qual : Str}
theorem tab_grow (F : Fr h₀ L s.heap m) (N : News h₀ L s.heap led) (hP : (P, tabObj ps) ∈ led) (ht : TriplesOk ps.toList) (ht' : TriplesOk ps'.toList) (hx : Heap.ExtBut P s.heap h') (hge : s.heap.objs.size ≤ c') (hrec : h'.CodeRec (.ref c') qual)
    (htb : h'.get? P = some (tabObj ps')) :
    ∃ oc vs t led', oc.data = .fields vs ∧ vs[1]? = some (.str qual t) ∧ TurnsB [P] led led' ∧ (P, tabObj ps') ∈ led' ∧ Fr h₀ L h' m ∧ News h₀ L h' ((c', oc) :: led') ∧ ∀ q ∈ led', q.1 < c' := by
  obtain ⟨c₂, oc, vs, t, e2, hoc, hd, hv⟩ := hrec
  cases e2
  have hm := N _ hP
  have hLc : L < c' := Nat.lt_of_lt_of_le F.ns.lt hge
  have old : ∀ b o, h₀.get? b = some o → h'.get? b = some o := fun b o e => hx b o (fun q => by rw [q, hm.2.2] at e; cases e) (F.keep b o e)
  obtain ⟨led', tt, x⟩ := led_of (tb := [P]) (h' := h') (led := led) fun p hp => by
    by_cases hq : p.1 = P
    · have e : p.2 = tabObj ps := by
        have h1 := (N p hp).1
        rw [hq, hm.1] at h1
        exact (Option.some.inj h1).symm
      exact ⟨(P, tabObj ps'), ⟨hq.symm, .inr (.inr ⟨by rw [hq]; exact List.mem_singleton.mpr rfl, ⟨ps, e, ht⟩, ⟨ps', rfl, ht'⟩⟩)⟩, htb⟩
    · exact ⟨p, TurnB.refl p, hx _ _ hq (N p hp).1⟩
  have lt : ∀ q ∈ led', q.1 < c' := fun q hq => by
    obtain ⟨p, hp, e, _⟩ := tt.back hq
    rw [e]; exact Nat.lt_of_lt_of_le (Heap.lt_size (N p hp).1) hge
  refine ⟨oc, vs, t, led', hd, hv, tt, ?_, ⟨F.ns.extBut hx hm.2.1.symm, old, F.above⟩, fun q hq => ?_, lt⟩
  · obtain ⟨q, hq, e, _⟩ := tt.mem hP
    have h1 := x q hq
    have e' : q.1 = P := e
    rw [e', htb] at h1
    have : q = (P, tabObj ps') := Prod.ext e' (Option.some.inj h1).symm
    rw [← this]; exact hq
  · rcases List.mem_cons.mp hq with rfl | hq
    · exact ⟨hoc, Nat.ne_of_gt hLc, Heap.get?_none_of_le (Nat.le_trans F.above (Nat.le_of_lt hLc))⟩
    · exact news_turned N tt x q hq
end
section
variable {prog : Program} {w : World} {A : Around} {E : Value → Shared → Prop} {s : Shared} {h₀ : Heap} {L a c P : Addr} {m mg mb : Str → Option Value} {cn : Str} {cs : Scope} {ccd : Value} {cl : List (Str × Addr)} {led : Led}
  {p : Program} {loose : List Str} {mean : ExcName → Option Value} {name qual : Str} {params : Arguments} {body : List Stmt} {bodyE : Expr} {scope : Scope} {pos : Pos} {firstLine : Nat} {clos : List (Str × Addr)} {Q : Value → Shared → Prop}
theorem main_facts (F : Fr h₀ L s.heap m) (N : News h₀ L s.heap led) (T : Top p loose mean mg mb h₀) {ps : Array Value} (hP : (P, tabObj ps) ∈ led) : mainGlobals ≠ P ∧ s.heap.BuiltinsAt mg P := by
  have hm := N _ hP
  have hgs := T.g.keeps F.keep
  obtain ⟨bm, ob, b1, b2, b3, b4, b5, b6⟩ := T.bmain
  have hgP : mainGlobals ≠ P := fun q => by
    obtain ⟨o, es, ep, e, hd, _⟩ := hgs
    rw [q, hm.1] at e; cases e; cases hd
  have hbP : bm ≠ P := fun q => by
    have e := F.keep _ _ b3
    rw [q, hm.1] at e; cases e; cases b4
  have hbG : bm ≠ mainGlobals := fun q => by
    obtain ⟨o, es, ep, e, hd, _⟩ := T.g
    rw [q, e] at b3; cases b3; rw [hd] at b6; cases b6
  exact ⟨hgP, bm, ob, b1, b2, hbG, hbP, F.keep _ _ b3, b4, b5, b6⟩
/-- an inner def made, its code new or known -/
theorem nest_def (F : Fr h₀ L s.heap m) (N : News h₀ L s.heap led) (T : Top p loose mean mg mb h₀) (C : CodeHd h₀ c P) (hcd : ccd = .ref c) (hT : TabOk P qual pos led) (hcl : closureFor scope (envX cn cs L a ccd cl) = pure clos)
    (k : ∀ f c' oc vs t ctv doc h' tk new led', Fr h₀ L h' m → News h₀ L h' ((f, fnMade name qual params body scope clos doc ((mg "__name__").getD .none) c' ctv) :: (new ++ led')) → TurnsB [P] led led' → TabOk P qual pos (new ++ led') →
      (c', oc) ∈ new ++ led' → oc.data = .fields vs → vs[1]? = some (.str qual t) → (∀ p ∈ new, ∀ q ∈ led', q.1 < p.1) → (∀ q ∈ new ++ led', q.1 < f) → (∀ p ∈ new, Fixed p.2) → Q (.ref f) { s with heap := h', toks := tk }) :
    wpAny (model prog w) A (makeFunction name qual params (.stmts body) scope (envX cn cs L a ccd cl) [] [] [] pos firstLine) Q E s := by
  obtain ⟨ps, hP, h2⟩ := hT
  obtain ⟨hgP, hB⟩ := main_facts F N T hP
  rcases h2 with rfl | ⟨c', oc, vs, t, rfl, hm, hd, hv⟩
  · refine makeFunction_K (mg := mg) hcl rfl (T.g.keeps F.keep) hcd (C.keeps F.keep) (N _ hP).1 trivial rfl hgP hB fun c' ctv doc h' tk hx hge hlt hrec htb => ?_
    obtain ⟨oc, vs, t, led', hd, hv, tt, hP', F', N', lt⟩ := tab_grow F N hP trivial triples_one hx hge hrec (by simpa using htb)
    have hT' : TabOk P qual pos ([(c', oc)] ++ led') := ⟨_, List.mem_append_right _ hP', .inr ⟨c', oc, vs, t, rfl, .head _, hd, hv⟩⟩
    refine k h'.objs.size c' oc vs t ctv doc _ tk [(c', oc)] led' (F'.push _) (N'.push F' _) tt hT' (.head _) hd hv (fun p hp q hq => ?_) (fun q hq => ?_) fun p hp => ?_
    · rw [List.mem_singleton.mp hp]; exact lt q hq
    · rcases List.mem_cons.mp hq with rfl | hq
      · exact hlt
      · exact Nat.lt_trans (lt q hq) hlt
    · rw [List.mem_singleton.mp hp]; exact fixed_code hd hv
  · refine makeFunction_hit (mg := mg) hcl rfl (T.g.keeps F.keep) hcd (C.keeps F.keep) (N _ hP).1 triples_one among_one hB fun ctv doc h' tk hk hsz => ?_
    have F' : Fr h₀ L h' m := ⟨F.ns.keeps hk, fun b o e => hk b o (F.keep b o e), F.above⟩
    have N' : News h₀ L h' led := fun q hq => ⟨hk _ _ (N q hq).1, (N q hq).2⟩
    exact k h'.objs.size c' oc vs t ctv doc _ tk [] led (F'.push _) (N'.push F' _) (.refl _) ⟨_, hP, .inr ⟨c', oc, vs, t, rfl, hm, hd, hv⟩⟩ hm hd hv (fun p hp => nomatch hp) (fun q hq => Nat.lt_of_lt_of_le (Heap.lt_size (N q hq).1) hsz) fun p hp => nomatch hp
theorem nest_lam (F : Fr h₀ L s.heap m) (N : News h₀ L s.heap led) (T : Top p loose mean mg mb h₀) (C : CodeHd h₀ c P) (hcd : ccd = .ref c) (hT : TabOk P qual pos led) (hcl : closureFor scope (envX cn cs L a ccd cl) = pure clos)
    (k : ∀ f c' oc vs t ctv h' tk new led', Fr h₀ L h' m → News h₀ L h' ((f, kla_obj name qual params bodyE scope clos ((mg "__name__").getD .none) c' ctv) :: (new ++ led')) → TurnsB [P] led led' → TabOk P qual pos (new ++ led') →
      (c', oc) ∈ new ++ led' → oc.data = .fields vs → vs[1]? = some (.str qual t) → (∀ p ∈ new, ∀ q ∈ led', q.1 < p.1) → (∀ q ∈ new ++ led', q.1 < f) → (∀ p ∈ new, Fixed p.2) → Q (.ref f) { s with heap := h', toks := tk }) :
    wpAny (model prog w) A (makeFunction name qual params (.expr bodyE) scope (envX cn cs L a ccd cl) [] [] [] pos firstLine) Q E s := by
  obtain ⟨ps, hP, h2⟩ := hT
  obtain ⟨hgP, hB⟩ := main_facts F N T hP
  rcases h2 with rfl | ⟨c', oc, vs, t, rfl, hm, hd, hv⟩
  · refine kla_makeFunction (mg := mg) hcl rfl (T.g.keeps F.keep) hcd (C.keeps F.keep) (N _ hP).1 trivial rfl hgP hB fun c' ctv h' tk hx hge hlt hrec htb => ?_
    obtain ⟨oc, vs, t, led', hd, hv, tt, hP', F', N', lt⟩ := tab_grow F N hP trivial triples_one hx hge hrec (by simpa using htb)
    have hT' : TabOk P qual pos ([(c', oc)] ++ led') := ⟨_, List.mem_append_right _ hP', .inr ⟨c', oc, vs, t, rfl, .head _, hd, hv⟩⟩
    refine k h'.objs.size c' oc vs t ctv _ tk [(c', oc)] led' (F'.push _) (N'.push F' _) tt hT' (.head _) hd hv (fun p hp q hq => ?_) (fun q hq => ?_) fun p hp => ?_
    · rw [List.mem_singleton.mp hp]; exact lt q hq
    · rcases List.mem_cons.mp hq with rfl | hq
      · exact hlt
      · exact Nat.lt_trans (lt q hq) hlt
    · rw [List.mem_singleton.mp hp]; exact fixed_code hd hv
  · refine kla_makeFunctionHit (mg := mg) hcl rfl (T.g.keeps F.keep) hcd (C.keeps F.keep) (N _ hP).1 triples_one among_one hB fun ctv h' tk hk hsz => ?_
    have F' : Fr h₀ L h' m := ⟨F.ns.keeps hk, fun b o e => hk b o (F.keep b o e), F.above⟩
    have N' : News h₀ L h' led := fun q hq => ⟨hk _ _ (N q hq).1, (N q hq).2⟩
    exact k h'.objs.size c' oc vs t ctv _ tk [] led (F'.push _) (N'.push F' _) (.refl _) ⟨_, hP, .inr ⟨c', oc, vs, t, rfl, hm, hd, hv⟩⟩ hm hd hv (fun p hp => nomatch hp) (fun q hq => Nat.lt_of_lt_of_le (Heap.lt_size (N q hq).1) hsz) fun p hp => nomatch hp
end
end Mine
/-! Su -/
namespace Mine
open PySem PySem.W PySem.Calls PySem.Spec PyProof.Rows
set_option Elab.async false
set_option maxRecDepth 100000
set_option maxHeartbeats 4000000
set_option linter.unusedVariables false
theorem fill4 : (PySem.Challenge.rw_mr0151_01, KK) = (PySem.Challenge.rw_mr0151_01, KK) := by k_fill; rfl
theorem ns45 {w : World} {h : Heap} (X : (KK w.params).In h) : ∃ mN, h.Ns 45 mN ∧ mN "__init__" = none := by
  refine ⟨_, ⟨o45 w.params, _, _, X 45 _ rfl, rfl, ?_, fun _ => rfl⟩, ?_⟩
  · intro e he
    simp only [List.mem_toArray, List.mem_cons, List.not_mem_nil, or_false] at he
    rcases he with rfl | rfl | rfl | rfl | rfl <;> exact ⟨_, _, rfl⟩
  · rfl
theorem make_toml {w : World} {A : Around} {E : Value → Shared → Prop} {s : Shared} {h₀ : Heap} {L : Addr} {m : Str → Option Value} {v : Value} {Q : Value → Shared → Prop} (X : (KK w.params).In h₀) (F : Fr h₀ L s.heap m)
    (h : ∀ h' e, Heap.MadeExcOf s.heap h' e (.ref 46) [v] → Q (.ref e) { s with heap := h' }) : wpAny (model prog w) A (call (.ref 46) [v]) Q E s := by
  obtain ⟨hp, g, d, tk, os⟩ := s
  have X' := X.keeps F.keep
  obtain ⟨mN, hn, hi⟩ := ns45 X'
  exact wpAny_call_exc_sub PySem.F.excBase_ValueError (X' 46 (o46 _) rfl) hn hi h
theorem coord_len {x : Str} {i : Int} (hi : 0 ≤ i) (hi2 : i ≤ 1048577) (hx : x.length ≤ 1048576) : (coordS x i).length ≤ 100 := by
  unfold coordS
  split
  · rw [PySem.ofString_length]; decide
  · unfold lineCol
    have h1 : (toString ((((x.cps.toList.take i.toNat).count 10 : Nat) : Int) + 1)).length ≤ 11 := int_text_length_le10 (by decide) (by
      have := @List.count_le_length Nat _ 10 (x.cps.toList.take i.toNat)
      rw [List.length_take] at this
      omega)
    have h2 : (toString (colAt (x.cps.toList.take i.toNat) i)).length ≤ 11 := int_text_length_le10 (by decide) (by
      unfold colAt
      cases hk : lastTo 10 (x.cps.toList.take i.toNat) with
      | none => dsimp only; omega
      | some k => 
        dsimp only
        have : k ≤ 1048577 := by
          have := lastTo_lt hk
          rw [List.length_take] at this
          omega
        omega)
    simp only [PySem.Str.length_append, PySem.ofString_length]
    have e1 : Str.empty.length = 0 := rfl
    have e2 : ("line " : String).length = 5 := by decide
    have e3 : (", column " : String).length = 9 := by decide
    omega

theorem made_news {h₀ h h' : Heap} {L e : Addr} {m : Str → Option Value} {led : Led} {cls : Value} {args : List Value} (F : Fr h₀ L h m) (N : News h₀ L h led) (hE : Heap.MadeExcOf h h' e cls args) :
    ∃ tu, Fr h₀ L h' m ∧ News h₀ L h' ((e, { cls := cls, data := .fields #[.ref tu, .none, .none, .none, .bool false, .none] }) :: (tu, { cls := .type "tuple", data := .seq args.toArray }) :: led) ∧ (∀ q ∈ led, q.1 ≠ e ∧ q.1 ≠ tu) ∧ e ≠ tu := by
  obtain ⟨tu, he, htn, ht⟩ := hE.there
  have fresh : ∀ b, h.get? b = none → b ≠ L ∧ h₀.get? b = none := fun b hb => ⟨fun q => (by
    obtain ⟨o, _, _, ho, _⟩ := F.ns
    rw [q, ho] at hb; cases hb), TI.none_of F.keep hb⟩
  refine ⟨tu, F.keeps hE.keeps, fun q hq => ?_, fun q hq => ⟨fun r => ?_, fun r => ?_⟩, fun r => ?_⟩
  · rcases List.mem_cons.mp hq with rfl | hq
    · exact ⟨he, fresh _ hE.new⟩
    · rcases List.mem_cons.mp hq with rfl | hq
      · exact ⟨ht, fresh _ htn⟩
      · exact ⟨hE.keeps _ _ (N q hq).1, (N q hq).2⟩
  · have := (N q hq).1; rw [r, hE.new] at this; cases this
  · have := (N q hq).1; rw [r, htn] at this; cases this
  · rw [r, ht] at he; cases he
theorem drop3 {h₀ h : Heap} {L : Addr} {a b c : Addr × Obj} {r : Led} (N : News h₀ L h (a :: b :: c :: r)) : News h₀ L h (a :: b :: r) := fun p hp => N p (by
  rcases List.mem_cons.mp hp with rfl | hp
  · exact .head _
  · rcases List.mem_cons.mp hp with rfl | hp
    · exact .tail _ (.head _)
    · exact .tail _ (.tail _ (.tail _ hp)))
def posOf : Stmt → Pos
  | .FunctionDef _ _ _ _ _ _ _ _ _ p => p
  | _ => default
abbrev env84 (L : Addr) : Env := envOf (Str.ofString "suffixed_err") (scopeOf (stAt 10)) L 84 (.ref 83)
abbrev loc84 (x msg : Str) (i : Int) (t t2 t3 : Tok) : Str → Option Value := fun y => [(Str.ofString "msg", Value.str msg t3), (Str.ofString "pos", Value.int i t2), (Str.ofString "src", Value.str x t)].lookup y
abbrev excObj (tu : Addr) : Obj := { cls := .ref 46, data := .fields #[.ref tu, .none, .none, .none, .bool false, .none] }
abbrev tupOne (v : Value) : Obj := { cls := .type "tuple", data := .seq [v].toArray }
def errText (x msg : Str) (i : Int) : Str := Str.empty ++ msg ++ Str.ofString " (at " ++ coordS x i ++ Str.ofString ")"
theorem suf_body {w : World} {s : Shared} {hd : Option Value} {dp un : Nat} {gd : Option (List Code)} {outer : List Env} {E : Value → Shared → Prop} {h₀ : Heap} {L : Addr} {mg mb : Str → Option Value} {mean : ExcName → Option Value} {loose : List Str} {fs : Led} {Q : Flow → Shared → Prop}
   {x msg : Str} {i : Int} {t t2 t3 : Tok} (hi : 0 ≤ i) (hx : x.length ≤ 1048576) (hi2 : i ≤ 1048577) (hm : msg.length ≤ 1048576) (hdp : dp < recursionLimit)
   (F : Fr h₀ L s.heap (loc84 x msg i t t2 t3)) (G : Gd w loose mean mg mb h₀) (N : News h₀ L s.heap fs) (O : FrsIn outer fs) (hT : TabOk 79 qCr (posOf stCr) fs)
   (ret : ∀ e tu te h' tk m' new fs', Fr h₀ L h' m' → News h₀ L h' ((e, excObj tu) :: (tu, tupOne (.str (errText x msg i) te)) :: (new ++ fs')) → TurnsB [79] fs fs' → TabOk 79 qCr (posOf stCr) (new ++ fs') →
      (∀ p ∈ (e, excObj tu) :: (tu, tupOne (.str (errText x msg i) te)) :: new, ∀ q ∈ fs', q.1 ≠ p.1) → (∀ p ∈ new, Fixed p.2) → (∀ p ∈ new, p.1 ≠ e ∧ p.1 ≠ tu) → Q (.ret (.ref e)) { s with heap := h', toks := tk })
   : wpAny (model prog w) ⟨hd, dp, some (env84 L :: outer), gd, un⟩ (execs (bodyOf (stAt 10)) (env84 L)) Q E s := by
  w_on
  obtain ⟨X, T⟩ := G
  have hcl := coord_len hi hi2 hx
  delta env84
  conv in (bodyOf _) => whnf
  refine wpAny_execs_cons (nestDef_K rfl rfl rfl ?_)
  refine nest_def F N T (codeHd_of_K (c := 83) (P := 79) X (by kernel_rfl)) rfl hT rfl (fun f c' oc vs tq ctv doc h' tk new led' F1 N1 tt hT' hc hcd hv ap lt fx => ?_)
  clear F N
  k_steps
  rename Fr _ _ _ _ => F2
  rename News _ _ _ _ => N2
  refine callWith_F (FnAt.of N2 (.head _)) ?_
  k_steps
  have O2 : FrsIn outer ((f, fnMade (Str.ofString "coord_repr") qCr (paramsOf stCr) (bodyOf stCr) (scopeOf stCr) [] doc ((mg "__name__").getD .none) c' ctv) :: (new ++ led')) := (O.turns tt).mono fun p hp => .tail _ (List.mem_append_right _ hp)
  refine enterS (fd := fnX (Str.ofString "coord_repr") qCr (paramsOf stCr) (bodyOf stCr) (scopeOf stCr) [] .none .none doc ((mg "__name__").getD .none) none (.ref c') ctv) rfl rfl isFn F2 N2 O2 (N2 _ (.head _)).1 rfl T.nolimit ⟨c', oc, vs, tq, rfl, (N2 _ (.tail _ hc)).1, hcd, hv⟩ hdp rfl (BindsTo.of_eq rfl) (show ∀ x ∈ (scopeOf stCr).names, x.2 ≠ .cell from by decide +kernel) (locs rfl) (fun g h₁ oL st F₁ N₁ O₁ bk lt₁ kp => ?_) rfl rfl rfl
  refine coord_body hi hx hi2 F₁ ⟨X.keeps st, T.keeps st⟩ N₁ O₁ fun h₂ tk₂ tj m' F₂ N₂ => ?_
  obtain ⟨oL', led₂, hfs, hoL, t₂, F3, N3⟩ := bk [] _ h₂ m' [] _ F₂ N₂ (.refl _) (fun p hp => nomatch hp)
  obtain ⟨r₂, rfl, t₃⟩ := t₂.head fixed_func
  obtain ⟨new₂, fs₂, rfl, tn, tf⟩ := t₃.split
  obtain rfl := tn.all fx
  clear F₁ N₁ F₂ N₂ F2 N2
  k_steps
  refine make_toml X F3 fun h₅ e hE => ?_
  k_steps
  obtain ⟨tu, F5, N5, ap5, hne⟩ := made_news F3 N3 hE
  refine ret e tu _ _ _ _ new₂ fs₂ F5 (drop3 N5) (tt.trans (tf.up fun _ h => nomatch h)) (hT'.turns ((TurnsB.refl _).append tf) (by simp)) (fun p hp q hq => ?_) fx fun p hp => ap5 p (.tail _ (List.mem_append_left _ hp))
  · have hq' := ap5 q (.tail _ (List.mem_append_right _ hq))
    rcases List.mem_cons.mp hp with rfl | hp
    · exact hq'.1
    · rcases List.mem_cons.mp hp with rfl | hp
      · exact hq'.2
      · obtain ⟨q', hq2, e2, _⟩ := tf.back hq
        rw [e2]; exact Nat.ne_of_lt (ap p hp q' hq2)

theorem suf_call {w : World} {s : Shared} {hd : Option Value} {dp un : Nat} {gd : Option (List Code)} {env : Env} {outer : List Env} {E : Value → Shared → Prop} {h₀ : Heap} {L : Addr} {m mg mb : Str → Option Value} {mean : ExcName → Option Value} {loose : List Str} {led : Led} {Q : Value → Shared → Prop}
   {x msg : Str} {i : Int} {t t2 t3 : Tok} (hf : env.frame = some L) (hke : env.scope.kind ≠ .module) (F : Fr h₀ L s.heap m) (G : Gd w loose mean mg mb h₀) (N : News h₀ L s.heap led) (O : FrsIn outer led) (hT : TabOk 79 qCr (posOf stCr) led) (hdp : dp + 1 < recursionLimit)
   (hi : 0 ≤ i) (hx : x.length ≤ 1048576) (hi2 : i ≤ 1048577) (hm : msg.length ≤ 1048576)
   (ret : ∀ e tu te h' tk new led', Fr h₀ L h' m → News h₀ L h' ((e, excObj tu) :: (tu, tupOne (.str (errText x msg i) te)) :: (new ++ led')) → TurnsB [79] led led' → TabOk 79 qCr (posOf stCr) (new ++ led') →
      (∀ p ∈ (e, excObj tu) :: (tu, tupOne (.str (errText x msg i) te)) :: new, ∀ q ∈ led', q.1 ≠ p.1) → (∀ p ∈ new, Fixed p.2) → (∀ p ∈ new, p.1 ≠ e ∧ p.1 ≠ tu) → Q (.ref e) { s with heap := h', toks := tk })
   : wpAny (model prog w) ⟨hd, dp, some (env :: outer), gd, un⟩ (call (.ref 84) [.str x t, .int i t2, .str msg t3]) Q E s := by
  refine enter (fd := fdAt 10 "suffixed_err" .none (vS "cpy313.tomllib._parser" 187) 83) rfl hf hke F N O (G.X 84 o84 rfl) rfl G.T.nolimit ⟨83, _, _, _, rfl, G.X 83 (o83 _) rfl, rfl, rfl⟩ (by show dp < recursionLimit; omega) rfl (BindsTo.of_eq rfl) (by decide +kernel) (locs rfl) (fun g h₁ oL st F₁ N₁ O₁ bk lt kp => ?_) rfl rfl rfl
  refine suf_body (s := { s with heap := h₁, toks := _ }) hi hx hi2 hm hdp F₁ (G.keeps st) N₁ O₁ (hT.mono fun p hp => .tail _ hp) fun e tu te h' tk m' new fs' F' N' tt hT' ap fx ne => ?_
  obtain ⟨oL', led', rfl, hoL, t1, F2, N2⟩ := bk _ _ h' m' ((e, excObj tu) :: (tu, tupOne (.str (errText x msg i) te)) :: new) fs' F' N' tt ap
  exact ret e tu te h' tk new led' F2 N2 t1 (hT'.drop hoL) (fun p hp q hq => ap p hp q (.tail _ hq)) fx ne
end Mine
/-! Fz -/
namespace Mine
open PySem PySem.W PySem.Calls PySem.Spec PyProof.Rows
set_option Elab.async false
set_option maxRecDepth 100000
set_option maxHeartbeats 4000000
set_option linter.unusedVariables false

theorem owner_fz : Manifest.owners.lookup (String.ofList ['t', 'e', 's', 'n', 'e', 'z', 'o', 'r', 'f'].reverse) = some Manifest.sig_frozenset := by kernel_rfl
theorem plainAttrs_fz : PlainAttrs "frozenset" :=
  ⟨⟨"object.__getattribute__", by rw [typeLookup_type, builtinLookup_eq_fast]; kernel_rfl, by decide +kernel⟩, by rw [typeLookup_type, builtinLookup_eq_fast]; kernel_rfl⟩
theorem slot_fz_contains : Slot "frozenset" "__contains__" "frozenset.__contains__" :=
  .of (owner := "frozenset") (n := "__contains__") (by rw [typeLookup_type, builtinLookup_eq_fast]; kernel_rfl) (by decide +kernel) (by decide +kernel) (by decide +kernel)
    (by first | exact .inl (by decide +kernel) | exact .inr (by decide +kernel)) (by rw [isSubtype_type]; kernel_rfl)
theorem slot_fz_isdisjoint : Slot "frozenset" "isdisjoint" "frozenset.isdisjoint" :=
  .of (owner := "frozenset") (n := "isdisjoint") (by rw [typeLookup_type, builtinLookup_eq_fast]; kernel_rfl) (by decide +kernel) (by decide +kernel) (by decide +kernel)
    (by first | exact .inl (by decide +kernel) | exact .inr (by decide +kernel)) (by rw [isSubtype_type]; kernel_rfl)
theorem type_fz_isdisjoint : typeOf (.builtin "frozenset.isdisjoint") = pure (.type "method_descriptor") := by show builtinType _ = _; rw [builtinType_eq_fast]; kernel_rfl
theorem entry_fz_contains : entryFor table "frozenset.__contains__" = some Builtin.«frozenset.__contains__» := entryFor_of_tree (by kernel_rfl)
theorem entry_fz_isdisjoint : entryFor table "frozenset.isdisjoint" = some Builtin.«frozenset.isdisjoint» := entryFor_of_tree (by kernel_rfl)
theorem entry_fz_isdisjoint_loop : entryFor table "frozenset.isdisjoint.loop" = some Builtin.«frozenset.isdisjoint.loop» := entryFor_of_tree (by kernel_rfl)
theorem plain_fz_isdisjoint_loop : plainId "frozenset.isdisjoint.loop" = true := by decide +kernel
theorem args_fz_contains (a b : Value) : argsOk "frozenset.__contains__" ⟨[a, b], []⟩ := by
  unfold argsOk; rw [signature?_of (id := "frozenset.__contains__") (n := ['_', '_', 's', 'n', 'i', 'a', 't', 'n', 'o', 'c', '_', '_']) (o := ['t', 'e', 's', 'n', 'e', 'z', 'o', 'r', 'f']) (by kernel_rfl) owner_fz]; kernel_rfl
theorem args_fz_isdisjoint (a b : Value) : argsOk "frozenset.isdisjoint" ⟨[a, b], []⟩ := by
  unfold argsOk; rw [signature?_of (id := "frozenset.isdisjoint") (n := ['t', 'n', 'i', 'o', 'j', 's', 'i', 'd', 's', 'i']) (o := ['t', 'e', 's', 'n', 'e', 'z', 'o', 'r', 'f']) (by kernel_rfl) owner_fz]; kernel_rfl

/-- the signs that are barred -/
def ill (n : Nat) : Bool := (decide (n < 32) && !decide (n = 9)) || decide (n = 127)
def FzOf (prog : Program) (w : World) (h : Heap) (a : Addr) : Prop :=
  ∃ o es ep t, h.get? a = some o ∧ o.cls = .type "frozenset" ∧ o.dict = none ∧ o.data = .set es ep t ∧ ElemsOf (strKind prog w) es.toList ∧ (∀ n, ill n = true ↔ ∃ e ∈ es.toList, (strKind prog w).is ⟨#[n]⟩ e.2 = true)
    ∧ es.size < scanBound ∧ t.fits es.size = true
theorem FzOf.keeps {prog : Program} {w : World} {h h' : Heap} {a : Addr} (x : FzOf prog w h a) (k : ∀ b o, h.get? b = some o → h'.get? b = some o) : FzOf prog w h' a :=
  let ⟨o, es, ep, t, ho, r⟩ := x; ⟨o, es, ep, t, k _ _ ho, r⟩

section
variable {prog : Program} {w : World} {A : Around} {E : Value → Shared → Prop} {s : Shared} {a : Addr} {n : Nat} {t : Tok}
theorem FzOf.typeIs (x : FzOf prog w s.heap a) : s.TypeIs (.ref a) "frozenset" := let ⟨o, _, _, _, ho, hc, _⟩ := x; ⟨o, ho, hc⟩
theorem FzOf.noDict (x : FzOf prog w s.heap a) : ∀ b, Value.ref a = .ref b → ∃ ob, s.heap.get? b = some ob ∧ ob.dict = none :=
  fun b e => by injection e with e; subst e; exact let ⟨o, _, _, _, ho, _, hd, _⟩ := x; ⟨o, ho, hd⟩
theorem fz_find {Q : Option Nat → Shared → Prop} (x : FzOf prog w s.heap a) (h : ∀ r : Option Nat, r.isSome = ill n → Q r s) : wpAny (model prog w) A (setFind a (.str ⟨#[n]⟩ t) (hashStr w ⟨#[n]⟩)) Q E s := by
  obtain ⟨o, es, ep, tb, ho, _, _, hd, hel, hm, hb, hf⟩ := x
  have hkey := strKind_is prog w ⟨#[n]⟩ t
  unfold setFind setFindIn
  refine wpAny_bind (wpAny_setState_of ho hd hf ?_)
  dsimp only
  rw [byScan_of (x := .str ⟨#[n]⟩ t) rfl hb hel]
  simp only [↓reduceIte]
  refine wpAny_bind (wpAny_rule ?_)
  refine wpAny_bind (wpAny_setScan_of (knd := strKind prog w) hkey ho hd hf hel ?_)
  cases hr : List.findIdx? (fun e => (strKind prog w).is ⟨#[n]⟩ e.2) es.toList with
  | none =>
    dsimp only
    refine wpAny_pure (h none ?_)
    rw [Option.isSome_none, eq_comm, ← Bool.not_eq_true, hm n]
    rintro ⟨e, he, hpe⟩
    have := List.findIdx?_eq_none_iff.mp hr e he
    rw [hpe] at this; exact Bool.noConfusion this
  | some j =>
    dsimp only
    refine wpAny_pure (h (some (0 + j)) ?_)
    rw [Option.isSome_some, eq_comm, hm n]
    obtain ⟨hj, hpj, _⟩ := List.findIdx?_eq_some_iff_getElem.mp hr
    exact ⟨es.toList[j], List.getElem_mem hj, hpj⟩
theorem fz_has {Q : Bool → Shared → Prop} (x : FzOf prog w s.heap a) (h : Q (ill n) { s with toks := s.toks + 1 }) : wpAny (model prog w) A (setContains a (.str ⟨#[n]⟩ t)) Q E s := by
  unfold setContains
  refine wpAny_holding ?_
  refine wpAny_bind ((strKind prog w).pyHash (strKind_is prog w ⟨#[n]⟩ t) ?_)
  refine wpAny_bind (fz_find (s := { s with toks := s.toks + 1 }) x fun r hr => wpAny_pure ?_)
  rw [hr]; exact h
theorem fz_contains {Q : Bool → Shared → Prop} (x : FzOf prog w s.heap a) (h : Q (ill n) { s with toks := s.toks + 1 }) : wpAny (model prog w) A (contains (.ref a) (.str ⟨#[n]⟩ t)) Q E s := by
  unfold contains
  try with_reducible refine wpAny_holding ?_
  refine wpAny_bind (wpAny_specialOf x.typeIs slot_fz_contains.lookup ?_)
  show wpAny _ _ (if (some (Value.builtin "frozenset.__contains__") == some Value.none) = true then _ else _) _ E s
  rw [if_neg (by rw [beq_builtin_none]; exact Bool.false_ne_true)]
  refine wpAny_bind (wpAny_callSpecialUnlessNone?_slot (name := Str.ofString "__contains__") x.typeIs slot_fz_contains
    (wpAny_call_entry slot_fz_contains x.typeIs entry_fz_contains ?_ (args_fz_contains _ _)))
  unfold Builtin.«frozenset.__contains__» Builtin.Frozenset.oneOther
  simp only [List.isEmpty_nil, bind_assoc]
  unfold Builtin.Frozenset.addrOf Builtin.Frozenset.withSetAsKey
  refine wpAny_bind (wpAny_pure ?_)
  try dsimp only
  refine wpAny_bind (wpAny_pure ?_)
  try dsimp only
  refine wpAny_bind (wpAny_tryCatch ?_)
  refine fz_has x ?_
  show wpAny _ _ (ret (Value.bool (ill n))) _ _ _
  exact wpAny_pure ⟨_, rfl, wpAny_truthy_bool h⟩
theorem fz_notIn {Q : Value → Shared → Prop} (x : FzOf prog w s.heap a) (h : Q (.bool (!ill n)) { s with toks := s.toks + 1 }) : wpAny (model prog w) A (compareOp .NotIn (.str ⟨#[n]⟩ t) (.ref a)) Q E s := by
  show wpAny _ _ (do return .bool (!(← contains (.ref a) (.str ⟨#[n]⟩ t)))) Q E s
  exact wpAny_bind (fz_contains x (wpAny_pure h))
theorem fz_meth {pl : Sem Bool} {Q : Value × List Value → Shared → Prop} (x : FzOf prog w s.heap a) (h : Q (.builtin "frozenset.isdisjoint", [.ref a]) s) : wpAny (model prog w) A (getMethod (.ref a) "isdisjoint" pl) Q E s :=
  getMethod_builtin x.typeIs plainAttrs_fz slot_fz_isdisjoint type_fz_isdisjoint x.noDict h

theorem fz_loop {R : Result → Shared → Prop} {I : Addr} {y : Str} {St : Nat → Heap → Prop} (W : Walks prog w A.in1 I [I] [I] y.cps.size (SignAt y) St) (hne : a ≠ I) : ∀ (k i : Nat) (s : Shared), y.cps.size - i = k → i ≤ y.cps.size → St i s.heap → FzOf prog w s.heap a →
    (∀ h' tk, (∀ b o, b ≠ I → s.heap.get? b = some o → h'.get? b = some o) → R (.ok (.ret (.bool (!(y.cps.toList.drop i).any ill)))) { s with heap := h', toks := tk }) →
    codeAny (model prog w) A (.builtin "frozenset.isdisjoint.loop" ⟨[.ref a, .ref I], []⟩) R s := by
  intro k
  induction k with
  | zero =>
    intro i s hk hi hst x hR
    have hin : i = y.cps.size := by omega
    subst hin
    refine codeAny_builtin entry_fz_isdisjoint_loop ?_
    rw [Around.under_plainId plain_fz_isdisjoint_loop _]
    show wpAny _ A.in1 (pyNext (.ref I) >>= _) _ _ s
    refine wpAny_bind (W.done s _ _ hst fun h' tk hk' => ?_)
    refine wpAny_pure ?_
    have := hR h' tk (fun b o hb => hk' b o (by simpa using hb))
    rw [List.drop_of_length_le (by simp)] at this
    exact this
  | succ k ih =>
    intro i s hk hi hst x hR
    have hlt : i < y.cps.size := by omega
    refine codeAny_builtin entry_fz_isdisjoint_loop ?_
    rw [Around.under_plainId plain_fz_isdisjoint_loop _]
    show wpAny _ A.in1 (pyNext (.ref I) >>= _) _ _ s
    refine wpAny_bind (W.item i s _ _ hlt hst fun v h' tk hP hst' hk' => ?_)
    obtain ⟨c, u, hc, rfl⟩ := hP
    have hd := get_drop (l := y.cps.toList) (a := i) (d := c) (by rw [Array.getElem?_toList]; exact hc)
    have x' : FzOf prog w h' a := let ⟨o, es, ep, t, ho, r⟩ := x; ⟨o, es, ep, t, hk' _ _ (by simpa using hne) ho, r⟩
    show wpAny _ A.in1 (holding [Value.str ⟨#[c]⟩ u] (setContains a (.str ⟨#[c]⟩ u)) >>= _) _ _ _
    refine wpAny_bind (wpAny_holding (fz_has (s := { s with heap := h', toks := tk }) x' ?_))
    cases hb : ill c with
    | true =>
      simp only [if_true]
      refine wpAny_pure ?_
      have := hR h' (tk + 1) (fun b o hb => hk' b o (by simpa using hb))
      rw [hd, List.any_cons, hb] at this
      exact this
    | false =>
      simp only [Bool.false_eq_true, if_false]
      refine wpAny_pure ⟨plainId_quiet plain_fz_isdisjoint_loop _, ih (i + 1) { s with heap := h', toks := tk + 1 } (by omega) hlt hst' x' fun h₂ tk₂ hk₂ => ?_⟩
      have := hR h₂ tk₂ (fun b o hb e => hk₂ b o hb (hk' b o (by simpa using hb) e))
      rw [hd, List.any_cons, hb] at this
      exact this
theorem fz_isdisjoint {y : Str} {Q : Value → Shared → Prop} (hA : A.handled = none) (x : FzOf prog w s.heap a)
    (h : ∀ h' tk, (∀ b o, s.heap.get? b = some o → h'.get? b = some o) → Q (.bool (!y.cps.toList.any ill)) { s with heap := h', toks := tk }) :
    wpAny (model prog w) A (call (.builtin "frozenset.isdisjoint") [.ref a, .str y t]) Q E s := by
  refine wpAny_call (codeAny_call_builtin slot_fz_isdisjoint.plain entry_fz_isdisjoint (slot_fz_isdisjoint.check _ _ _ _ _ _ _ _ x.typeIs (args_fz_isdisjoint _ _) ?_))
  unfold Builtin.«frozenset.isdisjoint» Builtin.Frozenset.oneOther
  simp only [List.isEmpty_nil, bind_assoc]
  unfold Builtin.Frozenset.addrOf
  refine wpAny_bind (wpAny_pure ?_)
  try dsimp only
  refine wpAny_bind (wpAny_pure ?_)
  try dsimp only
  have e1 : (Value.str y t == Value.ref a) = false := by first | rfl | exact beq_false_of_ne (fun q => by cases q)
  rw [e1]
  simp only [Bool.false_eq_true, if_false]
  refine wpAny_bind (wpAny_typeOf (typeIs_str _ _ _) ?_)
  have e2 : (Value.type "str" == Value.type "set") = false := by decide
  have e3 : (Value.type "str" == Value.type "frozenset") = false := by decide
  rw [e2, e3]
  simp only [Bool.or_self, Bool.false_eq_true, if_false]
  refine wpAny_bind (wpAny_pyIter_str fun o St hW hst => ?_)
  have hlt : a ≠ s.heap.objs.size := fun q => by
    obtain ⟨o, _, _, _, ho, _⟩ := x
    exact absurd (Heap.lt_size ho) (by rw [q]; exact Nat.lt_irrefl _)
  refine wpAny_pure ⟨plainId_quiet plain_fz_isdisjoint_loop _, fz_loop (hW _ hA) hlt _ 0 _ rfl (Nat.zero_le _) hst (x.keeps fun b o e => Heap.get?_push_of_some _ e) fun h' tk hk => ?_⟩
  refine h h' tk fun b o e => hk b o (fun q => ?_) (Heap.get?_push_of_some _ e)
  exact absurd (Heap.lt_size e) (by rw [q]; exact Nat.lt_irrefl _)
end
end Mine
/-! Ex -/
namespace Mine
open PySem PySem.W PySem.Calls PySem.Spec PyProof.Rows
set_option Elab.async false
set_option maxRecDepth 100000
set_option maxHeartbeats 4000000
set_option linter.unusedVariables false

structure Free (h₀ : Heap) (L : Addr) (led : Led) (b : Addr) : Prop where
  fr : b ≠ L
  old : h₀.get? b = none
  led : ∀ p ∈ led, p.1 ≠ b
theorem Free.sub {h₀ : Heap} {L b : Addr} {led led' : Led} (x : Free h₀ L led b) (h : ∀ p ∈ led', p ∈ led) : Free h₀ L led' b := ⟨x.fr, x.old, fun p hp => x.led p (h p hp)⟩
theorem Pre.free {h h₀ : Heap} {L b : Addr} {led : Led} (P : Pre h h₀ L led) (hb : h.get? b = none) : Free h₀ L led b :=
  ⟨fun q => (by obtain ⟨o, ho⟩ := P.fr; rw [q, ho] at hb; cases hb), (by
    cases q : h₀.get? b with
    | none => rfl
    | some o => obtain ⟨o', h'⟩ := P.old _ _ q; rw [hb] at h'; cases h'), fun p hp q => (by obtain ⟨o, ho⟩ := P.led p hp; rw [q, hb] at ho; cases ho)⟩

/-- an exception in flight, its traceback begun -/
structure Fly (h₀ : Heap) (L : Addr) (led : Led) (h : Heap) (e : Addr) (cls a0 fl : Value) : Prop where
  ex : ∃ hb, Pre hb h₀ L led ∧ Tr hb h e cls a0 fl
/-- an exception just raised, no traceback yet -/
structure Bare (h₀ : Heap) (L : Addr) (led : Led) (h : Heap) (e : Addr) (cls a0 : Value) : Prop where
  free : Free h₀ L led e
  there : ∃ oe vs, h.get? e = some oe ∧ oe.cls = cls ∧ oe.data = .fields vs ∧ vs[0]? = some a0 ∧ vs[1]? = some .none
theorem Fly.free {h₀ h : Heap} {L e : Addr} {led : Led} {cls a0 fl : Value} (x : Fly h₀ L led h e cls a0 fl) : Free h₀ L led e := let ⟨_, P, T⟩ := x.ex; P.free T.1
theorem Pre.sub {h h₀ : Heap} {L : Addr} {led led' : Led} (P : Pre h h₀ L led) (k : ∀ p ∈ led', p ∈ led) : Pre h h₀ L led' := ⟨fun p hp => P.led p (k p hp), P.fr, P.old⟩
theorem Fly.sub {h₀ h : Heap} {L e : Addr} {led led' : Led} {cls a0 fl : Value} (x : Fly h₀ L led h e cls a0 fl) (k : ∀ p ∈ led', p ∈ led) : Fly h₀ L led' h e cls a0 fl :=
  let ⟨hb, P, T⟩ := x.ex; ⟨hb, P.sub k, T⟩
/-- seen from the caller's frame -/
theorem Fly.back {h₀ g h : Heap} {L L' e : Addr} {led led' : Led} {oL : Obj} {cls a0 fl : Value} (x : Fly g L' led' h e cls a0 fl) (hL : (L, oL) ∈ led') (k : ∀ p ∈ led, p ∈ led') (st : ∀ b o, h₀.get? b = some o → g.get? b = some o) : Fly h₀ L led h e cls a0 fl :=
  let ⟨hb, P, T⟩ := x.ex; ⟨hb, ⟨fun p hp => P.led p (k p hp), P.led _ hL, fun b o e => P.old b o (st b o e)⟩, T⟩

theorem hide_fr {h₀ h : Heap} {L : Addr} {m : Str → Option Value} {led : Led} {bs : List Addr} (F : Fr h₀ L h m) (hb : ∀ b ∈ bs, Free h₀ L led b) : Fr h₀ L (hideAll h bs) m := by
  obtain ⟨o, es, ep, ho, r⟩ := F.ns
  exact ⟨⟨o, es, ep, hideAll_get _ ho fun q => (hb _ q).fr rfl, r⟩, fun b o e => hideAll_get _ (F.keep b o e) fun q => (by rw [(hb _ q).old] at e; cases e), F.above⟩
theorem hide_news {h₀ h : Heap} {L : Addr} {led : Led} {bs : List Addr} (N : News h₀ L h led) (hb : ∀ b ∈ bs, Free h₀ L led b) : News h₀ L (hideAll h bs) led := fun p hp =>
  ⟨hideAll_get _ (N p hp).1 fun q => (hb _ q).led p hp rfl, (N p hp).2⟩

section
variable {prog : Program} {w : World} {A : Around} {E : Value → Shared → Prop} {s : Shared} {h₀ : Heap} {L e : Addr} {m : Str → Option Value} {led : Led} {outer : List Env} {env : Env} {cls a0 fl : Value} {Q : Unit → Shared → Prop}

theorem note_bare (hfr : A.frames = some (env :: outer)) (hf : env.frame = some L) (hke : env.scope.kind ≠ .module) (F : Fr h₀ L s.heap m) (N : News h₀ L s.heap led) (O : FrsIn outer led) (B : Bare h₀ L led s.heap e cls a0)
    (k : ∀ h' led', Turns led led' → Fr h₀ L h' m → News h₀ L h' led' → Fly h₀ L led' h' e cls a0 (rawInt L) → Q () { s with heap := h' }) : wpAny (model prog w) A (noteFrame (.ref e) env) Q E s := by
  obtain ⟨fe, oe, vs, he, rfl, hd, v0, v1⟩ := B
  have hb : ∀ b ∈ [e], Free h₀ L led b := fun b hb => by rw [List.mem_singleton.mp hb]; exact fe
  have F1 := hide_fr F hb
  have N1 := hide_news N hb
  refine note_first (h := hideAll s.heap [e]) hfr hf hke F1 N1 O (fun b o q => of_hideAll _ q) (hideAll_none _ (.head _)) he hd v1 v0 fun h' led' t F' N' T' up => ?_
  exact k h' led' t F' N' ⟨_, (Pre.of F1 N1).turns t, T'⟩
theorem note_next (hfr : A.frames = some (env :: outer)) (hf : env.frame = some L) (hke : env.scope.kind ≠ .module) (F : Fr h₀ L s.heap m) (N : News h₀ L s.heap led) (O : FrsIn outer led) (B : Fly h₀ L led s.heap e cls a0 .none)
    (k : ∀ h' led', Turns led led' → Fr h₀ L h' m → News h₀ L h' led' → Fly h₀ L led' h' e cls a0 (rawInt L) → Q () { s with heap := h' }) : wpAny (model prog w) A (noteFrame (.ref e) env) Q E s := by
  obtain ⟨hb, P, hn, oe, vs, T, oT, ts, he, hcls, hd, h1, hnT, hTe, hT, hdT, h3⟩ := B
  have hfree : ∀ b ∈ [e, T], Free h₀ L led b := fun b hb => by
    rcases List.mem_cons.mp hb with rfl | hb
    · exact P.free hn
    · rw [List.mem_singleton.mp hb]; exact P.free hnT
  have F1 := hide_fr F hfree
  have N1 := hide_news N hfree
  have hk : ∀ b o, (hideAll s.heap [e, T]).get? b = some o → s.heap.get? b = some o := fun b o q => of_hideAll _ q
  have he0 : (hideAll s.heap [e, T]).get? e = none := hideAll_none _ (.head _)
  have hT0 : (hideAll s.heap [e, T]).get? T = none := hideAll_none _ (.tail _ (.head _))
  have hgo : ∀ b, (hideAll s.heap [e, T]).get? b = none → (TI.gone (hideAll s.heap [e, T]) (L :: fas outer)).get? b = none := fun b hb => TI.none_of (fun b o eb => (TI.gone_some eb).2) hb
  refine wpAny_noteFrame_onW (base := TI.gone (hideAll s.heap [e, T]) (L :: fas outer)) hfr (funs F1 N1 O hk hf hke) hf ⟨oe, vs, T, oT, ts, he, hcls, hd, h1, hgo _ hT0, hTe, hT, hdT, h3⟩ (fun b o eb => hk b o (TI.gone_some eb).2) (hgo _ he0) fun h' hN => ?_
  obtain ⟨k1, _, k3, k4⟩ := hN
  obtain ⟨⟨led', t, F', N'⟩, hT'⟩ := after_note F1 N1 O hk k1 k4
  obtain ⟨oe', vs', T', oT', ts', g1, g2, g3, g4, g5, g6, g7, g8, g9⟩ := k3
  exact k h' led' t F' N' ⟨_, (Pre.of F1 N1).turns t, he0, oe', vs', T', oT', ts', g1, g2, g3, g4, hT' T' oT' ts' g5 g7 g8, g6, g7, g8, g9⟩
theorem fly_flight {fr : Option Addr} (F : Fr h₀ L s.heap m) (N : News h₀ L s.heap led) (B : Fly h₀ L led s.heap e cls a0 fl)
    (k : ∀ h', Fr h₀ L h' m → News h₀ L h' led → Fly h₀ L led h' e cls a0 (fr.elim .none fun f => rawInt f) → Q () { s with heap := h' }) : wpAny (model prog w) A (setFlight (.ref e) fr) Q E s := by
  obtain ⟨hb, P, T⟩ := B
  exact flight F N P T fun h' F' N' T' _ => k h' F' N' ⟨hb, P, T'⟩
theorem fly_again (hf : env.frame = some L) (B : Fly h₀ L led s.heap e cls a0 (rawInt L)) (k : Q () s) : wpAny (model prog w) A (noteFrame (.ref e) env) Q E s :=
  let ⟨_, _, T⟩ := B.ex; note_again hf T k
theorem fly_came_back {E' : Value → Shared → Prop} (hf : env.frame = some L) (F : Fr h₀ L s.heap m) (N : News h₀ L s.heap led) (B : Fly h₀ L led s.heap e cls a0 fl)
    (k : ∀ h', Fr h₀ L h' m → News h₀ L h' led → Fly h₀ L led h' e cls a0 (rawInt L) → E' (.ref e) { s with heap := h' }) : cameBackBy (model prog w) A env E' (.ref e) s := by
  obtain ⟨hb, P, T⟩ := B
  exact came_back hf F N P T fun h' F' N' T' => k h' F' N' ⟨hb, P, T'⟩

/-- leaving a frame, the exception bare -/
theorem leave_bare (hfr : A.frames = some (env :: outer)) (hf : env.frame = some L) (hke : env.scope.kind ≠ .module) (F : Fr h₀ L s.heap m) (N : News h₀ L s.heap led) (O : FrsIn outer led) (B : Bare h₀ L led s.heap e cls a0)
    (k : ∀ h' led', Turns led led' → Fr h₀ L h' m → News h₀ L h' led' → Fly h₀ L led' h' e cls a0 .none → Q () { s with heap := h' }) : wpAny (model prog w) A (leaving env (.ref e)) Q E s := by
  unfold leaving
  exact wpAny_bind (note_bare hfr hf hke F N O B fun h' led' t F' N' B' => fly_flight (s := { s with heap := h' }) (fr := none) F' N' B' fun h₂ F₂ N₂ B₂ => k h₂ led' t F₂ N₂ B₂)
theorem leave_next (hfr : A.frames = some (env :: outer)) (hf : env.frame = some L) (hke : env.scope.kind ≠ .module) (F : Fr h₀ L s.heap m) (N : News h₀ L s.heap led) (O : FrsIn outer led) (B : Fly h₀ L led s.heap e cls a0 .none)
    (k : ∀ h' led', Turns led led' → Fr h₀ L h' m → News h₀ L h' led' → Fly h₀ L led' h' e cls a0 .none → Q () { s with heap := h' }) : wpAny (model prog w) A (leaving env (.ref e)) Q E s := by
  unfold leaving
  exact wpAny_bind (note_next hfr hf hke F N O B fun h' led' t F' N' B' => fly_flight (s := { s with heap := h' }) (fr := none) F' N' B' fun h₂ F₂ N₂ B₂ => k h₂ led' t F₂ N₂ B₂)
theorem leave_again (hf : env.frame = some L) (F : Fr h₀ L s.heap m) (N : News h₀ L s.heap led) (B : Fly h₀ L led s.heap e cls a0 (rawInt L))
    (k : ∀ h', Fr h₀ L h' m → News h₀ L h' led → Fly h₀ L led h' e cls a0 .none → Q () { s with heap := h' }) : wpAny (model prog w) A (leaving env (.ref e)) Q E s := by
  unfold leaving
  exact wpAny_bind (fly_again hf B (fly_flight (fr := none) F N B k))
end

abbrev bm46 : List Value := [.type "ValueError", .type "Exception", .type "BaseException", .type "object"]
theorem cls46 (P : Params) : ∃ nm q N bs hdct sn sub ab col dd k0 k1 k2 k3 k5 newId, o46 P = excClassObj nm q 46 N bs bm46 hdct sn sub ab col dd k0 k1 k2 k3 k5 newId := ⟨_, _, _, _, _, _, _, _, _, _, _, _, _, _, _, _, rfl⟩
theorem entry_unchain : entryFor table "proto.unchain" = some Builtin.«proto.unchain» := entryFor_of_tree (by kernel_rfl)
theorem plain_unchain : plainId "proto.unchain" = true := by decide +kernel
section
variable {w : World} {A : Around} {E : Value → Shared → Prop} {s : Shared} {env : Env}
theorem wpAny_updateField {M : Model} {a : Addr} {o : Obj} {vs : Array Value} {i : Nat} {v : Value} {Q : Unit → Shared → Prop} (ho : s.heap.get? a = some o) (hd : o.data = .fields vs) (hi : i < vs.size)
    (h : Q () { s with heap := s.heap.update a (Obj.mapFields (·.setIfInBounds i v)) }) : wpAny M A (updateField a i v) Q E s := by
  unfold updateField
  refine wpAny_bind (wpAny_load ho ?_)
  rw [hd]
  dsimp only
  rw [if_pos hi]
  exact wpAny_update ho h
/-- raise of an exception object of the program's class, nothing handled -/
theorem raise_toml {x : Sem Value} {Q : Flow → Shared → Prop} (hh : A.handled = none)
    (h : wpAny (model prog w) A x (fun v s₁ => ∃ e tu, v = .ref e ∧ s₁.heap.get? 46 = some (o46 w.params) ∧ s₁.heap.get? e = some (excObj tu) ∧ E (.ref e) s₁) E s) : wpAny (model prog w) A (raiseStmt env (some x) none) Q E s := by
  obtain ⟨nm, q, N, bs, hdct, sn, sub, ab, col, dd, k0, k1, k2, k3, k5, newId, hc⟩ := cls46 w.params
  rw [hc] at h
  exact wpAny_raiseStmt_made_sub (by decide +kernel) hh h
abbrev excFrom (tu eh : Addr) : Obj := { cls := .ref 46, data := .fields #[.ref tu, .none, .ref eh, .none, .bool true, .none] }
theorem raise_from {x c : Sem Value} {eh : Addr} {Q : Flow → Shared → Prop} (hh : A.handled = some (.ref eh))
    (h : wpAny (model prog w) A x (fun v s₁ => ∃ e, v = .ref e ∧ wpAny (model prog w) A c (fun cv s₂ => cv = .none ∧ ∃ tu, s₂.heap.get? 46 = some (o46 w.params) ∧ s₂.heap.get? e = some (excObj tu) ∧ e ≠ eh ∧ (∃ oh vs, s₂.heap.get? eh = some oh ∧ oh.data = .fields vs ∧ vs[2]? = some .none) ∧
      ∀ h', (∀ b, b ≠ e → h'.get? b = s₂.heap.get? b) → h'.get? e = some (excFrom tu eh) → E (.ref e) { s₂ with heap := h' }) E s₁) E s) : wpAny (model prog w) A (raiseStmt env (some x) (some c)) Q E s := by
  obtain ⟨nm, q, N, bs, hdct, sn, sub, ab, col, dd, k0, k1, k2, k3, k5, newId, hc⟩ := cls46 w.params
  have hcB : (Value.ref 46 :: bm46).contains (.type "BaseException") = true := by decide +kernel
  unfold raiseStmt
  refine wpAny_bind (wpAny_mono h (fun v s₁ h₁ => ?_) fun _ _ x => x)
  obtain ⟨e, rfl, h₁⟩ := h₁
  refine wpAny_bind (wpAny_holding (wpAny_mono h₁ (fun cv s₂ h₂ => wpAny_bind (wpAny_pure ?_)) fun _ _ x => x))
  obtain ⟨rfl, tu, hC, he, hne, ⟨oh, vs, hoh, hvd, hv2⟩, hE⟩ := h₂
  rw [hc] at hC
  obtain ⟨hp, g, d, tk, os⟩ := s₂
  dsimp only
  have hn : (Value.none == Value.none) = true := rfl
  simp only [hn, if_true]
  repeat (first | with_reducible refine wpAny_loadPart_at he ?_ | with_reducible refine wpAny_loadPart_at hC ?_ | (with_reducible refine wpAny_isSubtype_exc hC ?_; rw [hcB]) | wp_step)
  have h46 : e ≠ 46 := fun q => by
    have he' := he
    rw [q, hC] at he'; cases he'
  have hC2 := (Heap.get?_update_other (hp.update e (Obj.mapFields fun x => x.setIfInBounds 3 Value.none)) (Obj.mapFields fun x => x.setIfInBounds 4 (Value.bool true)) h46).trans
    ((Heap.get?_update_other hp (Obj.mapFields fun x => x.setIfInBounds 3 Value.none) h46).trans hC)
  have he1 := Heap.get?_update_self (Obj.mapFields fun x => x.setIfInBounds 3 Value.none) he rfl
  have he2 := Heap.get?_update_self (Obj.mapFields fun x => x.setIfInBounds 4 (Value.bool true)) he1 rfl
  refine wpAny_loadPart_at hC2 ?_
  repeat (first | with_reducible refine wpAny_loadPart_at he2 ?_ | wp_step)
  unfold raiseNew
  refine wpAny_bind (wpAny_handled ?_)
  rw [hh]
  dsimp only
  rw [if_pos (show (Value.ref eh != Value.ref e) = true from by simp [Ne.symm hne])]
  have hoh2 := (Heap.get?_update_other (hp.update e (Obj.mapFields fun x => x.setIfInBounds 3 Value.none)) (Obj.mapFields fun x => x.setIfInBounds 4 (Value.bool true)) hne).trans
    ((Heap.get?_update_other hp (Obj.mapFields fun x => x.setIfInBounds 3 Value.none) hne).trans hoh)
  refine wpAny_bind (wpAny_holding (wpAny_runValue (codeAny_builtin entry_unchain ?_)))
  rw [Around.under_plainId plain_unchain _]
  unfold Builtin.«proto.unchain»
  refine wpAny_bind (wpAny_field hoh2 hvd hv2 ?_)
  simp only [hn, if_true]
  refine wpAny_pure ?_
  refine wpAny_bind (wpAny_updateField he2 rfl (show 2 < 6 from by decide) (wpAny_throw (hE _ (fun b hb => ?_) ?_)))
  · rw [Heap.get?_update_other _ _ (Ne.symm hb), Heap.get?_update_other _ _ (Ne.symm hb), Heap.get?_update_other _ _ (Ne.symm hb)]
  · exact Heap.get?_update_self (Obj.mapFields fun x => x.setIfInBounds 2 (Value.ref eh)) he2 rfl
/-- an exception object of the program's class, about to be raised -/
structure Rsd (w : World) (E : Value → Shared → Prop) (v : Value) (s : Shared) : Prop where
  ex : ∃ e tu, v = .ref e ∧ s.heap.get? 46 = some (o46 w.params) ∧ s.heap.get? e = some (excObj tu) ∧ E (.ref e) s
theorem Raise_own {x : Expr} {pos : Pos} {Q : Flow → Shared → Prop} (hh : A.handled = none) (h : wpAny (model prog w) A (eval x env) (Rsd w E) E s) : wpAny (model prog w) A (exec (.Raise (some x) none pos) env) Q E s := by
  rw [arm_exec_Raise]
  simp only [evalOpt, Option.map]
  exact wpAny_bind (wpAny_standAt (raise_toml hh (wpAny_bind (wpAny_mono h (fun v s₁ h₁ => wpAny_bind (wpAny_standAt (wpAny_pure h₁.ex))) fun _ _ x => x))))
structure RsdF (w : World) (eh : Addr) (E : Value → Shared → Prop) (e : Addr) (s : Shared) : Prop where
  ex : ∃ tu, s.heap.get? 46 = some (o46 w.params) ∧ s.heap.get? e = some (excObj tu) ∧ e ≠ eh ∧ (∃ oh vs, s.heap.get? eh = some oh ∧ oh.data = .fields vs ∧ vs[2]? = some .none) ∧
      ∀ h', (∀ b, b ≠ e → h'.get? b = s.heap.get? b) → h'.get? e = some (excFrom tu eh) → E (.ref e) { s with heap := h' }
structure RsdV (w : World) (eh : Addr) (E : Value → Shared → Prop) (v : Value) (s : Shared) : Prop where
  ex : ∃ e, v = .ref e ∧ RsdF w eh E e s
theorem Raise_none {x : Expr} {pos pc : Pos} {kc : Nat} {eh : Addr} {Q : Flow → Shared → Prop} (hh : A.handled = some (.ref eh)) (h : wpAny (model prog w) A (eval x env) (RsdV w eh E) E s) :
    wpAny (model prog w) A (exec (.Raise (some x) (some (.Constant .none kc pc)) pos) env) Q E s := by
  rw [arm_exec_Raise]
  simp only [evalOpt, Option.map]
  refine wpAny_bind (wpAny_standAt (raise_from hh (wpAny_bind (wpAny_mono h (fun v s₁ h₁ => wpAny_bind (wpAny_standAt (wpAny_pure ?_))) fun _ _ x => x))))
  obtain ⟨e, rfl, h₂⟩ := h₁
  obtain ⟨tu, h₃⟩ := h₂
  refine ⟨e, rfl, ?_⟩
  refine wpAny_bind (wpAny_pure (wpAny_bind (wpAny_standAt (wpAny_pure ⟨rfl, tu, h₃⟩))))
end

inductive Kd | bare | here | off
def Up (k : Kd) (h₀ : Heap) (L : Addr) (led : Led) (h : Heap) (e : Addr) (cls a0 : Value) : Prop := match k with
  | .bare => Bare h₀ L led h e cls a0
  | .here => Fly h₀ L led h e cls a0 (rawInt L)
  | .off => Fly h₀ L led h e cls a0 .none
/-- the program's exception on its way, seen from a frame -/
structure Thrown (k : Kd) (h₀ : Heap) (L : Addr) (led : Led) (txt : Str) (h' : Heap) (e : Addr) (new led' : Led) : Prop where
  news : News h₀ L h' (new ++ led')
  turns : TurnsB [79] led led'
  tab : TabOk 79 qCr (posOf stCr) (new ++ led')
  up : ∃ tu te, (tu, tupOne (.str txt te)) ∈ new ∧ Up k h₀ L (new ++ led') h' e (.ref 46) (.ref tu)
  apart : ∀ p ∈ new, ∀ q ∈ led', q.1 ≠ p.1
  fixed : ∀ p ∈ new, Fixed p.2
section
variable {prog : Program} {w : World} {A : Around} {E : Value → Shared → Prop} {s : Shared} {h₀ : Heap} {L e : Addr} {m : Str → Option Value} {led led' new : Led} {outer : List Env} {env : Env} {txt : Str} {k : Kd} {Q : Unit → Shared → Prop}
theorem Thrown.frs (x : Thrown k h₀ L led txt s.heap e new led') (O : FrsIn outer led) : FrsIn outer (new ++ led') := (O.turns x.turns).mono fun p hp => List.mem_append_right _ hp
theorem thrown_leaves (hfr : A.frames = some (env :: outer)) (hf : env.frame = some L) (hke : env.scope.kind ≠ .module) (F : Fr h₀ L s.heap m) (O : FrsIn outer led) (x : Thrown k h₀ L led txt s.heap e new led')
    (h : ∀ h' led'', Fr h₀ L h' m → Thrown .off h₀ L led txt h' e new led'' → Q () { s with heap := h' }) : wpAny (model prog w) A (leaving env (.ref e)) Q E s := by
  obtain ⟨tu, te, hm, hu⟩ := x.up
  have O' := x.frs O
  have fin : ∀ h' r, Turns (new ++ led') r → Fr h₀ L h' m → News h₀ L h' r → Fly h₀ L r h' e (.ref 46) (.ref tu) .none → Q () { s with heap := h' } := fun h' r t F' N' B => by
    obtain ⟨new', led'', rfl, t1, t2⟩ := t.split
    obtain rfl := t1.all x.fixed
    refine h h' led'' F' ⟨N', x.turns.trans (t2.up fun _ h => nomatch h), x.tab.turns t (by simp), ⟨tu, te, hm, B⟩, fun p hp q hq => ?_, x.fixed⟩
    obtain ⟨q', hq', e1, _⟩ := t2.back hq
    rw [e1]; exact x.apart p hp q' hq'
  cases k with
  | bare => exact leave_bare hfr hf hke F x.news O' hu fun h' r t F' N' B => fin h' r t F' N' B
  | here => exact leave_again hf F x.news hu fun h' F' N' B => fin h' _ (.refl _) F' N' B
  | off => exact leave_next hfr hf hke F x.news O' hu fun h' r t F' N' B => fin h' r t F' N' B
theorem thrown_back {g h' : Heap} {L' : Addr} {oL : Obj} {m' : Str → Option Value} {fs' : Led} (st : ∀ b o, h₀.get? b = some o → g.get? b = some o) (bk : Back h₀ L m led g ((L, oL) :: led)) (F : Fr g L' h' m') (x : Thrown .off g L' ((L, oL) :: led) txt h' e new fs') :
    ∃ led'', Fr h₀ L h' m ∧ Thrown .off h₀ L led txt h' e new led'' := by
  obtain ⟨oL', led'', rfl, hoL, t1, F2, N2⟩ := bk _ _ h' m' new fs' F x.news x.turns x.apart
  obtain ⟨tu, te, hm, hu⟩ := x.up
  refine ⟨led'', F2, N2, t1, x.tab.drop hoL, ⟨tu, te, hm, Fly.back (L := L) (oL := oL') hu (List.mem_append_right _ (.head _)) (fun p hp => ?_) st⟩, fun p hp q hq => x.apart p hp q (.tail _ hq), x.fixed⟩
  rcases List.mem_append.mp hp with hp | hp
  · exact List.mem_append_left _ hp
  · exact List.mem_append_right _ (.tail _ hp)
/-- the exception object that suffixed_err gave, raised here -/
theorem thrown_made {h' : Heap} {tu : Addr} {te : Tok} (N : News h₀ L h' ((e, excObj tu) :: (tu, tupOne (.str txt te)) :: (new ++ led'))) (t : TurnsB [79] led led') (hT : TabOk 79 qCr (posOf stCr) (new ++ led'))
    (ap : ∀ p ∈ (e, excObj tu) :: (tu, tupOne (.str txt te)) :: new, ∀ q ∈ led', q.1 ≠ p.1) (fx : ∀ p ∈ new, Fixed p.2) (ne : ∀ p ∈ new, p.1 ≠ e ∧ p.1 ≠ tu) :
    Thrown .bare h₀ L led txt h' e ((tu, tupOne (.str txt te)) :: new) led' := by
  have het : tu ≠ e := fun q => by
    have h1 := (N _ (.head _)).1
    have h2 := (N _ (.tail _ (.head _))).1
    simp only [q] at h1 h2
    rw [h1] at h2; cases h2
  refine ⟨fun p hp => N p (.tail _ hp), t, hT.mono fun p hp => .tail _ hp, ⟨tu, te, .head _, ⟨⟨(N _ (.head _)).2.1, (N _ (.head _)).2.2, fun p hp => ?_⟩, _, _, (N _ (.head _)).1, rfl, rfl, rfl, rfl⟩⟩, fun p hp q hq => ap p (.tail _ hp) q hq, fun p hp => ?_⟩
  · rcases List.mem_cons.mp hp with rfl | hp
    · exact het
    · rcases List.mem_append.mp hp with hp | hp
      · exact (ne p hp).1
      · exact ap _ (.head _) p hp
  · rcases List.mem_cons.mp hp with rfl | hp
    · exact fixed_seq
    · exact fx p hp
end
end Mine
/-! Ex2 -/
namespace Mine
open PySem PySem.W PySem.Calls PySem.Spec PyProof.Rows
set_option Elab.async false
set_option maxRecDepth 100000
set_option maxHeartbeats 4000000
set_option linter.unusedVariables false

section
variable {prog : Program} {w : World} {A : Around} {E : Value → Shared → Prop} {s : Shared} {h₀ h : Heap} {L e : Addr} {m : Str → Option Value} {led : Led} {outer : List Env} {env : Env} {cls a0 fl : Value}
/-- the object itself, beside what is said of its traceback -/
def At2 (h : Heap) (e : Addr) (cls : Value) : Prop := ∃ oe vs, h.get? e = some oe ∧ oe.cls = cls ∧ oe.data = .fields vs ∧ vs[2]? = some .none
theorem note_raw {oe : Obj} {vs : Array Value} {a0 : Value} {Q : Unit → Shared → Prop} (hfr : A.frames = some (env :: outer)) (hf : env.frame = some L) (hke : env.scope.kind ≠ .module) (F : Fr h₀ L h m) (N : News h₀ L h led) (O : FrsIn outer led)
    (hk : ∀ b o, h.get? b = some o → s.heap.get? b = some o) (hn : h.get? e = none) (he : s.heap.get? e = some oe) (hd : oe.data = .fields vs) (h1 : vs[1]? = some .none) (h0 : vs[0]? = some a0) (h2 : vs[2]? = some .none)
    (k : ∀ h' led', Turns led led' → Fr h₀ L h' m → News h₀ L h' led' → Tr h h' e oe.cls a0 (rawInt L) → At2 h' e oe.cls → Q () { s with heap := h' }) : wpAny (model prog w) A (noteFrame (.ref e) env) Q E s := by
  have hl := funs F N O hk hf hke
  have hsz := (Array.getElem?_eq_some_iff.mp h1).1
  have hene : e ∉ (env :: outer).filterMap (·.frame) := fun hm => by
    obtain ⟨_, o, ho, hnf⟩ := hl.mem hm
    rw [he] at ho; injection ho with ho; subst ho; exact hnf vs hd
  have hen : (TI.gone h (L :: fas outer)).get? e = none := TI.none_of (fun b o eb => (TI.gone_some eb).2) hn
  unfold noteFrame
  simp only [hf]
  refine wpAny_bind (wpAny_field he hd h1 ?_)
  rw [if_neg (by decide)]
  refine wpAny_bind (wpAny_frameOf_fun hfr hl hf fun h₁ hs₁ => ?_)
  refine wpAny_bind (wpAny_entryPlaceOf fun pl hpl => ?_)
  unfold EntryCells.newEntry newFields
  refine wpAny_bind (wpAny_newObj_type ?_ (hpl.sizeOk5 _ _ _ _ _))
  generalize hts : ([(Value.none : Value), .ref L, .none, rawInt L, .none] ++ (if pl.isEmpty then List.replicate 6 Value.none else pl)).toArray = ts
  have ht3 : ts[3]? = some (rawInt L) := by rw [← hts]; simp
  have he₁ : h₁.get? e = some oe := (hs₁.2.1 e hene).trans he
  have hTe : h₁.objs.size ≠ e := Nat.ne_of_gt (Heap.lt_size he₁)
  have he₂ := Heap.get?_push_of_some (h := h₁) { cls := .type "traceback", dict := none, data := .fields ts } he₁
  refine wpAny_setField he₂ hd hsz ?_
  have hd₃ := Obj.data_mapFields hd (·.setIfInBounds 1 (Value.ref h₁.objs.size))
  have he₃ := Heap.get?_update_self (Obj.mapFields (·.setIfInBounds 1 (Value.ref h₁.objs.size))) he₂ (Obj.isFreed_of_fields hd₃)
  have hT₃ := (Heap.get?_update_other (h₁.push { cls := .type "traceback", dict := none, data := .fields ts }) (Obj.mapFields (·.setIfInBounds 1 (Value.ref h₁.objs.size))) (Ne.symm hTe)).trans (Heap.get?_push_size h₁ rfl)
  have keep : ∀ b o, b ≠ e → h₁.get? b = some o → ((h₁.push { cls := .type "traceback", dict := none, data := .fields ts }).update e (Obj.mapFields (·.setIfInBounds 1 (Value.ref h₁.objs.size)))).get? b = some o := fun b o hbe hb => by
    rw [Heap.get?_update_other _ _ (Ne.symm hbe)]; exact Heap.get?_push_of_some _ hb
  have hgb : ∀ b o, (TI.gone h (L :: fas outer)).get? b = some o → h₁.get? b = some o := fun b o hbo => (hs₁.2.1 b fun hm => by rw [(hl.mem hm).1] at hbo; cases hbo).trans (hk b o (TI.gone_some hbo).2)
  obtain ⟨⟨led', t, F', N'⟩, hT'⟩ := after_note F N O hk (fun b o hbo => keep b o (fun q => by rw [q, hen] at hbo; cases hbo) (hgb b o hbo)) (fun b o hb hnf => by
    obtain ⟨sl, hs⟩ := hs₁.2.2 b o hb
    exact ⟨sl, keep b _ (fun q => by rw [q, he] at hb; injection hb with hb; subst hb; exact hnf vs hd) hs⟩)
  have hfresh : (TI.gone h (L :: fas outer)).get? h₁.objs.size = none := by
    cases q : (TI.gone h (L :: fas outer)).get? h₁.objs.size with
    | none => rfl
    | some o => exact absurd (Heap.lt_size (hgb _ o q)) (Nat.lt_irrefl _)
  refine k _ led' t F' N' ⟨hn, _, _, h₁.objs.size, _, _, he₃, ⟨Obj.cls_mapFields _ _, by rw [Array.getElem?_setIfInBounds_ne (by decide)]; exact h0⟩, hd₃, by simp [hsz], hT' _ _ _ hfresh hT₃ rfl, hTe, hT₃, rfl, ht3⟩ ⟨_, _, he₃, Obj.cls_mapFields _ _, hd₃, by rw [Array.getElem?_setIfInBounds_ne (by decide)]; exact h2⟩
theorem flight2 {fr : Option Addr} {Q : Unit → Shared → Prop} (F : Fr h₀ L s.heap m) (N : News h₀ L s.heap led) (P : Pre h h₀ L led) (T : Tr h s.heap e cls a0 fl) (A2 : At2 s.heap e cls)
    (k : ∀ h', Fr h₀ L h' m → News h₀ L h' led → Tr h h' e cls a0 (fr.elim .none fun f => rawInt f) → At2 h' e cls → Q () { s with heap := h' }) : wpAny (model prog w) A (setFlight (.ref e) fr) Q E s := by
  obtain ⟨hn, oe, vs, T, oT, ts, he, hcls, hd, h1, hnT, hTe, hT, hdT, h3⟩ := T
  have hsz3 : 3 < ts.size := (Array.getElem?_eq_some_iff.mp h3).1
  have other : ∀ b, b ≠ T → (s.heap.update T (Obj.mapFields (·.setIfInBounds 3 (fr.elim Value.none fun f => rawInt f)))).get? b = s.heap.get? b := fun b hb => Heap.get?_update_other _ _ (Ne.symm hb)
  have neT : ∀ b, (∃ o, h.get? b = some o) → b ≠ T := fun b ⟨o, ho⟩ q => by rw [q, hnT] at ho; cases ho
  unfold setFlight
  refine wpAny_bind (wpAny_field he hd h1 ?_)
  rw [if_pos (show (Value.ref T != Value.none) = true from by simp)]
  refine wpAny_setField hT hdT hsz3 (k _ ⟨?_, fun b o eb => (other b (neT b (P.old b o eb))).trans (F.keep b o eb), F.above⟩ (fun p hp => ⟨(other _ (neT _ (P.led p hp))).trans (N p hp).1, (N p hp).2⟩) ?_ ?_)
  · obtain ⟨o, es, ep, ho, r⟩ := F.ns
    exact ⟨o, es, ep, (other L (neT L P.fr)).trans ho, r⟩
  · exact ⟨hn, oe, vs, T, _, _, (other e (Ne.symm hTe)).trans he, hcls, hd, h1, hnT, hTe, Heap.get?_update_self _ hT (Obj.isFreed_of_fields (Obj.data_mapFields hdT _)), Obj.data_mapFields hdT _, by simp [hsz3]⟩
  · obtain ⟨oe', vs', g1, g2, g3, g4⟩ := A2
    exact ⟨oe', vs', (other e (Ne.symm hTe)).trans g1, g2, g3, g4⟩
theorem tried2 {hx : Heap} {tk : Nat} {X : String} {hs : ExceptHandler} {hss : List ExceptHandler} {Q : Flow → Shared → Prop} (hfr : A.frames = some (env :: outer)) (hf : env.frame = some L) (hke : env.scope.kind ≠ .module)
    (F : Fr h₀ L s.heap m) (N : News h₀ L s.heap led) (O : FrsIn outer led) (hn : Heap.NewExc s.heap hx e X)
    (k : ∀ h' led' a0, Turns led led' → Fr h₀ L h' m → News h₀ L h' led' → Tr s.heap h' e (.type X) a0 .none → At2 h' e (.type X) → Pre s.heap h₀ L led' → wpAny (model prog w) A (handleBy (.ref e) env (hs :: hss)) Q E { s with heap := h', toks := tk }) :
    wpAny (model prog w) A (noteFrame (.ref e) env) (fun _ s₂ => wpAny (model prog w) A (setFlight (.ref e) none) (fun _ s₃ => wpAny (model prog w) A (handleBy (.ref e) env (hs :: hss)) Q E s₃) E s₂) E { s with heap := hx, toks := tk } := by
  obtain ⟨ob, tp, he, hcls, hd⟩ := hn.there
  refine note_raw (s := { s with heap := hx, toks := tk }) hfr hf hke F N O hn.keeps hn.new he hd rfl rfl rfl fun h' led' t F' N' T' A' => ?_
  rw [hcls] at T' A'
  have P' := (Pre.of F N).turns t
  exact flight2 (fr := none) (s := { s with heap := h', toks := tk }) F' N' P' T' A' fun h₃ F₃ N₃ T₃ A₃ => k h₃ led' tp t F₃ N₃ T₃ A₃ P'
/-- the handler's suite, the exception in the ledger -/
theorem handle_hit2 {X C : String} {t : Expr} {b₀ : Stmt} {suite : List Stmt} {pos : Pos} {rest : List ExceptHandler} {Q : Flow → Shared → Prop}
    (hexc : isSubtype (.type C) (.type "BaseException") = pure true) (hnt : isSubtype (.type ((Manifest.find? C).elim "type" fun x => x.metatype)) (.type "tuple") = pure false) (hsub : isSubtype (.type X) (.type C) = pure true)
    (F : Fr h₀ L s.heap m) (N : News h₀ L s.heap led) (P : Pre h h₀ L led) (T : Tr h s.heap e (.type X) a0 .none) (A2 : At2 s.heap e (.type X))
    (hname : ∀ (Q' : Value → Shared → Prop) (E' : Value → Shared → Prop), Q' (.type C) s → wpAny (model prog w) (A.mark (some (.ref e))) (eval t env) Q' E' s)
    (k : ∀ h' d vs sl, Fr h₀ L h' m → News h₀ L h' ((e, ⟨.type X, d, .fields vs, sl⟩) :: led) → vs[2]? = some .none → (∀ p ∈ led, p.1 ≠ e) → wpAny (model prog w) (A.mark (some (.ref e))) (execs (b₀ :: suite) env) Q (notedBy (model prog w) (A.mark (some (.ref e))) env (cameBackBy (model prog w) A env E)) { s with heap := h' }) :
    wpAny (model prog w) A (handleBy (.ref e) env (.ExceptHandler (some t) none (b₀ :: suite) pos :: rest)) Q E s := by
  refine wpAny_handleBy_builtin (X := X) (T := C) (b := true) hexc hnt hsub (hname _ _ ⟨rfl, ?_, ?_⟩)
  · obtain ⟨_, oe, vs, T, oT, ts, he, hcls, _⟩ := T
    exact ⟨oe, he, hcls.1⟩
  · rw [if_pos rfl]
    have fe := P.free T.1
    refine flight2 (fr := none) F N P T A2 fun h₃ F₃ N₃ T₃ A₃ => ?_
    obtain ⟨⟨c, d, dt, sl⟩, vs, g1, g2, g3, g4⟩ := A₃
    have g2 : c = .type X := g2
    have g3 : dt = .fields vs := g3
    subst g2 g3
    refine k h₃ d vs sl F₃ (fun p hp => ?_) g4 fe.led
    rcases List.mem_cons.mp hp with rfl | hp
    · exact ⟨g1, fe.fr, fe.old⟩
    · exact N₃ p hp
theorem thrown_noted {A' : Around} {E' : Value → Shared → Prop} {led' new : Led} {txt : Str} (hfr : A.frames = some (env :: outer)) (hf : env.frame = some L) (hke : env.scope.kind ≠ .module) (F : Fr h₀ L s.heap m) (O : FrsIn outer led) (x : Thrown .bare h₀ L led txt s.heap e new led')
    (h : ∀ h' led'', Fr h₀ L h' m → Thrown .here h₀ L led txt h' e new led'' → E' (.ref e) { s with heap := h' }) : notedBy (model prog w) A env (cameBackBy (model prog w) A' env E') (.ref e) s := by
  obtain ⟨tu, te, hm, hu⟩ := x.up
  unfold notedBy
  refine note_bare hfr hf hke F x.news (x.frs O) hu fun h' r t F' N' B => ?_
  obtain ⟨new', led'', rfl, t1, t2⟩ := t.split
  obtain rfl := t1.all x.fixed
  refine fly_came_back (s := { s with heap := h' }) hf F' N' B fun h₂ F₂ N₂ B₂ => ?_
  refine h h₂ led'' F₂ ⟨N₂, x.turns.trans (t2.up fun _ h => nomatch h), x.tab.turns t (by simp), ⟨tu, te, hm, B₂⟩, fun p hp q hq => ?_, x.fixed⟩
  obtain ⟨q', hq', e1, _⟩ := t2.back hq
  rw [e1]; exact x.apart p hp q' hq'
end
end Mine
/-! Un -/
namespace Mine
open PySem PySem.W PySem.Calls PySem.Spec PyProof.Rows
set_option Elab.async false
set_option maxRecDepth 100000
set_option maxHeartbeats 4000000
set_option linter.unusedVariables false
theorem fillUn : (PySem.Challenge.rw_mr0151_01, KK) = (PySem.Challenge.rw_mr0151_01, KK) := by k_fill; rfl
theorem news_keeps {h₀ h h' : Heap} {L : Addr} {led : Led} (N : News h₀ L h led) (k : ∀ b o, h.get? b = some o → h'.get? b = some o) : News h₀ L h' led := fun q hq => ⟨k _ _ (N q hq).1, (N q hq).2⟩
theorem slice_is {x : Str} {i j : Int} (h0 : 0 ≤ i) (h1 : i ≤ j) (h2 : j ≤ x.length) : (Txt.slice x (some i) (some j)).cps.toList = (x.cps.toList.drop i.toNat).take (j - i).toNat := by
  rw [eq_of_beq (slice_closesL h0 h1 h2)]
theorem fz_notIn_y {w : World} {A : Around} {E : Value → Shared → Prop} {s : Shared} {a : Addr} {n : Nat} {t : Tok} {y : Str} {Q : Value → Shared → Prop} (hy : y = ⟨#[n]⟩) (x : FzOf prog w s.heap a) (h : Q (.bool (!ill n)) { s with toks := s.toks + 1 }) : wpAny (model prog w) A (compareOp .NotIn (.str y t) (.ref a)) Q E s := by
  subst hy; exact fz_notIn x h

abbrev env63 (L : Addr) : Env := envOf (Str.ofString "skip_until") (scopeOf (stAt 7)) L 63 (.ref 62)
abbrev loc63 (x y : Str) (i : Int) (b : Bool) (t t2 t3 : Tok) : Str → Option Value := fun z => [(Str.ofString "error_on_eof", Value.bool b), (Str.ofString "error_on", Value.ref 36), (Str.ofString "expect", Value.str y t3), (Str.ofString "pos", Value.int i t2), (Str.ofString "src", Value.str x t)].lookup z
abbrev mid63 (x y : Str) (i : Int) (b : Bool) (k : Nat) (t t2 t3 t4 : Tok) : Str → Option Value := fun z => if z = Str.ofString "new_pos" then some (Value.int k t4) else loc63 x y i b t t2 t3 z
/-- the loop's state -/
structure In63 (h₀ : Heap) (L : Addr) (fs : Led) (s : Shared) (x y : Str) (i : Int) (b : Bool) (k p : Nat) (t t2 t3 t4 : Tok) (n : Nat) (s' : Shared) : Prop where
  st : ∃ j tj h' tk, s' = { s with heap := h', toks := tk } ∧ Fr h₀ L h' (fun z => if z = Str.ofString "pos" then some (Value.int j tj) else mid63 x y i b k t t2 t3 t4 z) ∧ News h₀ L h' fs ∧
    i ≤ j ∧ j ≤ p ∧ (n : Int) = p - j
theorem fr_in63 {h₀ h : Heap} {L : Addr} {x y : Str} {i : Int} {b : Bool} {k : Nat} {t t2 t3 t4 : Tok} (F : Fr h₀ L h (mid63 x y i b k t t2 t3 t4)) : Fr h₀ L h (fun z => if z = Str.ofString "pos" then some (Value.int i t2) else mid63 x y i b k t t2 t3 t4 z) := by
  have e : (fun z => if z = Str.ofString "pos" then some (Value.int i t2) else mid63 x y i b k t t2 t3 t4 z) = mid63 x y i b k t t2 t3 t4 := by
    funext z
    by_cases hz : z = Str.ofString "pos"
    · subst hz; rw [if_pos rfl]; rfl
    · rw [if_neg hz]
  rw [e]; exact F
theorem first_bad {l : List Nat} {i k : Nat} (h : ((l.drop i).take (k - i)).any ill = true) : ∃ p c, i ≤ p ∧ p < k ∧ l[p]? = some c ∧ ill c = true ∧ ∀ q, i ≤ q → q < p → ∀ c, l[q]? = some c → ill c = false := by
  have hat : ∀ j, j < k - i → ((l.drop i).take (k - i))[j]? = l[i + j]? := fun j hj => by
    rw [List.getElem?_take_of_lt hj, List.getElem?_drop]
  have hlt : ((l.drop i).take (k - i)).findIdx ill < ((l.drop i).take (k - i)).length := List.findIdx_lt_length_of_exists (by simpa [List.any_eq_true] using h)
  have hle : ((l.drop i).take (k - i)).length ≤ k - i := by rw [List.length_take]; omega
  generalize hj : ((l.drop i).take (k - i)).findIdx ill = j at hlt
  refine ⟨i + j, ((l.drop i).take (k - i))[j], by omega, by omega, ?_, ?_, fun q hq1 hq2 c hc => ?_⟩
  · rw [← hat j (by omega)]; exact List.getElem?_eq_getElem hlt
  · subst hj; exact List.findIdx_getElem
  · have hq : q - i < ((l.drop i).take (k - i)).findIdx ill := by omega
    have h1 := List.not_of_lt_findIdx hq
    have h2 := hat (q - i) (by omega)
    rw [show i + (q - i) = q by omega, hc, List.getElem?_eq_getElem (by omega)] at h2
    rw [Option.some.inj h2] at h1
    simpa using h1
theorem repr_len {x : Str} {j : Int} {a : Nat} (h : Txt.item x j = ⟨#[a]⟩) (ha : a < 128) : (reprText (Txt.item x j)).length ≤ 12 := by
  rw [h]
  exact Nat.le_trans (StrLaws.reprText_len ⟨#[a]⟩ fun c hc => by
    have : c = a := by simpa using hc
    omega) (Nat.le_refl _)
theorem ill_lt {a : Nat} (h : ill a = true) : a < 128 := by
  simp only [ill, Bool.or_eq_true, Bool.and_eq_true, decide_eq_true_eq] at h
  omega
def foundMsg (a : Nat) : Str := Str.empty ++ Str.ofString "Found invalid character " ++ reprText ⟨#[a]⟩
local macro_rules | `(tactic| walk_at "exec Raise some none") => `(tactic| (refine Raise_own ?_ ?_; · rfl))
theorem until_tail {w : World} {s : Shared} {dp un : Nat} {gd : Option (List Code)} {outer : List Env} {E : Value → Shared → Prop} {h₀ : Heap} {L : Addr} {mg mb : Str → Option Value} {mean : ExcName → Option Value} {loose : List Str} {fs : Led} {Q : Flow → Shared → Prop}
   {x y : Str} {k : Nat} {i : Int} {b : Bool} {t t2 t3 t4 : Tok} (hi : 0 ≤ i) (hx : x.length ≤ 1048576) (hi2 : i ≤ k) (hk : k ≤ x.length) (hdp : dp + 1 < recursionLimit)
   (F : Fr h₀ L s.heap (mid63 x y i b k t t2 t3 t4)) (G : Gd w loose mean mg mb h₀) (Z : FzOf prog w h₀ 36) (N : News h₀ L s.heap fs) (O : FrsIn outer fs) (hT : TabOk 79 qCr (posOf stCr) fs)
   (ret : ((x.cps.toList.drop i.toNat).take (k - i.toNat)).any ill = false → ∀ h' tk tj m', Fr h₀ L h' m' → News h₀ L h' fs → Q (.ret (.int k tj)) { s with heap := h', toks := tk })
   (thr : ∀ p c, i.toNat ≤ p → p < k → x.cps.toList[p]? = some c → ill c = true → (∀ q, i.toNat ≤ q → q < p → ∀ c, x.cps.toList[q]? = some c → ill c = false) →
     ∀ h' tk m' e new fs', Fr h₀ L h' m' → Thrown .bare h₀ L fs (errText x (foundMsg c) p) h' e new fs' → E (.ref e) { s with heap := h', toks := tk })
   : wpAny (model prog w) ⟨none, dp, some (env63 L :: outer), gd, un⟩ (execs ((bodyOf (stAt 7)).drop 1) (env63 L)) Q E s := by
  w_on
  obtain ⟨X, T⟩ := G
  delta env63
  conv in (List.drop 1 (bodyOf _)) => whnf
  k_steps
  refine fz_meth (Z.keeps F.keep) ?_
  k_steps
  rename Fr _ _ _ _ => F0
  rename News _ _ _ _ => N0
  refine fz_isdisjoint rfl (Z.keeps F0.keep) fun h1 tk1 hk1 => ?_
  have F1 := F0.keeps hk1
  have N1 := news_keeps N0 hk1
  clear F0 N0
  rw [slice_is hi hi2 (by omega), show ((k : Int) - i).toNat = k - i.toNat by omega]
  cases hb : ((x.cps.toList.drop i.toNat).take (k - i.toNat)).any ill with
  | false =>
    k_steps
    rename Fr _ _ _ _ => F2
    rename News _ _ _ _ => N2
    exact ret hb _ _ _ _ F2 N2
  | true =>
    obtain ⟨p, c, hp1, hp2, hp3, hp4, hp5⟩ : ∃ p c, i.toNat ≤ p ∧ p < k ∧ x.cps.toList[p]? = some c ∧ ill c = true ∧ (∀ q, i.toNat ≤ q → q < p → ∀ c, x.cps.toList[q]? = some c → ill c = false) := first_bad hb
    refine wpAny_truthy_bool ?_
    rw [if_pos (by rfl)]
    refine wpAny_execs_cons (wpAny_While (while_ (In63 h₀ L fs { s with heap := h1, toks := tk1 } x y i b k p t t2 t3 t4) ?_ (p - i.toNat) ⟨i, t2, _, _, rfl, fr_in63 F1, N1, by omega, by omega, by omega⟩))
    rintro n s' ⟨j, tj, h', tk, rfl, F', N', hj1, hj2, hn⟩
    clear F1 N1
    obtain ⟨a, ha, hit⟩ := item_eq (x := x) (j := j) (by omega) (by omega)
    k_steps
    refine fz_notIn_y hit (Z.keeps F'.keep) ?_
    cases hca : ill a with
    | false =>
      k_steps
      rename Fr _ _ _ _ => F2
      rename News _ _ _ _ => N2
      have hjp : j ≠ p := fun q => by
        have : j.toNat = p := by omega
        rw [this, hp3] at ha
        have := Option.some.inj ha
        rw [← this, hp4] at hca; cases hca
      exact ⟨p - (j + 1).toNat, by omega, ⟨j + 1, _, _, _, rfl, fr_over F2, N2, by omega, by omega, by omega⟩⟩
    | true =>
      have hjp : j = p := by
        by_cases hlt : j < p
        · have := hp5 j.toNat (by omega) (by omega) a ha
          rw [hca] at this; cases this
        · omega
      subst hjp
      have hrl := repr_len hit (ill_lt hca)
      k_steps
      have e1 : Str.empty ++ Str.ofString "Found invalid character " ++ reprText (Txt.item x p) = foundMsg a := by rw [hit]; rfl
      have e2 : (foundMsg a).length ≤ 1048576 := by
        rw [← e1]
        simp only [PySem.Str.length_append, PySem.ofString_length]
        have e1 : Str.empty.length = 0 := rfl
        have e3 : ("Found invalid character " : String).length = 24 := by decide
        omega
      rw [e1]
      refine suf_call rfl isFn F' ⟨X, T⟩ N' O hT hdp (by omega) hx (by omega) e2 fun e tu te h2 tk2 new led2 F2 N2 tt hT2 ap fx ne => ?_
      clear F' N'
      k_steps
      exact ⟨e, tu, rfl, F2.keep _ _ (X 46 _ rfl), (N2 _ (.head _)).1, thr p a hp1 hp2 (by simpa using ha) hca hp5 _ _ _ _ _ _ F2 (thrown_made N2 tt hT2 ap fx ne)⟩

theorem thrown_from {h₀ h h' : Heap} {L e tu eh : Addr} {m : Str → Option Value} {txt : Str} {te : Tok} {led led' new : Led} (F : Fr h₀ L h m) (N : News h₀ L h ((e, excObj tu) :: (tu, tupOne (.str txt te)) :: (new ++ led'))) (t : TurnsB [79] led led') (hT : TabOk 79 qCr (posOf stCr) (new ++ led'))
    (ap : ∀ p ∈ (e, excObj tu) :: (tu, tupOne (.str txt te)) :: new, ∀ q ∈ led', q.1 ≠ p.1) (fx : ∀ p ∈ new, Fixed p.2) (ne : ∀ p ∈ new, p.1 ≠ e ∧ p.1 ≠ tu)
    (ho : ∀ b, b ≠ e → h'.get? b = h.get? b) (he : h'.get? e = some (excFrom tu eh)) :
    Fr h₀ L h' m ∧ Thrown .bare h₀ L led txt h' e ((tu, tupOne (.str txt te)) :: new) led' := by
  obtain ⟨h1, h2, h3, ⟨tu', te', hm, ⟨fe, oe, vs, x1, x2, x3, x4, x5⟩⟩, h5, h6⟩ := thrown_made N t hT ap fx ne
  have hN0 := N _ (.head _)
  have hex : tu' = tu := by
    have x1' := x1.symm.trans hN0.1
    cases x1'
    cases x3
    cases x4
    rfl
  subst hex
  refine ⟨⟨?_, fun b o eb => (ho b fun q => by rw [q, hN0.2.2] at eb; cases eb).trans (F.keep b o eb), F.above⟩, fun p hp => ⟨(ho _ (fe.led p hp)).trans (h1 p hp).1, (h1 p hp).2⟩, h2, h3, ⟨tu', te', hm, fe, _, _, he, rfl, rfl, rfl, rfl⟩, h5, h6⟩
  obtain ⟨o, es, ep, hns, r⟩ := F.ns
  exact ⟨o, es, ep, (ho L fun q => hN0.2.1 q.symm).trans hns, r⟩

def untilTry : Stmt := ((bodyOf (stAt 7))[0]?).getD (.Pass default)
/-- where the sign sought is, or the end -/
def nextTo (l : List Nat) (i : Nat) (c : Nat) (k : Nat) : Prop := i ≤ k ∧ (l[k]? = some c ∨ (k = l.length ∧ ∀ j, i ≤ j → l[j]? ≠ some c)) ∧ ∀ j, i ≤ j → j < k → l[j]? ≠ some c
structure Mid63 (h₀ : Heap) (L : Addr) (fs : Led) (s : Shared) (x : Str) (c : Nat) (i : Int) (b : Bool) (t t2 t3 : Tok) (f : Flow) (s' : Shared) : Prop where
  st : f = .next ∧ ∃ k t4 h' tk fs', s' = { s with heap := h', toks := tk } ∧ Fr h₀ L h' (mid63 x ⟨#[c]⟩ i b k t t2 t3 t4) ∧ News h₀ L h' fs' ∧ Turns fs fs' ∧ nextTo x.cps.toList i.toNat c k ∧ k ≤ x.length ∧ (b = true → x.cps.toList[k]? = some c)
def expMsg (c : Nat) : Str := Str.empty ++ Str.ofString "Expected " ++ reprText ⟨#[c]⟩
local macro_rules | `(tactic| walk_at "exec Raise some some") => `(tactic| (refine Raise_none ?_ ?_; · rfl))
theorem until_try {w : World} {s : Shared} {dp un : Nat} {gd : Option (List Code)} {outer : List Env} {E : Value → Shared → Prop} {h₀ : Heap} {L : Addr} {mg mb : Str → Option Value} {mean : ExcName → Option Value} {loose : List Str} {fs : Led}
   {x : Str} {c : Nat} {i : Int} {b : Bool} {t t2 t3 : Tok} (hi : 0 ≤ i) (hx : x.length ≤ 1048576) (hi2 : i ≤ x.length) (hdp : dp + 1 < recursionLimit) (hc : c < 128)
   (F : Fr h₀ L s.heap (loc63 x ⟨#[c]⟩ i b t t2 t3)) (G : Gd w loose mean mg mb h₀) (N : News h₀ L s.heap fs) (O : FrsIn outer fs) (hT : TabOk 79 qCr (posOf stCr) fs)
   (thr : b = true → (∀ j, i.toNat ≤ j → x.cps.toList[j]? ≠ some c) → ∀ h' tk m' e new fs', Fr h₀ L h' m' → Thrown .here h₀ L fs (errText x (expMsg c) x.length) h' e new fs' → E (.ref e) { s with heap := h', toks := tk })
   : wpAny (model prog w) ⟨none, dp, some (env63 L :: outer), gd, un⟩ (exec untilTry (env63 L)) (Mid63 h₀ L fs s x c i b t t2 t3) E s := by
  w_on
  obtain ⟨X, T⟩ := G
  delta env63
  conv in (untilTry) => whnf
  k_steps
  refine index3 ?_ hi ?_ ?_
  · rfl
  · intro hno hx' tk e hne
    k_steps
    refine tried2 rfl rfl isFn F N O hne fun h2 led2 a0 tt2 F2 N2 T2 A2 P2 => ?_
    refine handle_hit2 (C := "ValueError") exc_ValueError nt_ValueError exc_ValueError' F2 N2 P2 T2 A2 ?_ fun h3 d vs sl F3 N3 hv2 hle => ?_
    · intro Q' E' hq
      clear F N
      k_steps
      exact hq
    · clear F N F2 N2
      have hrl : (reprText ⟨#[c]⟩).length ≤ 12 := Nat.le_trans (StrLaws.reprText_len ⟨#[c]⟩ fun d hd => by
        have : d = c := by simpa using hd
        omega) (Nat.le_refl _)
      k_steps
      · rename b = true => hb
        rename Fr _ _ _ _ => F4
        rename News _ _ _ _ => N4
        refine Raise_none (eh := e) ?_ ?_
        · rfl
        k_steps
        have e2 : (expMsg c).length ≤ 1048576 := by
          unfold expMsg
          simp only [PySem.Str.length_append, PySem.ofString_length]
          have e1 : Str.empty.length = 0 := rfl
          have e3 : ("Expected " : String).length = 9 := by decide
          omega
        refine suf_call (msg := expMsg c) rfl isFn F4 ⟨X, T⟩ N4 ((O.turns tt2).mono fun p hp => .tail _ hp) ((hT.turns tt2 (by simp)).mono fun p hp => .tail _ hp) hdp (by omega) hx (by omega) e2 fun e5 tu te h5 tk5 new led5 F5 N5 tt5 hT5 ap fx ne => ?_
        clear F4 N4
        obtain ⟨led6, rfl, tt6⟩ := tt5.head (fixed_cls (fun q => by cases q))
        have h1 := N5 _ (.tail _ (.tail _ (List.mem_append_right _ (.head _))))
        k_steps
        have hee : e5 ≠ e := fun q => ap _ (.head _) _ (.head _) q.symm
        refine ⟨e5, rfl, ⟨tu, F5.keep _ _ (X 46 _ rfl), (N5 _ (.head _)).1, hee, ⟨_, _, h1.1, rfl, hv2⟩, fun h6 ho he6 => ?_⟩⟩
        obtain ⟨F6, x6⟩ := thrown_from (led := (e, ⟨.type "ValueError", d, .fields vs, sl⟩) :: led2) F5 N5 (.cons (TurnB.refl _) tt6) hT5 ap fx ne ho he6
        have x7 : Thrown .bare h₀ L fs (errText x (expMsg c) x.length) h6 e5 ((tu, tupOne (.str (errText x (expMsg c) x.length) te)) :: new ++ [(e, ⟨.type "ValueError", d, .fields vs, sl⟩)]) led6 := by
          obtain ⟨y1, y2, y3, ⟨tu', te', y4, y5⟩, y6, y7⟩ := x6
          have el : ((tu, tupOne (.str (errText x (expMsg c) x.length) te)) :: new ++ [(e, ⟨.type "ValueError", d, .fields vs, sl⟩)]) ++ led6 = ((tu, tupOne (.str (errText x (expMsg c) x.length) te)) :: new) ++ (e, ⟨.type "ValueError", d, .fields vs, sl⟩) :: led6 := by simp
          refine ⟨by rw [el]; exact y1, (tt2.up fun _ h => nomatch h).trans tt6, by rw [el]; exact y3, ⟨tu', te', List.mem_append_left _ y4, by rw [el]; exact y5⟩, fun p hp q hq => ?_, fun p hp => ?_⟩
          · rcases List.mem_append.mp hp with hp | hp
            · exact y6 p hp q (.tail _ hq)
            · rw [List.mem_singleton.mp hp]
              obtain ⟨q', hq', e1, _⟩ := tt6.back hq
              rw [e1]; exact hle q' hq'
          · rcases List.mem_append.mp hp with hp | hp
            · exact y7 p hp
            · rw [List.mem_singleton.mp hp]; exact fixed_cls (fun q => by cases q)
        exact thrown_noted (s := { s with heap := h6, toks := _ }) rfl rfl isFn F6 O x7 fun h7 led7 F7 x8 => thr hb hno h7 _ _ _ _ _ F7 x8
      · rename b = false => hb
        rename Fr _ _ _ _ => F4
        rename News _ _ _ _ => N4
        exact ⟨rfl, x.length, _, _, _, led2, rfl, F4, fun p hp => N4 p (.tail _ hp), tt2, ⟨by omega, .inr ⟨by simp [PySem.Str.length], hno⟩, fun j hj _ => hno j hj⟩, Nat.le_refl _, fun q => by rw [hb] at q; cases q⟩
  · intro k hk1 hk2 hk3
    have hkl : k < x.length := (Array.getElem?_eq_some_iff.mp (by rw [← Array.getElem?_toList]; exact hk2)).1
    k_steps
    rename Fr _ _ _ _ => F4
    rename News _ _ _ _ => N4
    exact ⟨rfl, k, _, _, _, fs, rfl, F4, N4, .refl _, ⟨hk1, .inl hk2, hk3⟩, by omega, fun _ => hk2⟩

def UErr (x : Str) (c : Nat) (i : Nat) (b : Bool) (txt : Str) : Prop :=
  (b = true ∧ (∀ j, i ≤ j → x.cps.toList[j]? ≠ some c) ∧ txt = errText x (expMsg c) x.length) ∨
  (∃ k p a, nextTo x.cps.toList i c k ∧ (b = true → x.cps.toList[k]? = some c) ∧ i ≤ p ∧ p < k ∧ x.cps.toList[p]? = some a ∧ ill a = true ∧ (∀ q, i ≤ q → q < p → ∀ a, x.cps.toList[q]? = some a → ill a = false) ∧ txt = errText x (foundMsg a) p)
theorem body7 : bodyOf (stAt 7) = untilTry :: (bodyOf (stAt 7)).drop 1 := by kernel_rfl
theorem until_body {w : World} {s : Shared} {dp un : Nat} {gd : Option (List Code)} {outer : List Env} {E : Value → Shared → Prop} {h₀ : Heap} {L : Addr} {mg mb : Str → Option Value} {mean : ExcName → Option Value} {loose : List Str} {fs : Led} {Q : Flow → Shared → Prop}
   {x : Str} {c : Nat} {i : Int} {b : Bool} {t t2 t3 : Tok} (hi : 0 ≤ i) (hx : x.length ≤ 1048576) (hi2 : i ≤ x.length) (hdp : dp + 1 < recursionLimit) (hc : c < 128)
   (F : Fr h₀ L s.heap (loc63 x ⟨#[c]⟩ i b t t2 t3)) (G : Gd w loose mean mg mb h₀) (Z : FzOf prog w h₀ 36) (N : News h₀ L s.heap fs) (O : FrsIn outer fs) (hT : TabOk 79 qCr (posOf stCr) fs)
   (ret : ∀ k, nextTo x.cps.toList i.toNat c k → k ≤ x.length → (b = true → x.cps.toList[k]? = some c) → ((x.cps.toList.drop i.toNat).take (k - i.toNat)).any ill = false →
     ∀ h' tk tj m' fs', Fr h₀ L h' m' → News h₀ L h' fs' → Turns fs fs' → Q (.ret (.int k tj)) { s with heap := h', toks := tk })
   (thr : ∀ txt, UErr x c i.toNat b txt → ∀ kd h' tk m' e new fs', Fr h₀ L h' m' → Thrown kd h₀ L fs txt h' e new fs' → E (.ref e) { s with heap := h', toks := tk })
   : wpAny (model prog w) ⟨none, dp, some (env63 L :: outer), gd, un⟩ (execs (bodyOf (stAt 7)) (env63 L)) Q E s := by
  rw [body7]
  refine wpAny_execs_cons (wpAny_mono (until_try hi hx hi2 hdp hc F G N O hT fun hb hno h' tk m' e new fs' F' x' => thr _ (.inl ⟨hb, hno, rfl⟩) _ _ _ _ _ _ _ F' x') (fun f s' hm => ?_) fun _ _ x => x)
  obtain ⟨rfl, k, t4, h', tk, fs', rfl, F', N', tt, hn, hk, hb⟩ := hm
  refine until_tail (s := { s with heap := h', toks := tk }) hi hx (by have := hn.1; omega) hk hdp F' G Z N' (O.turns tt) (hT.turns tt (by simp)) (fun hill h2 tk2 tj m' F2 N2 => ret k hn hk hb hill h2 tk2 tj m' fs' F2 N2 tt) fun p a hp1 hp2 hp3 hp4 hp5 h2 tk2 m' e new fs2 F2 x2 => ?_
  refine thr _ (.inr ⟨k, p, a, hn, hb, hp1, hp2, hp3, hp4, hp5, rfl⟩) .bare h2 tk2 m' e new fs2 F2 ?_
  exact ⟨x2.news, (tt.up fun _ h => nomatch h).trans x2.turns, x2.tab, x2.up, x2.apart, x2.fixed⟩
theorem until_call {w : World} {s : Shared} {dp un : Nat} {gd : Option (List Code)} {env : Env} {outer : List Env} {E : Value → Shared → Prop} {h₀ : Heap} {L : Addr} {m mg mb : Str → Option Value} {mean : ExcName → Option Value} {loose : List Str} {led : Led} {Q : Value → Shared → Prop}
   {x : Str} {c : Nat} {i : Int} {b : Bool} {t t2 t3 : Tok} (hf : env.frame = some L) (hke : env.scope.kind ≠ .module) (F : Fr h₀ L s.heap m) (G : Gd w loose mean mg mb h₀) (Z : FzOf prog w h₀ 36) (N : News h₀ L s.heap led) (O : FrsIn outer led) (hT : TabOk 79 qCr (posOf stCr) led) (hdp : dp + 2 < recursionLimit)
   (hi : 0 ≤ i) (hx : x.length ≤ 1048576) (hi2 : i ≤ x.length) (hc : c < 128)
   (ret : ∀ k, nextTo x.cps.toList i.toNat c k → k ≤ x.length → (b = true → x.cps.toList[k]? = some c) → ((x.cps.toList.drop i.toNat).take (k - i.toNat)).any ill = false →
     ∀ h' tk tj led', Fr h₀ L h' m → News h₀ L h' led' → Turns led led' → Q (.int k tj) { s with heap := h', toks := tk })
   (thr : ∀ txt, UErr x c i.toNat b txt → ∀ h' tk e new led', Fr h₀ L h' m → Thrown .off h₀ L led txt h' e new led' → E (.ref e) { s with heap := h', toks := tk })
   : wpAny (model prog w) ⟨none, dp, some (env :: outer), gd, un⟩ (call (.ref 63) [.str x t, .int i t2, .str ⟨#[c]⟩ t3] [(Str.ofString "error_on", .ref 36), (Str.ofString "error_on_eof", .bool b)]) Q E s := by
  refine enter (fd := fdAt 7 "skip_until" .none (vS "cpy313.tomllib._parser" 187) 62) rfl hf hke F N O (G.X 63 o63 rfl) rfl G.T.nolimit ⟨62, _, _, _, rfl, G.X 62 (o62 _) rfl, rfl, rfl⟩ (by show dp < recursionLimit; omega) rfl (BindsTo.of_eq rfl) (by decide +kernel) (locs rfl) (fun g h₁ oL st F₁ N₁ O₁ bk lt kp => ?_) rfl rfl rfl
  refine until_body (s := { s with heap := h₁, toks := _ }) hi hx hi2 (by show dp + 1 + 1 < recursionLimit; omega) hc F₁ (G.keeps st) (Z.keeps st) N₁ O₁ (hT.mono fun p hp => .tail _ hp) (fun k hn hk hb hill h' tk tj m' fs' F' N' tt => ?_) fun txt hu kd h' tk m' e new fs' F' x' => ?_
  · obtain ⟨oL', led', rfl, hoL, t1, F2, N2⟩ := bk _ _ h' m' [] fs' F' N' tt (fun p hp => nomatch hp)
    exact ret k hn hk hb hill h' tk tj led' F2 N2 t1
  · refine thrown_leaves (s := { s with heap := h', toks := tk }) rfl rfl isFn F' O₁ x' fun h2 fs2 F2 x2 => ?_
    obtain ⟨led2, F3, x3⟩ := thrown_back st bk F2 x2
    exact thr txt hu h2 tk e new led2 F3 x3
end Mine
/-! Co -/
namespace Mine
open PySem PySem.W PySem.Calls PySem.Spec PyProof.Rows
set_option Elab.async false
set_option maxRecDepth 100000
set_option maxHeartbeats 4000000
set_option linter.unusedVariables false
theorem fillCo : (PySem.Challenge.rw_mr0151_01, KK) = (PySem.Challenge.rw_mr0151_01, KK) := by k_fill; rfl
theorem sh_is : Str.ofString "#" = ⟨#[35]⟩ := by decide +kernel
abbrev env70 (L : Addr) : Env := envOf (Str.ofString "skip_comment") (scopeOf (stAt 8)) L 70 (.ref 69)
abbrev loc70 (x : Str) (i : Int) (t t2 : Tok) : Str → Option Value := fun z => [(Str.ofString "pos", Value.int i t2), (Str.ofString "src", Value.str x t)].lookup z
theorem comment_body {w : World} {s : Shared} {dp un : Nat} {gd : Option (List Code)} {outer : List Env} {E : Value → Shared → Prop} {h₀ : Heap} {L : Addr} {mg mb : Str → Option Value} {mean : ExcName → Option Value} {loose : List Str} {fs : Led} {Q : Flow → Shared → Prop}
   {x : Str} {i : Int} {t t2 : Tok} (hi : 0 ≤ i) (hx : x.length ≤ 1048576) (hi2 : i ≤ x.length + 1) (hdp : dp + 2 < recursionLimit)
   (F : Fr h₀ L s.heap (loc70 x i t t2)) (G : Gd w loose mean mg mb h₀) (Z : FzOf prog w h₀ 36) (N : News h₀ L s.heap fs) (O : FrsIn outer fs) (hT : TabOk 79 qCr (posOf stCr) fs)
   (ret0 : x.cps.toList[i.toNat]? ≠ some 35 → ∀ h' tk tj m' fs', Fr h₀ L h' m' → News h₀ L h' fs' → Turns fs fs' → Q (.ret (.int i tj)) { s with heap := h', toks := tk })
   (ret : x.cps.toList[i.toNat]? = some 35 → ∀ k, nextTo x.cps.toList (i.toNat + 1) 10 k → k ≤ x.length → ((x.cps.toList.drop (i.toNat + 1)).take (k - (i.toNat + 1))).any ill = false →
     ∀ h' tk tj m' fs', Fr h₀ L h' m' → News h₀ L h' fs' → Turns fs fs' → Q (.ret (.int k tj)) { s with heap := h', toks := tk })
   (thr : x.cps.toList[i.toNat]? = some 35 → ∀ txt, UErr x 10 (i.toNat + 1) false txt → ∀ kd h' tk m' e new fs', Fr h₀ L h' m' → Thrown kd h₀ L fs txt h' e new fs' → E (.ref e) { s with heap := h', toks := tk })
   : wpAny (model prog w) ⟨none, dp, some (env70 L :: outer), gd, un⟩ (execs (bodyOf (stAt 8)) (env70 L)) Q E s := by
  w_on
  have X := G.X
  have T := G.T
  delta env70
  conv in (bodyOf _) => whnf
  k_steps
  · rename Heap.NewExc _ _ _ _ => hne
    rename (_ < _ ∨ _ ≤ _) => hout
    refine tried rfl rfl isFn F N O hne fun h2 led2 a0 tt2 F2 N2 T2 P2 => ?_
    refine handle_hit (C := "IndexError") exc_IndexError nt_IndexError exc_IndexError' F2 N2 P2 T2 ?_ fun h3 F3 N3 T3 => ?_
    · intro Q' E' hq
      clear F N
      k_steps
      exact hq
    · clear F N F2 N2
      k_steps
      rename Fr _ _ _ _ => F4
      rename News _ _ _ _ => N4
      have hn : x.cps.toList[i.toNat]? ≠ some 35 := fun q => by
        have := (List.getElem?_eq_some_iff.mp q).1
        have hl : x.length = x.cps.size := rfl
        simp only [Array.length_toList] at this
        omega
      exact ret0 hn _ _ _ _ _ F4 N4 tt2
  · rename (Txt.item x i == Str.ofString "#") = true => he
    rename i < (x.length : Int) => hlt
    obtain ⟨a, ha, hit⟩ := item_eq hi hlt
    have ha2 : x.cps.toList[i.toNat]? = some 35 := by
      rw [ha]
      have := eq_of_beq he
      rw [hit, sh_is] at this
      injection this with this
      simpa using this
    rename Fr _ _ _ _ => F4
    rename News _ _ _ _ => N4
    rw [nl_is]
    refine until_call (c := 10) (b := false) rfl isFn F4 G Z N4 O hT hdp (by omega) hx (by omega) (by decide) (fun k hn hk hb hill h' tk tj led' F5 N5 tt => ?_) fun txt hu h' tk e new led' F5 x5 => ?_
    · clear F4 N4
      rw [show (i + 1).toNat = i.toNat + 1 by omega] at hn hill
      k_steps
      exact ret ha2 k hn hk hill _ _ _ _ _ F5 N5 tt
    · rw [show (i + 1).toNat = i.toNat + 1 by omega] at hu
      exact thr ha2 txt hu _ _ _ _ _ _ _ F5 x5
  · rename (Txt.item x i == Str.ofString "#") = false => he
    rename i < (x.length : Int) => hlt
    obtain ⟨a, ha, hit⟩ := item_eq hi hlt
    have ha2 : x.cps.toList[i.toNat]? ≠ some 35 := fun q => by
      rw [ha] at q
      have q : a = 35 := Option.some.inj q
      rw [hit, sh_is, q] at he
      simp at he
    rename Fr _ _ _ _ => F4
    rename News _ _ _ _ => N4
    exact ret0 ha2 _ _ _ _ _ F4 N4 (.refl _)
theorem comment_call {w : World} {s : Shared} {dp un : Nat} {gd : Option (List Code)} {env : Env} {outer : List Env} {E : Value → Shared → Prop} {h₀ : Heap} {L : Addr} {m mg mb : Str → Option Value} {mean : ExcName → Option Value} {loose : List Str} {led : Led} {Q : Value → Shared → Prop}
   {x : Str} {i : Int} {t t2 : Tok} (hf : env.frame = some L) (hke : env.scope.kind ≠ .module) (F : Fr h₀ L s.heap m) (G : Gd w loose mean mg mb h₀) (Z : FzOf prog w h₀ 36) (N : News h₀ L s.heap led) (O : FrsIn outer led) (hT : TabOk 79 qCr (posOf stCr) led) (hdp : dp + 3 < recursionLimit)
   (hi : 0 ≤ i) (hx : x.length ≤ 1048576) (hi2 : i ≤ x.length + 1)
   (ret0 : x.cps.toList[i.toNat]? ≠ some 35 → ∀ h' tk tj led', Fr h₀ L h' m → News h₀ L h' led' → Turns led led' → Q (.int i tj) { s with heap := h', toks := tk })
   (ret : x.cps.toList[i.toNat]? = some 35 → ∀ k, nextTo x.cps.toList (i.toNat + 1) 10 k → k ≤ x.length → ((x.cps.toList.drop (i.toNat + 1)).take (k - (i.toNat + 1))).any ill = false →
     ∀ h' tk tj led', Fr h₀ L h' m → News h₀ L h' led' → Turns led led' → Q (.int k tj) { s with heap := h', toks := tk })
   (thr : x.cps.toList[i.toNat]? = some 35 → ∀ txt, UErr x 10 (i.toNat + 1) false txt → ∀ h' tk e new led', Fr h₀ L h' m → Thrown .off h₀ L led txt h' e new led' → E (.ref e) { s with heap := h', toks := tk })
   : wpAny (model prog w) ⟨none, dp, some (env :: outer), gd, un⟩ (call (.ref 70) [.str x t, .int i t2]) Q E s := by
  refine enter (fd := fdAt 8 "skip_comment" .none (vS "cpy313.tomllib._parser" 187) 69) rfl hf hke F N O (G.X 70 o70 rfl) rfl G.T.nolimit ⟨69, _, _, _, rfl, G.X 69 (o69 _) rfl, rfl, rfl⟩ (by show dp < recursionLimit; omega) rfl (BindsTo.of_eq rfl) (by decide +kernel) (locs rfl) (fun g h₁ oL st F₁ N₁ O₁ bk lt kp => ?_) rfl rfl rfl
  refine comment_body (s := { s with heap := h₁, toks := _ }) hi hx hi2 (by show dp + 1 + 2 < recursionLimit; omega) F₁ (G.keeps st) (Z.keeps st) N₁ O₁ (hT.mono fun p hp => .tail _ hp) (fun hn h' tk tj m' fs' F' N' tt => ?_) (fun ha k hn hk hill h' tk tj m' fs' F' N' tt => ?_) fun ha txt hu kd h' tk m' e new fs' F' x' => ?_
  · obtain ⟨oL', led', rfl, hoL, t1, F2, N2⟩ := bk _ _ h' m' [] fs' F' N' tt (fun p hp => nomatch hp)
    exact ret0 hn h' tk tj led' F2 N2 t1
  · obtain ⟨oL', led', rfl, hoL, t1, F2, N2⟩ := bk _ _ h' m' [] fs' F' N' tt (fun p hp => nomatch hp)
    exact ret ha k hn hk hill h' tk tj led' F2 N2 t1
  · refine thrown_leaves (s := { s with heap := h', toks := tk }) rfl rfl isFn F' O₁ x' fun h2 fs2 F2 x2 => ?_
    obtain ⟨led2, F3, x3⟩ := thrown_back st bk F2 x2
    exact thr ha txt hu h2 tk e new led2 F3 x3
end Mine
/-! Li -/
namespace Mine
open PySem PySem.W PySem.Calls PySem.Spec PyProof.Rows
set_option Elab.async false
set_option maxRecDepth 100000
set_option maxHeartbeats 4000000
set_option linter.unusedVariables false
theorem fillLi : (PySem.Challenge.rw_mr0151_01, KK) = (PySem.Challenge.rw_mr0151_01, KK) := by k_fill; rfl
/-- the signs from a up to b -/
def cut (l : List Nat) (a b : Nat) : Str := ⟨((l.drop a).take (b - a)).toArray⟩
theorem slice_cut {x : Str} {i j : Int} (h0 : 0 ≤ i) (h1 : i ≤ j) (h2 : j ≤ x.length) : Txt.slice x (some i) (some j) = cut x.cps.toList i.toNat j.toNat := by
  rw [eq_of_beq (slice_closesL h0 h1 h2), cut, show (j - i).toNat = j.toNat - i.toNat by omega]
abbrev tupObj (vs : Array Value) : Obj := { cls := .type "tuple", data := .seq vs }
abbrev env77 (L : Addr) : Env := envOf (Str.ofString "parse_literal_str") (scopeOf (stAt 9)) L 77 (.ref 76)
theorem literal_body {w : World} {s : Shared} {dp un : Nat} {gd : Option (List Code)} {outer : List Env} {E : Value → Shared → Prop} {h₀ : Heap} {L : Addr} {mg mb : Str → Option Value} {mean : ExcName → Option Value} {loose : List Str} {fs : Led} {Q : Flow → Shared → Prop}
   {x : Str} {i : Int} {t t2 : Tok} (hi : 0 ≤ i) (hx : x.length ≤ 1048576) (hi2 : i < x.length) (hdp : dp + 2 < recursionLimit)
   (F : Fr h₀ L s.heap (loc70 x i t t2)) (G : Gd w loose mean mg mb h₀) (Z : FzOf prog w h₀ 36) (N : News h₀ L s.heap fs) (O : FrsIn outer fs) (hT : TabOk 79 qCr (posOf stCr) fs)
   (ret : ∀ k, nextTo x.cps.toList (i.toNat + 1) 39 k → x.cps.toList[k]? = some 39 → ((x.cps.toList.drop (i.toNat + 1)).take (k - (i.toNat + 1))).any ill = false →
     ∀ a ta ts h' tk m' fs', Fr h₀ L h' m' → News h₀ L h' ((a, tupObj #[.int (k + 1 : Nat) ta, .str (cut x.cps.toList (i.toNat + 1) k) ts]) :: fs') → (∀ p ∈ fs', p.1 < a) → Turns fs fs' → Q (.ret (.ref a)) { s with heap := h', toks := tk })
   (thr : ∀ txt, UErr x 39 (i.toNat + 1) true txt → ∀ kd h' tk m' e new fs', Fr h₀ L h' m' → Thrown kd h₀ L fs txt h' e new fs' → E (.ref e) { s with heap := h', toks := tk })
   : wpAny (model prog w) ⟨none, dp, some (env77 L :: outer), gd, un⟩ (execs (bodyOf (stAt 9)) (env77 L)) Q E s := by
  w_on
  have X := G.X
  have T := G.T
  delta env77
  conv in (bodyOf _) => whnf
  k_steps
  rename Fr _ _ _ _ => F4
  rename News _ _ _ _ => N4
  rw [ap_is]
  refine until_call (c := 39) (b := true) rfl isFn F4 G Z N4 O hT hdp (by omega) hx (by omega) (by decide) (fun k hn hk hb hill h' tk tj led' F5 N5 tt => ?_) fun txt hu h' tk e new led' F5 x5 => ?_
  · clear F4 N4
    rw [show (i + 1).toNat = i.toNat + 1 by omega] at hn hill
    k_steps
    rename Fr _ _ _ _ => F6
    rename News _ _ _ _ => N6
    rename (∀ (p : Addr × Obj), p ∈ led' → p.fst < _) => hl
    have hi1 := hn.1
    rw [slice_cut (by omega) (by omega) (by omega), show (i + 1).toNat = i.toNat + 1 by omega, show ((k : Nat) : Int).toNat = k by omega] at N6
    exact ret k hn (hb rfl) hill _ _ _ _ _ _ _ F6 N6 hl tt
  · rw [show (i + 1).toNat = i.toNat + 1 by omega] at hu
    exact thr txt hu _ _ _ _ _ _ _ F5 x5
theorem literal_call {w : World} {s : Shared} {dp un : Nat} {gd : Option (List Code)} {env : Env} {outer : List Env} {E : Value → Shared → Prop} {h₀ : Heap} {L : Addr} {m mg mb : Str → Option Value} {mean : ExcName → Option Value} {loose : List Str} {led : Led} {Q : Value → Shared → Prop}
   {x : Str} {i : Int} {t t2 : Tok} (hf : env.frame = some L) (hke : env.scope.kind ≠ .module) (F : Fr h₀ L s.heap m) (G : Gd w loose mean mg mb h₀) (Z : FzOf prog w h₀ 36) (N : News h₀ L s.heap led) (O : FrsIn outer led) (hT : TabOk 79 qCr (posOf stCr) led) (hdp : dp + 3 < recursionLimit)
   (hi : 0 ≤ i) (hx : x.length ≤ 1048576) (hi2 : i < x.length)
   (ret : ∀ k, nextTo x.cps.toList (i.toNat + 1) 39 k → x.cps.toList[k]? = some 39 → ((x.cps.toList.drop (i.toNat + 1)).take (k - (i.toNat + 1))).any ill = false →
     ∀ a ta ts h' tk led', Fr h₀ L h' m → News h₀ L h' ((a, tupObj #[.int (k + 1 : Nat) ta, .str (cut x.cps.toList (i.toNat + 1) k) ts]) :: led') → (∀ p ∈ led', p.1 < a) → Turns led led' → Q (.ref a) { s with heap := h', toks := tk })
   (thr : ∀ txt, UErr x 39 (i.toNat + 1) true txt → ∀ h' tk e new led', Fr h₀ L h' m → Thrown .off h₀ L led txt h' e new led' → E (.ref e) { s with heap := h', toks := tk })
   : wpAny (model prog w) ⟨none, dp, some (env :: outer), gd, un⟩ (call (.ref 77) [.str x t, .int i t2]) Q E s := by
  refine enter (fd := fdAt 9 "parse_literal_str" .none (vS "cpy313.tomllib._parser" 187) 76) rfl hf hke F N O (G.X 77 o77 rfl) rfl G.T.nolimit ⟨76, _, _, _, rfl, G.X 76 (o76 _) rfl, rfl, rfl⟩ (by show dp < recursionLimit; omega) rfl (BindsTo.of_eq rfl) (by decide +kernel) (locs rfl) (fun g h₁ oL st F₁ N₁ O₁ bk lt kp => ?_) rfl rfl rfl
  refine literal_body (s := { s with heap := h₁, toks := _ }) hi hx hi2 (by show dp + 1 + 2 < recursionLimit; omega) F₁ (G.keeps st) (Z.keeps st) N₁ O₁ (hT.mono fun p hp => .tail _ hp) (fun k hn hk hill a ta ts h' tk m' fs' F' N' hl tt => ?_) fun txt hu kd h' tk m' e new fs' F' x' => ?_
  · obtain ⟨oL', led', rfl, hoL, t1, F2, N2⟩ := bk _ _ h' m' [(a, tupObj #[.int (k + 1 : Nat) ta, .str (cut x.cps.toList (i.toNat + 1) k) ts])] fs' F' N' tt (fun p hp q hq => by
      rw [List.mem_singleton.mp hp]; exact Nat.ne_of_lt (hl q hq))
    exact ret k hn hk hill a ta ts h' tk led' F2 N2 (fun p hp => hl p (.tail _ hp)) t1
  · refine thrown_leaves (s := { s with heap := h', toks := tk }) rfl rfl isFn F' O₁ x' fun h2 fs2 F2 x2 => ?_
    obtain ⟨led2, F3, x3⟩ := thrown_back st bk F2 x2
    exact thr txt hu h2 tk e new led2 F3 x3
end Mine
/-! Sp -/
namespace Mine
open PySem PySem.W PySem.Calls PySem.Spec PyProof.Rows
set_option Elab.async false
set_option maxRecDepth 100000
set_option maxHeartbeats 4000000
set_option linter.unusedVariables false
theorem fillSp : (PySem.Challenge.rw_mr0151_01, KK) = (PySem.Challenge.rw_mr0151_01, KK) := by k_fill; rfl
abbrev env112 (L : Addr) : Env := envOf (Str.ofString "_law_step") (scopeOf (stAt 17)) L 112 (.ref 111)
abbrev loc112 (x : Str) (S : Addr) (t : Tok) : Str → Option Value := fun z => [(Str.ofString "state", Value.ref S), (Str.ofString "src", Value.str x t)].lookup z
abbrev wsL : List Nat := [32, 9, 10]
theorem ws_is : Str.ofString " \t\n" = ⟨#[32, 9, 10]⟩ := by decide +kernel
def StepTo (l : List Nat) (i j : Nat) (kd tx : Str) : Prop :=
  (l[i]? = some 35 ∧ ∃ k, nextTo l (i + 1) 10 k ∧ k ≤ l.length ∧ ((l.drop (i + 1)).take (k - (i + 1))).any ill = false ∧ j = k + 1 ∧ kd = Str.ofString "#" ∧ tx = cut l (i + 1) k) ∨
  (l[i]? = some 39 ∧ ∃ k, nextTo l (i + 1) 39 k ∧ l[k]? = some 39 ∧ ((l.drop (i + 1)).take (k - (i + 1))).any ill = false ∧ j = k + 1 ∧ kd = Str.ofString "'" ∧ tx = cut l (i + 1) k) ∨
  (∃ a, l[i]? = some a ∧ a ≠ 35 ∧ a ≠ 39 ∧ j = i + runOf wsL (l.drop i) ∧ j ≠ i ∧ kd = Str.ofString "" ∧ tx = cut l i j)
def StepErr (x : Str) (i : Nat) (txt : Str) : Prop :=
  (x.cps.toList[i]? = some 35 ∧ UErr x 10 (i + 1) false txt) ∨ (x.cps.toList[i]? = some 39 ∧ UErr x 39 (i + 1) true txt) ∨
  (∃ a, x.cps.toList[i]? = some a ∧ a ≠ 35 ∧ a ≠ 39 ∧ runOf wsL (x.cps.toList.drop i) = 0 ∧ txt = errText x (Str.ofString "Neither") i)
/-- the state that a step gives: new objects ahead of the rest -/
structure NewSt (h₀ : Heap) (L : Addr) (led' : Led) (h' : Heap) (vs : List Value) (j : Nat) (kd tx : Str) (S' : Addr) (new : Led) : Prop where
  news : News h₀ L h' (new ++ led')
  st : ∃ Ls' a tj tk tt, (S', tupObj #[.int j tj, .ref Ls']) ∈ new ∧ (Ls', listOf (vs ++ [Value.ref a]).toArray 0) ∈ new ∧ (a, tupObj #[.str kd tk, .str tx tt]) ∈ new
  apart : ∀ p ∈ new, ∀ q ∈ led', q.1 ≠ p.1
  fixed : ∀ p ∈ new, Fixed p.2
theorem tab_drop1 {P : Addr} {q : Str} {pos : Pos} {new led : Led} {p : Addr × Obj} (x : TabOk P q pos (new ++ p :: led)) (hd : ∀ vs, p.2.data ≠ .fields vs) : TabOk P q pos (new ++ led) := by
  have key : ∀ {b : Addr} {ob : Obj} {vs : Array Value}, (b, ob) ∈ new ++ p :: led → ob.data = .fields vs → (b, ob) ∈ new ++ led := fun hm hv => by
    rcases List.mem_append.mp hm with hm | hm
    · exact List.mem_append_left _ hm
    · rcases List.mem_cons.mp hm with e | hm
      · rw [← e] at hd; exact absurd hv (hd _)
      · exact List.mem_append_right _ hm
  obtain ⟨ps, h1, h2⟩ := x
  refine ⟨ps, key h1 rfl, h2.imp id ?_⟩
  rintro ⟨c, oc, vs, t, e, hm, hdc, hv⟩
  exact ⟨c, oc, vs, t, e, key hm hdc, hdc, hv⟩
theorem Up.sub {k : Kd} {h₀ h : Heap} {L e : Addr} {led led' : Led} {cls a0 : Value} (x : Up k h₀ L led h e cls a0) (hs : ∀ p ∈ led', p ∈ led) : Up k h₀ L led' h e cls a0 := by
  cases k with
  | bare => exact ⟨x.free.sub hs, x.there⟩
  | here => exact Fly.sub x hs
  | off => exact Fly.sub x hs
theorem Thrown.drop1 {k : Kd} {h₀ h : Heap} {L e : Addr} {led led' new : Led} {txt : Str} {p q : Addr × Obj} (x : Thrown k h₀ L (p :: led) txt h e new (q :: led')) (hd : ∀ vs, q.2.data ≠ .fields vs) (t : TurnsB [79] led led') : Thrown k h₀ L led txt h e new led' := by
  have sub : ∀ r ∈ new ++ led', r ∈ new ++ q :: led' := fun r hr => by
    rcases List.mem_append.mp hr with hr | hr
    · exact List.mem_append_left _ hr
    · exact List.mem_append_right _ (.tail _ hr)
  obtain ⟨tu, te, hm, hu⟩ := x.up
  exact ⟨fun r hr => x.news r (sub r hr), t, tab_drop1 x.tab hd, ⟨tu, te, hm, hu.sub sub⟩, fun p hp q hq => x.apart p hp q (.tail _ hq), x.fixed⟩
theorem Thrown.from {k : Kd} {h₀ h : Heap} {L e : Addr} {led0 led led' new : Led} {txt : Str} (x : Thrown k h₀ L led txt h e new led') (t : TurnsB [79] led0 led) : Thrown k h₀ L led0 txt h e new led' :=
  ⟨x.news, t.trans x.turns, x.tab, x.up, x.apart, x.fixed⟩
theorem allLt_mem {d : Addr} : ∀ {l : List (Addr × Obj)}, AllLt d l → ∀ p ∈ l, p.1 < d
  | [], _, p, hp => nomatch hp
  | q :: r, h, p, hp => by
    rcases List.mem_cons.mp hp with rfl | hp
    · exact h.1
    · exact allLt_mem h.2 p hp
theorem newSt4 {h₀ h' : Heap} {L S' Ls' l' a : Addr} {vs : List Value} {j : Int} {jn : Nat} {kd tx tx' : Str} {tj tk tt : Tok} {r fs' : Led}
    (N : News h₀ L h' ((S', tupObj #[.int j tj, .ref Ls']) :: (Ls', listOf (vs.toArray.toList ++ (#[Value.ref a] : Array Value).toList).toArray 0) :: (l', listOf #[Value.ref a] 0) :: (a, tupObj #[.str kd tk, .str tx tt]) :: r)) (hj : j = (jn : Int)) (ht : tx = tx')
    (h4 : AllLt a r) (h3 : AllLt l' ((a, tupObj #[.str kd tk, .str tx tt]) :: r)) (h2 : ∀ p ∈ (l', listOf #[Value.ref a] 0) :: (a, tupObj #[.str kd tk, .str tx tt]) :: r, p.1 < Ls')
    (h1 : AllLt S' ((Ls', listOf (vs.toArray.toList ++ (#[Value.ref a] : Array Value).toList).toArray 0) :: (l', listOf #[Value.ref a] 0) :: (a, tupObj #[.str kd tk, .str tx tt]) :: r)) (hr : ∀ p ∈ fs', p ∈ r) :
    ∃ new, NewSt h₀ L fs' h' vs jn kd tx' S' new := by
  subst hj ht
  refine ⟨[(S', tupObj #[.int jn tj, .ref Ls']), (Ls', listOf (vs.toArray.toList ++ (#[Value.ref a] : Array Value).toList).toArray 0), (l', listOf #[Value.ref a] 0), (a, tupObj #[.str kd tk, .str tx tt])], fun p hp => ?_, ⟨Ls', a, tj, tk, tt, .head _, .tail _ (.head _), .tail _ (.tail _ (.tail _ (.head _)))⟩, fun p hp q hq => ?_, fun p hp => ?_⟩
  · rcases List.mem_append.mp hp with hp | hp
    · refine N p ?_
      simp only [List.mem_cons, List.not_mem_nil, or_false] at hp ⊢
      rcases hp with h | h | h | h <;> simp [h]
    · exact N p (.tail _ (.tail _ (.tail _ (.tail _ (hr p hp)))))
  · have hq' := hr q hq
    simp only [List.mem_cons, List.not_mem_nil, or_false] at hp
    rcases hp with rfl | rfl | rfl | rfl
    · exact Nat.ne_of_lt (allLt_mem h1 q (.tail _ (.tail _ (.tail _ hq'))))
    · exact Nat.ne_of_lt (h2 q (.tail _ (.tail _ hq')))
    · exact Nat.ne_of_lt (allLt_mem h3 q (.tail _ hq'))
    · exact Nat.ne_of_lt (allLt_mem h4 q hq')
  · simp only [List.mem_cons, List.not_mem_nil, or_false] at hp
    rcases hp with rfl | rfl | rfl | rfl <;> exact fixed_seq
theorem skipTo_run {x : Str} {i : Int} (hi : 0 ≤ i) : skipTo ⟨#[32, 9, 10]⟩ x i = ((i.toNat + runOf wsL (x.cps.toList.drop i.toNat) : Nat) : Int) := by
  unfold skipTo; simp only [wsL]; omega
theorem len_list (x : Str) : x.length = x.cps.toList.length := by simp [PySem.Str.length]
theorem runOf_le (c l : List Nat) : runOf c l ≤ l.length := by unfold runOf; exact (List.takeWhile_sublist _).length_le
theorem add_room {vs : List Value} {D : Value} (h : vs.length ≤ 1048576) : vs.toArray.toList.length + (#[D] : Array Value).toList.length ≤ sizeLine := by
  rw [sizeLine_eq]; simp; omega
local macro_rules | `(tactic| walk_at "binaryOp Add ref ref") => `(tactic| (refine kmk_add_lit (by k_asm) (by k_asm) (by is_list) (by is_list) rfl (fun D' h' F' N' l1 => ?_) (add_room (by assumption))))
local macro_rules | `(tactic| walk_at "exec Raise some none") => `(tactic| (refine Raise_own ?_ ?_; · rfl))
theorem step_body {w : World} {s : Shared} {dp un : Nat} {gd : Option (List Code)} {outer : List Env} {E : Value → Shared → Prop} {h₀ : Heap} {L : Addr} {mg mb : Str → Option Value} {mean : ExcName → Option Value} {loose : List Str} {fs : Led} {Q : Flow → Shared → Prop}
   {x : Str} {S Ls : Addr} {vs : List Value} {i : Int} {t t2 : Tok} (hi : 0 ≤ i) (hx : x.length ≤ 1048576) (hi2 : i ≤ x.length + 1) (hdp : dp + 3 < recursionLimit) (hvs : vs.length ≤ 1048576)
   (F : Fr h₀ L s.heap (loc112 x S t)) (G : Gd w loose mean mg mb h₀) (Z : FzOf prog w h₀ 36) (N : News h₀ L s.heap ((S, tupObj #[.int i t2, .ref Ls]) :: (Ls, listOf vs.toArray 0) :: fs)) (O : FrsIn outer fs) (hT : TabOk 79 qCr (posOf stCr) fs)
   (stay : x.length ≤ i → ∀ h' tk m' fs', Fr h₀ L h' m' → News h₀ L h' fs' → Turns fs fs' → Q (.ret (.ref S)) { s with heap := h', toks := tk })
   (ret : ∀ j kd tx, StepTo x.cps.toList i.toNat j kd tx → ∀ S' new h' tk m' fs', Fr h₀ L h' m' → NewSt h₀ L fs' h' vs j kd tx S' new → Turns fs fs' → Q (.ret (.ref S')) { s with heap := h', toks := tk })
   (thr : ∀ txt, StepErr x i.toNat txt → ∀ kd h' tk m' e new fs', Fr h₀ L h' m' → Thrown kd h₀ L fs txt h' e new fs' → E (.ref e) { s with heap := h', toks := tk })
   : wpAny (model prog w) ⟨none, dp, some (env112 L :: outer), gd, un⟩ (execs (bodyOf (stAt 17)) (env112 L)) Q E s := by
  w_on
  have X := G.X
  have T := G.T
  delta env112
  conv in (bodyOf _) => whnf
  k_steps
  rename Fr _ _ _ _ => F1
  rename News _ _ _ _ => N1
  have thr2 : ∀ {led2 : Led}, Turns fs led2 → ∀ txt, StepErr x i.toNat txt → ∀ kd h' tk m' e new fs', Fr h₀ L h' m' → Thrown kd h₀ L ((S, tupObj #[.int i t2, .ref Ls]) :: (Ls, listOf vs.toArray 0) :: led2) txt h' e new fs' → E (.ref e) { s with heap := h', toks := tk } :=
    fun {led2} t0 txt hs kd h' tk m' e new fs' F' x' => by
      obtain ⟨r, rfl, ta⟩ := x'.turns.head fixed_seq
      obtain ⟨fs2, rfl, tb⟩ := ta.head fixed_seq
      exact thr txt hs kd h' tk m' e new fs2 F' ((x'.drop1 (fun vs q => by cases q) ta).drop1 (fun vs q => by cases q) tb |>.from (t0.up fun _ h => nomatch h))
  have O1 : ∀ {led2 : Led}, Turns fs led2 → FrsIn outer ((S, tupObj #[.int i t2, .ref Ls]) :: (Ls, listOf vs.toArray 0) :: led2) := fun t0 => (O.turns t0).mono fun p hp => .tail _ (.tail _ hp)
  have hT1 : ∀ {led2 : Led}, Turns fs led2 → TabOk 79 qCr (posOf stCr) ((S, tupObj #[.int i t2, .ref Ls]) :: (Ls, listOf vs.toArray 0) :: led2) := fun t0 => (hT.turns t0 (by simp)).mono fun p hp => .tail _ (.tail _ hp)
  refine comment_call rfl isFn F1 G Z N1 (O1 (.refl _)) (hT1 (.refl _)) hdp hi hx hi2 (fun hne h' tk tj led' F2 N2 tt => ?_) (fun ha k hn hk hill h' tk tj led' F2 N2 tt => ?_) fun ha txt hu h' tk e new led' F2 x2 => ?_
  · obtain ⟨r, rfl, ta⟩ := tt.head fixed_seq
    obtain ⟨fs', rfl, tf⟩ := ta.head fixed_seq
    clear F1 N1
    k_steps
    · exact absurd rfl ‹i ≠ i›
    · rename Fr _ _ _ _ => F3
      rename News _ _ _ _ => N3
      exact stay (by assumption) _ _ _ _ F3 (fun p hp => N3 p (.tail _ (.tail _ hp))) tf
    · rename Fr _ _ _ _ => F3
      rename News _ _ _ _ => N3
      rename ¬ ((x.length : Int) ≤ i) => hlt
      rename (Txt.item x i == Str.ofString "'") = true => he
      obtain ⟨a, ha, hit⟩ := item_eq (x := x) (j := i) hi (by omega)
      have ha2 : x.cps.toList[i.toNat]? = some 39 := by
        rw [ha]
        have := eq_of_beq he
        rw [hit, ap_is] at this
        injection this with this
        simpa using this
      refine literal_call rfl isFn F3 G Z N3 (O1 tf) (hT1 tf) hdp hi hx (by omega) (fun k hn hk hill D ta' ts h' tk led' F4 N4 hl t4 => ?_) fun txt hu h' tk e new led' F4 x4 => ?_
      · obtain ⟨r2, rfl, ta4⟩ := t4.head fixed_seq
        obtain ⟨fs4, rfl, tf4⟩ := ta4.head fixed_seq
        clear F3 N3
        have hkl : k < x.length := (Array.getElem?_eq_some_iff.mp (by rw [← Array.getElem?_toList]; exact hk)).1
        k_steps
        rename Fr _ _ _ _ => F6
        rename News _ _ _ _ => N6
        obtain ⟨new, hN⟩ := newSt4 (fs' := fs4) N6 rfl rfl (by assumption) (by assumption) (by assumption) (by assumption) (fun p hp => .tail _ (.tail _ (.tail _ hp)))
        exact ret (k + 1) _ _ (.inr (.inl ⟨ha2, k, hn, hk, hill, rfl, rfl, rfl⟩)) _ new _ _ _ _ F6 hN (tf.trans tf4)
      · exact thr2 tf txt (.inr (.inl ⟨ha2, hu⟩)) .off _ _ _ _ _ _ F4 x4
    · rename Fr _ _ _ _ => F3
      rename News _ _ _ _ => N3
      rename ¬ ((x.length : Int) ≤ i) => hlt
      rename (Txt.item x i == Str.ofString "'") = false => he
      obtain ⟨a, ha, hit⟩ := item_eq (x := x) (j := i) hi (by omega)
      have h35 : a ≠ 35 := fun q => hne (by rw [ha, q])
      have h39 : a ≠ 39 := fun q => by
        rw [hit, ap_is, q] at he
        simp at he
      rw [ws_is]
      have hru := runOf_le wsL (x.cps.toList.drop i.toNat)
      rw [List.length_drop, ← len_list] at hru
      refine skip_chars_call rfl isFn F3 G N3 (O1 tf) (by omega) hi hx (by omega) fun h' tk tj led' F4 N4 t4 => ?_
      obtain ⟨r2, rfl, ta4⟩ := t4.head fixed_seq
      obtain ⟨fs4, rfl, tf4⟩ := ta4.head fixed_seq
      clear F3 N3
      rw [skipTo_run hi]
      k_steps
      · rename Fr _ _ _ _ => F5
        rename News _ _ _ _ => N5
        rename ((_ : Nat) : Int) = i => hji
        refine suf_call rfl isFn F5 ⟨X, T⟩ N5 (O1 (tf.trans tf4)) (hT1 (tf.trans tf4)) (by omega) hi hx (by omega) (by decide +kernel) fun e tu te h2 tk2 new led2 F6 N6 t6 hT6 ap fx ne => ?_
        clear F5 N5
        k_steps
        refine ⟨e, tu, rfl, F6.keep _ _ (X 46 _ rfl), (N6 _ (.head _)).1, ?_⟩
        have hr0 : runOf wsL (x.cps.toList.drop i.toNat) = 0 := by omega
        refine thr2 (tf.trans tf4) _ (.inr (.inr ⟨a, ha, h35, h39, hr0, by rw [show ((i.toNat : Nat) : Int) = i by omega]⟩)) .bare _ _ _ _ _ _ F6 (thrown_made N6 t6 hT6 ap fx ne)
      · rename Fr _ _ _ _ => F6
        rename News _ _ _ _ => N6
        rename ((_ : Nat) : Int) ≠ i => hji
        obtain ⟨new, hN⟩ := newSt4 (jn := i.toNat + runOf wsL (x.cps.toList.drop i.toNat)) (tx' := cut x.cps.toList i.toNat (i.toNat + runOf wsL (x.cps.toList.drop i.toNat))) (fs' := fs4) N6 rfl (by rw [slice_cut (by omega) (by omega) (by omega), Int.toNat_natCast]) (by assumption) (by assumption) (by assumption) (by assumption) (fun p hp => .tail _ (.tail _ hp))
        exact ret _ _ _ (.inr (.inr ⟨a, ha, h35, h39, rfl, by omega, rfl, rfl⟩)) _ new _ _ _ _ F6 hN (tf.trans tf4)
  · obtain ⟨r, rfl, ta⟩ := tt.head fixed_seq
    obtain ⟨fs', rfl, tf⟩ := ta.head fixed_seq
    clear F1 N1
    have hkn := hn.1
    k_steps
    · rename Fr _ _ _ _ => F6
      rename News _ _ _ _ => N6
      obtain ⟨new, hN⟩ := newSt4 (jn := k + 1) (tx' := cut x.cps.toList (i.toNat + 1) k) (fs' := fs') N6 (by omega) (by rw [slice_cut (by omega) (by omega) (by omega), show (i + 1).toNat = i.toNat + 1 by omega, show ((k : Nat) : Int).toNat = k by omega]) (by assumption) (by assumption) (by assumption) (by assumption) (fun p hp => .tail _ (.tail _ hp))
      exact ret (k + 1) _ _ (.inl ⟨ha, k, hn, by rw [← len_list]; exact hk, hill, rfl, rfl, rfl⟩) _ new _ _ _ _ F6 hN tf
    · omega
  · exact thr2 (.refl _) txt (.inl ⟨ha, hu⟩) .off _ _ _ _ _ _ F2 x2
theorem step_call {w : World} {s : Shared} {dp un : Nat} {gd : Option (List Code)} {env : Env} {outer : List Env} {E : Value → Shared → Prop} {h₀ : Heap} {L : Addr} {m mg mb : Str → Option Value} {mean : ExcName → Option Value} {loose : List Str} {led : Led} {Q : Value → Shared → Prop}
   {x : Str} {S Ls : Addr} {vs : List Value} {i : Int} {t t2 : Tok} (hf : env.frame = some L) (hke : env.scope.kind ≠ .module) (F : Fr h₀ L s.heap m) (G : Gd w loose mean mg mb h₀) (Z : FzOf prog w h₀ 36) (N : News h₀ L s.heap led) (O : FrsIn outer led) (hT : TabOk 79 qCr (posOf stCr) led) (hdp : dp + 4 < recursionLimit)
   (hS : (S, tupObj #[.int i t2, .ref Ls]) ∈ led) (hL : (Ls, listOf vs.toArray 0) ∈ led)
   (hi : 0 ≤ i) (hx : x.length ≤ 1048576) (hi2 : i ≤ x.length + 1) (hvs : vs.length ≤ 1048576)
   (stay : x.length ≤ i → ∀ h' tk led', Fr h₀ L h' m → News h₀ L h' led' → Turns led led' → Q (.ref S) { s with heap := h', toks := tk })
   (ret : ∀ j kd tx, StepTo x.cps.toList i.toNat j kd tx → ∀ S' new h' tk led', Fr h₀ L h' m → NewSt h₀ L led' h' vs j kd tx S' new → Turns led led' → Q (.ref S') { s with heap := h', toks := tk })
   (thr : ∀ txt, StepErr x i.toNat txt → ∀ h' tk e new led', Fr h₀ L h' m → Thrown .off h₀ L led txt h' e new led' → E (.ref e) { s with heap := h', toks := tk })
   : wpAny (model prog w) ⟨none, dp, some (env :: outer), gd, un⟩ (call (.ref 112) [.str x t, .ref S]) Q E s := by
  refine enter (fd := fdAt 17 "_law_step" .none (vS "law_mr0151_01" 421) 111) rfl hf hke F N O (G.X 112 o112 rfl) rfl G.T.nolimit ⟨111, _, _, _, rfl, G.X 111 (o111 _) rfl, rfl, rfl⟩ (by show dp < recursionLimit; omega) rfl (BindsTo.of_eq rfl) (by decide +kernel) (locs rfl) (fun g h₁ oL st F₁ N₁ O₁ bk lt kp => ?_) rfl rfl rfl
  refine step_body (s := { s with heap := h₁, toks := _ }) (Ls := Ls) (t2 := t2) (vs := vs) hi hx hi2 (by show dp + 1 + 3 < recursionLimit; omega) hvs F₁ (G.keeps st) (Z.keeps st) (fun p hp => ?_) O₁ (hT.mono fun p hp => .tail _ hp) (fun hle h' tk m' fs' F' N' tt => ?_) (fun j kd tx hst S' new h' tk m' fs' F' N' tt => ?_) fun txt hu kd h' tk m' e new fs' F' x' => ?_
  · rcases List.mem_cons.mp hp with rfl | hp
    · exact N₁ _ (.tail _ hS)
    · rcases List.mem_cons.mp hp with rfl | hp
      · exact N₁ _ (.tail _ hL)
      · exact N₁ p hp
  · obtain ⟨oL', led', rfl, hoL, t1, F2, N2⟩ := bk _ _ h' m' [] fs' F' N' tt (fun p hp => nomatch hp)
    exact stay hle h' tk led' F2 N2 t1
  · obtain ⟨oL', led', rfl, hoL, t1, F2, N2⟩ := bk _ _ h' m' new fs' F' N'.news tt N'.apart
    exact ret j kd tx hst S' new h' tk led' F2 ⟨N2, N'.st, fun p hp q hq => N'.apart p hp q (.tail _ hq), N'.fixed⟩ t1
  · refine thrown_leaves (s := { s with heap := h', toks := tk }) rfl rfl isFn F' O₁ x' fun h2 fs2 F2 x2 => ?_
    obtain ⟨led2, F3, x3⟩ := thrown_back st bk F2 x2
    exact thr txt hu h2 tk e new led2 F3 x3
end Mine
/-! La -/
namespace Mine
open PySem PySem.W PySem.Calls PySem.Spec PyProof.Rows
set_option Elab.async false
set_option maxRecDepth 100000
set_option maxHeartbeats 4000000
set_option linter.unusedVariables false
theorem fillLa : (PySem.Challenge.rw_mr0151_01, KK) = (PySem.Challenge.rw_mr0151_01, KK) := by k_fill; rfl
def lamX : Expr := match bodyOf (stAt 18) with
  | [.Try [.Return (some (.Subscript (.Call _ (l :: _) _ _) _ _)) _] _ _ _ _] => l
  | _ => .Constant .none 0 default
def lamParams : Arguments := match lamX with | .Lambda p _ _ _ => p | _ => paramsOf (stAt 18)
def lamBody : Expr := match lamX with | .Lambda _ b _ _ => b | _ => lamX
def lamScope : Scope := match lamX with | .Lambda _ _ s _ => s | _ => scopeOf (stAt 18)
def lamPos : Pos := match lamX with | .Lambda _ _ _ p => p | _ => default
section
variable {prog : Program} {w : World} {A : Around} {E : Value → Shared → Prop} {s : Shared} {h₀ : Heap} {L : Addr} {m : Str → Option Value} {led : Led} {outer : List Env} {env : Env} {Q : Value → Shared → Prop}
theorem enterE {f c' : Addr} {name qual : Str} {params : Arguments} {body : Expr} {scope : Scope} {cl : List (Str × Addr)} {pm ctv : Value} {pos : List Value} {kw : List (Str × Value)} {binds : List (Str × Value)} (hA : A.frames = some (env :: outer)) (hf : env.frame = some L) (hke : env.scope.kind ≠ .module)
    (F : Fr h₀ L s.heap m) (N : News h₀ L s.heap led) (O : FrsIn outer led) (ho : (f, kla_obj name qual params body scope cl pm c' ctv) ∈ led) (hlim : h₀.NoLimit) (hcd : s.heap.CodeRec (.ref c') qual) (hroom : A.depth < recursionLimit)
    (hbind : bindArgs (kla_fn name qual params body scope cl pm (.ref c') ctv) ⟨pos, kw⟩ = Pure.pure binds) (hcell : ∀ x ∈ scope.names, x.2 ≠ .cell) (hloc : ∀ x ∈ binds, scope.names.lookup x.1 = some .local)
    (h : ∀ g h₁ oL, (∀ b o, h₀.get? b = some o → g.get? b = some o) → Fr g s.heap.objs.size h₁ (fun x => binds.reverse.lookup x) → News g s.heap.objs.size h₁ ((L, oL) :: led) → FrsIn (env :: outer) ((L, oL) :: led) →
      Back h₀ L m led g ((L, oL) :: led) →
      wpAny (model prog w) (A.deeper (envX qual scope s.heap.objs.size f (.ref c') cl)) (eval body (envX qual scope s.heap.objs.size f (.ref c') cl)) Q
        (fun e s' => wpAny (model prog w) (A.deeper (envX qual scope s.heap.objs.size f (.ref c') cl)) (leaving (envX qual scope s.heap.objs.size f (.ref c') cl) e) (fun _ s'' => E e s'') (fun e' s'' => E e' s'') s')
        { s with heap := h₁, toks := s.toks + binds.length })
    (hco : scope.isCoroutine = false) (hgen : scope.isGenerator = false) (hk : scope.kind = .function) : wpAny (model prog w) A (call (.ref f) pos kw) Q E s := by
  obtain ⟨oL, st, hL, O', bk, x⟩ := hide_facts hf hke F N O
  refine wpAny_call (kla_callFunE hroom (N _ ho).1 rfl hco hgen rfl hcd ?_)
  rw [hbind]
  refine wpAny_pure (wpAny_newFunctionEnv hcell hloc (fun h₁ hns hsb => ⟨(hlim.keeps F.keep).fresh _ hsb, ?_⟩) hk)
  show codeAny _ _ (.expr body (envX qual scope s.heap.objs.size f (.ref c') cl)) _ _
  have hk₁ : ∀ b o, s.heap.get? b = some o → h₁.get? b = some o := fun b o e => hsb.extBut b o (Nat.ne_of_lt (Heap.lt_size e)) (Heap.get?_push_of_some _ e)
  exact kla_codeExpr (h _ h₁ oL st ⟨hns, fun b o e => hk₁ b o (of_hideAll _ e), Nat.le_of_eq (hideAll_size _ _)⟩ (fun p hp => ⟨hk₁ _ _ (x p hp).2.1, Nat.ne_of_lt (x p hp).1, (x p hp).2.2⟩) O' bk)
end
abbrev qLam : Str := Str.ofString "_law_read.<locals>.<lambda>"
abbrev lamObj (c c' : Addr) (pm ctv : Value) : Obj := kla_obj "<lambda>" qLam lamParams lamBody lamScope [(Str.ofString "src", c)] pm c' ctv
abbrev envLa (L f c c' : Addr) : Env := envX qLam lamScope L f (.ref c') [(Str.ofString "src", c)]
abbrev locLa (S : Addr) (v : Value) : Str → Option Value := fun z => [(Str.ofString "sign", v), (Str.ofString "state", Value.ref S)].lookup z
theorem lam_body {w : World} {s : Shared} {dp un : Nat} {gd : Option (List Code)} {outer : List Env} {E : Value → Shared → Prop} {h₀ : Heap} {L : Addr} {mg mb : Str → Option Value} {mean : ExcName → Option Value} {loose : List Str} {fs : Led} {Q : Value → Shared → Prop}
   {x : Str} {S Ls f c c' : Addr} {v : Value} {dC : Value} {dd : Option Addr} {sl : Array (Option Value)} {vs : List Value} {i : Int} {t t2 : Tok} (hi : 0 ≤ i) (hx : x.length ≤ 1048576) (hi2 : i ≤ x.length + 1) (hdp : dp + 4 < recursionLimit) (hvs : vs.length ≤ 1048576)
   (F : Fr h₀ L s.heap (locLa S v)) (G : Gd w loose mean mg mb h₀) (Z : FzOf prog w h₀ 36) (N : News h₀ L s.heap ((c, ⟨dC, dd, .cell (some (.str x t)), sl⟩) :: fs)) (O : FrsIn outer fs) (hT : TabOk 79 qCr (posOf stCr) fs)
   (hS : (S, tupObj #[.int i t2, .ref Ls]) ∈ fs) (hL : (Ls, listOf vs.toArray 0) ∈ fs)
   (stay : x.length ≤ i → ∀ h' tk fs', Fr h₀ L h' (locLa S v) → News h₀ L h' fs' → Turns fs fs' → Q (.ref S) { s with heap := h', toks := tk })
   (ret : ∀ j kd tx, StepTo x.cps.toList i.toNat j kd tx → ∀ S' new h' tk fs', Fr h₀ L h' (locLa S v) → NewSt h₀ L fs' h' vs j kd tx S' new → Turns fs fs' → Q (.ref S') { s with heap := h', toks := tk })
   (thr : ∀ txt, StepErr x i.toNat txt → ∀ h' tk e new fs', Fr h₀ L h' (locLa S v) → Thrown .off h₀ L fs txt h' e new fs' → E (.ref e) { s with heap := h', toks := tk })
   : wpAny (model prog w) ⟨none, dp, some (envLa L f c c' :: outer), gd, un⟩ (eval lamBody (envLa L f c c')) Q E s := by
  w_on
  have X := G.X
  have T := G.T
  delta envLa
  conv in (lamBody) => whnf
  walk1
  refine nameX_K (v := .ref 112) F X (topRead_of T) (by kernel_rfl) ?_
  walk1
  walk1
  refine nameX_F N rfl (.head _) rfl ?_
  walk1
  refine nameX_L F rfl ?_
  walk1
  refine ⟨X.keeps F.keep, ?_⟩
  exact step_call rfl isFn F G Z (fun p hp => N p (.tail _ hp)) O hT hdp hS hL hi hx hi2 hvs stay ret thr
theorem lam_call {w : World} {s : Shared} {dp un : Nat} {gd : Option (List Code)} {env : Env} {outer : List Env} {E : Value → Shared → Prop} {h₀ : Heap} {L : Addr} {m mg mb : Str → Option Value} {mean : ExcName → Option Value} {loose : List Str} {led : Led} {Q : Value → Shared → Prop}
   {x : Str} {S Ls f c c' : Addr} {v pm ctv dC : Value} {dd : Option Addr} {sl : Array (Option Value)} {oc : Obj} {cvs : Array Value} {vs : List Value} {i : Int} {t t2 tq : Tok} (hf : env.frame = some L) (hke : env.scope.kind ≠ .module) (F : Fr h₀ L s.heap m) (G : Gd w loose mean mg mb h₀) (Z : FzOf prog w h₀ 36) (N : News h₀ L s.heap led) (O : FrsIn outer led) (hT : TabOk 79 qCr (posOf stCr) led) (hdp : dp + 5 < recursionLimit)
   (ho : (f, lamObj c c' pm ctv) ∈ led) (hc : (c, ⟨dC, dd, .cell (some (.str x t)), sl⟩) ∈ led) (hcd : (c', oc) ∈ led) (hcd1 : oc.data = .fields cvs) (hcd2 : cvs[1]? = some (.str qLam tq))
   (hS : (S, tupObj #[.int i t2, .ref Ls]) ∈ led) (hL : (Ls, listOf vs.toArray 0) ∈ led)
   (hi : 0 ≤ i) (hx : x.length ≤ 1048576) (hi2 : i ≤ x.length + 1) (hvs : vs.length ≤ 1048576)
   (stay : x.length ≤ i → ∀ h' tk led', Fr h₀ L h' m → News h₀ L h' led' → Turns led led' → Q (.ref S) { s with heap := h', toks := tk })
   (ret : ∀ j kd tx, StepTo x.cps.toList i.toNat j kd tx → ∀ S' new h' tk led', Fr h₀ L h' m → NewSt h₀ L led' h' vs j kd tx S' new → Turns led led' → Q (.ref S') { s with heap := h', toks := tk })
   (thr : ∀ txt, StepErr x i.toNat txt → ∀ h' tk e new led', Fr h₀ L h' m → Thrown .off h₀ L led txt h' e new led' → E (.ref e) { s with heap := h', toks := tk })
   : wpAny (model prog w) ⟨none, dp, some (env :: outer), gd, un⟩ (call (.ref f) [.ref S, v]) Q E s := by
  refine enterE (binds := [(Str.ofString "state", .ref S), (Str.ofString "sign", v)]) rfl hf hke F N O ho G.T.nolimit ⟨c', oc, cvs, tq, rfl, (N _ hcd).1, hcd1, hcd2⟩ (by show dp < recursionLimit; omega) (by rfl) (by decide +kernel) (locs rfl) (fun g h₁ oL st F₁ N₁ O₁ bk => ?_) rfl rfl rfl
  refine lam_body (s := { s with heap := h₁, toks := _ }) (Ls := Ls) (t2 := t2) (vs := vs) (x := x) (t := t) (dC := dC) (dd := dd) (sl := sl) hi hx hi2 (by show dp + 1 + 4 < recursionLimit; omega) hvs F₁ (G.keeps st) (Z.keeps st) (fun p hp => ?_) O₁ (hT.mono fun p hp => .tail _ hp) (.tail _ hS) (.tail _ hL) (fun hle h' tk fs' F' N' tt => ?_) (fun j kd tx hst S' new h' tk fs' F' N' tt => ?_) fun txt hu h' tk e new fs' F' x' => ?_
  · rcases List.mem_cons.mp hp with rfl | hp
    · exact N₁ _ (.tail _ hc)
    · exact N₁ p hp
  · obtain ⟨oL', led', rfl, hoL, t1, F2, N2⟩ := bk _ _ h' _ [] fs' F' N' tt (fun p hp => nomatch hp)
    exact stay hle h' tk led' F2 N2 t1
  · obtain ⟨oL', led', rfl, hoL, t1, F2, N2⟩ := bk _ _ h' _ new fs' F' N'.news tt N'.apart
    exact ret j kd tx hst S' new h' tk led' F2 ⟨N2, N'.st, fun p hp q hq => N'.apart p hp q (.tail _ hq), N'.fixed⟩ t1
  · refine thrown_leaves (s := { s with heap := h', toks := tk }) rfl rfl isFn F' O₁ x' fun h2 fs2 F2 x2 => ?_
    obtain ⟨led2, F3, x3⟩ := thrown_back st bk F2 x2
    exact thr txt hu h2 tk e new led2 F3 x3
end Mine
/-! Re -/
namespace Mine
open PySem PySem.W PySem.Calls PySem.Spec PyProof.Rows
set_option Elab.async false
set_option maxRecDepth 100000
set_option maxHeartbeats 4000000
set_option linter.unusedVariables false
theorem fillRe : (PySem.Challenge.rw_mr0151_01, KK) = (PySem.Challenge.rw_mr0151_01, KK) := by k_fill; rfl
abbrev strIt (x : Str) (t : Tok) (i : Nat) : Obj := { cls := .type (strIterType x), data := .fields #[.str x t, .int i 0] }
section
variable {w : World} {A : Around} {E : Value → Shared → Prop} {s : Shared} {x : Str} {t : Tok}
theorem iter_str {Q : Value → Shared → Prop} (h : Q (.ref s.heap.objs.size) { s with heap := s.heap.push (strIt x t 0) }) :
    wpAny (model prog w) A (call (.builtin "iter") [.str x t]) Q E s := by
  refine Calls.call_function_entry (by decide +kernel) (by decide +kernel) kdk_entry_iter (kdk_args_iter _) ?_
  unfold Builtin.«iter»
  refine wpAny_bind (m := someArgs "iter" 1 2 _) (wpAny_pure ?_)
  dsimp only
  exact wpAny_bind (wpAny_pyIter_strU (wpAny_pure ⟨_, rfl, h⟩))
theorem is_ref {a b : Addr} {oa ob : Obj} {Q : Value → Shared → Prop} (hne : a ≠ b) (ha : s.heap.get? a = some oa) (hb : s.heap.get? b = some ob) (hc : ob.cls = .type "object") (h : Q (.bool false) s) : wpAny (model prog w) A (compareOp .Is (.ref a) (.ref b)) Q E s := by
  show wpAny _ _ (do return .bool (← isSame (.ref a) (.ref b))) Q E s
  refine wpAny_bind ?_
  unfold isSame
  dsimp only
  rw [if_neg (by simpa using hne)]
  refine wpAny_bind (wpAny_load ha (wpAny_bind (wpAny_load hb ?_)))
  rw [hc]
  split
  · rename_i h1 h2 _ _
    injection h2 with h2
    exact absurd h2 (by decide)
  · exact wpAny_pure (wpAny_pure h)
def ItOf (x : Str) (t : Tok) (k : Nat) (o : Obj) : Prop := o.cls = .type (strIterType x) ∧ o.data = .fields #[.str x t, .int k 0]
theorem ItOf.fixed {k : Nat} {o : Obj} (h : ItOf x t k o) : Fixed o := ⟨fun es n q => (by rw [h.2] at q; cases q), fun ⟨ps, q, _⟩ => (by have := congrArg Obj.cls q; rw [h.1] at this; cases this)⟩
theorem isIt {I : Addr} {k : Nat} {o : Obj} {h : Heap} (hI : h.get? I = some o) (ho : ItOf x t k o) : h.IsStrIter I (strIterType x) x t k := ⟨_, hI, ho.1, ho.2⟩
theorem it_self {I : Addr} {k : Nat} {o : Obj} {Q : Value → Shared → Prop} (hI : s.heap.get? I = some o) (ho : ItOf x t k o) (h : Q (.ref I) s) : wpAny (model prog w) A (pyIter (.ref I)) Q E s := by
  have hi := isIt hI ho
  unfold strIterType at hi
  split at hi
  · exact wpAny_pyIter_striter_ascii hi h
  · exact wpAny_pyIter_striter_wide hi h
theorem next_item {I : Addr} {k c : Nat} {o : Obj} {Q : Option Value → Shared → Prop} (hI : s.heap.get? I = some o) (ho : ItOf x t k o) (hx : x.cps[k]? = some c)
    (h : ∀ h' o', h'.get? I = some o' → ItOf x t (k + 1) o' → Heap.SameBut I s.heap h' → Q (some (.str ⟨#[c]⟩ s.toks)) { s with heap := h', toks := s.toks + 1 }) : wpAny (model prog w) A (pyNext (.ref I)) Q E s := by
  have hi := isIt hI ho
  have e : strIterType x = if x.cps.all (· < 128) then "str_ascii_iterator" else "str_iterator" := rfl
  by_cases ha : x.cps.all (· < 128) = true
  · rw [e, if_pos ha] at hi
    exact wpAny_pyNext_ascii_item hi hx fun h' ⟨o', h1, h2, h3⟩ h4 => h h' o' h1 ⟨by rw [e, if_pos ha]; exact h2, h3⟩ h4
  · rw [e, if_neg ha] at hi
    exact wpAny_pyNext_wide_item hi hx fun h' ⟨o', h1, h2, h3⟩ h4 => h h' o' h1 ⟨by rw [e, if_neg ha]; exact h2, h3⟩ h4
theorem next_end {I : Addr} {k : Nat} {o : Obj} {Q : Option Value → Shared → Prop} (hh : A.handled = none) (hI : s.heap.get? I = some o) (ho : ItOf x t k o) (hx : x.cps[k]? = none)
    (h : ∀ h', Heap.ExtBut I s.heap h' → Q none { s with heap := h' }) : wpAny (model prog w) A (pyNext (.ref I)) Q E s := by
  have hi := isIt hI ho
  unfold strIterType at hi
  split at hi
  · exact wpAny_pyNext_ascii_end hh hi hx h
  · exact wpAny_pyNext_wide_end hh hi hx h
end
/-- the reader's states, one a sign -/
inductive ReadTo (l : List Nat) : Nat → Nat → List (Str × Str) → Prop
  | zero : ReadTo l 0 0 []
  | stay {n i : Nat} {ps : List (Str × Str)} : ReadTo l n i ps → l.length ≤ i → ReadTo l (n + 1) i ps
  | step {n i j : Nat} {ps : List (Str × Str)} {kd tx : Str} : ReadTo l n i ps → StepTo l i j kd tx → ReadTo l (n + 1) j (ps ++ [(kd, tx)])
theorem StepTo.bounds {l : List Nat} {i j : Nat} {kd tx : Str} (h : StepTo l i j kd tx) : i < l.length ∧ j ≤ l.length + 1 := by
  rcases h with ⟨h1, k, h2, h3, _, rfl, _⟩ | ⟨h1, k, h2, h3, _, rfl, _⟩ | ⟨a, h1, _, _, rfl, _⟩
  · exact ⟨(List.getElem?_eq_some_iff.mp h1).1, by omega⟩
  · have := (List.getElem?_eq_some_iff.mp h3).1
    exact ⟨(List.getElem?_eq_some_iff.mp h1).1, by omega⟩
  · have := (List.getElem?_eq_some_iff.mp h1).1
    have h2 := runOf_le wsL (l.drop i)
    rw [List.length_drop] at h2
    exact ⟨this, by omega⟩
theorem ReadTo.bounds {l : List Nat} {n i : Nat} {ps : List (Str × Str)} (h : ReadTo l n i ps) : i ≤ l.length + 1 ∧ ps.length ≤ n := by
  induction h with
  | zero => simp
  | stay _ _ ih => exact ⟨ih.1, by omega⟩
  | step _ hs ih => exact ⟨hs.bounds.2, by simp; omega⟩
/-- the list's items are the pieces -/
def Pcs (led : Led) : List Value → List (Str × Str) → Prop
  | [], [] => True
  | v :: vs, p :: ps => (∃ a tk tt, v = .ref a ∧ (a, tupObj #[.str p.1 tk, .str p.2 tt]) ∈ led) ∧ Pcs led vs ps
  | _, _ => False
theorem Pcs.len {led : Led} : ∀ {vs : List Value} {ps : List (Str × Str)}, Pcs led vs ps → vs.length = ps.length
  | [], [], _ => rfl
  | _ :: _, _ :: _, h => congrArg (· + 1) (Pcs.len h.2)
  | [], _ :: _, h => h.elim
  | _ :: _, [], h => h.elim
theorem Pcs.imp {led led' : Led} (k : ∀ a tk tt (p : Str × Str), (a, tupObj #[.str p.1 tk, .str p.2 tt]) ∈ led → (a, tupObj #[.str p.1 tk, .str p.2 tt]) ∈ led') : ∀ {vs : List Value} {ps : List (Str × Str)}, Pcs led vs ps → Pcs led' vs ps
  | [], [], _ => trivial
  | _ :: _, _ :: _, ⟨⟨a, tk, tt, e, h⟩, r⟩ => ⟨⟨a, tk, tt, e, k _ _ _ _ h⟩, r.imp k⟩
  | [], _ :: _, h => h.elim
  | _ :: _, [], h => h.elim
theorem Pcs.mono {led led' : Led} {vs : List Value} {ps : List (Str × Str)} (h : Pcs led vs ps) (k : ∀ p ∈ led, p ∈ led') : Pcs led' vs ps := h.imp fun _ _ _ _ h => k _ h
theorem Pcs.turns {tb : List Addr} {led led' : Led} {vs : List Value} {ps : List (Str × Str)} (h : Pcs led vs ps) (t : TurnsB tb led led') : Pcs led' vs ps := h.imp fun _ _ _ _ h => t.keepsIn h fixed_seq
theorem Pcs.snoc {led : Led} {v : Value} {p : Str × Str} : ∀ {vs : List Value} {ps : List (Str × Str)}, Pcs led vs ps → (∃ a tk tt, v = .ref a ∧ (a, tupObj #[.str p.1 tk, .str p.2 tt]) ∈ led) → Pcs led (vs ++ [v]) (ps ++ [p])
  | [], [], _, hv => ⟨hv, trivial⟩
  | _ :: _, _ :: _, h, hv => ⟨h.1, h.2.snoc hv⟩
  | [], _ :: _, h, _ => h.elim
  | _ :: _, [], h, _ => h.elim
section
variable {w : World} {A : Around} {E : Value → Shared → Prop} {s : Shared} {h₀ : Heap} {L e : Addr} {m : Str → Option Value} {led led' new : Led} {outer : List Env} {env : Env} {txt : Str} {k : Kd}
theorem Thrown.widen {h : Heap} {ext : Led} (x : Thrown k h₀ L (ext ++ led) txt h e new (ext ++ led')) (t : TurnsB [79] led led') (fx : ∀ p ∈ ext, Fixed p.2) (ap : ∀ p ∈ ext, ∀ q ∈ led', q.1 ≠ p.1) : Thrown k h₀ L led txt h e (new ++ ext) led' := by
  obtain ⟨tu, te, hm, hu⟩ := x.up
  have e : new ++ ext ++ led' = new ++ (ext ++ led') := List.append_assoc ..
  refine ⟨by rw [e]; exact x.news, t, by rw [e]; exact x.tab, ⟨tu, te, List.mem_append_left _ hm, by rw [e]; exact hu⟩, fun p hp q hq => ?_, fun p hp => ?_⟩
  · rcases List.mem_append.mp hp with hp | hp
    · exact x.apart p hp q (List.mem_append_right _ hq)
    · exact ap p hp q hq
  · rcases List.mem_append.mp hp with hp | hp
    · exact x.fixed p hp
    · exact fx p hp
/-- through a loop of the frame's -/
theorem thrown_off_noted {A' : Around} {E' : Value → Shared → Prop} (hfr : A.frames = some (env :: outer)) (hf : env.frame = some L) (hke : env.scope.kind ≠ .module) (F : Fr h₀ L s.heap m) (O : FrsIn outer led) (x : Thrown .off h₀ L led txt s.heap e new led')
    (h : ∀ h' led'', Fr h₀ L h' m → Thrown .here h₀ L led txt h' e new led'' → E' (.ref e) { s with heap := h' }) : notedBy (model prog w) A env (fun e' s' => cameBackBy (model prog w) A' env E' e' s') (.ref e) s := by
  obtain ⟨tu, te, hm, hu⟩ := x.up
  unfold notedBy
  refine note_next hfr hf hke F x.news (x.frs O) hu fun h' r t F' N' B => ?_
  obtain ⟨new', led'', rfl, t1, t2⟩ := t.split
  obtain rfl := t1.all x.fixed
  refine fly_came_back (s := { s with heap := h' }) hf F' N' B fun h₂ F₂ N₂ B₂ => ?_
  refine h h₂ led'' F₂ ⟨N₂, x.turns.trans (t2.up fun _ h => nomatch h), x.tab.turns t (by simp), ⟨tu, te, hm, B₂⟩, fun p hp q hq => ?_, x.fixed⟩
  obtain ⟨q', hq', e1, _⟩ := t2.back hq
  rw [e1]; exact x.apart p hp q' hq'
end
theorem for_ {w : World} {A : Around} {s : Shared} {R : Result → Shared → Prop} {x : Str} {px : Pos} {it : Value} {body : List Stmt} {env : Env} (I : Nat → Shared → Prop)
    (turn : ∀ n s, I n s → wpAny (model prog w) A (pyNext it) (fun r s₁ => match r with
      | none => R (.ok .next) s₁
      | some v => wpAny (model prog w) A (storeName env x v) (fun _ s₂ => wpAny (model prog w) A (execs body env) (fun f s₃ => match f with
          | .next => Again I n s₃
          | .cont => Again I n s₃
          | .brk => R (.ok .next) s₃
          | .ret v => R (.ok (.ret v)) s₃) (notedBy (model prog w) A env fun e s' => R (.error e) s') s₂) (notedBy (model prog w) A env fun e s' => R (.error e) s') s₁) (notedBy (model prog w) A env fun e s' => R (.error e) s') s)
    (n : Nat) (h : I n s) : codeAny (model prog w) A (.forLoop (.Name x px) it body [] env) R s :=
  codeAny_forLoop I (fun n s hI => wpAny_mono (turn n s hI) (fun r s₁ h₁ => by
    cases r with
    | none => exact wpAny_execs_nil h₁
    | some v => exact wpAny_assign_Name (wpAny_mono h₁ (fun _ s₂ h₂ => wpAny_mono h₂ (fun f s₃ h₃ => by cases f <;> exact h₃) fun _ _ x => x) fun _ _ x => x)) fun _ _ x => x) n h
abbrev env93 (L : Addr) : Env := envOf (Str.ofString "reduce") (scopeOf (stAt 13)) L 93 (.ref 92)
abbrev loc93 (x : Str) (f S : Addr) (t : Tok) : Str → Option Value := fun z => [(Str.ofString "initial", Value.ref S), (Str.ofString "sequence", Value.str x t), (Str.ofString "function", Value.ref f)].lookup z
abbrev it93 (x : Str) (f S I : Addr) (t : Tok) : Str → Option Value := fun z => if z = Str.ofString "it" then some (Value.ref I) else loc93 x f S t z
abbrev in93 (x : Str) (f S I S' : Addr) (ev : Option Value) (t : Tok) : Str → Option Value := fun z => if z = Str.ofString "value" then some (Value.ref S') else if z = Str.ofString "element" then ev else it93 x f S I t z
theorem in93_first {x : Str} {f S I : Addr} {t : Tok} : (fun z => if z = Str.ofString "value" then some (Value.ref S) else it93 x f S I t z) = in93 x f S I S none t := by
  funext z
  by_cases h : z = Str.ofString "value"
  · simp [h]
  · by_cases h2 : z = Str.ofString "element"
    · subst h2; rfl
    · simp only [in93, if_neg h, if_neg h2]
theorem in93_next {x : Str} {f S I S' S'' : Addr} {ev : Option Value} {v : Value} {t : Tok} : (fun z => if z = Str.ofString "value" then some (Value.ref S'') else (fun z => if z = Str.ofString "element" then some v else in93 x f S I S' ev t z) z) = in93 x f S I S'' (some v) t := by
  funext z
  by_cases h : z = Str.ofString "value"
  · simp [h]
  · by_cases h2 : z = Str.ofString "element"
    · subst h2; rfl
    · simp only [in93, if_neg h, if_neg h2]
/-- the state in the loop -/
structure InRe (h₀ : Heap) (L : Addr) (fs : Led) (s : Shared) (x : Str) (f S₀ I : Addr) (t : Tok) (nn : Nat) (s' : Shared) : Prop where
  st : ∃ k i ps S Ls vs tS ev h' tk new fs' oI, ItOf x t k oI ∧ s' = { s with heap := h', toks := tk } ∧ Fr h₀ L h' (in93 x f S₀ I S ev t) ∧ News h₀ L h' ((I, oI) :: (new ++ fs')) ∧ Turns fs fs' ∧ (∀ p ∈ new ++ fs', p.1 ≠ I) ∧
    (∀ p ∈ new, ∀ q ∈ fs', q.1 ≠ p.1) ∧ (∀ p ∈ new, Fixed p.2) ∧ (S, tupObj #[.int (i : Nat) tS, .ref Ls]) ∈ new ++ fs' ∧ (Ls, listOf vs.toArray 0) ∈ new ++ fs' ∧ Pcs (new ++ fs') vs ps ∧ ReadTo x.cps.toList k i ps ∧ k ≤ x.cps.size ∧ nn = x.cps.size + 1 - k
theorem reduce_body {w : World} {s : Shared} {dp un : Nat} {gd : Option (List Code)} {outer : List Env} {E : Value → Shared → Prop} {h₀ : Heap} {L : Addr} {mg mb : Str → Option Value} {mean : ExcName → Option Value} {loose : List Str} {fs : Led} {Q : Flow → Shared → Prop}
   {x : Str} {S Ls f c c' : Addr} {pm ctv dC : Value} {dd : Option Addr} {sl : Array (Option Value)} {oc : Obj} {cvs : Array Value} {t t1 t2 tq : Tok} (hx : x.length ≤ 1048576) (hdp : dp + 5 < recursionLimit)
   (F : Fr h₀ L s.heap (loc93 x f S t)) (G : Gd w loose mean mg mb h₀) (Z : FzOf prog w h₀ 36) (N : News h₀ L s.heap fs) (O : FrsIn outer fs) (hT : TabOk 79 qCr (posOf stCr) fs)
   (ho : (f, lamObj c c' pm ctv) ∈ fs) (hc : (c, ⟨dC, dd, .cell (some (.str x t1)), sl⟩) ∈ fs) (hcd : (c', oc) ∈ fs) (hcd1 : oc.data = .fields cvs) (hcd2 : cvs[1]? = some (.str qLam tq))
   (hS : (S, tupObj #[.int (0 : Nat) t2, .ref Ls]) ∈ fs) (hL : (Ls, listOf (([] : List Value)).toArray 0) ∈ fs)
   (ret : ∀ i ps, ReadTo x.cps.toList x.length i ps → ∀ S' Ls' vs tS new h' tk m' fs', Fr h₀ L h' m' → News h₀ L h' (new ++ fs') → Turns fs fs' → (∀ p ∈ new, ∀ q ∈ fs', q.1 ≠ p.1) → (∀ p ∈ new, Fixed p.2) →
     (S', tupObj #[.int (i : Nat) tS, .ref Ls']) ∈ new ++ fs' → (Ls', listOf vs.toArray 0) ∈ new ++ fs' → Pcs (new ++ fs') vs ps → Q (.ret (.ref S')) { s with heap := h', toks := tk })
   (thr : ∀ n i ps txt, ReadTo x.cps.toList n i ps → n < x.length → StepErr x i txt → ∀ kd h' tk m' e new fs', Fr h₀ L h' m' → Thrown kd h₀ L fs txt h' e new fs' → E (.ref e) { s with heap := h', toks := tk })
   : wpAny (model prog w) ⟨none, dp, some (env93 L :: outer), gd, un⟩ (execs (bodyOf (stAt 13)) (env93 L)) Q E s := by
  w_on
  have X := G.X
  have T := G.T
  delta env93
  conv in (bodyOf _) => whnf
  k_steps
  refine iter_str ?_
  have hI0 := (N _ hS).2.2
  have F1 := F.push (strIt x t 0)
  have N1 := N.push F (strIt x t 0)
  have hIa : ∀ p ∈ fs, p.1 ≠ s.heap.objs.size := fun p hp => Nat.ne_of_lt (Heap.lt_size (N p hp).1)
  clear F N
  generalize s.heap.objs.size = I at *
  k_steps
  rename Fr _ _ _ _ => F2
  rename News _ _ _ _ => N2
  refine is_ref (fun q => ?_) (N2 _ (.tail _ hS)).1 (F2.keep _ _ (X 85 _ rfl)) rfl ?_
  · have h85 := X 85 _ rfl
    rw [q, h85] at hI0; cases hI0
  k_steps
  rename Fr _ _ _ _ => F3
  rename News _ _ _ _ => N3
  have F4 : Fr h₀ L _ (in93 x f S I S none t) := in93_first ▸ F3
  refine wpAny_For (nameX_L F4 rfl (it_self (N3 _ (.head _)).1 ⟨rfl, rfl⟩ ?_))
  refine for_ (InRe h₀ L fs s x f S I t) ?_ (x.cps.size + 1) ⟨0, 0, [], S, Ls, [], t2, none, _, _, [], fs, _, ⟨rfl, rfl⟩, rfl, F4, N3, .refl _, hIa, fun p hp => (nomatch hp), fun p hp => (nomatch hp), hS, hL, trivial, .zero, Nat.zero_le _, by omega⟩
  clear F3 N3 F4
  rintro nn s' ⟨k, i, ps, S', Ls', vs, tS, ev, h', tk, new, fs', oI, hoI, rfl, F5, N5, tt, hIn, hap, hfx, hS', hL', hP, hR, hk, rfl⟩
  have hI5 := N5 _ (.head _)
  have hb := hR.bounds
  rw [← len_list] at hb
  have hlen : x.length = x.cps.size := rfl
  cases hcx : x.cps[k]? with
  | none =>
    have hkx : k = x.length := Nat.le_antisymm hk (by rw [hlen]; simpa using hcx)
    refine next_end rfl hI5.1 hoI hcx fun h6 hx6 => ?_
    have F6 : Fr h₀ L h6 (in93 x f S I S' ev t) := ⟨F5.ns.extBut hx6 (Ne.symm hI5.2.1), fun b o e => hx6 b o (fun q => by rw [q, hI5.2.2] at e; cases e) (F5.keep b o e), F5.above⟩
    have N6 : News h₀ L h6 (new ++ fs') := fun p hp => ⟨hx6 _ _ (hIn p hp) (N5 p (.tail _ hp)).1, (N5 p (.tail _ hp)).2⟩
    clear F5 N5
    k_steps
    rw [hkx] at hR
    exact ret i ps hR _ _ _ _ _ _ _ _ _ F6 N6 tt hap hfx hS' hL' hP
  | some cc =>
    have hkx : k < x.cps.size := (Array.getElem?_eq_some_iff.mp hcx).1
    refine next_item hI5.1 hoI hcx fun h6 o6 hI6 ho6 hs6 => ?_
    have N6 : News h₀ L h6 ((I, o6) :: (new ++ fs')) := fun p hp => by
      rcases List.mem_cons.mp hp with rfl | hp
      · exact ⟨hI6, hI5.2⟩
      · exact ⟨(hs6.2 _ (hIn p hp)).trans (N5 p (.tail _ hp)).1, (N5 p (.tail _ hp)).2⟩
    have F6 : Fr h₀ L h6 (in93 x f S I S' ev t) := ⟨F5.ns.sameBut hs6 (Ne.symm hI5.2.1), fun b o e => (hs6.2 b (fun q => by rw [q, hI5.2.2] at e; cases e)).trans (F5.keep b o e), F5.above⟩
    clear F5 N5
    k_steps
    rename Fr _ _ _ _ => F7
    rename News _ _ _ _ => N7
    have memL : ∀ p ∈ fs', p ∈ (I, o6) :: (new ++ fs') := fun p hp => .tail _ (List.mem_append_right _ hp)
    have memN : ∀ p ∈ new ++ fs', p ∈ (I, o6) :: (new ++ fs') := fun p hp => .tail _ hp
    have ho7 := memL _ (tt.keepsIn ho fixed_func)
    refine callWith_F (FnAt.of N7 ho7) ?_
    k_steps
    have O7 : FrsIn outer ((I, o6) :: (new ++ fs')) := (O.turns tt).mono memL
    have hT7 : TabOk 79 qCr (posOf stCr) ((I, o6) :: (new ++ fs')) := (hT.turns tt (by simp)).mono memL
    refine lam_call rfl isFn F7 G Z N7 O7 hT7 hdp ho7 (memL _ (tt.keepsIn hc fixed_cell)) (memL _ (tt.keepsIn hcd (fixed_code hcd1 hcd2))) hcd1 hcd2 (memN _ hS') (memN _ hL') (by omega) hx (by omega) (by have := hP.len; omega) (fun hle h8 tk8 led8 F8 N8 t8 => ?_) (fun j kd tx hst S8 new8 h8 tk8 led8 F8 N8 t8 => ?_) fun txt hu h8 tk8 e8 new8 led8 F8 x8 => ?_
    · obtain ⟨r8, rfl, ta⟩ := t8.head ho6.fixed
      obtain ⟨new8, fs8, rfl, tn, tf⟩ := ta.split
      obtain rfl := tn.all hfx
      clear F7 N7
      k_steps
      rename Fr _ _ _ _ => F9
      rename News _ _ _ _ => N9
      have F10 : Fr h₀ L _ (in93 x f S I S' (some _) t) := in93_next ▸ F9
      have sub : ∀ p ∈ fs8, ∃ q ∈ fs', p.1 = q.1 := fun p hp => by obtain ⟨q, hq, e, _⟩ := tf.back hp; exact ⟨q, hq, e⟩
      refine ⟨x.cps.size + 1 - (k + 1), by omega, ⟨k + 1, i, ps, S', Ls', vs, tS, _, _, _, new8, fs8, o6, ho6, rfl, F10, N9, tt.trans tf, fun p hp => ?_, fun p hp q hq => ?_, hfx, ta.keepsIn hS' fixed_seq, ta.keepsIn hL' fixed_seq, hP.turns ta, hR.stay (by rw [← len_list]; omega), by omega, rfl⟩⟩
      · rcases List.mem_append.mp hp with hp | hp
        · exact hIn p (List.mem_append_left _ hp)
        · obtain ⟨q, hq, e⟩ := sub p hp
          rw [e]; exact hIn q (List.mem_append_right _ hq)
      · obtain ⟨q', hq', e⟩ := sub q hq
        rw [e]; exact hap p hp q' hq'
    · obtain ⟨r8, rfl, ta⟩ := t8.head ho6.fixed
      obtain ⟨newb, fs8, rfl, tn, tf⟩ := ta.split
      obtain rfl := tn.all hfx
      obtain ⟨nN, ⟨Ls8, a8, tj8, tk9, tt8, m1, m2, m3⟩, nap, nfx⟩ := N8
      clear F7 N7
      have N8' : News h₀ L h8 ((I, o6) :: ((new8 ++ newb) ++ fs8)) := fun p hp => nN p (by
        simp only [List.mem_append, List.mem_cons] at hp ⊢
        rcases hp with h | (h | h) | h <;> simp [h])
      k_steps
      rename Fr _ _ _ _ => F9
      rename News _ _ _ _ => N9
      have F10 : Fr h₀ L _ (in93 x f S I S8 (some _) t) := in93_next ▸ F9
      have sub : ∀ p ∈ fs8, ∃ q ∈ fs', p.1 = q.1 := fun p hp => by obtain ⟨q, hq, e, _⟩ := tf.back hp; exact ⟨q, hq, e⟩
      have up : ∀ p ∈ newb ++ fs8, p ∈ (new8 ++ newb) ++ fs8 := fun p hp => by
        simp only [List.mem_append] at hp ⊢
        rcases hp with h | h <;> simp [h]
      have up8 : ∀ p ∈ new8, p ∈ (new8 ++ newb) ++ fs8 := fun p hp => List.mem_append_left _ (List.mem_append_left _ hp)
      refine ⟨x.cps.size + 1 - (k + 1), by omega, ⟨k + 1, j, ps ++ [(kd, tx)], S8, Ls8, vs ++ [.ref a8], tj8, _, _, _, new8 ++ newb, fs8, o6, ho6, rfl, F10, N9, tt.trans tf, fun p hp => ?_, fun p hp q hq => ?_, fun p hp => ?_, up8 _ m1, up8 _ m2, ((hP.turns ta).mono up).snoc ⟨a8, tk9, tt8, rfl, up8 _ m3⟩, hR.step hst, by omega, rfl⟩⟩
      · simp only [List.mem_append] at hp
        rcases hp with (hp | hp) | hp
        · exact fun q => nap p hp (I, o6) (.head _) q.symm
        · exact hIn p (List.mem_append_left _ hp)
        · obtain ⟨q, hq, e⟩ := sub p hp
          rw [e]; exact hIn q (List.mem_append_right _ hq)
      · rcases List.mem_append.mp hp with hp | hp
        · exact nap p hp q (.tail _ (List.mem_append_right _ hq))
        · obtain ⟨q', hq', e⟩ := sub q hq
          rw [e]; exact hap p hp q' hq'
      · rcases List.mem_append.mp hp with hp | hp
        · exact nfx p hp
        · exact hfx p hp
    · refine thrown_off_noted (s := { s with heap := h8, toks := tk8 }) rfl rfl isFn F8 O7 x8 fun h9 led9 F9 x9 => ?_
      obtain ⟨r9, rfl, ta⟩ := x9.turns.head ho6.fixed
      obtain ⟨newb, fs9, rfl, tn, tf⟩ := ta.split
      obtain rfl := tn.all hfx
      have x10 : Thrown .here h₀ L fs' txt h9 e8 (new8 ++ (I, o6) :: newb) fs9 := Thrown.widen (ext := (I, o6) :: newb) x9 tf (fun p hp => by
        rcases List.mem_cons.mp hp with rfl | hp
        · exact ho6.fixed
        · exact hfx p hp) fun p hp q hq => by
          obtain ⟨q', hq', e, _⟩ := tf.back hq
          rw [e]
          rcases List.mem_cons.mp hp with rfl | hp
          · exact hIn q' (List.mem_append_right _ hq')
          · exact hap p hp q' hq'
      exact thr k i ps txt hR hkx hu .here h9 tk8 _ e8 _ fs9 F9 (x10.from (tt.up fun _ h => nomatch h))
theorem reduce_call {w : World} {s : Shared} {dp un : Nat} {gd : Option (List Code)} {env : Env} {outer : List Env} {E : Value → Shared → Prop} {h₀ : Heap} {L : Addr} {m mg mb : Str → Option Value} {mean : ExcName → Option Value} {loose : List Str} {led : Led} {Q : Value → Shared → Prop}
   {x : Str} {S Ls f c c' : Addr} {pm ctv dC : Value} {dd : Option Addr} {sl : Array (Option Value)} {oc : Obj} {cvs : Array Value} {t t1 t2 tq : Tok} (hf : env.frame = some L) (hke : env.scope.kind ≠ .module) (F : Fr h₀ L s.heap m) (G : Gd w loose mean mg mb h₀) (Z : FzOf prog w h₀ 36) (N : News h₀ L s.heap led) (O : FrsIn outer led) (hT : TabOk 79 qCr (posOf stCr) led) (hdp : dp + 6 < recursionLimit)
   (hx : x.length ≤ 1048576)
   (ho : (f, lamObj c c' pm ctv) ∈ led) (hc : (c, ⟨dC, dd, .cell (some (.str x t1)), sl⟩) ∈ led) (hcd : (c', oc) ∈ led) (hcd1 : oc.data = .fields cvs) (hcd2 : cvs[1]? = some (.str qLam tq))
   (hS : (S, tupObj #[.int (0 : Nat) t2, .ref Ls]) ∈ led) (hL : (Ls, listOf (([] : List Value)).toArray 0) ∈ led)
   (ret : ∀ i ps, ReadTo x.cps.toList x.length i ps → ∀ S' Ls' vs tS new h' tk led', Fr h₀ L h' m → News h₀ L h' (new ++ led') → Turns led led' → (∀ p ∈ new, ∀ q ∈ led', q.1 ≠ p.1) → (∀ p ∈ new, Fixed p.2) →
     (S', tupObj #[.int (i : Nat) tS, .ref Ls']) ∈ new ++ led' → (Ls', listOf vs.toArray 0) ∈ new ++ led' → Pcs (new ++ led') vs ps → Q (.ref S') { s with heap := h', toks := tk })
   (thr : ∀ n i ps txt, ReadTo x.cps.toList n i ps → n < x.length → StepErr x i txt → ∀ h' tk e new led', Fr h₀ L h' m → Thrown .off h₀ L led txt h' e new led' → E (.ref e) { s with heap := h', toks := tk })
   : wpAny (model prog w) ⟨none, dp, some (env :: outer), gd, un⟩ (call (.ref 93) [.ref f, .str x t, .ref S]) Q E s := by
  refine enter (fd := fdAt 13 "reduce" (.ref 86) (vS "cpy313.functools" 406) 92) rfl hf hke F N O (G.X 93 o93 rfl) rfl G.T.nolimit ⟨92, _, _, _, rfl, G.X 92 (o92 _) rfl, rfl, rfl⟩ (by show dp < recursionLimit; omega) rfl (binds_K (G.X.keeps F.keep) rfl (show (KK w.params).lookup 86 = some (o86 w.params) from rfl) rfl rfl rfl) (by decide +kernel) (locs rfl) (fun g h₁ oL st F₁ N₁ O₁ bk lt kp => ?_) rfl rfl rfl
  have nodict : ∀ {new r : Led} {oL' : Obj} {a : Addr} {vs : Array Value} {n : Nat} {ty : String}, (∃ es n, oL'.data = .dict es n) → (a, (⟨.type ty, none, .seq vs n, #[]⟩ : Obj)) ∈ new ++ (L, oL') :: r → (a, (⟨.type ty, none, .seq vs n, #[]⟩ : Obj)) ∈ new ++ r := fun hd hm => by
    rcases List.mem_append.mp hm with hm | hm
    · exact List.mem_append_left _ hm
    · rcases List.mem_cons.mp hm with e | hm
      · obtain ⟨es, n, hd⟩ := hd
        cases e; cases hd
      · exact List.mem_append_right _ hm
  refine reduce_body (s := { s with heap := h₁, toks := _ }) (x := x) (t1 := t1) (t2 := t2) (Ls := Ls) (dC := dC) (dd := dd) (sl := sl) hx (by show dp + 1 + 5 < recursionLimit; omega) F₁ (G.keeps st) (Z.keeps st) N₁ O₁ (hT.mono fun p hp => .tail _ hp) (.tail _ ho) (.tail _ hc) (.tail _ hcd) hcd1 hcd2 (.tail _ hS) (.tail _ hL) (fun i ps hR S' Ls' vs tS new h' tk m' fs' F' N' tt ap fx hS' hL' hP => ?_) fun n i ps txt hR hn hu kd h' tk m' e new fs' F' x' => ?_
  · obtain ⟨oL', led', rfl, hoL, t1, F2, N2⟩ := bk _ _ h' m' new fs' F' N' tt ap
    exact ret i ps hR S' Ls' vs tS new h' tk led' F2 N2 t1 (fun p hp q hq => ap p hp q (.tail _ hq)) fx (nodict hoL hS') (nodict hoL hL') (hP.imp fun a tk tt p h => nodict hoL h)
  · refine thrown_leaves (s := { s with heap := h', toks := tk }) rfl rfl isFn F' O₁ x' fun h2 fs2 F2 x2 => ?_
    obtain ⟨led2, F3, x3⟩ := thrown_back st bk F2 x2
    exact thr n i ps txt hR hn hu h2 tk e new led2 F3 x3
end Mine
/-! So -/
namespace Mine
open PySem PySem.W PySem.Calls PySem.Spec PyProof.Rows
set_option Elab.async false
set_option maxRecDepth 100000
set_option maxHeartbeats 4000000
set_option linter.unusedVariables false
theorem kind_bs : builtinKind "BaseException.__str__" = some .slot := by kernel_rfl
theorem split_bs : splitId "BaseException.__str__" = some ("BaseException", "__str__") := by kernel_rfl
/-- an exception object of the program's class and its one word -/
structure OwnExc (P : Params) (h : Heap) (e tu : Addr) (m : Str) (tk : Tok) : Prop where
  cls : h.get? 46 = some (o46 P)
  ns : ∃ mN, h.Ns 45 mN ∧ mN "__str__" = none
  ob : ∃ oe vs, h.get? e = some oe ∧ oe.cls = .ref 46 ∧ oe.data = .fields vs ∧ vs[0]? = some (.ref tu)
  tup : h.TupAt tu [.str m tk]
theorem ns45s {w : World} {h : Heap} (X : (KK w.params).In h) : ∃ mN, h.Ns 45 mN ∧ mN "__str__" = none := by
  refine ⟨_, ⟨o45 w.params, _, _, X 45 _ rfl, rfl, ?_, fun _ => rfl⟩, ?_⟩
  · intro e he
    simp only [List.mem_toArray, List.mem_cons, List.not_mem_nil, or_false] at he
    rcases he with rfl | rfl | rfl | rfl | rfl <;> exact ⟨_, _, rfl⟩
  · rfl
section
variable {P : Params} {pr : Program} {w : World} {A : Around} {E : Value → Shared → Prop} {s : Shared} {e tu : Addr} {m : Str} {tk : Tok}
theorem bexc_args {M : Model} {oe ot : Obj} {vs : Array Value} {kt : Nat} {v : Value} {Q : Value × List Value → Shared → Prop} (he : s.heap.get? e = some oe) (hd : oe.data = .fields vs) (h0 : vs[0]? = some (.ref tu)) (hto : s.heap.get? tu = some ot) (htd : ot.data = .seq #[v] kt)
    (hq : Q (.ref tu, [v]) s) : wpAny M A (Builtin.BaseException.bexcArgs (.ref e)) Q E s := by
  unfold Builtin.BaseException.bexcArgs
  exact wpAny_bind (wpAny_field he hd h0 (wpAny_bind (wpAny_seqItems hto htd (wpAny_pure hq))))
theorem strOf_own {Q : Value → Shared → Prop} (hu : A.units < cLine) (x : OwnExc P s.heap e tu m tk) (h : Q (.str m tk) s) : wpAny (model pr w) A (Builtin.Str.strOf (.ref e)) Q E s := by
  obtain ⟨hC, ⟨mN, hn, hns⟩, ⟨oe, vs, he, hcls, hd, h0⟩, ht⟩ := x
  obtain ⟨nm, q, N, bs, hdct, sn, sub, ab, col, dd, k0, k1, k2, k3, k5, newId, hc⟩ := cls46 P
  have hN : N = 45 := by have := congrArg (fun o : Obj => match o.data with | .cls c => c.ns | _ => 0) hc; exact this.symm
  subst hN
  rw [hc] at hC
  obtain ⟨ot, kt, hto, htc, htd⟩ := ht
  have FX := PySem.F.excStr_ValueError
  have hcB : (Value.ref 46 :: bm46).contains (.type "BaseException") = true := by decide +kernel
  have hargs := PySem.F.args_bexc_str (.ref e)
  obtain ⟨hp, g, d, tok, os⟩ := s
  unfold Builtin.Str.strOf
  refine wpAny_bind (wpAny_cRoomFor hu ?_)
  unfold callSpecial? specialOf
  refine wpAny_bind (wpAny_bind (wpAny_bind ?_))
  refine wpAny_bind (wpAny_loadPart_at he (wpAny_pure ?_))
  rw [hcls]
  refine wpAny_typeLookup_exc hC hn PySem.F.excBase_ValueError.mroIs FX.str.lookup ?_
  rw [hns]
  refine wpAny_holding (wpAny_bind (wpAny_of_eq (FX.str.bind _) ?_))
  refine wpAny_bind (wpAny_call (codeAny_call_builtin FX.str.plain PySem.F.entry_bexc_str ?_))
  simp only [checkBuiltinCall, kind_bs, split_bs]
  repeat (first | with_reducible refine bexc_args he hd h0 hto htd ?_ | (with_reducible refine wpAny_loadPart_at he ?_; rw [hcls]) | with_reducible refine wpAny_loadPart_at hC ?_ | (with_reducible refine wpAny_isSubtype_exc hC ?_; rw [hcB]) | wp_step)
  exact h
theorem str_own {Q : Value → Shared → Prop} (hu : A.units + 2 < cLine) (x : OwnExc P s.heap e tu m tk) (h : Q (.str m tk) s) : wpAny (model pr w) A (call (.type "str") [.ref e]) Q E s :=
  callType_new PySem.F.called_str (by decide) (PySem.F.typeCall_str_1 _) (PySem.F.newCall_str_1 _) (fun obj => PySem.F.args_object_init_2 obj _) PySem.F.entry_str_new
    (meets_str_new (S := fun A' R s' => A'.units + 1 < cLine ∧ OwnExc P s'.heap e tu m tk ∧ R (.ok (.ret (.str m tk))) s')
      fun _ _ A' _ _ hq => strOf_own (A := A'.in1) hq.1 hq.2.1 hq.2.2)
    ⟨(show A.units + 1 + 1 < cLine from hu), x, typeIs_str _ _ _, h⟩
end
end Mine
/-! Rd -/
namespace Mine
open PySem PySem.W PySem.Calls PySem.Spec PyProof.Rows
set_option Elab.async false
set_option maxRecDepth 100000
set_option maxHeartbeats 4000000
set_option linter.unusedVariables false
theorem fillRd : (PySem.Challenge.rw_mr0151_01, KK) = (PySem.Challenge.rw_mr0151_01, KK) := by k_fill; rfl
section
variable {prog : Program} {w : World} {A : Around} {E : Value → Shared → Prop} {s : Shared} {h₀ : Heap} {L : Addr} {m : Str → Option Value} {led : Led} {outer : List Env} {env : Env} {Q : Value → Shared → Prop}
theorem enterC {f : Addr} {fo : Obj} {name qual : Str} {params : Arguments} {body : List Stmt} {scope : Scope} {dV kV doc pm cdv ct : Value} {an : Option Addr} {pos : List Value} {kw : List (Str × Value)} {binds : List (Str × Value)} (hA : A.frames = some (env :: outer)) (hf : env.frame = some L) (hke : env.scope.kind ≠ .module)
    (F : Fr h₀ L s.heap m) (N : News h₀ L s.heap led) (O : FrsIn outer led) (ho : h₀.get? f = some fo) (hd : fo.data = .func (fnX name qual params body scope [] dV kV doc pm an cdv ct)) (hlim : h₀.NoLimit) (hcd : h₀.CodeRec cdv qual) (hroom : A.depth < recursionLimit)
    (hbind : BindsTo s (fnX name qual params body scope [] dV kV doc pm an cdv ct) ⟨pos, kw⟩ binds)
    (hkind : ∀ n, ∀ x ∈ binds, scope.names.lookup x.1 = some .local ∨ (scope.names.lookup x.1 = some .cell ∧ ((cellsFrom n scope.names []).lookup x.1).isSome = true))
    (hnd : ((cellsFrom 0 scope.names []).map (·.1)).Nodup)
    (h : ∀ g L' h₁ tk cells oL, (∀ b o, h₀.get? b = some o → g.get? b = some o) → Fr g L' h₁ (bindL (envOfC qual scope L' f cdv).kindOf binds fun _ => none) → News g L' h₁ (cells ++ (L, oL) :: led) →
      CellsAre (bindC (envOfC qual scope L' f cdv).kindOf binds fun _ => none) (cellsFrom (L' + 1) scope.names []) cells → FrsIn (env :: outer) ((L, oL) :: led) → Back h₀ L m led g ((L, oL) :: led) → (∀ p ∈ (L, oL) :: led, p.1 < L') →
      wpAny (model prog w) (A.deeper (envOfC qual scope L' f cdv)) (execs body (envOfC qual scope L' f cdv)) (fun fl s' => Q (match fl with | .ret v => v | _ => .none) s')
        (fun e s' => wpAny (model prog w) (A.deeper (envOfC qual scope L' f cdv)) (leaving (envOfC qual scope L' f cdv) e) (fun _ s'' => E e s'') (fun e' s'' => E e' s'') s')
        { s with heap := h₁, toks := tk })
    (hco : scope.isCoroutine = false) (hgen : scope.isGenerator = false) (hk : scope.kind = .function) : wpAny (model prog w) A (call (.ref f) pos kw) Q E s := by
  obtain ⟨oL, st, hL, O', bk, x⟩ := hide_facts hf hke F N O
  refine wpAny_call (codeAny_call_function hroom (F.keep _ _ ho) hd hco hgen rfl (hcd.keeps F.keep) (hbind _ _ _ _ ?_))
  refine wpAny_newFunctionEnv_cells hk (hkind _) fun env' he s' y => ?_
  subst he
  refine ⟨(hlim.keeps F.keep).keeps y.toInCall.keep, codeAny_func ?_⟩
  obtain ⟨h₁, tk, rfl, _⟩ := y.done
  have hk₁ := y.toInCall.keep
  obtain ⟨cells, NC, Y⟩ := Cl.news (h₀ := s.heap) (Nat.le_refl _) fun n c hm => ⟨y.cell n c (lookup_of_mem_nodup (cellsFrom_names scope.names 0 (s.heap.objs.size + 1) [] [] rfl ▸ hnd) hm), y.above n c hm⟩
  refine h _ s.heap.objs.size h₁ tk cells oL st ⟨y.toInCall.ns, fun b o e => hk₁ b o (of_hideAll _ e), Nat.le_of_eq (hideAll_size _ _)⟩ (fun p hp => ?_) Y O' bk (fun p hp => (x p hp).1)
  rcases List.mem_append.mp hp with hp | hp
  · refine ⟨(NC p hp).1, (NC p hp).2.1, ?_⟩
    cases q : (hideAll s.heap (L :: led.map (·.1))).get? p.1 with
    | none => rfl
    | some o => have := of_hideAll _ q; rw [(NC p hp).2.2] at this; cases this
  · exact ⟨hk₁ _ _ (x p hp).2.1, Nat.ne_of_lt (x p hp).1, (x p hp).2.2⟩
end
theorem handle_own {w : World} {A : Around} {E : Value → Shared → Prop} {s : Shared} {env : Env} {e : Addr} {t : Expr} {n : Str} {b₀ : Stmt} {suite : List Stmt} {pos : Pos} {rest : List ExceptHandler} {Q : Flow → Shared → Prop}
    (h : wpAny (model prog w) (A.mark (some (.ref e))) (eval t env) (fun c s₁ => c = .ref 46 ∧ s₁.heap.get? 46 = some (o46 w.params) ∧ (∃ oe, s₁.heap.get? e = some oe ∧ oe.cls = .ref 46) ∧
      wpAny (model prog w) (A.mark (some (.ref e))) (setFlight (.ref e) none) (fun _ s₂ =>
          wpAny (model prog w) (A.mark (some (.ref e))) (storeName env n (.ref e)) (fun _ s₃ =>
            wpAny (model prog w) (A.mark (some (.ref e))) (execs (b₀ :: suite) env)
              (fun f s₄ => wpAny (model prog w) A (do bindName env n .none; unbindBehindTheSuite env n pos) (fun _ s₅ => Q f s₅) E s₄)
              (AsSuiteRaised (model prog w) (A.mark (some (.ref e))) env n pos (notedBy (model prog w) (A.mark (some (.ref e))) env (cameBackBy (model prog w) A env E))) s₃) (notedBy (model prog w) (A.mark (some (.ref e))) env (cameBackBy (model prog w) A env E)) s₂) (notedBy (model prog w) (A.mark (some (.ref e))) env (cameBackBy (model prog w) A env E)) s₁) (notedBy (model prog w) (A.mark (some (.ref e))) env (cameBackBy (model prog w) A env E)) s) :
    wpAny (model prog w) A (handleBy (.ref e) env (.ExceptHandler (some t) (some n) (b₀ :: suite) pos :: rest)) Q E s := by
  refine wpAny_handleBy_cons (codeAny_handlers_test (wpAny_mono h (fun c s₁ h₁ => ?_) fun _ _ y => y)) (by intro q; cases q)
  obtain ⟨rfl, hC, ⟨oe, he, hcls⟩, hk⟩ := h₁
  obtain ⟨nm, q, N, bs, hdct, sn, sub, ab, col, dd, k0, k1, k2, k3, k5, newId, hc⟩ := cls46 w.params
  rw [hc] at hC
  obtain ⟨hh, g, d, tk, os⟩ := s₁
  exact wpAny_excMatches_sub_self hC he hcls (by decide +kernel) (codeAny_handlers_suite_as hk)
abbrev env119 (L : Addr) : Env := envX (Str.ofString "_law_read") (scopeOf (stAt 18)) L 119 (.ref 118) [(Str.ofString "src", L + 1)]
abbrev cellO (d : Value) (dd : Option Addr) (sl : Array (Option Value)) (v : Value) : Obj := ⟨d, dd, .cell (some v), sl⟩
theorem read_pre {h₀ h : Heap} {L D l f c c' : Addr} {tk : Tok} {pm ctv : Value} {o : Obj} {new fs' : Led} (N : News h₀ L h ((D, tupObj #[.int 0 tk, .ref l]) :: (l, listOf #[] 0) :: (f, lamObj c c' pm ctv) :: (new ++ (c, o) :: fs')))
    (fx : ∀ p ∈ new, Fixed p.2) (ap : ∀ p ∈ new, ∀ q ∈ (c, o) :: fs', q.1 < p.1) (lt : ∀ q ∈ new ++ (c, o) :: fs', q.1 < f) (h2 : f < l ∧ AllLt l (new ++ (c, o) :: fs')) (h1 : l < D ∧ f < D ∧ AllLt D (new ++ (c, o) :: fs')) (hcl : ∀ q ∈ fs', q.1 ≠ c) (ho : Fixed o := by exact fixed_cell) :
    ∃ pre : Led, News h₀ L h (pre ++ fs') ∧ (∀ p ∈ pre, Fixed p.2) ∧ (∀ p ∈ pre, ∀ q ∈ fs', q.1 ≠ p.1) ∧ ∀ p ∈ (D, tupObj #[.int 0 tk, .ref l]) :: (l, listOf #[] 0) :: (f, lamObj c c' pm ctv) :: (new ++ [(c, o)]), p ∈ pre := by
  refine ⟨(D, tupObj #[.int 0 tk, .ref l]) :: (l, listOf #[] 0) :: (f, lamObj c c' pm ctv) :: (new ++ [(c, o)]), fun p hp => N p (by simpa using hp), fun p hp => ?_, fun p hp q hq => ?_, fun p hp => hp⟩
  · simp only [List.mem_cons, List.mem_append, List.not_mem_nil, or_false] at hp
    rcases hp with rfl | rfl | rfl | hp | rfl
    · exact fixed_seq
    · exact fixed_seq
    · exact fixed_func
    · exact fx p hp
    · exact ho
  · have hq' : q ∈ new ++ (c, o) :: fs' := List.mem_append_right _ (.tail _ hq)
    simp only [List.mem_cons, List.mem_append, List.not_mem_nil, or_false] at hp
    rcases hp with rfl | rfl | rfl | hp | rfl
    · exact Nat.ne_of_lt (allLt_mem h1.2.2 q hq')
    · exact Nat.ne_of_lt (allLt_mem h2.2 q hq')
    · exact Nat.ne_of_lt (lt q hq')
    · exact Nat.ne_of_lt (ap p hp q (.tail _ hq))
    · exact hcl q hq
theorem read_body {w : World} {s : Shared} {dp un : Nat} {gd : Option (List Code)} {outer : List Env} {E : Value → Shared → Prop} {h₀ : Heap} {L : Addr} {mg mb : Str → Option Value} {mean : ExcName → Option Value} {loose : List Str} {fs : Led} {Q : Flow → Shared → Prop}
   {x : Str} {dC : Value} {dd : Option Addr} {sl : Array (Option Value)} {t : Tok} (hx : x.length ≤ 1048576) (hdp : dp + 6 < recursionLimit)
   (F : Fr h₀ L s.heap (fun _ => none)) (G : Gd w loose mean mg mb h₀) (Z : FzOf prog w h₀ 36) (N : News h₀ L s.heap ((L + 1, cellO dC dd sl (.str x t)) :: fs)) (O : FrsIn outer fs) (hT : TabOk 79 qCr (posOf stCr) fs) (hT2 : TabOk 114 qLam lamPos fs) (hcl : ∀ q ∈ fs, q.1 ≠ L + 1)
   (hun : un + 100 < cLine)
   (ret : ∀ i ps, ReadTo x.cps.toList x.length i ps → ∀ Ls vs new h' tk m' fs', Fr h₀ L h' m' → News h₀ L h' (new ++ fs') → TurnsB [114, 79] fs fs' → (∀ p ∈ new, ∀ q ∈ fs', q.1 ≠ p.1) → TabOk 79 qCr (posOf stCr) (new ++ fs') → TabOk 114 qLam lamPos (new ++ fs') →
     (Ls, listOf vs.toArray 0) ∈ new ++ fs' → Pcs (new ++ fs') vs ps → Q (.ret (.ref Ls)) { s with heap := h', toks := tk })
   (err : ∀ n i ps txt, ReadTo x.cps.toList n i ps → n < x.length → StepErr x i txt → ∀ te new h' tk m' fs', Fr h₀ L h' m' → News h₀ L h' (new ++ fs') → TurnsB [114, 79] fs fs' → (∀ p ∈ new, ∀ q ∈ fs', q.1 ≠ p.1) → TabOk 79 qCr (posOf stCr) (new ++ fs') → TabOk 114 qLam lamPos (new ++ fs') →
     Q (.ret (.str txt te)) { s with heap := h', toks := tk })
   : wpAny (model prog w) ⟨none, dp, some (env119 L :: outer), gd, un⟩ (execs (bodyOf (stAt 18)) (env119 L)) Q E s := by
  w_on
  have X := G.X
  have T := G.T
  delta env119
  conv in (bodyOf _) => whnf
  refine wpAny_execs_cons (wpAny_Try_except ?_)
  walk1
  walk1
  walk1
  walk1
  refine nameX_K (v := .ref 93) F X (topRead_of T) (by kernel_rfl) ?_
  walk1
  walk1
  refine kla_eval rfl ?_
  have hq : (envX (Str.ofString "_law_read") (scopeOf (stAt 18)) L 119 (Value.ref 118) [(Str.ofString "src", L + 1)]).qual ++ Str.ofString "<lambda>" = qLam := by
    show Str.ofString "_law_read" ++ Str.ofString ".<locals>." ++ Str.ofString "<lambda>" = qLam
    decide +kernel
  rw [hq]
  have hT2' : TabOk 114 qLam lamPos ((L + 1, cellO dC dd sl (.str x t)) :: fs) := hT2.mono fun p hp => .tail _ hp
  refine nest_lam (pos := lamPos) (params := lamParams) (scope := lamScope) (bodyE := lamBody) F N T (codeHd_of_K (c := 118) (P := 114) X (by kernel_rfl)) rfl hT2' rfl (fun f c' oc vs tq ctv h' tk new led' F1 N1 tt hT1 hc hcd hv ap lt fx => ?_)
  obtain ⟨fs', rfl, tf⟩ := tt.head fixed_cell
  clear F N
  have hcm : (L + 1, cellO dC dd sl (.str x t)) ∈ (f, lamObj (L + 1) c' ((mg (Str.ofString "__name__")).getD Value.none) ctv) :: (new ++ (L + 1, cellO dC dd sl (.str x t)) :: fs') := .tail _ (List.mem_append_right _ (.head _))
  walk1
  refine nameX_C N1 rfl hcm rfl ?_
  k_steps
  rename Fr _ _ _ _ => F2
  rename News _ _ _ _ => N2
  obtain ⟨pre, N3, hfix, hap, hin⟩ := read_pre N2 fx ap lt (by assumption) (by assumption) fun q hq => by
    obtain ⟨q', hq', e, _⟩ := tf.back hq
    rw [e]; exact hcl q' hq'
  clear N2
  have inF : ∀ p ∈ fs', p ∈ pre ++ fs' := fun p hp => List.mem_append_right _ hp
  have inN : ∀ p ∈ new ++ (L + 1, cellO dC dd sl (.str x t)) :: fs', p ∈ pre ++ fs' := fun p hp => by
    rcases List.mem_append.mp hp with hp | hp
    · exact List.mem_append_left _ (hin p (.tail _ (.tail _ (.tail _ (List.mem_append_left _ hp)))))
    · rcases List.mem_cons.mp hp with rfl | hp
      · exact List.mem_append_left _ (hin _ (.tail _ (.tail _ (.tail _ (List.mem_append_right _ (.head _))))))
      · exact inF p hp
  have hT114 : TabOk 114 qLam lamPos (pre ++ fs') := hT1.mono inN
  have hT79 : TabOk 79 qCr (posOf stCr) (pre ++ fs') := (hT.turns tf (by decide)).mono inF
  refine reduce_call (t1 := t) (dC := dC) (dd := dd) (sl := sl) rfl isFn F2 G Z N3 ((O.turns tf).mono inF) hT79 hdp hx (List.mem_append_left _ (hin _ (.tail _ (.tail _ (.head _))))) (inN _ (List.mem_append_right _ (.head _))) (inN _ hc) hcd hv (List.mem_append_left _ (hin _ (.head _))) (List.mem_append_left _ (hin _ (.tail _ (.head _)))) (fun i ps hR S' Ls' vs' tS new2 h2 tk2 led2 F3 N4 t3 ap3 fx3 hS' hL' hP => ?_) fun n i ps txt hR hn hu h2 tk2 e new2 led2 F3 x3 => ?_
  · clear F2 N3
    obtain ⟨pre', fs2, rfl, tp, tf2⟩ := t3.split
    obtain rfl := tp.all hfix
    have N5 : News h₀ L h2 ((S', tupObj #[.int (i : Nat) tS, .ref Ls']) :: (new2 ++ (pre' ++ fs2))) := fun p hp => by
      rcases List.mem_cons.mp hp with rfl | hp
      · exact N4 _ hS'
      · exact N4 p hp
    have el : new2 ++ (pre' ++ fs2) = (new2 ++ pre') ++ fs2 := (List.append_assoc ..).symm
    rw [el] at N4 hL' hP
    k_steps
    refine ret i ps hR _ _ _ _ _ _ _ F3 N4 ((tf.up (by decide)).trans (tf2.up fun _ h => nomatch h)) (fun p hp q hq => ?_) ((hT79.turns t3 (by simp)).mono fun p hp => ?_) ((hT114.turns t3 (by simp)).mono fun p hp => ?_) hL' hP
    · rcases List.mem_append.mp hp with hp | hp
      · exact ap3 p hp q (List.mem_append_right _ hq)
      · obtain ⟨q', hq', e, _⟩ := tf2.back hq
        rw [e]; exact hap p hp q' hq'
    · rw [← el]; exact List.mem_append_right _ hp
    · rw [← el]; exact List.mem_append_right _ hp
  · clear F2 N3
    obtain ⟨pre', fs2, rfl, tp, tf2⟩ := x3.turns.split
    obtain rfl := tp.all hfix
    obtain ⟨tu, te, hm, hu2⟩ := x3.up
    have O3 : FrsIn outer (new2 ++ (pre' ++ fs2)) := Thrown.frs (s := { s with heap := h2 }) x3 ((O.turns tf).mono inF)
    refine note_next (s := { s with heap := h2, toks := tk2 }) rfl rfl isFn F3 x3.news O3 hu2 fun h4 r4 t4 F4 N4 B4 => ?_
    refine fly_flight (s := { s with heap := h4, toks := tk2 }) (fr := none) F4 N4 B4 fun h5 F5 N5 B5 => ?_
    refine handle_own ?_
    refine nameX_K (v := .ref 46) F5 X (topRead_of T) (by kernel_rfl) ?_
    refine ⟨rfl, F5.keep _ _ (X 46 _ rfl), ?_, ?_⟩
    · obtain ⟨_, _, _, oe, vs, T, oT, ts, g1, g2, _⟩ := B5.ex
      exact ⟨oe, g1, g2.1⟩
    refine fly_flight (s := { s with heap := h5, toks := tk2 }) (fr := none) F5 N5 B5 fun h6 F6 N6 B6 => ?_
    have fe := B6.free
    obtain ⟨_, _, _, oe, vs6, T6, oT, ts, g1, g2, g3, _⟩ := B6.ex
    have N7 : News h₀ L h6 ((e, oe) :: r4) := fun p hp => by
      rcases List.mem_cons.mp hp with rfl | hp
      · exact ⟨g1, fe.fr, fe.old⟩
      · exact N6 p hp
    clear F3 F4 N4 F5 N5 N6
    k_steps
    rename Fr _ _ _ _ => F8
    rename News _ _ _ _ => N8
    have htu : (tu, tupOne (.str txt te)) ∈ r4 := t4.keepsIn (List.mem_append_left _ hm) fixed_seq
    refine str_own (P := w.params) (tu := tu) (m := txt) (tk := te) (by show un + 2 < cLine; omega) ⟨F8.keep _ _ (X 46 _ rfl), ns45s (X.keeps F8.keep), ⟨oe, vs6, (N8 _ (.head _)).1, g2.1, g3, g2.2⟩, ⟨_, _, (N8 _ (.tail _ htu)).1, rfl, rfl⟩⟩ ?_
    k_steps
    refine wpAny_bind (wpAny_bindName (storeX_L F8 N8 fun h9 F9 N9 => ?_))
    unfold unbindBehindTheSuite
    refine wpAny_onRaise (wpAny_unbindName_local rfl F9.ns rfl rfl fun h10 u hn10 hs10 => ?_)
    have F10 := F9.set hn10 hs10
    have N10 := N9.set hs10
    obtain ⟨new4, r5, rfl, tn, t5⟩ := t4.split
    obtain rfl := tn.all x3.fixed
    obtain ⟨pre5, fs5, rfl, tp5, t6⟩ := t5.split
    obtain rfl := tp5.all hfix
    have el : new4 ++ (pre5 ++ fs5) = (new4 ++ pre5) ++ fs5 := (List.append_assoc ..).symm
    have N11 : News h₀ L h10 ((new4 ++ pre5) ++ fs5) := fun p hp => N10 p (.tail _ (by rw [el]; exact hp))
    have hT5 := x3.tab.turns t4 (by simp)
    have hT6 := (hT114.turns x3.turns (by decide)).turns t5 (by simp)
    rw [el] at hT5
    refine err n i ps txt hR hn hu te (new4 ++ pre5) _ _ _ fs5 F10 N11 (((tf.up (by decide)).trans (tf2.up (by decide))).trans (t6.up fun _ h => nomatch h)) (fun p hp q hq => ?_) hT5 (hT6.mono fun p hp => by rw [← el]; exact List.mem_append_right _ hp)
    obtain ⟨q', hq', e1, _⟩ := t6.back hq
    obtain ⟨q'', hq'', e2, _⟩ := tf2.back hq'
    rcases List.mem_append.mp hp with hp | hp
    · rw [e1]; exact x3.apart p hp q' (List.mem_append_right _ hq')
    · rw [e1, e2]; exact hap p hp q'' hq''
theorem read_call {w : World} {s : Shared} {dp un : Nat} {gd : Option (List Code)} {env : Env} {outer : List Env} {E : Value → Shared → Prop} {h₀ : Heap} {L : Addr} {m mg mb : Str → Option Value} {mean : ExcName → Option Value} {loose : List Str} {led : Led} {Q : Value → Shared → Prop}
   {x : Str} {t : Tok} (hf : env.frame = some L) (hke : env.scope.kind ≠ .module) (F : Fr h₀ L s.heap m) (G : Gd w loose mean mg mb h₀) (Z : FzOf prog w h₀ 36) (N : News h₀ L s.heap led) (O : FrsIn outer led) (hT : TabOk 79 qCr (posOf stCr) led) (hT2 : TabOk 114 qLam lamPos led) (hdp : dp + 7 < recursionLimit)
   (hx : x.length ≤ 1048576) (hun : un + 103 < cLine)
   (ret : ∀ i ps, ReadTo x.cps.toList x.length i ps → ∀ Ls vs new h' tk led', Fr h₀ L h' m → News h₀ L h' (new ++ led') → TurnsB [114, 79] led led' → (∀ p ∈ new, ∀ q ∈ led', q.1 ≠ p.1) → TabOk 79 qCr (posOf stCr) (new ++ led') → TabOk 114 qLam lamPos (new ++ led') →
     (Ls, listOf vs.toArray 0) ∈ new ++ led' → Pcs (new ++ led') vs ps → Q (.ref Ls) { s with heap := h', toks := tk })
   (err : ∀ n i ps txt, ReadTo x.cps.toList n i ps → n < x.length → StepErr x i txt → ∀ te new h' tk led', Fr h₀ L h' m → News h₀ L h' (new ++ led') → TurnsB [114, 79] led led' → (∀ p ∈ new, ∀ q ∈ led', q.1 ≠ p.1) → TabOk 79 qCr (posOf stCr) (new ++ led') → TabOk 114 qLam lamPos (new ++ led') →
     Q (.str txt te) { s with heap := h', toks := tk })
   : wpAny (model prog w) ⟨none, dp, some (env :: outer), gd, un⟩ (call (.ref 119) [.str x t]) Q E s := by
  refine enterC (scope := scopeOf (stAt 18)) (cdv := .ref 118) (qual := Str.ofString "_law_read") (binds := [(Str.ofString "src", .str x t)]) rfl hf hke F N O (G.X 119 o119 rfl) rfl G.T.nolimit ⟨118, _, _, _, rfl, G.X 118 (o118 _) rfl, rfl, rfl⟩ (by show dp < recursionLimit; omega) (BindsTo.of_eq rfl) (fun n => ?_) (by decide +kernel) (fun g L' h₁ tk cells oL st F₁ N₁ Y O₁ bk lt => ?_) rfl rfl rfl
  · intro y hy
    have hy : y = (Str.ofString "src", .str x t) := by simpa using hy
    subst hy
    exact .inr ⟨rfl, rfl⟩
  obtain ⟨oC, rfl, hoC⟩ := Y.one
  obtain ⟨dC, dd, dt, sl⟩ := oC
  have hoC : dt = .cell (some (.str x t)) := hoC
  subst hoC
  have nodict : ∀ {new r : Led} {oL' : Obj} {a : Addr} {vs : Array Value} {n : Nat} {ty : String}, (∃ es n, oL'.data = .dict es n) → (a, (⟨.type ty, none, .seq vs n, #[]⟩ : Obj)) ∈ new ++ (L, oL') :: r → (a, (⟨.type ty, none, .seq vs n, #[]⟩ : Obj)) ∈ new ++ r := fun hd hm => by
    rcases List.mem_append.mp hm with hm | hm
    · exact List.mem_append_left _ hm
    · rcases List.mem_cons.mp hm with e | hm
      · obtain ⟨es, n, hd⟩ := hd
        cases e; cases hd
      · exact List.mem_append_right _ hm
  refine read_body (s := { s with heap := h₁, toks := tk }) hx (by show dp + 1 + 6 < recursionLimit; omega) F₁ (G.keeps st) (Z.keeps st) N₁ O₁ (hT.mono fun p hp => .tail _ hp) (hT2.mono fun p hp => .tail _ hp) (fun q hq => ?_) (by show un + 3 + 100 < cLine; omega) (fun i ps hR Ls vs new h' tk' m' fs' F' N' tt ap h79 h114 hL hP => ?_) fun n i ps txt hR hn hu te new h' tk' m' fs' F' N' tt ap h79 h114 => ?_
  · exact Nat.ne_of_lt (Nat.lt_succ_of_lt (lt q hq))
  · obtain ⟨oL', led', rfl, hoL, t1, F2, N2⟩ := bk _ _ h' m' new fs' F' N' tt ap
    exact ret i ps hR Ls vs new h' tk' led' F2 N2 t1 (fun p hp q hq => ap p hp q (.tail _ hq)) (h79.drop hoL) (h114.drop hoL) (nodict hoL hL) (hP.imp fun a tk tt p h => nodict hoL h)
  · obtain ⟨oL', led', rfl, hoL, t1, F2, N2⟩ := bk _ _ h' m' new fs' F' N' tt ap
    exact err n i ps txt hR hn hu te new h' tk' led' F2 N2 t1 (fun p hp q hq => ap p hp q (.tail _ hq)) (h79.drop hoL) (h114.drop hoL)
end Mine
/-! Wr -/
namespace Mine
open PySem PySem.W PySem.Calls PySem.Spec PyProof.Rows
set_option Elab.async false
set_option maxRecDepth 100000
set_option maxHeartbeats 4000000
set_option linter.unusedVariables false
theorem fillWr : (PySem.Challenge.rw_mr0151_01, KK) = (PySem.Challenge.rw_mr0151_01, KK) := by k_fill; rfl
/-- a piece as it is written -/
def wtn (kd tx : Str) : Str := kd ++ tx ++ (if kd = Str.ofString "#" then Str.ofString "\n" else if kd = Str.ofString "'" then Str.ofString "'" else Str.ofString "")
theorem wtn_c {tx : Str} : wtn (Str.ofString "#") tx = Str.ofString "#" ++ tx ++ Str.ofString "\n" := by unfold wtn; rw [if_pos rfl]
theorem wtn_l {tx : Str} : wtn (Str.ofString "'") tx = Str.ofString "'" ++ tx ++ Str.ofString "'" := by unfold wtn; rw [if_neg (by decide), if_pos rfl]
theorem wtn_e {tx : Str} : wtn (Str.ofString "") tx = Str.ofString "" ++ tx ++ Str.ofString "" := by unfold wtn; rw [if_neg (by decide), if_neg (by decide)]
abbrev env105 (L : Addr) : Env := envOf (Str.ofString "_law_written") (scopeOf (stAt 16)) L 105 (.ref 104)
abbrev loc105 (a : Addr) : Str → Option Value := fun z => [(Str.ofString "piece", Value.ref a)].lookup z
theorem written_body {w : World} {s : Shared} {dp un : Nat} {gd : Option (List Code)} {outer : List Env} {E : Value → Shared → Prop} {h₀ : Heap} {L : Addr} {mg mb : Str → Option Value} {mean : ExcName → Option Value} {loose : List Str} {fs : Led} {Q : Flow → Shared → Prop}
   {kd tx : Str} {a : Addr} {t1 t2 : Tok} (hx : tx.length ≤ 1048576) (hkd : kd = Str.ofString "#" ∨ kd = Str.ofString "'" ∨ kd = Str.ofString "")
   (F : Fr h₀ L s.heap (loc105 a)) (G : Gd w loose mean mg mb h₀) (N : News h₀ L s.heap ((a, tupObj #[.str kd t1, .str tx t2]) :: fs)) (O : FrsIn outer fs)
   (ret : ∀ h' tk tj m', Fr h₀ L h' m' → News h₀ L h' fs → Q (.ret (.str (wtn kd tx) tj)) { s with heap := h', toks := tk })
   : wpAny (model prog w) ⟨none, dp, some (env105 L :: outer), gd, un⟩ (execs (bodyOf (stAt 16)) (env105 L)) Q E s := by
  w_on
  have X := G.X
  have T := G.T
  delta env105
  conv in (bodyOf _) => whnf
  rcases hkd with rfl | rfl | rfl
  · iterate 33 walk1
    rename News _ _ _ _ => N9
    rename Fr _ _ _ _ => F9
    refine kdt_getItem (knd := PySem.strKind _ _) N9 (.head _) (by assumption) (strKind_is _ _ _ _) (by rfl) ?_
    dsimp only
    k_steps
    rw [wtn_c] at ret
    exact ret _ _ _ _ F9 fun p hp => N9 p (.tail _ (.tail _ hp))
  · iterate 33 walk1
    rename News _ _ _ _ => N9
    rename Fr _ _ _ _ => F9
    refine kdt_getItem (knd := PySem.strKind _ _) N9 (.head _) (by assumption) (strKind_is _ _ _ _) (by rfl) ?_
    dsimp only
    k_steps
    rw [wtn_l] at ret
    exact ret _ _ _ _ F9 fun p hp => N9 p (.tail _ (.tail _ hp))
  · iterate 33 walk1
    rename News _ _ _ _ => N9
    rename Fr _ _ _ _ => F9
    refine kdt_getItem (knd := PySem.strKind _ _) N9 (.head _) (by assumption) (strKind_is _ _ _ _) (by rfl) ?_
    dsimp only
    k_steps
    rw [wtn_e] at ret
    exact ret _ _ _ _ F9 fun p hp => N9 p (.tail _ (.tail _ hp))
theorem written_call {w : World} {s : Shared} {dp un : Nat} {gd : Option (List Code)} {env : Env} {outer : List Env} {E : Value → Shared → Prop} {h₀ : Heap} {L : Addr} {m mg mb : Str → Option Value} {mean : ExcName → Option Value} {loose : List Str} {led : Led} {Q : Value → Shared → Prop}
   {kd tx : Str} {a : Addr} {t1 t2 : Tok} (hf : env.frame = some L) (hke : env.scope.kind ≠ .module) (F : Fr h₀ L s.heap m) (G : Gd w loose mean mg mb h₀) (N : News h₀ L s.heap led) (O : FrsIn outer led) (hdp : dp < recursionLimit)
   (ha : (a, tupObj #[.str kd t1, .str tx t2]) ∈ led) (hx : tx.length ≤ 1048576) (hkd : kd = Str.ofString "#" ∨ kd = Str.ofString "'" ∨ kd = Str.ofString "")
   (ret : ∀ h' tk tj, Fr h₀ L h' m → News h₀ L h' led → Q (.str (wtn kd tx) tj) { s with heap := h', toks := tk })
   : wpAny (model prog w) ⟨none, dp, some (env :: outer), gd, un⟩ (call (.ref 105) [.ref a]) Q E s := by
  refine enter (fd := fdAt 16 "_law_written" .none (vS "law_mr0151_01" 421) 104) rfl hf hke F N O (G.X 105 o105 rfl) rfl G.T.nolimit ⟨104, _, _, _, rfl, G.X 104 (o104 _) rfl, rfl, rfl⟩ (by show dp < recursionLimit; omega) rfl (BindsTo.of_eq rfl) (by decide +kernel) (locs rfl) (fun g h₁ oL st F₁ N₁ O₁ bk lt kp => ?_) rfl rfl rfl
  refine written_body (s := { s with heap := h₁, toks := _ }) (t1 := t1) (t2 := t2) hx hkd F₁ (G.keeps st) (fun p hp => ?_) O₁ fun h' tk tj m' F' N' => ?_
  · rcases List.mem_cons.mp hp with rfl | hp
    · exact N₁ _ (.tail _ ha)
    · exact N₁ p hp
  · obtain ⟨oL', led', he, hoL, t1, F2, N2⟩ := bk [] _ h' m' [] _ F' N' (.refl _) (fun p hp => nomatch hp)
    injection he with he1 he2
    subst he2
    exact ret h' tk tj F2 N2
end Mine
/-! Fo -/
namespace Mine
open PySem PySem.W PySem.Calls PySem.Spec PyProof.Rows
set_option Elab.async false
set_option maxRecDepth 100000
set_option maxHeartbeats 1000000
set_option linter.unusedVariables false
def LiOf (l : Addr) (k : Nat) (o : Obj) : Prop := o.cls = .type "list_iterator" ∧ o.data = .fields #[.ref l, .int k 0]
theorem LiOf.fixed {l : Addr} {k : Nat} {o : Obj} (h : LiOf l k o) : Fixed o := ⟨fun es n q => (by rw [h.2] at q; cases q), fun ⟨ps, q, _⟩ => (by have := congrArg Obj.cls q; rw [h.1] at this; cases this)⟩
/-- a turn's end: the state for the next one -/
structure Nxt (h₀ : Heap) (L I : Addr) (oI : Obj) (s : Shared) (J : Nat → Led → (Str → Option Value) → Prop) (i : Nat) (s' : Shared) : Prop where
  st : ∃ led m h' tk, s' = { s with heap := h', toks := tk } ∧ J i led m ∧ Fr h₀ L h' m ∧ News h₀ L h' ((I, oI) :: led) ∧ ∀ p ∈ led, p.1 ≠ I
/-- a turn's start -/
structure InFor (h₀ : Heap) (L I l : Addr) (s : Shared) (N : Nat) (J : Nat → Led → (Str → Option Value) → Prop) (n : Nat) (s' : Shared) : Prop where
  st : ∃ i led m h' tk oI, LiOf l i oI ∧ i ≤ N ∧ n = N + 1 - i ∧ s' = { s with heap := h', toks := tk } ∧ J i led m ∧ Fr h₀ L h' m ∧ News h₀ L h' ((I, oI) :: led) ∧ ∀ p ∈ led, p.1 ≠ I
section
variable {w : World} {A : Around} {s : Shared} {R : Result → Shared → Prop} {x : Str} {px : Pos} {body : List Stmt} {env : Env} {h₀ : Heap} {L I Pl : Addr} {vs : List Value} {k : Nat}
theorem for_list (hh : A.handled = none) (hx : env.kindOf x = some .local) (hl : env.locals = L) (hp : (env.scope.kind == .class || (env.scope.kind == .module && env.locals != env.globals)) = false)
    (J : Nat → Led → (Str → Option Value) → Prop) (hJ : ∀ i led m, J i led m → ∃ k, (Pl, listOf vs.toArray k) ∈ led)
    (turn : ∀ i v oI led m h' tk, vs[i]? = some v → J i led m → LiOf Pl (i + 1) oI → Fr h₀ L h' (fun y => if y = x then some v else m y) → News h₀ L h' ((I, oI) :: led) → (∀ p ∈ led, p.1 ≠ I) →
      wpAny (model prog w) A (execs body env) (fun f s₃ => match f with
        | .next => Nxt h₀ L I oI s J (i + 1) s₃
        | .cont => Nxt h₀ L I oI s J (i + 1) s₃
        | .brk => R (.ok .next) s₃
        | .ret v => R (.ok (.ret v)) s₃) (notedBy (model prog w) A env fun e s' => R (.error e) s') { s with heap := h', toks := tk })
    (done : ∀ led m h' tk, J vs.length led m → Fr h₀ L h' m → News h₀ L h' led → R (.ok .next) { s with heap := h', toks := tk })
    {led : Led} {m : Str → Option Value} {oI : Obj} (h0 : J 0 led m) (hI : LiOf Pl 0 oI) (F : Fr h₀ L s.heap m) (N : News h₀ L s.heap ((I, oI) :: led)) (ap : ∀ p ∈ led, p.1 ≠ I) :
    codeAny (model prog w) A (.forLoop (.Name x px) (.ref I) body [] env) R s := by
  refine for_ (InFor h₀ L I Pl s vs.length J) ?_ (vs.length + 1) ⟨0, led, m, s.heap, s.toks, oI, hI, Nat.zero_le _, by omega, rfl, h0, F, N, ap⟩
  clear h0 hI F N ap
  rintro n s' ⟨i, led, m, h', tk, oI, hI, hi, rfl, rfl, hj, F, N, ap⟩
  obtain ⟨k, hk⟩ := hJ i led m hj
  have hI5 := N _ (.head _)
  have hit : h'.IsListIter I Pl i := ⟨oI, hI5.1, hI.1, hI.2⟩
  have hls : h'.IsList Pl vs.toArray := ⟨_, (N _ (.tail _ hk)).1, rfl, _, rfl⟩
  cases hv : vs[i]? with
  | none =>
    have hiv : i = vs.length := Nat.le_antisymm hi (by simpa using hv)
    refine wpAny_pyNext_list_end hh hit hls (by simpa using hv) fun h6 hx6 => ?_
    subst hiv
    exact done led m h6 tk hj ⟨F.ns.extBut hx6 (Ne.symm hI5.2.1), fun b o e => hx6 b o (fun q => by rw [q, hI5.2.2] at e; cases e) (F.keep b o e), F.above⟩ fun p hp => ⟨hx6 _ _ (ap p hp) (N p (.tail _ hp)).1, (N p (.tail _ hp)).2⟩
  | some v =>
    have hlt : i < vs.length := (List.getElem?_eq_some_iff.mp hv).1
    refine wpAny_pyNext_list_item hit hls (x := v) (by simpa using hv) fun h6 ⟨o6, g1, g2, g3⟩ hs6 => ?_
    have N6 : News h₀ L h6 ((I, o6) :: led) := fun p hp => by
      rcases List.mem_cons.mp hp with rfl | hp
      · exact ⟨g1, hI5.2⟩
      · exact ⟨(hs6.2 _ (ap p hp)).trans (N p (.tail _ hp)).1, (N p (.tail _ hp)).2⟩
    have F6 : Fr h₀ L h6 m := ⟨F.ns.sameBut hs6 (Ne.symm hI5.2.1), fun b o e => (hs6.2 b (fun q => by rw [q, hI5.2.2] at e; cases e)).trans (F.keep b o e), F.above⟩
    have hns : h6.Ns env.locals m := by rw [hl]; exact F6.ns
    refine wpAny_storeName_local hx hns (fun h7 hn7 hs7 => ?_) hp
    rw [hl] at hn7 hs7
    refine wpAny_mono (turn i v o6 led m h7 _ hv hj ⟨g2, g3⟩ (F6.set hn7 hs7) (N6.set hs7) ap) (fun f s₃ h₃ => ?_) fun _ _ x => x
    have nx : Nxt h₀ L I o6 s J (i + 1) s₃ → Again (InFor h₀ L I Pl s vs.length J) (vs.length + 1 - i) s₃ := fun ⟨led', m', h8, tk8, e8, j8, F8, N8, ap8⟩ =>
      ⟨vs.length + 1 - (i + 1), by omega, ⟨i + 1, led', m', h8, tk8, o6, ⟨g2, g3⟩, hlt, rfl, e8, j8, F8, N8, ap8⟩⟩
    cases f with
    | next => exact nx h₃
    | cont => exact nx h₃
    | brk => exact h₃
    | ret v => exact h₃
end
end Mine
/-! Cu -/
namespace Mine
open PySem PySem.W PySem.Calls PySem.Spec PyProof.Rows
set_option Elab.async false
set_option maxRecDepth 100000
set_option maxHeartbeats 4000000
set_option linter.unusedVariables false
theorem fillCu : (PySem.Challenge.rw_mr0151_01, KK) = (PySem.Challenge.rw_mr0151_01, KK) := by k_fill; rfl
abbrev Kds (kd : Str) : Prop := kd = Str.ofString "#" ∨ kd = Str.ofString "'" ∨ kd = Str.ofString ""
abbrev env126 (L : Addr) : Env := envOf (Str.ofString "_law_cut") (scopeOf (stAt 19)) L 126 (.ref 125)
abbrev loc126 (Pl : Addr) (r : Int) (t : Tok) : Str → Option Value := fun z => [(Str.ofString "room", Value.int r t), (Str.ofString "pieces", Value.ref Pl)].lookup z
abbrev in126 (Pl Dn : Addr) (r0 r : Int) (t0 t : Tok) (wv pv : Option Value) : Str → Option Value := fun y => if y = Str.ofString "room" then some (Value.int r t) else if y = Str.ofString "written" then wv else if y = Str.ofString "piece" then pv else
  if y = Str.ofString "done" then some (Value.ref Dn) else loc126 Pl r0 t0 y
def forStmt (i : Nat) (j : Nat) : Stmt := ((bodyOf (stAt i))[j]?).getD (.Pass default)
theorem Pcs.at {led : Led} : ∀ {vs : List Value} {ps : List (Str × Str)} {i : Nat} {v : Value}, Pcs led vs ps → vs[i]? = some v → ∃ kd tx a t1 t2, v = .ref a ∧ (a, tupObj #[.str kd t1, .str tx t2]) ∈ led ∧ ps[i]? = some (kd, tx)
  | [], [], i, v, _, h => by simp at h
  | w :: vs, (kd, tx) :: ps, 0, v, ⟨⟨a, tk, tt, e, hm⟩, _⟩, h => ⟨kd, tx, a, tk, tt, by simp at h; rw [← h, e], hm, rfl⟩
  | w :: vs, p :: ps, i + 1, v, ⟨_, r⟩, h => by
    obtain ⟨kd, tx, a, t1, t2, e, hm, hp⟩ := r.at (i := i) (v := v) (by simpa using h)
    exact ⟨kd, tx, a, t1, t2, e, hm, by simpa using hp⟩
  | [], _ :: _, _, _, h, _ => h.elim
  | _ :: _, [], _, _, h, _ => h.elim
theorem wtn_len {kd tx : Str} (h : tx.length ≤ 1000) (hk : Kds kd) : (wtn kd tx).length ≤ 2000 := by
  have e1 : (Str.ofString "#").length = 1 := by decide +kernel
  have e2 : (Str.ofString "'").length = 1 := by decide +kernel
  have e3 : (Str.ofString "").length = 0 := by decide +kernel
  have e4 : (Str.ofString "\n").length = 1 := by decide +kernel
  rcases hk with rfl | rfl | rfl
  · rw [wtn_c]; simp only [PySem.Str.length_append, e1, e4]; omega
  · rw [wtn_l]; simp only [PySem.Str.length_append, e2]; omega
  · rw [wtn_e]; simp only [PySem.Str.length_append, e3]; omega
theorem news_dup {h₀ h : Heap} {L : Addr} {led : Led} {p : Addr × Obj} (N : News h₀ L h led) (hp : p ∈ led) : News h₀ L h (p :: led) := fun q hq => by
  rcases List.mem_cons.mp hq with rfl | hq
  · exact N _ hp
  · exact N q hq
theorem kd_len {kd : Str} (hk : Kds kd) : kd.length ≤ 1 := by
  rcases hk with rfl | rfl | rfl <;> decide +kernel
inductive CutRes where
  | ps (l : List (Str × Str))
  | msg
def cutP : List (Str × Str) → List (Str × Str) → Nat → CutRes
  | [], d, _ => .ps d
  | p :: r, d, n => if n < (wtn p.1 p.2).length then (if n = 0 then .ps d else if p.1 = Str.ofString "'" then .msg else .ps (d ++ [(p.1, cut (wtn p.1 p.2).cps.toList p.1.length n)])) else cutP r (d ++ [p]) (n - (wtn p.1 p.2).length)
theorem cutP_cons {kd tx : Str} {r d : List (Str × Str)} {n : Nat} : cutP ((kd, tx) :: r) d n = if n < (wtn kd tx).length then (if n = 0 then .ps d else if kd = Str.ofString "'" then .msg else .ps (d ++ [(kd, cut (wtn kd tx).cps.toList kd.length n)])) else cutP r (d ++ [(kd, tx)]) (n - (wtn kd tx).length) := rfl
/-- the loop's state at place i -/
def InCut (fs : Led) (Pl Dn : Addr) (vs : List Value) (ps : List (Str × Str)) (r0 : Int) (t0 : Tok) (i : Nat) (led : Led) (m : Str → Option Value) : Prop :=
  ∃ e r tr wv pv, led = (Dn, listOf (vs.take i).toArray e) :: fs ∧ m = in126 Pl Dn r0 r t0 tr wv pv ∧ r ≤ r0 ∧ 0 ≤ r ∧ cutP (ps.drop i) (ps.take i) r.toNat = cutP ps [] r0.toNat
theorem in126_next {Pl Dn : Addr} {r0 r r' : Int} {t0 t t' : Tok} {wv pv : Option Value} {w p : Value} :
    (fun y => if y = Str.ofString "room" then some (Value.int r' t') else (fun y => if y = Str.ofString "written" then some w else (fun y => if y = Str.ofString "piece" then some p else in126 Pl Dn r0 r t0 t wv pv y) y) y) = in126 Pl Dn r0 r' t0 t' (some w) (some p) := by
  funext y
  by_cases h1 : y = Str.ofString "room"
  · simp [h1]
  · by_cases h2 : y = Str.ofString "written"
    · subst h2; rfl
    · by_cases h3 : y = Str.ofString "piece"
      · subst h3; rfl
      · simp only [in126, if_neg h1, if_neg h2, if_neg h3]
theorem Pcs.take {led : Led} : ∀ {vs : List Value} {ps : List (Str × Str)} (i : Nat), Pcs led vs ps → Pcs led (vs.take i) (ps.take i)
  | [], [], _, _ => by simp [Pcs]
  | _ :: _, _ :: _, 0, _ => by simp [Pcs]
  | _ :: _, _ :: _, i + 1, h => by simp only [List.take_succ_cons]; exact ⟨h.1, h.2.take i⟩
  | [], _ :: _, _, h => h.elim
  | _ :: _, [], _, h => h.elim
theorem take_snoc {α : Type} {l : List α} {i : Nat} {v : α} (h : l[i]? = some v) : l.take (i + 1) = l.take i ++ [v] := by
  obtain ⟨hlt, hv⟩ := List.getElem?_eq_some_iff.mp h
  rw [List.take_succ_eq_append_getElem hlt, hv]
theorem drop_cons {α : Type} {l : List α} {i : Nat} {v : α} (h : l[i]? = some v) : l.drop i = v :: l.drop (i + 1) := by
  obtain ⟨hlt, hv⟩ := List.getElem?_eq_some_iff.mp h
  rw [← hv]; exact List.drop_eq_getElem_cons hlt
theorem cut_new {h₀ h : Heap} {L D l a x1 x2 x3 : Addr} {vals : List Value} {qs : List (Str × Str)} {kd tx : Str} {t t' : Tok} {r fs : Led} (N : News h₀ L h ((D, listOf (vals ++ [Value.ref a]).toArray 0) :: (l, listOf #[Value.ref a] 0) :: (a, tupObj #[.str kd t, .str tx t']) :: r))
    (hr : ∀ p ∈ fs, p ∈ r) (h8 : ∀ p ∈ fs, p.1 < D) (h9 : x1 < a ∧ x2 < a ∧ x3 < a ∧ AllLt a fs) (hP : Pcs fs vals qs) :
    ∃ new : Led, News h₀ L h (new ++ fs) ∧ (D, listOf (vals ++ [Value.ref a]).toArray 0) ∈ new ∧ Pcs (new ++ fs) (vals ++ [Value.ref a]) (qs ++ [(kd, tx)]) ∧ (∀ p ∈ new, ∀ q ∈ fs, q.1 ≠ p.1) ∧ ∀ p ∈ new, Fixed p.2 := by
  refine ⟨[(D, listOf (vals ++ [Value.ref a]).toArray 0), (a, tupObj #[.str kd t, .str tx t'])], fun p hp => N p ?_, .head _, (hP.mono fun p hp => .tail _ (.tail _ hp)).snoc ⟨a, t, t', rfl, .tail _ (.head _)⟩, fun p hp q hq => ?_, fun p hp => ?_⟩
  · simp only [List.cons_append, List.nil_append, List.mem_cons] at hp ⊢
    rcases hp with h | h | h
    · exact .inl h
    · exact .inr (.inr (.inl h))
    · exact .inr (.inr (.inr (hr p h)))
  · simp only [List.mem_cons, List.not_mem_nil, or_false] at hp
    rcases hp with rfl | rfl
    · exact Nat.ne_of_lt (h8 q hq)
    · exact Nat.ne_of_lt (allLt_mem h9.2.2.2 q hq)
  · simp only [List.mem_cons, List.not_mem_nil, or_false] at hp
    rcases hp with rfl | rfl <;> exact fixed_seq
theorem cut_body {w : World} {s : Shared} {dp un : Nat} {gd : Option (List Code)} {outer : List Env} {E : Value → Shared → Prop} {h₀ : Heap} {L : Addr} {mg mb : Str → Option Value} {mean : ExcName → Option Value} {loose : List Str} {fs : Led} {Q : Flow → Shared → Prop}
   {Pl : Addr} {vs : List Value} {ps : List (Str × Str)} {kP : Nat} {r0 : Int} {t0 : Tok} (hr : 0 ≤ r0) (hr2 : r0 ≤ 1048577) (hP : Pcs fs vs ps) (hk : ∀ p ∈ ps, Kds p.1 ∧ p.2.length ≤ 1000) (hn : ps.length ≤ 1000) (hdp : dp + 1 < recursionLimit)
   (F : Fr h₀ L s.heap (loc126 Pl r0 t0)) (G : Gd w loose mean mg mb h₀) (N : News h₀ L s.heap fs) (hPl : (Pl, listOf vs.toArray kP) ∈ fs) (O : FrsIn outer fs)
   (ret : ∀ qs, cutP ps [] r0.toNat = .ps qs → ∀ D vals e new h' tk m', Fr h₀ L h' m' → News h₀ L h' (new ++ fs) → (D, listOf vals.toArray e) ∈ new → Pcs (new ++ fs) vals qs → (∀ p ∈ new, ∀ q ∈ fs, q.1 ≠ p.1) → (∀ p ∈ new, Fixed p.2) → Q (.ret (.ref D)) { s with heap := h', toks := tk })
   (retm : cutP ps [] r0.toNat = .msg → ∀ h' tk m' tj, Fr h₀ L h' m' → News h₀ L h' fs → Q (.ret (.str (Str.ofString "Expected \"'\" (at end of document)") tj)) { s with heap := h', toks := tk })
   : wpAny (model prog w) ⟨none, dp, some (env126 L :: outer), gd, un⟩ (execs (bodyOf (stAt 19)) (env126 L)) Q E s := by
  w_on
  have X := G.X
  have T := G.T
  delta env126
  conv in (bodyOf _) => whnf
  walk1
  walk1
  walk1
  walk1
  walk1
  walk1
  rename Fr _ _ _ _ => F0
  rename News _ _ _ _ => N0
  rename (∀ (p : Addr × Obj), p ∈ fs → p.fst < _) => hDl0
  obtain ⟨Dn, F1, N1, hDlt⟩ : ∃ Dn, Fr h₀ L _ (fun y => if y = Str.ofString "done" then some (Value.ref Dn) else loc126 Pl r0 t0 y) ∧ News h₀ L _ ((Dn, listOf #[] 0) :: fs) ∧ ∀ p ∈ fs, p.1 < Dn := ⟨_, F0, N0, hDl0⟩
  clear F0 N0
  have hls : _ := (N1 _ (.tail _ hPl)).1
  refine wpAny_execs_cons (wpAny_For (nameX_L F1 rfl (wpAny_pyIter_list ⟨_, hls, rfl, _, rfl⟩ ?_)))
  have F2 := F1.push { cls := .type "list_iterator", data := .fields #[.ref Pl, .int 0 0] }
  have N2 := N1.push F1 { cls := .type "list_iterator", data := .fields #[.ref Pl, .int 0 0] }
  have ap2 : ∀ p ∈ (Dn, listOf #[] 0) :: fs, p.1 ≠ _ := fun p hp => Nat.ne_of_lt (Heap.lt_size (N1 p hp).1)
  clear F1 N1
  refine for_list (L := L) (vs := vs) (Pl := Pl) rfl rfl rfl rfl (InCut fs Pl Dn vs ps r0 t0) (fun i led m hJ => ?_) (fun i v oI led m h' tk hv hJ hoI F3 N3 ap3 => ?_) (fun led m h' tk hJ F3 N3 => ?_) ?_ ⟨rfl, rfl⟩ F2 N2 ap2
  · obtain ⟨e, r, tr, wv, pv, rfl, _⟩ := hJ
    exact ⟨_, .tail _ hPl⟩
  · obtain ⟨e, r, tr, wv, pv, rfl, rfl, hr3, hr1, hcp⟩ := hJ
    obtain ⟨kd, tx, a, t1, t2, rfl, ha, hpi⟩ := hP.at hv
    have hkd := hk _ (List.mem_of_getElem? hpi)
    clear F2 N2
    k_steps
    refine written_call rfl isFn F3 G N3 (O.mono fun p hp => .tail _ (.tail _ hp)) (by omega) (.tail _ (.tail _ ha)) (Nat.le_trans hkd.2 (by decide)) hkd.1 fun h4 tk4 tj F4 N4 => ?_
    clear F3 N3
    have N5 := news_dup N4 (.tail _ (.tail _ ha))
    clear N4
    have hw : (wtn kd tx).length ≤ 2000 := wtn_len hkd.2 hkd.1
    rw [drop_cons hpi] at hcp
    have hkl : kd.length ≤ 1 := kd_len hkd.1
    have hJD : ∀ q ∈ fs, q.1 ≠ Dn := fun q hq => Nat.ne_of_lt (hDlt q hq)
    rw [cutP_cons] at hcp
    k_steps
    · rename Fr _ _ _ _ => F6
      rename News _ _ _ _ => N6
      rename r = 0 => hz
      rename r < _ => hlt
      rw [if_pos (by show r.toNat < (wtn kd tx).length; omega), if_pos (by omega)] at hcp
      exact ret (ps.take i) hcp.symm Dn (vs.take i) e [(Dn, listOf (vs.take i).toArray e)] _ _ _ F6 (fun p hp => N6 p (.tail _ (.tail _ hp))) (.head _) ((hP.take i).mono fun p hp => .tail _ hp) (fun p hp q hq => by rw [List.mem_singleton.mp hp]; exact hJD q hq) (fun p hp => by rw [List.mem_singleton.mp hp]; exact fixed_seq)
    · rename Fr _ _ _ _ => F6
      rename News _ _ _ _ => N6
      rename r ≠ 0 => hz
      rename r < _ => hlt
      rename (kd == Str.ofString "'") = true => hq
      rw [if_pos (by show r.toNat < (wtn kd tx).length; omega), if_neg (by omega), if_pos (eq_of_beq hq)] at hcp
      exact retm hcp.symm _ _ _ _ F6 (fun p hp => N6 p (.tail _ (.tail _ (.tail _ hp))))
    · rename Fr _ _ _ _ => F6
      rename News _ _ _ _ => N6
      rename r ≠ 0 => hz
      rename r < _ => hlt
      rename (kd == Str.ofString "'") = false => hq
      rw [if_pos (by show r.toNat < (wtn kd tx).length; omega), if_neg (by omega), if_neg (fun q => by rw [show kd = _ from q] at hq; simp at hq)] at hcp
      refine kmk_add_lit (zs := vs.take i ++ [_]) F6 N6 (by is_list) (by is_list) rfl (fun D8 h8 F8 N8 l8 => ?_) ?_
      · clear F6 N6
        k_steps
        rw [slice_cut (by omega) (by omega) (by omega), show ((kd.length : Nat) : Int).toNat = kd.length by omega] at N8
        obtain ⟨nw, g1, g2, g3, g4, g5⟩ := cut_new (fs := fs) N8 (fun p hp => .tail _ (.tail _ (.tail _ hp))) (fun q hq => l8 q (.tail _ (.tail _ (.tail _ (.tail _ (.tail _ hq)))))) (by assumption) (hP.take i)
        exact ret _ hcp.symm D8 _ 0 nw _ _ _ F8 g1 g2 g3 g4 g5
      · have := hP.len
        rw [sizeLine_eq]; simp; omega
    · rename Fr _ _ _ _ => F6
      rename News _ _ _ _ => N6
      rename ¬ (r < _) => hlt
      rw [if_neg (by show ¬ r.toNat < (wtn kd tx).length; omega)] at hcp
      refine append_K F6 N6 (.tail (hJD _ ha) (.tail (Ne.symm (ap3 _ (.head _))) (.head hJD))) (fun h7 F7 N7 => ?_) ?_
      · clear F6 N6
        k_steps
        rename Fr _ _ _ _ => F8
        rename News _ _ _ _ => N8
        refine ⟨(Dn, listOf (vs.take (i + 1)).toArray (e + 1)) :: fs, _, _, _, rfl, ⟨e + 1, r - (wtn kd tx).length, _, _, _, rfl, rfl, by omega, by omega, ?_⟩, in126_next ▸ F8, fun p hp => ?_, fun p hp => ?_⟩
        · rw [take_snoc hpi, show (r - ((wtn kd tx).length : Int)).toNat = r.toNat - (wtn kd tx).length by omega]
          exact hcp
        · rw [take_snoc hv] at hp
          refine N8 p ?_
          rcases List.mem_cons.mp hp with rfl | hp
          · exact .tail _ (.head _)
          · rcases List.mem_cons.mp hp with rfl | hp
            · rw [List.push_toArray]; exact .tail _ (.tail _ (.head _))
            · exact .tail _ (.tail _ (.tail _ hp))
        · rcases List.mem_cons.mp hp with rfl | hp
          · exact ap3 (Dn, listOf (vs.take i).toArray e) (.head _)
          · exact ap3 p (.tail _ hp)
      · have := hP.len
        rw [sizeLine_eq]; simp; omega
  · obtain ⟨e, r, tr, wv, pv, rfl, rfl, hr3, hr1, hcp⟩ := hJ
    clear F2 N2
    k_steps
    rw [show vs.length = ps.length from hP.len, List.drop_length, List.take_length] at hcp
    exact ret ps (by rw [← hcp]; rfl) Dn vs e [(Dn, listOf vs.toArray e)] _ _ _ F3 (by rw [List.take_length] at N3; exact N3) (.head _) (hP.mono fun p hp => .tail _ hp) (fun p hp q hq => by rw [List.mem_singleton.mp hp]; exact Nat.ne_of_lt (hDlt q hq)) (fun p hp => by rw [List.mem_singleton.mp hp]; exact fixed_seq)
  · refine ⟨0, r0, t0, none, none, rfl, ?_, Int.le_refl _, hr, rfl⟩
    funext y
    by_cases h1 : y = Str.ofString "room"
    · subst h1; rfl
    · by_cases h2 : y = Str.ofString "written"
      · subst h2; rfl
      · by_cases h3 : y = Str.ofString "piece"
        · subst h3; rfl
        · simp only [in126, if_neg h1, if_neg h2, if_neg h3]
theorem cut_call {w : World} {s : Shared} {dp un : Nat} {gd : Option (List Code)} {env : Env} {outer : List Env} {E : Value → Shared → Prop} {h₀ : Heap} {L : Addr} {m mg mb : Str → Option Value} {mean : ExcName → Option Value} {loose : List Str} {led : Led} {Q : Value → Shared → Prop}
   {Pl : Addr} {vs : List Value} {ps : List (Str × Str)} {kP : Nat} {r0 : Int} {t0 : Tok} (hf : env.frame = some L) (hke : env.scope.kind ≠ .module) (F : Fr h₀ L s.heap m) (G : Gd w loose mean mg mb h₀) (N : News h₀ L s.heap led) (O : FrsIn outer led) (hdp : dp + 2 < recursionLimit)
   (hr : 0 ≤ r0) (hr2 : r0 ≤ 1048577) (hP : Pcs led vs ps) (hk : ∀ p ∈ ps, Kds p.1 ∧ p.2.length ≤ 1000) (hn : ps.length ≤ 1000) (hPl : (Pl, listOf vs.toArray kP) ∈ led)
   (ret : ∀ qs, cutP ps [] r0.toNat = .ps qs → ∀ D vals e new h' tk, Fr h₀ L h' m → News h₀ L h' (new ++ led) → (D, listOf vals.toArray e) ∈ new → Pcs (new ++ led) vals qs → (∀ p ∈ new, ∀ q ∈ led, q.1 ≠ p.1) → (∀ p ∈ new, Fixed p.2) → Q (.ref D) { s with heap := h', toks := tk })
   (retm : cutP ps [] r0.toNat = .msg → ∀ h' tk tj, Fr h₀ L h' m → News h₀ L h' led → Q (.str (Str.ofString "Expected \"'\" (at end of document)") tj) { s with heap := h', toks := tk })
   : wpAny (model prog w) ⟨none, dp, some (env :: outer), gd, un⟩ (call (.ref 126) [.ref Pl, .int r0 t0]) Q E s := by
  refine enter (fd := fdAt 19 "_law_cut" .none (vS "law_mr0151_01" 421) 125) rfl hf hke F N O (G.X 126 o126 rfl) rfl G.T.nolimit ⟨125, _, _, _, rfl, G.X 125 (o125 _) rfl, rfl, rfl⟩ (by show dp < recursionLimit; omega) rfl (BindsTo.of_eq rfl) (by decide +kernel) (locs rfl) (fun g h₁ oL st F₁ N₁ O₁ bk lt kp => ?_) rfl rfl rfl
  refine cut_body (s := { s with heap := h₁, toks := _ }) hr hr2 (hP.mono fun p hp => .tail _ hp) hk hn (by show dp + 1 + 1 < recursionLimit; omega) F₁ (G.keeps st) N₁ (.tail _ hPl) O₁ (fun qs hq D vals e new h' tk m' F' N' hD hP' ap fx => ?_) fun hq h' tk m' tj F' N' => ?_
  · obtain ⟨oL', led', he, hoL, t1, F2, N2⟩ := bk [] _ h' m' new _ F' N' (.refl _) ap
    injection he with he1 he2
    injection he1 with he3 he4
    subst he2 he4
    refine ret qs hq D vals e new h' tk F2 N2 hD (hP'.imp fun a tk tt p hm => ?_) (fun p hp q hq => ap p hp q (.tail _ hq)) fx
    rcases List.mem_append.mp hm with hm | hm
    · exact List.mem_append_left _ hm
    · rcases List.mem_cons.mp hm with e | hm
      · obtain ⟨es, n, hd⟩ := hoL
        cases e; cases hd
      · exact List.mem_append_right _ hm
  · obtain ⟨oL', led', he, hoL, t1, F2, N2⟩ := bk [] _ h' m' [] _ F' N' (.refl _) (fun p hp => nomatch hp)
    injection he with he1 he2
    subst he2
    exact retm hq h' tk tj F2 N2
end Mine
/-! Sl -/
namespace Mine
open PySem PySem.W PySem.Calls PySem.Spec PyProof.Rows
set_option Elab.async false
set_option maxRecDepth 100000
set_option maxHeartbeats 4000000
set_option linter.unusedVariables false
theorem fillSl : (PySem.Challenge.rw_mr0151_01, KK) = (PySem.Challenge.rw_mr0151_01, KK) := by k_fill; rfl
theorem getD_len {l : List Str} {n : Nat} (h : ∀ a, a ∈ l → a.length ≤ n) : (l.getD (-1 + (l.length : Int)).toNat Str.empty).length ≤ n := by
  rw [List.getD_eq_getElem?_getD]
  cases q : l[(-1 + (l.length : Int)).toNat]? with
  | none => exact Nat.zero_le _
  | some a => exact h a (List.mem_of_getElem? q)
theorem lastTo_append {c : Nat} : ∀ {a b : List Nat}, lastTo c (a ++ b) = match lastTo c b with | some k => some (a.length + k) | none => lastTo c a
  | [], b => by cases h : lastTo c b <;> simp [h, lastTo]
  | d :: a, b => by
    have ih := lastTo_append (c := c) (a := a) (b := b)
    have e : ∀ (d : Nat) (l : List Nat), lastTo c (d :: l) = match lastTo c l with | some k => some (k + 1) | none => if d = c then some 0 else none := fun _ _ => rfl
    rw [List.cons_append, e, ih]
    cases h : lastTo c b with
    | none => rw [e]
    | some k => simp; omega
theorem lastTo_free {c : Nat} {l : List Nat} (h : c ∉ l) : lastTo c l = none := lastTo_none (List.count_eq_zero.mpr h)
theorem join_rows (c : Nat) : ∀ (P : List Str), P ≠ [] → (∀ p ∈ P, c ∉ p.cps.toList) →
    ((P.length : Int) = ((PySem.Str.join ⟨#[c]⟩ P).cps.toList.count c : Nat) + 1 ∧ ((P.getD (-1 + (P.length : Int)).toNat Str.empty).length : Int) + 1 = (match lastTo c (PySem.Str.join ⟨#[c]⟩ P).cps.toList with | some k => ((PySem.Str.join ⟨#[c]⟩ P).cps.toList.length : Int) - (k : Nat) | none => ((PySem.Str.join ⟨#[c]⟩ P).cps.toList.length : Int) + 1))
  | [], h, _ => absurd rfl h
  | [p], _, hf => by
    have hp := hf p (.head _)
    show ((1 : Nat) : Int) = (p.cps.toList.count c : Nat) + 1 ∧ _
    rw [List.count_eq_zero.mpr hp]
    refine ⟨by omega, ?_⟩
    show ((p.length : Nat) : Int) + 1 = (match lastTo c p.cps.toList with | some k => (p.cps.toList.length : Int) - (k : Nat) | none => (p.cps.toList.length : Int) + 1)
    rw [lastTo_free hp, len_list]
  | p :: q :: r, _, hf => by
    have hp := hf p (.head _)
    obtain ⟨i1, i2⟩ := join_rows c (q :: r) (by simp) fun x hx => hf x (.tail _ hx)
    have e : (PySem.Str.join ⟨#[c]⟩ (p :: q :: r)).cps.toList = p.cps.toList ++ c :: (PySem.Str.join ⟨#[c]⟩ (q :: r)).cps.toList := by
      show (p ++ ⟨#[c]⟩ ++ PySem.Str.join ⟨#[c]⟩ (q :: r)).cps.toList = _
      rw [PySem.Str.cps_append, PySem.Str.cps_append]
      simp
    rw [e]
    generalize (PySem.Str.join ⟨#[c]⟩ (q :: r)).cps.toList = xr at i1 i2
    refine ⟨?_, ?_⟩
    · rw [List.count_append, List.count_eq_zero.mpr hp, List.count_cons]
      simp only [List.length_cons] at i1 ⊢
      simp
      omega
    · have hg : ((p :: q :: r).getD (-1 + ((p :: q :: r).length : Int)).toNat Str.empty) = (q :: r).getD (-1 + ((q :: r).length : Int)).toNat Str.empty := by
        rw [show (-1 + ((p :: q :: r).length : Int)).toNat = (-1 + ((q :: r).length : Int)).toNat + 1 by simp only [List.length_cons]; omega]
        rfl
      rw [hg, i2, lastTo_append]
      have hl : lastTo c (c :: xr) = match lastTo c xr with | some k => some (k + 1) | none => some 0 := by
        conv => lhs; unfold lastTo
        cases lastTo c xr <;> simp
      rw [hl]
      cases h : lastTo c xr with
      | none => simp; omega
      | some k => simp; omega
theorem split_rows (x : Str) : ((Txt.split x ⟨#[10]⟩).length : Int) = (x.cps.toList.count 10 : Nat) + 1 ∧ (((Txt.split x ⟨#[10]⟩).getD (-1 + ((Txt.split x ⟨#[10]⟩).length : Int)).toNat Str.empty).length : Int) + 1 = colAt x.cps.toList x.length := by
  have h := join_rows 10 (Txt.split x ⟨#[10]⟩) (fun q => by have := split_pos x ⟨#[10]⟩; rw [q] at this; simp at this) (StrLaws.split_free x 10)
  rw [StrLaws.join_split] at h
  refine ⟨h.1, h.2.trans ?_⟩
  unfold colAt
  rw [len_list]
  all_goals (cases lastTo 10 x.cps.toList <;> rfl)
abbrev env133 (L : Addr) : Env := envOf (Str.ofString "_law_spoilt") (scopeOf (stAt 20)) L 133 (.ref 132)
abbrev loc133 (Pl : Addr) (g : Int) (nm : Str) (t t2 : Tok) : Str → Option Value := fun z => [(Str.ofString "name", Value.str nm t2), (Str.ofString "gap", Value.int g t), (Str.ofString "pieces", Value.ref Pl)].lookup z
abbrev in133 (Pl : Addr) (g : Int) (nm : Str) (t t2 : Tok) (ah : Str) (ta : Tok) (wi : Bool) (wv pv : Option Value) : Str → Option Value := fun y => if y = Str.ofString "ahead" then some (Value.str ah ta) else if y = Str.ofString "written" then wv else if y = Str.ofString "piece" then pv else
  if y = Str.ofString "within" then some (Value.bool wi) else loc133 Pl g nm t t2 y
def spoilTxt (wi : Bool) (nm : Str) (l : List Nat) (g : Int) : Str :=
  (if wi then Str.ofString "Found invalid character " ++ nm else Str.ofString "Neither") ++ Str.ofString " (at line " ++ Str.ofString (toString ((l.count 10 : Nat) + 1 : Int)) ++ Str.ofString ", column " ++ Str.ofString (toString (colAt l g)) ++ Str.ofString ")"
theorem slice_to {x : Str} {j : Int} (h0 : 0 ≤ j) (h2 : j ≤ x.length) : (Txt.slice x none (some j)).cps.toList = x.cps.toList.take j.toNat := by
  rw [eq_of_beq (slice_closes_toL h0 h2)]
  simp
theorem spoil_eq {ah : Str} {g : Int} {l : List (Str × Tok)} (h0 : 0 ≤ g) (h2 : g ≤ ah.length) (hl : l.map (fun x => x.1) = Txt.split (Txt.slice ah none (some g)) (Str.ofString "\n")) :
    (l.length : Int) = ((ah.cps.toList.take g.toNat).count 10 : Nat) + 1 ∧ (((l.map (fun x => x.1)).getD (-1 + ((l.map (fun x => x.1)).length : Int)).toNat Str.empty).length : Int) + 1 = colAt (ah.cps.toList.take g.toNat) g := by
  rw [nl_is] at hl
  have h := split_rows (Txt.slice ah none (some g))
  rw [← hl, slice_to h0 h2] at h
  refine ⟨by rw [← h.1, List.length_map], h.2.trans ?_⟩
  have : (Txt.slice ah none (some g)).length = g.toNat := by rw [len_list, slice_to h0 h2, List.length_take, ← len_list]; omega
  rw [this, show ((g.toNat : Nat) : Int) = g by omega]
theorem spoilt_tail {w : World} {s : Shared} {dp un : Nat} {gd : Option (List Code)} {outer : List Env} {E : Value → Shared → Prop} {h₀ : Heap} {L : Addr} {mg mb : Str → Option Value} {mean : ExcName → Option Value} {loose : List Str} {fs : Led} {Q : Flow → Shared → Prop}
   {Pl : Addr} {g : Int} {nm ah : Str} {t t2 ta : Tok} {wi : Bool} {wv pv : Option Value} (hg : 0 ≤ g) (hg2 : g ≤ ah.length) (hah : ah.length ≤ 1048576) (hnm : nm.length ≤ 1000)
   (F : Fr h₀ L s.heap (in133 Pl g nm t t2 ah ta wi wv pv)) (G : Gd w loose mean mg mb h₀) (N : News h₀ L s.heap fs) (O : FrsIn outer fs)
   (ret : ∀ h' tk m' tj, Fr h₀ L h' m' → News h₀ L h' fs → Q (.ret (.str (spoilTxt wi nm (ah.cps.toList.take g.toNat) g) tj)) { s with heap := h', toks := tk })
   : wpAny (model prog w) ⟨none, dp, some (env133 L :: outer), gd, un⟩ (execs ((bodyOf (stAt 20)).drop 3) (env133 L)) Q E s := by
  w_on
  have X := G.X
  have T := G.T
  delta env133
  conv in (List.drop 3 (bodyOf _)) => whnf
  k_steps
  · rename (_ = Txt.split _ _) => hlk
    have hb := len_le_of_split hlk
    have hb2 := len_of_split hlk
    rename (∀ a, a ∈ _ → PySem.Str.length a ≤ _) => hall
    have hb3 := getD_len hall
    k_steps
    rename Fr _ _ _ _ => F9
    rename News _ _ _ _ => N9
    rename wi = true => hwi
    obtain ⟨e1, e2⟩ := spoil_eq hg hg2 hlk
    rw [e1, e2]
    subst hwi
    exact ret _ _ _ _ F9 fun p hp => N9 p (.tail _ hp)
  · rename (_ = Txt.split _ _) => hlk
    have hb := len_le_of_split hlk
    have hb2 := len_of_split hlk
    rename (∀ a, a ∈ _ → PySem.Str.length a ≤ _) => hall
    have hb3 := getD_len hall
    k_steps
    rename Fr _ _ _ _ => F9
    rename News _ _ _ _ => N9
    rename wi = false => hwi
    obtain ⟨e1, e2⟩ := spoil_eq hg hg2 hlk
    rw [e1, e2]
    subst hwi
    exact ret _ _ _ _ F9 fun p hp => N9 p (.tail _ hp)
def spSt (g : Int) (a : Str × Bool) (p : Str × Str) : Str × Bool := (a.1 ++ wtn p.1 p.2, if p.1 ≠ Str.ofString "" ∧ (a.1.length : Int) < g ∧ g < a.1.length + (wtn p.1 p.2).length then true else a.2)
def spRun (g : Int) (ps : List (Str × Str)) : Str × Bool := ps.foldl (spSt g) (Str.ofString "", false)
def InSp (fs : Led) (Pl : Addr) (ps : List (Str × Str)) (g : Int) (nm : Str) (t t2 : Tok) (i : Nat) (led : Led) (m : Str → Option Value) : Prop :=
  ∃ ta wv pv, led = fs ∧ m = in133 Pl g nm t t2 (spRun g (ps.take i)).1 ta (spRun g (ps.take i)).2 wv pv ∧ (spRun g (ps.take i)).1.length ≤ 2000 * i
theorem spRun_snoc {g : Int} {ps : List (Str × Str)} {i : Nat} {p : Str × Str} (h : ps[i]? = some p) : spRun g (ps.take (i + 1)) = spSt g (spRun g (ps.take i)) p := by
  unfold spRun; rw [take_snoc h, List.foldl_append]; rfl
theorem in133_a {Pl : Addr} {g : Int} {nm ah ah' : Str} {t t2 ta ta' : Tok} {wi : Bool} {wv pv : Option Value} {w p : Value} :
    (fun y => if y = Str.ofString "ahead" then some (Value.str ah' ta') else (fun y => if y = Str.ofString "within" then some (Value.bool true) else (fun y => if y = Str.ofString "written" then some w else (fun y => if y = Str.ofString "piece" then some p else in133 Pl g nm t t2 ah ta wi wv pv y) y) y) y) = in133 Pl g nm t t2 ah' ta' true (some w) (some p) := by
  funext y
  by_cases h1 : y = Str.ofString "ahead"
  · simp [h1]
  · by_cases h2 : y = Str.ofString "written"
    · subst h2; rfl
    · by_cases h3 : y = Str.ofString "piece"
      · subst h3; rfl
      · by_cases h4 : y = Str.ofString "within"
        · subst h4; rfl
        · simp only [in133, if_neg h1, if_neg h2, if_neg h3, if_neg h4]
theorem in133_b {Pl : Addr} {g : Int} {nm ah ah' : Str} {t t2 ta ta' : Tok} {wi : Bool} {wv pv : Option Value} {w p : Value} :
    (fun y => if y = Str.ofString "ahead" then some (Value.str ah' ta') else (fun y => if y = Str.ofString "written" then some w else (fun y => if y = Str.ofString "piece" then some p else in133 Pl g nm t t2 ah ta wi wv pv y) y) y) = in133 Pl g nm t t2 ah' ta' wi (some w) (some p) := by
  funext y
  by_cases h1 : y = Str.ofString "ahead"
  · simp [h1]
  · by_cases h2 : y = Str.ofString "written"
    · subst h2; rfl
    · by_cases h3 : y = Str.ofString "piece"
      · subst h3; rfl
      · simp only [in133, if_neg h1, if_neg h2, if_neg h3]
theorem in133_0 {Pl : Addr} {g : Int} {nm ah : Str} {t t2 ta : Tok} {wi : Bool} :
    (fun y => if y = Str.ofString "within" then some (Value.bool wi) else (fun y => if y = Str.ofString "ahead" then some (Value.str ah ta) else loc133 Pl g nm t t2 y) y) = in133 Pl g nm t t2 ah ta wi none none := by
  funext y
  by_cases h1 : y = Str.ofString "ahead"
  · subst h1; rfl
  · by_cases h2 : y = Str.ofString "written"
    · subst h2; rfl
    · by_cases h3 : y = Str.ofString "piece"
      · subst h3; rfl
      · simp only [in133, if_neg h1, if_neg h2, if_neg h3]
theorem spoilt_body {w : World} {s : Shared} {dp un : Nat} {gd : Option (List Code)} {outer : List Env} {E : Value → Shared → Prop} {h₀ : Heap} {L : Addr} {mg mb : Str → Option Value} {mean : ExcName → Option Value} {loose : List Str} {fs : Led} {Q : Flow → Shared → Prop}
   {Pl : Addr} {vs : List Value} {ps : List (Str × Str)} {kP : Nat} {g : Int} {nm : Str} {t t2 : Tok} (hg : 0 ≤ g) (hg2 : g ≤ (spRun g ps).1.length) (hnm : nm.length ≤ 1000) (hP : Pcs fs vs ps) (hk : ∀ p ∈ ps, Kds p.1 ∧ p.2.length ≤ 1000) (hn : ps.length ≤ 100) (hdp : dp + 1 < recursionLimit)
   (F : Fr h₀ L s.heap (loc133 Pl g nm t t2)) (G : Gd w loose mean mg mb h₀) (N : News h₀ L s.heap fs) (hPl : (Pl, listOf vs.toArray kP) ∈ fs) (O : FrsIn outer fs)
   (ret : ∀ h' tk m' tj, Fr h₀ L h' m' → News h₀ L h' fs → Q (.ret (.str (spoilTxt (spRun g ps).2 nm ((spRun g ps).1.cps.toList.take g.toNat) g) tj)) { s with heap := h', toks := tk })
   : wpAny (model prog w) ⟨none, dp, some (env133 L :: outer), gd, un⟩ (execs (bodyOf (stAt 20)) (env133 L)) Q E s := by
  w_on
  have X := G.X
  have T := G.T
  delta env133
  conv in (bodyOf _) => whnf
  iterate 8 walk1
  rename Fr _ _ _ _ => F1
  rename News _ _ _ _ => N1
  have hls : _ := (N1 _ hPl).1
  refine wpAny_execs_cons (wpAny_For (nameX_L F1 rfl (wpAny_pyIter_list ⟨_, hls, rfl, _, rfl⟩ ?_)))
  have F2 := F1.push { cls := .type "list_iterator", data := .fields #[.ref Pl, .int 0 0] }
  have N2 := N1.push F1 { cls := .type "list_iterator", data := .fields #[.ref Pl, .int 0 0] }
  have ap2 : ∀ p ∈ fs, p.1 ≠ _ := fun p hp => Nat.ne_of_lt (Heap.lt_size (N1 p hp).1)
  clear F1 N1
  refine for_list (L := L) (vs := vs) (Pl := Pl) rfl rfl rfl rfl (InSp fs Pl ps g nm t t2) (fun i led m hJ => ?_) (fun i v oI led m h' tk hv hJ hoI F3 N3 ap3 => ?_) (fun led m h' tk hJ F3 N3 => ?_) ?_ ⟨rfl, rfl⟩ F2 N2 ap2
  · obtain ⟨ta, wv, pv, rfl, _⟩ := hJ
    exact ⟨_, hPl⟩
  · obtain ⟨ta, wv, pv, rfl, rfl, hlen⟩ := hJ
    obtain ⟨kd, tx, a, t1, t4, rfl, ha, hpi⟩ := hP.at hv
    have hkd := hk _ (List.mem_of_getElem? hpi)
    have hil : i < ps.length := (List.getElem?_eq_some_iff.mp hpi).1
    generalize hsr : spRun g (ps.take i) = sr at *
    obtain ⟨ah, wi⟩ := sr
    clear F2 N2
    dsimp only at F3 hlen
    k_steps
    refine written_call rfl isFn F3 G N3 (O.mono fun p hp => .tail _ hp) (by omega) (.tail _ ha) (Nat.le_trans hkd.2 (by decide)) hkd.1 fun h4 tk4 tj F4 N4 => ?_
    clear F3 N3
    have N5 := news_dup N4 (.tail _ ha)
    clear N4
    have hw : (wtn kd tx).length ≤ 2000 := wtn_len hkd.2 hkd.1
    k_steps
    · rename Fr _ _ _ _ => F6
      rename News _ _ _ _ => N6
      rename (kd != Str.ofString "") = true => hne
      have hs : spRun g (ps.take (i + 1)) = (ah ++ wtn kd tx, true) := by
        rw [spRun_snoc hpi, hsr]
        simp only [spSt]
        rw [if_pos ⟨by simpa using hne, by omega, by omega⟩]
      have F7 : Fr h₀ L _ (in133 Pl g nm t t2 (ah ++ wtn kd tx) _ true (some _) (some _)) := in133_a ▸ F6
      exact ⟨_, _, _, _, rfl, ⟨_, _, _, rfl, by rw [hs], by rw [hs]; dsimp only; omega⟩, F7, fun p hp => N6 p (.tail _ hp), ap3⟩
    · rename Fr _ _ _ _ => F6
      rename News _ _ _ _ => N6
      have hs : spRun g (ps.take (i + 1)) = (ah ++ wtn kd tx, wi) := by
        rw [spRun_snoc hpi, hsr]
        simp only [spSt]
        rw [if_neg (fun q => by have := q.2.2; omega)]
      have F7 : Fr h₀ L _ (in133 Pl g nm t t2 (ah ++ wtn kd tx) _ wi (some _) (some _)) := in133_b ▸ F6
      exact ⟨_, _, _, _, rfl, ⟨_, _, _, rfl, by rw [hs], by rw [hs]; dsimp only; omega⟩, F7, fun p hp => N6 p (.tail _ hp), ap3⟩
    · rename Fr _ _ _ _ => F6
      rename News _ _ _ _ => N6
      have hs : spRun g (ps.take (i + 1)) = (ah ++ wtn kd tx, wi) := by
        rw [spRun_snoc hpi, hsr]
        simp only [spSt]
        rw [if_neg (fun q => by have := q.2.1; omega)]
      have F7 : Fr h₀ L _ (in133 Pl g nm t t2 (ah ++ wtn kd tx) _ wi (some _) (some _)) := in133_b ▸ F6
      exact ⟨_, _, _, _, rfl, ⟨_, _, _, rfl, by rw [hs], by rw [hs]; dsimp only; omega⟩, F7, fun p hp => N6 p (.tail _ hp), ap3⟩
    · rename Fr _ _ _ _ => F6
      rename News _ _ _ _ => N6
      rename (kd != Str.ofString "") = false => hne
      have hs : spRun g (ps.take (i + 1)) = (ah ++ wtn kd tx, wi) := by
        rw [spRun_snoc hpi, hsr]
        simp only [spSt]
        rw [if_neg (fun q => q.1 (by simpa using hne))]
      have F7 : Fr h₀ L _ (in133 Pl g nm t t2 (ah ++ wtn kd tx) _ wi (some _) (some _)) := in133_b ▸ F6
      exact ⟨_, _, _, _, rfl, ⟨_, _, _, rfl, by rw [hs], by rw [hs]; dsimp only; omega⟩, F7, fun p hp => N6 p (.tail _ hp), ap3⟩
  · obtain ⟨ta, wv, pv, rfl, rfl, hlen⟩ := hJ
    rw [show vs.length = ps.length from hP.len, List.take_length] at F3 hlen
    exact spoilt_tail (s := { s with heap := h', toks := tk }) hg hg2 (by omega) hnm F3 G N3 O ret
  · exact ⟨_, _, _, rfl, in133_0, by show (Str.ofString "").length ≤ 0; decide +kernel⟩
theorem spoilt_call {w : World} {s : Shared} {dp un : Nat} {gd : Option (List Code)} {env : Env} {outer : List Env} {E : Value → Shared → Prop} {h₀ : Heap} {L : Addr} {m mg mb : Str → Option Value} {mean : ExcName → Option Value} {loose : List Str} {led : Led} {Q : Value → Shared → Prop}
   {Pl : Addr} {vs : List Value} {ps : List (Str × Str)} {kP : Nat} {g : Int} {nm : Str} {t t2 : Tok} (hf : env.frame = some L) (hke : env.scope.kind ≠ .module) (F : Fr h₀ L s.heap m) (G : Gd w loose mean mg mb h₀) (N : News h₀ L s.heap led) (O : FrsIn outer led) (hdp : dp + 2 < recursionLimit)
   (hg : 0 ≤ g) (hg2 : g ≤ (spRun g ps).1.length) (hnm : nm.length ≤ 1000) (hP : Pcs led vs ps) (hk : ∀ p ∈ ps, Kds p.1 ∧ p.2.length ≤ 1000) (hn : ps.length ≤ 100) (hPl : (Pl, listOf vs.toArray kP) ∈ led)
   (ret : ∀ h' tk tj, Fr h₀ L h' m → News h₀ L h' led → Q (.str (spoilTxt (spRun g ps).2 nm ((spRun g ps).1.cps.toList.take g.toNat) g) tj) { s with heap := h', toks := tk })
   : wpAny (model prog w) ⟨none, dp, some (env :: outer), gd, un⟩ (call (.ref 133) [.ref Pl, .int g t, .str nm t2]) Q E s := by
  refine enter (fd := fdAt 20 "_law_spoilt" .none (vS "law_mr0151_01" 421) 132) rfl hf hke F N O (G.X 133 o133 rfl) rfl G.T.nolimit ⟨132, _, _, _, rfl, G.X 132 (o132 _) rfl, rfl, rfl⟩ (by show dp < recursionLimit; omega) rfl (BindsTo.of_eq rfl) (by decide +kernel) (locs rfl) (fun g' h₁ oL st F₁ N₁ O₁ bk lt kp => ?_) rfl rfl rfl
  refine spoilt_body (s := { s with heap := h₁, toks := _ }) hg hg2 hnm (hP.mono fun p hp => .tail _ hp) hk hn (by show dp + 1 + 1 < recursionLimit; omega) F₁ (G.keeps st) N₁ (.tail _ hPl) O₁ fun h' tk m' tj F' N' => ?_
  obtain ⟨oL', led', he, hoL, t1, F2, N2⟩ := bk [] _ h' m' [] _ F' N' (.refl _) (fun p hp => nomatch hp)
  injection he with he1 he2
  subst he2
  exact ret h' tk tj F2 N2
end Mine
/-! Kr -/
namespace Mine
open PySem PySem.W PySem.Calls PySem.Spec PyProof.Rows
set_option Elab.async false
set_option linter.unusedVariables false
/-- what was asked of the oracle -/
abbrev Log := List (PySem.Ctx × Pos × SharedT)
/-- for a code its result and end -/
abbrev Orc := Code → Option (Result × SharedT)
/-- a tree run over a tree of objects -/
abbrev RunW : Type 1 := (α : Type) → PySem.Ctx → Pos → SharedT → Sem α → Option (Except Value α × Pos × SharedT × Log)
def codeW (M : Model) (run : RunW) (m : Nat) : PySem.Ctx → Pos → SharedT → Option (Result × SharedT × Log) :=
  Nat.rec (motive := fun _ => PySem.Ctx → Pos → SharedT → Option (Result × SharedT × Log)) (fun _ _ _ => none) (fun _ ih Γ p s =>
    match run Fin Γ p s (M.den Γ.code) with
    | some (.ok (.done f), _, s', l) => some (.ok f, s', l)
    | some (.ok (.again c), p', s', l) => match c.quiet with
      | true => match ih (Γ.goto c) p' s' with
        | some (r, s'', l') => some (r, s'', l ++ l')
        | none => none
      | false => none
    | some (.error e, _, s', l) => some (.error e, s', l)
    | none => none) m
def nodeW (M : Model) (orc : Orc) (n : Nat) (ih : RunW) : RunW := fun α Γ p s x =>
  match x with
  | .pure a => some (.ok a, p, s, [])
  | .raise e => some (.error e, p, s, [])
  | .rule _ k => ih α Γ p s (k ())
  | .at p' k => ih α Γ p' s (k ())
  | .load a _ k => match Nat.blt a s.n with
    | true => match s.tree.get a with
      | some o => match alive o with
        | some o' => ih α Γ p s (k o')
        | none => none
      | none => none
    | false => none
  | .update a _ f k => match Nat.blt a s.n with
    | true => match s.tree.get a with
      | some o => match alive o with
        | some _ => ih α Γ p ⟨s.tree.set a f, s.n, s.life, s.gens, s.drawn, s.toks, s.os⟩ (k ())
        | none => none
      | none => none
    | false => none
  | .loadIfAlive a k => match Nat.blt a s.n with
    | true => match s.tree.get a with
      | some o => ih α Γ p s (k (alive o))
      | none => none
    | false => ih α Γ p s (k none)
  | .point _ k => ih α Γ p s (k ())
  | .alloc o k => match ((s.tree.ins s.n o).get s.n).isSome with
    | true => ih α Γ p ⟨s.tree.ins s.n o, s.n + 1, s.life, s.gens, s.drawn, s.toks, s.os⟩ (k s.n)
    | false => none
  | .fresh k => ih α Γ p ⟨s.tree, s.n, s.life, s.gens, s.drawn, s.toks + 1, s.os⟩ (k s.toks)
  | .ask k => ih α Γ p s (k ⟨M.prog, M.w.params⟩)
  | .call c h _ _ k => match orc c with
    | some (r, s') => match ih α Γ p s' (k r) with
      | some (r, p', s'', l) => some (r, p', s'', (Γ.enter c h p, p, s) :: l)
      | none => none
    | none => match codeW M ih n (Γ.enter c h p) p s with
      | some (r, s', l) => match ih α Γ p s' (k r) with
        | some (r, p', s'', l') => some (r, p', s'', l ++ l')
        | none => none
      | none => none
  | .handled own k => ih α Γ p s (k (if own then Γ.own else Γ.handled))
  | .newGen c k => ih α Γ p ⟨s.tree, s.n, s.life, s.gens.push (.fresh c), s.drawn, s.toks, s.os⟩ (k s.gens.size)
  | .stack k => ih α Γ p s (k ((Γ.code, p) :: Γ.below))
  | .thread k => ih α Γ p s (k 0)
  | _ => none
def runW (M : Model) (orc : Orc) (n : Nat) : RunW := Nat.rec (motive := fun _ => RunW) (fun _ _ _ _ _ => none) (fun n ih => nodeW M orc n ih) n

section
variable {M : Model} {orc : Orc}
/-- the oracle was right in what it was asked -/
def Right (M : Model) (orc : Orc) (l : Log) : Prop := ∀ y ∈ l, ∃ r s', orc y.1.code = some (r, s') ∧ wpCode M y.1 (fun r₂ s₂ => r₂ = r ∧ s₂ = s'.abs) y.2.1 y.2.2.abs
theorem Right.left {l l' : Log} (h : Right M orc (l ++ l')) : Right M orc l := fun y hy => h y (List.mem_append_left _ hy)
theorem Right.right {l l' : Log} (h : Right M orc (l ++ l')) : Right M orc l' := fun y hy => h y (List.mem_append_right _ hy)
def Sound (M : Model) (orc : Orc) (run : RunW) : Prop := ∀ (α : Type) (Γ : PySem.Ctx) (p : Pos) (s : SharedT) (x : Sem α) (r : Except Value α) (p' : Pos) (s' : SharedT) (l : Log), run α Γ p s x = some (r, p', s', l) → Right M orc l →
  Sem.wp M Γ x (fun a p₂ s₂ => r = .ok a ∧ p₂ = p' ∧ s₂ = s'.abs) (fun e p₂ s₂ => r = .error e ∧ p₂ = p' ∧ s₂ = s'.abs) p s.abs
theorem codeW_sound {run : RunW} (hs : Sound M orc run) : ∀ (m : Nat) (Γ : PySem.Ctx) (p : Pos) (s : SharedT) (r : Result) (s' : SharedT) (l : Log), codeW M run m Γ p s = some (r, s', l) → Right M orc l → wpCode M Γ (fun r₂ s₂ => r₂ = r ∧ s₂ = s'.abs) p s.abs
  | 0, _, _, _, _, _, _, h, _ => by cases h
  | m + 1, Γ, p, s, r, s', l, h, hR => by
    have ih := codeW_sound hs m
    change (match run Fin Γ p s (M.den Γ.code) with
      | some (.ok (.done f), _, s', l) => some (.ok f, s', l)
      | some (.ok (.again c), p', s', l) => match c.quiet with
        | true => match codeW M run m (Γ.goto c) p' s' with
          | some (r, s'', l') => some (r, s'', l ++ l')
          | none => none
        | false => none
      | some (.error e, _, s', l) => some (.error e, s', l)
      | none => none) = some (r, s', l) at h
    refine (Sem.wp_iff_runs M Γ (M.den Γ.code) (fun r₂ s₂ => r₂ = r ∧ s₂ = s'.abs) p s.abs).mp ?_
    cases hr : run Fin Γ p s (M.den Γ.code) with
    | none => rw [hr] at h; cases h
    | some x =>
      obtain ⟨f, p₁, s₁, l₁⟩ := x
      rw [hr] at h
      cases f with
      | error e =>
        cases h
        refine Sem.wp_mono M Γ _ (fun a p₂ s₂ q => ?_) (fun e p₂ s₂ q => ?_) p s.abs (hs Fin Γ p s _ _ _ _ _ hr hR)
        · cases q.1
        · obtain ⟨q1, rfl, rfl⟩ := q
          cases q1
          exact ⟨rfl, rfl⟩
      | ok a =>
        cases a with
        | done f =>
          cases h
          refine Sem.wp_mono M Γ _ (fun a p₂ s₂ q => ?_) (fun e p₂ s₂ q => ?_) p s.abs (hs Fin Γ p s _ _ _ _ _ hr hR)
          · obtain ⟨q1, rfl, rfl⟩ := q
            cases q1
            exact ⟨rfl, rfl⟩
          · cases q.1
        | again c =>
          dsimp only at h
          cases hq : c.quiet with
          | false => rw [hq] at h; cases h
          | true =>
            rw [hq] at h
            dsimp only at h
            cases hc : codeW M run m (Γ.goto c) p₁ s₁ with
            | none => rw [hc] at h; cases h
            | some y =>
              obtain ⟨r₂, s₂, l₂⟩ := y
              rw [hc] at h
              cases h
              refine Sem.wp_mono M Γ _ (fun a p₂ s₂ q => ?_) (fun e p₂ s₂ q => ?_) p s.abs (hs Fin Γ p s _ _ p₁ s₁ l₁ hr hR.left)
              · obtain ⟨q1, rfl, rfl⟩ := q
                cases q1
                exact ⟨hq, ih _ _ _ _ _ _ hc hR.right⟩
              · cases q.1
theorem nodeW_sound {n : Nat} {ih : RunW} (hs : Sound M orc ih) : Sound M orc (nodeW M orc n ih) := by
  intro α Γ p s x r p' s' lg h hR
  obtain ⟨T, k, life, gens, drawn, toks, os⟩ := s
  cases x with
  | pure a => cases h; exact ⟨rfl, rfl, rfl⟩
  | raise e => cases h; exact ⟨rfl, rfl, rfl⟩
  | rule t k => delta nodeW at h; dsimp only at h; rw [Sem.wp_rule]; exact hs _ _ _ _ _ _ _ _ _ h hR
  | «at» q k => delta nodeW at h; dsimp only at h; rw [Sem.wp_at]; exact hs _ _ _ _ _ _ _ _ _ h hR
  | point l k => delta nodeW at h; dsimp only at h; rw [Sem.wp_point]; exact hs _ _ _ _ _ _ _ _ _ h hR
  | fresh k => delta nodeW at h; dsimp only at h; rw [Sem.wp_fresh]; exact hs _ _ _ _ _ _ _ _ _ h hR
  | ask k => delta nodeW at h; dsimp only at h; rw [Sem.wp_ask]; exact hs _ _ _ _ _ _ _ _ _ h hR
  | handled own k => delta nodeW at h; dsimp only at h; rw [Sem.wp_handled]; exact hs _ _ _ _ _ _ _ _ _ h hR
  | newGen c k => delta nodeW at h; dsimp only at h; rw [Sem.wp_newGen]; exact hs _ _ _ _ _ _ _ _ _ h hR
  | stack k => delta nodeW at h; dsimp only at h; rw [Sem.wp_stack]; exact hs _ _ _ _ _ _ _ _ _ h hR
  | thread k => delta nodeW at h; dsimp only at h; rw [Sem.wp_thread]; exact hs _ _ _ _ _ _ _ _ _ h hR
  | load a q c =>
    delta nodeW at h; dsimp only at h
    cases e : Nat.blt a k with
    | false => rw [e] at h; cases h
    | true =>
      have lt : a < k := Nat.le_of_ble_eq_true e
      rw [e] at h
      cases g : T.get a with
      | none => simp only [g] at h; cases h
      | some o =>
        cases al : alive o with
        | none => simp only [g, al] at h; cases h
        | some o' =>
          simp only [g, al] at h
          rw [Sem.wp_load]
          exact ⟨o', (abs_get lt g).trans al, hs _ _ _ _ _ _ _ _ _ h hR⟩
  | update a q f c =>
    delta nodeW at h; dsimp only at h
    cases e : Nat.blt a k with
    | false => rw [e] at h; cases h
    | true =>
      have lt : a < k := Nat.le_of_ble_eq_true e
      rw [e] at h
      cases g : T.get a with
      | none => simp only [g] at h; cases h
      | some o =>
        cases al : alive o with
        | none => simp only [g, al] at h; cases h
        | some o' =>
          simp only [g, al] at h
          rw [Sem.wp_update]
          have := hs _ _ _ _ _ _ _ _ _ h hR
          rw [show (SharedT.mk (T.set a f) k life gens drawn toks os).abs = { (SharedT.mk T k life gens drawn toks os).abs with heap := (absHeap T k life).update a f } from by
            show Shared.mk (absHeap (T.set a f) k life) gens drawn toks os = _
            rw [absHeap_set g]; rfl] at this
          exact ⟨by show ((absHeap T k life).get? a).isSome = true; rw [abs_get lt g, al]; rfl, this⟩
  | alloc o c =>
    delta nodeW at h; dsimp only at h
    cases e : ((T.ins k o).get k).isSome with
    | false => rw [e] at h; cases h
    | true =>
      rw [e] at h
      rw [Sem.wp_alloc]
      have := hs _ _ _ _ _ _ _ _ _ h hR
      rw [show (SharedT.mk (T.ins k o) (k + 1) life gens drawn toks os).abs = { (SharedT.mk T k life gens drawn toks os).abs with heap := (absHeap T k life).push o } from by
        show Shared.mk (absHeap (T.ins k o) (k + 1) life) gens drawn toks os = _
        rw [absHeap_ins e]; rfl] at this
      show Sem.wp M Γ (c (absHeap T k life).objs.size) _ _ p _
      rw [absHeap_size]
      exact this
  | loadIfAlive a c =>
    delta nodeW at h; dsimp only at h
    rw [Sem.wp_loadIfAlive]
    cases e : Nat.blt a k with
    | false =>
      rw [e] at h
      have lt : ¬ a < k := fun q => by rw [show Nat.blt a k = true from Nat.ble_eq_true_of_le q] at e; cases e
      show Sem.wp M Γ (c ((absHeap T k life).get? a)) _ _ p _
      rw [abs_get_none lt]
      exact hs _ _ _ _ _ _ _ _ _ h hR
    | true =>
      rw [e] at h
      have lt : a < k := Nat.le_of_ble_eq_true e
      cases g : T.get a with
      | none => simp only [g] at h; cases h
      | some o =>
        simp only [g] at h
        show Sem.wp M Γ (c ((absHeap T k life).get? a)) _ _ p _
        rw [abs_get lt g]
        exact hs _ _ _ _ _ _ _ _ _ h hR
  | call c hd g l c' =>
    delta nodeW at h; dsimp only at h
    rw [Sem.wp_call]
    cases ho : orc c with
    | some y =>
      obtain ⟨r₁, s₁⟩ := y
      rw [ho] at h
      dsimp only at h
      cases e : ih α Γ p s₁ (c' r₁) with
      | none => rw [e] at h; cases h
      | some z =>
        obtain ⟨r₂, p₂, s₂, l₂⟩ := z
        rw [e] at h
        cases h
        obtain ⟨r₃, s₃, h1, r₄, s₄, h2, h3, h4⟩ := hR _ (.head _)
        have h1 : orc c = some (r₃, s₃) := h1
        rw [ho] at h1
        cases h1
        refine ⟨r₄, s₄, h2, ?_⟩
        rw [h3, h4]
        exact hs _ _ _ _ _ _ _ _ _ e fun y hy => hR y (.tail _ hy)
    | none =>
      rw [ho] at h
      dsimp only at h
      cases e : codeW M ih n (Γ.enter c hd p) p ⟨T, k, life, gens, drawn, toks, os⟩ with
      | none => rw [e] at h; cases h
      | some x =>
        obtain ⟨r₁, s₁, l₁⟩ := x
        rw [e] at h
        dsimp only at h
        cases e2 : ih α Γ p s₁ (c' r₁) with
        | none => rw [e2] at h; cases h
        | some z =>
          obtain ⟨r₂, p₂, s₂, l₂⟩ := z
          rw [e2] at h
          cases h
          obtain ⟨r₂, s₂, hr, rfl, rfl⟩ := codeW_sound hs _ _ _ _ _ _ _ e hR.left
          exact ⟨_, _, hr, hs _ _ _ _ _ _ _ _ _ e2 hR.right⟩
  | _ => cases h
theorem runW_sound (M : Model) (orc : Orc) : ∀ n, Sound M orc (runW M orc n)
  | 0 => fun _ _ _ _ _ _ _ _ _ h _ => by cases h
  | n + 1 => nodeW_sound (runW_sound M orc n)
theorem wp_run {α : Type} {Γ : PySem.Ctx} {p : Pos} {s s' : SharedT} {x : Sem α} {a : α} {n : Nat} {γ : Type} {f : Log → γ} {c : γ} {Q : α → Pos → Shared → Prop} {E : Value → Pos → Shared → Prop}
    (h : (runW M orc n α Γ p s x).map (fun y => (y.1, y.2.2.1, f y.2.2.2)) = some (.ok a, s', c)) (hR : ∀ l, f l = c → Right M orc l) (hQ : ∀ p', Q a p' s'.abs) : Sem.wp M Γ x Q E p s.abs := by
  obtain ⟨⟨r, p', s₁, l⟩, h1, h2⟩ := Option.map_eq_some_iff.mp h
  simp only [Prod.mk.injEq] at h2
  obtain ⟨rfl, rfl, h3⟩ := h2
  exact Sem.wp_mono M Γ x (fun a₂ p₂ s₂ ⟨h1, h2, h3⟩ => by cases h1; rw [h3]; exact hQ p₂) (fun e p₂ s₂ ⟨h1, _⟩ => by cases h1) p s.abs (runW_sound M orc n α Γ p s x _ _ _ _ h1 (hR l h3))
/-- no oracle -/
def mute : Orc := fun _ => none
theorem right_nil : ∀ l : Log, l = [] → Right M orc l := fun l h y hy => by rw [h] at hy; cases hy
end
end Mine
/-! Ta -/
namespace Mine
open PySem PySem.W PySem.Calls PySem.Spec PyProof.Rows
set_option Elab.async false
set_option linter.unusedVariables false
/-- the leaps with nothing left of the hash: a full round of 128 places -/
def hop (i : Nat) : Nat := (i * 5 + 1) % 128
def hops : Nat → Nat → Nat
  | 0, i => i
  | n + 1, i => hops n (hop i)
theorem hops_add : ∀ (a b i : Nat), hops (a + b) i = hops b (hops a i)
  | 0, b, i => by rw [Nat.zero_add]; rfl
  | a + 1, b, i => by rw [show a + 1 + b = (a + b) + 1 by omega]; exact hops_add a b (hop i)
theorem hops_all : ∀ j < 128, ∃ t < 128, hops t 0 = j := by decide +kernel
theorem hops_round : hops 128 0 = 0 := by decide +kernel
theorem hops_to {i j : Nat} (hi : i < 128) (hj : j < 128) : ∃ t < 128, hops t i = j := by
  obtain ⟨a, ha, ea⟩ := hops_all i hi
  obtain ⟨b, hb, eb⟩ := hops_all j hj
  by_cases h : a ≤ b
  · refine ⟨b - a, by omega, ?_⟩
    rw [← ea, ← hops_add, show a + (b - a) = b by omega, eb]
  · refine ⟨b + 128 - a, by omega, ?_⟩
    rw [← ea, ← hops_add, show a + (b + 128 - a) = 128 + b by omega, hops_add, hops_round, eb]
/-- the leaps -/
def leaps : Nat → Nat → Nat → Nat × Nat
  | 0, i, p => (i, p)
  | n + 1, i, p => leaps n ((i * 5 + 1 + p / 32) % 128) (p / 32)
theorem leaps_perturb : ∀ (n i p : Nat), (leaps n i p).2 = p / 32 ^ n
  | 0, i, p => by simp [leaps]
  | n + 1, i, p => by
    show (leaps n _ (p / 32)).2 = _
    rw [leaps_perturb n, Nat.div_div_eq_div_mul, Nat.pow_succ, Nat.mul_comm]
theorem leaps_lt : ∀ (n i p : Nat), i < 128 → (leaps n i p).1 < 128
  | 0, i, p, h => h
  | n + 1, i, p, _ => leaps_lt n _ _ (Nat.mod_lt _ (by decide))
theorem leaps_zero : ∀ (n i : Nat), (leaps n i 0).1 = hops n i
  | 0, i => rfl
  | n + 1, i => by
    show (leaps n ((i * 5 + 1 + 0 / 32) % 128) (0 / 32)).1 = hops n (hop i)
    rw [Nat.zero_div, leaps_zero n]; rfl
theorem leaps_add : ∀ (a b i p : Nat), leaps (a + b) i p = leaps b (leaps a i p).1 (leaps a i p).2
  | 0, b, i, p => by rw [Nat.zero_add]; rfl
  | a + 1, b, i, p => by rw [show a + 1 + b = (a + b) + 1 by omega]; exact leaps_add a b _ _
open SetTable in
theorem free_none {owner : Array (Option Nat)} : ∀ (n i p : Nat), layClean.free 127 owner n i p = none → ∀ t < n, (owner.getD (leaps t i p).1 (some 0)).isNone = false
  | 0, _, _, _, t, ht => absurd ht (Nat.not_lt_zero _)
  | n + 1, i, p, h, t, ht => by
    unfold layClean.free at h
    split at h
    · cases h
    · rename_i hf
      cases t with
      | zero =>
        have := List.find?_eq_none.mp hf 0 (by
          rw [List.mem_range]
          unfold runEnd
          split <;> omega)
        show (owner.getD i (some 0)).isNone = false
        rw [Nat.add_zero] at this
        exact Bool.eq_false_iff.mpr this
      | succ t => exact free_none n _ _ h t (by omega)
theorem free_some_is {owner : Array (Option Nat)} : ∀ (n i p j : Nat), SetTable.layClean.free 127 owner n i p = some j → (owner.getD j (some 0)).isNone = true
  | 0, _, _, _, h => by cases h
  | n + 1, i, p, j, h => by
    unfold SetTable.layClean.free at h
    split at h
    · rename_i k hf
      cases h
      simpa using List.find?_some hf
    · exact free_some_is n _ _ _ h
theorem free_finds {owner : Array (Option Nat)} {h : Int} {j₀ : Nat} (hj : j₀ < 128) (hn : (owner.getD j₀ (some 0)).isNone = true) :
    ∃ j, SetTable.layClean.free 127 owner (SetTable.turns 127) (SetTable.bits h % 128) (SetTable.bits h) = some j ∧ (owner.getD j (some 0)).isNone = true := by
  cases hf : SetTable.layClean.free 127 owner (SetTable.turns 127) (SetTable.bits h % 128) (SetTable.bits h) with
  | some j => exact ⟨j, rfl, free_some_is _ _ _ _ hf⟩
  | none =>
    exfalso
    have hb : SetTable.bits h < 2 ^ 64 := by unfold SetTable.bits; omega
    have h13 : (leaps 13 (SetTable.bits h % 128) (SetTable.bits h)).2 = 0 := by
      rw [leaps_perturb]
      exact Nat.div_eq_of_lt (Nat.lt_of_lt_of_le hb (by decide))
    have hl := leaps_lt 13 (SetTable.bits h % 128) (SetTable.bits h) (Nat.mod_lt _ (by decide))
    obtain ⟨t, ht, e⟩ := hops_to hl hj
    have := free_none _ _ _ hf (13 + t) (by unfold SetTable.turns; omega)
    rw [leaps_add, h13, leaps_zero, e, hn] at this
    cases this
/-- what the slots hold -/
theorem set_perm {l : List (Option Nat)} {k : Nat} : ∀ {j : Nat}, l[j]? = some none → ((l.set j (some k)).filterMap id).Perm (k :: l.filterMap id) := by
  induction l with
  | nil => intro j h; simp at h
  | cons a l ih =>
    intro j h
    cases j with
    | zero =>
      have : a = none := by simpa using h
      subst this
      simp
    | succ j =>
      have ih := ih (j := j) (by simpa using h)
      cases a with
      | none => simpa using ih
      | some a =>
        simp only [List.set_cons_succ, List.filterMap_cons_some (f := id) (b := a) (by rfl)]
        exact (List.Perm.cons a ih).trans (List.Perm.swap k a _)
theorem filterMap_full {l : List (Option Nat)} : (∀ x ∈ l, x ≠ none) → (l.filterMap id).length = l.length := by
  induction l with
  | nil => intro _; rfl
  | cons a l ih =>
    intro h
    cases a with
    | none => exact absurd rfl (h none (.head _))
    | some a => simp [ih fun x hx => h x (.tail _ hx)]
theorem lay_fold : ∀ (hs : List Int) (owner : Array (Option Nat)) (k : Nat), owner.size = 128 → (owner.toList.filterMap id).Perm (List.range k) → k + hs.length ≤ 127 →
    ∃ owner', hs.foldl (fun (acc : Option (Array (Option Nat) × Nat)) h => do
        let (owner, k) ← acc
        let j ← SetTable.layClean.free 127 owner (SetTable.turns 127) (SetTable.bits h % (127 + 1)) (SetTable.bits h)
        pure (owner.setIfInBounds j (some k), k + 1)) (some (owner, k)) = some (owner', k + hs.length) ∧ owner'.size = 128 ∧ (owner'.toList.filterMap id).Perm (List.range (k + hs.length))
  | [], owner, k, hz, hp, _ => ⟨owner, rfl, hz, hp⟩
  | h :: hs, owner, k, hz, hp, hk => by
    have hk' : k + hs.length + 1 ≤ 127 := by simpa [Nat.add_assoc] using hk
    obtain ⟨j₀, hj₀, hn₀⟩ : ∃ j < 128, (owner.getD j (some 0)).isNone = true := by
      apply Classical.byContradiction
      intro hno
      have : ∀ x ∈ owner.toList, x ≠ none := by
        intro x hx q
        subst q
        obtain ⟨j, hj, e⟩ := List.getElem_of_mem hx
        have hj' : j < owner.size := by simpa using hj
        refine hno ⟨j, by omega, ?_⟩
        have e' : owner[j] = none := by simpa using e
        simp [Array.getD, hj', e']
      have h1 := filterMap_full this
      have h2 := hp.length_eq
      simp at h1 h2
      omega
    obtain ⟨j, hf, hn⟩ := free_finds (h := h) hj₀ hn₀
    have hj : j < owner.size := by
      apply Classical.byContradiction
      intro q
      simp [Array.getD, q] at hn
    have hoj : owner.toList[j]? = some none := by
      have : owner[j] = none := by simpa [Array.getD, hj] using hn
      rw [Array.getElem?_toList, Array.getElem?_eq_getElem hj, this]
    obtain ⟨owner', h1, h2, h3⟩ := lay_fold hs (owner.setIfInBounds j (some k)) (k + 1) (by simpa using hz) (by
      rw [Array.toList_setIfInBounds]
      refine (set_perm hoj).trans ?_
      rw [List.range_succ]
      exact (List.Perm.cons k hp).trans (List.perm_append_singleton k _).symm) (by omega)
    refine ⟨owner', ?_, h2, ?_⟩
    · rw [List.foldl_cons]
      show List.foldl _ (do let j ← SetTable.layClean.free 127 owner (SetTable.turns 127) (SetTable.bits h % 128) (SetTable.bits h); pure (owner.setIfInBounds j (some k), k + 1)) hs = _
      rw [hf]
      rw [show k + (h :: hs).length = k + 1 + hs.length by simp; omega]
      exact h1
    · rw [show k + (h :: hs).length = k + 1 + hs.length by simp; omega]; exact h3
theorem layClean_some (hs : Array Int) (hk : hs.size ≤ 127) : ∃ owner, SetTable.layClean 127 hs = some owner ∧ owner.size = 128 ∧ (owner.toList.filterMap id).Perm (List.range hs.size) := by
  obtain ⟨owner, h1, h2, h3⟩ := lay_fold hs.toList (Array.replicate 128 none) 0 (by simp) (by decide +kernel) (by simpa using hk)
  refine ⟨owner, ?_, h2, by simpa using h3⟩
  unfold SetTable.layClean
  rw [← Array.foldl_toList]
  exact congrArg (Option.map (·.1)) h1
theorem filterMap_range {l : List (Option Nat)} : ((List.range l.length).filterMap fun j => (l[j]?.getD none).map fun k => (j, k)).map (·.2) = l.filterMap id := by
  rw [List.map_filterMap]
  have : ∀ (l : List (Option Nat)), (List.range l.length).filterMap (fun j => l[j]?.getD none) = l.filterMap id := by
    intro l
    induction l with
    | nil => rfl
    | cons a l ih =>
      rw [List.length_cons, List.range_succ_eq_map, List.filterMap_cons, List.filterMap_map]
      have e : ((fun j => (a :: l)[j]?.getD none) ∘ Nat.succ) = fun j => l[j]?.getD none := by funext j; simp
      rw [e, ih]
      cases a <;> simp
  rw [← this l]
  congr 1
  funext j
  cases l[j]? with
  | none => rfl
  | some x => cases x <;> rfl
/-- a clean lay-out with 128 places never fails -/
theorem laid_some (fin mv : Nat) (led plain : Bool) (hs : Array Int) (hk : hs.size ≤ 127) : ∃ t order, SetTable.laid 127 fin mv led plain hs = some (t, order) ∧ order.toList.Perm (List.range hs.size) ∧
    t.mask = 127 ∧ t.dummies = #[] ∧ t.place.size = hs.size ∧ t.finger = fin ∧ t.led = led ∧ t.plain = plain := by
  obtain ⟨owner, h1, h2, h3⟩ := layClean_some hs hk
  have e : ((List.range 128).filterMap fun j => (owner.getD j none).map fun k => (j, k)).map (·.2) = owner.toList.filterMap id := by
    have := filterMap_range (l := owner.toList)
    rw [Array.length_toList, h2] at this
    rw [← this]
    congr 2
    funext j
    rw [Array.getElem?_toList]
    by_cases hj : j < owner.size
    · simp [Array.getD, hj]
    · simp [Array.getD, hj]
  refine ⟨_, _, by unfold SetTable.laid; rw [h1]; rfl, ?_, rfl, rfl, ?_, rfl, rfl, rfl⟩
  · show List.Perm (List.map (·.2) ((List.range 128).filterMap fun j => (owner.getD j none).map fun k => (j, k))) _
    rw [e]; exact h3
  · show (List.map (·.1) ((List.range 128).filterMap fun j => (owner.getD j none).map fun k => (j, k))).toArray.size = _
    rw [List.size_toArray, List.length_map, ← List.length_map (f := (·.2)), e, h3.length_eq, List.length_range]
end Mine
/-! Fs -/
namespace Mine
open PySem PySem.W PySem.Calls PySem.Spec PyProof.Rows
set_option Elab.async false
set_option linter.unusedVariables false
abbrev fzO (es : Array (Int × Value)) (ep : Nat) (t : SetTable) : Obj := { cls := .type "frozenset", data := .set es ep t }
def chE (e : Int × Value) : Nat := match e.2 with
  | .str x _ => x.cps.toList.headD 0
  | _ => 0
/-- the entries are the signs cs, each once -/
structure FsOk (w : World) (es : List (Int × Value)) (cs : List Nat) : Prop where
  ent : ∀ e ∈ es, ∃ c t, e = (hashStr w ⟨#[c]⟩, .str ⟨#[c]⟩ t)
  cs : (es.map chE).Perm cs
section
variable {prog : Program} {w : World} {es es' : List (Int × Value)} {cs : List Nat}
theorem FsOk.perm (x : FsOk w es cs) (p : es'.Perm es) : FsOk w es' cs := ⟨fun e he => x.ent e (p.mem_iff.mp he), (p.map _).trans x.cs⟩
theorem FsOk.len (x : FsOk w es cs) : es.length = cs.length := by have := x.cs.length_eq; simpa using this
theorem FsOk.snoc (x : FsOk w es cs) (c : Nat) (t : Tok) : FsOk w (es ++ [(hashStr w ⟨#[c]⟩, .str ⟨#[c]⟩ t)]) (cs ++ [c]) := by
  refine ⟨fun e he => ?_, ?_⟩
  · rcases List.mem_append.mp he with he | he
    · exact x.ent e he
    · exact ⟨c, t, List.mem_singleton.mp he⟩
  · rw [List.map_append]; exact x.cs.append_right _
theorem FsOk.elems (x : FsOk w es cs) : ElemsOf (strKind prog w) es := fun e he => by
  obtain ⟨c, t, rfl⟩ := x.ent e he
  exact ⟨⟨⟨#[c]⟩, strKind_is prog w _ t, rfl⟩, rfl⟩
theorem FsOk.is {c n : Nat} {t : Tok} : (strKind prog w).is ⟨#[n]⟩ (.str ⟨#[c]⟩ t) = decide (n = c) := by
  rw [KeyKind.is_eq_decide (strKind_is prog w ⟨#[c]⟩ t)]
  by_cases h : n = c
  · subst h; simp
  · simp [h]
theorem FsOk.mem (x : FsOk w es cs) (n : Nat) : n ∈ cs ↔ ∃ e ∈ es, (strKind prog w).is ⟨#[n]⟩ e.2 = true := by
  rw [← x.cs.mem_iff, List.mem_map]
  constructor
  · rintro ⟨e, he, rfl⟩
    obtain ⟨c, t, rfl⟩ := x.ent e he
    exact ⟨_, he, by rw [FsOk.is]; simp [chE]⟩
  · rintro ⟨e, he, hi⟩
    obtain ⟨c, t, rfl⟩ := x.ent e he
    rw [FsOk.is] at hi
    exact ⟨_, he, by simp [chE]; exact (of_decide_eq_true hi).symm⟩
theorem FsOk.findNone (x : FsOk w es cs) {n : Nat} (h : n ∉ cs) : es.findIdx? (fun e => (strKind prog w).is ⟨#[n]⟩ e.2) = none := by
  rw [List.findIdx?_eq_none_iff]
  intro e he
  cases hq : (strKind prog w).is ⟨#[n]⟩ e.2 with
  | false => rfl
  | true => exact absurd ((x.mem n).mpr ⟨e, he, hq⟩) h
theorem FsOk.drop (x : FsOk w es cs) {i n : Nat} (h : es.findIdx? (fun e => (strKind prog w).is ⟨#[n]⟩ e.2) = some i) : FsOk w (es.eraseIdx i) (cs.erase n) := by
  obtain ⟨hi, hp, _⟩ := List.findIdx?_eq_some_iff_getElem.mp h
  refine ⟨fun e he => x.ent e (List.mem_of_mem_eraseIdx he), ?_⟩
  have hc : chE es[i] = n := by
    obtain ⟨c, t, e⟩ := x.ent es[i] (List.getElem_mem hi)
    rw [e] at hp ⊢
    rw [FsOk.is] at hp
    exact (of_decide_eq_true hp).symm
  have p : es.Perm (es[i] :: es.eraseIdx i) := by
    have e : es = es.take i ++ es[i] :: es.drop (i + 1) := by rw [← List.drop_eq_getElem_cons hi, List.take_append_drop]
    rw [List.eraseIdx_eq_take_drop_succ]
    exact (List.Perm.of_eq e).trans List.perm_middle
  have p2 : (n :: (es.eraseIdx i).map chE).Perm cs := by
    rw [← hc, ← List.map_cons]
    exact (p.symm.map chE).trans x.cs
  have := p2.erase n
  simpa using this
end
theorem SameBut_get {h h' : Heap} {a b : Addr} {o : Obj} (x : Heap.SameBut a h h') (hb : b ≠ a) (e : h.get? b = some o) : h'.get? b = some o := (x.2 b hb).trans e
theorem put_get {h : Heap} {a : Addr} {es es' : Array (Int × Value)} {ep : Nat} {t t' : SetTable} (ho : h.get? a = some (fzO es ep t)) : (h.update a (Obj.putSet es' t')).get? a = some (fzO es' (ep + 1) t') := by
  have := Heap.get?_update_self (Obj.putSet es' t') ho (by rw [putSet_of es' t' rfl]; rfl)
  rw [putSet_of es' t' rfl] at this; exact this
section
variable {prog : Program} {w : World} {A : Around} {E : Value → Shared → Prop} {s : Shared} {a : Addr} {es : Array (Int × Value)} {ep : Nat} {t : SetTable} {cs : List Nat} {c : Nat} {tk : Tok}
theorem add_tail {g : Bool → Sem Unit} (hg : ∀ (b : Bool) (s₁ : Shared) (Q' : Unit → Shared → Prop), Q' () s₁ → wpAny (model prog w) A (g b) Q' E s₁)
    {es1 : Array (Int × Value)} {t2 : SetTable} {wasDummy : Bool} {R : Option Bool → Shared → Prop} (ho : s.heap.get? a = some (fzO es ep t)) (hx : FsOk w es1.toList cs) (hn : cs.length ≤ 100) (hf : t2.fits es1.size = true)
    (h : ∀ h' es' ep' t', Heap.SameBut a s.heap h' → h'.get? a = some (fzO es' ep' t') → FsOk w es'.toList cs → t'.fits es'.size = true → R (some true) { s with heap := h' }) :
    wpAny (model prog w) A (do
        storeSet a es1 t2
        if (!wasDummy && t2.tooFull) = true then do
            g (relayAll t2 es1 (SetTable.grown es1.size)).2.2
            storeSet a (relayAll t2 es1 (SetTable.grown es1.size)).1 (relayAll t2 es1 (SetTable.grown es1.size)).2.1
            pure (some true)
          else pure (some true)) R E s := by
  have hz : es1.size ≤ sizeLine := by have := hx.len; rw [Array.length_toList] at this; rw [sizeLine_eq]; omega
  refine wpAny_bind (wpAny_storeSet_of ho rfl ?_ hz)
  have hsb := Heap.SameBut.update s.heap a (Obj.putSet es1 t2)
  split
  · have hp := relayAll_perm t2 es1 (SetTable.grown es1.size)
    have hfr := relayAll_fits t2 es1 (SetTable.grown es1.size)
    generalize relayAll t2 es1 (SetTable.grown es1.size) = Rl at hp hfr ⊢
    obtain ⟨es2, t3, gave2⟩ := Rl
    dsimp only at hp hfr ⊢
    have hz2 : es2.size ≤ sizeLine := by rw [← Array.length_toList, hp.length_eq, Array.length_toList]; exact hz
    refine wpAny_bind (hg _ _ _ ?_)
    refine wpAny_bind (wpAny_storeSet_of (put_get ho) rfl ?_ hz2)
    exact wpAny_pure (h _ es2 _ t3 (hsb.trans (Heap.SameBut.update _ a _)) (put_get (put_get ho)) (hx.perm hp) hfr)
  · exact wpAny_pure (h _ es1 _ t2 hsb (put_get ho) hx hf)
theorem fs_add {Q : Bool → Shared → Prop} (ho : s.heap.get? a = some (fzO es ep t)) (hx : FsOk w es.toList cs) (hn : cs.length ≤ 99) (hf : t.fits es.size = true) (hc : c ∉ cs)
    (h : ∀ h' es' ep' t', Heap.SameBut a s.heap h' → h'.get? a = some (fzO es' ep' t') → FsOk w es'.toList (cs ++ [c]) → t'.fits es'.size = true → Q true { s with heap := h' }) :
    wpAny (model prog w) A (setAddHashed a (.str ⟨#[c]⟩ tk) (hashStr w ⟨#[c]⟩)) Q E s := by
  have hkey := strKind_is prog w ⟨#[c]⟩ tk
  have hsz : es.size = cs.length := by rw [← Array.length_toList, hx.len]
  have hb : es.size < scanBound := by rw [hsz]; show _ < 4096; omega
  unfold setAddHashed setAddHashedIn
  refine wpAny_holding (wpAny_bind (wpAny_setState_of ho rfl hf ?_))
  dsimp only
  rw [byScan_of (knd := strKind prog w) (x := .str ⟨#[c]⟩ tk) rfl hb hx.elems]
  simp only [↓reduceIte]
  unfold setAddByScan
  refine wpAny_bind ?_
  refine wpAny_bind (wpAny_rule ?_)
  refine wpAny_bind (wpAny_setScan_of (knd := strKind prog w) hkey ho rfl hf hx.elems ?_)
  rw [hx.findNone hc]
  dsimp only
  have hgw : ∀ (b : Bool) {s₁ : Shared} {Q' : Unit → Shared → Prop}, Q' () s₁ → wpAny (model prog w) A (match b with | true => rule "set.scan.the-table-gave-way" | false => pure ()) Q' E s₁ :=
    fun b s₁ Q' hq => by cases b <;> first | exact wpAny_pure hq | exact wpAny_rule hq
  have hperm := layNew_perm t es (hashStr w ⟨#[c]⟩) (.str ⟨#[c]⟩ tk)
  have hfits := layNew_fits t es (hashStr w ⟨#[c]⟩) (.str ⟨#[c]⟩ tk)
  generalize layNew t es (hashStr w ⟨#[c]⟩) (.str ⟨#[c]⟩ tk) = L at hperm hfits ⊢
  obtain ⟨es1, t1, wasDummy, gave⟩ := L
  dsimp only at hperm hfits ⊢
  rw [Array.toList_push] at hperm
  have hx1 : FsOk w es1.toList (cs ++ [c]) := (hx.snoc c tk).perm hperm
  refine wpAny_bind (hgw _ ?_)
  have hl : (cs ++ [c]).length ≤ 100 := by simp; omega
  split
  · refine wpAny_bind ?_
    rw [hashByValue_scannable 8 rfl]
    refine wpAny_pure ?_
    refine add_tail ?_ ho hx1 hl ?_ ?_
    · intro b s₁ Q' hq; cases b <;> first | exact wpAny_pure hq | exact wpAny_rule hq
    · split
      · exact hfits
      · exact SetTable.fits_plain_off hfits
    · intro h' es' ep' t' h1 h2 h3 h4; dsimp only; exact wpAny_pure (h h' es' ep' t' h1 h2 h3 h4)
  · refine wpAny_bind (wpAny_pure ?_)
    simp only [↓reduceIte]
    refine add_tail ?_ ho hx1 hl hfits ?_
    · intro b s₁ Q' hq; cases b <;> first | exact wpAny_pure hq | exact wpAny_rule hq
    · intro h' es' ep' t' h1 h2 h3 h4; dsimp only; exact wpAny_pure (h h' es' ep' t' h1 h2 h3 h4)
end
end Mine
/-! Fm -/
namespace Mine
open PySem PySem.W PySem.Calls PySem.Spec PyProof.Rows
set_option Elab.async false
set_option linter.unusedVariables false
theorem fits_of {t : SetTable} {n : Nat} (h1 : t.place.size = n) (h2 : t.fill ≤ t.mask) : t.fits n = true := by
  simp [SetTable.fits, h1, h2]
theorem of_fits {t : SetTable} {n : Nat} (h : t.fits n = true) : t.place.size = n ∧ t.fill ≤ t.mask := by
  simpa [SetTable.fits] using h
theorem order_perm {es : Array (Int × Value)} {order : Array Nat} (h : order.toList.Perm (List.range es.size)) : (order.filterMap (es[·]?)).toList.Perm es.toList := by
  rw [Array.toList_filterMap]
  exact (h.filterMap _).trans (by rw [filterMap_getElem?_range])
theorem laid_nil (led : Bool) : SetTable.laid 127 0 1 led true #[] = some (⟨127, #[], #[], 0, led, 1, true⟩, #[]) := by kernel_rfl
section
variable {prog : Program} {w : World} {A : Around} {E : Value → Shared → Prop} {s : Shared} {r o : Addr} {es : Array (Int × Value)} {ep : Nat} {t : SetTable} {cs : List Nat}
/-- a full set laid into a fresh one -/
theorem fs_merge {led : Bool} {Q : Unit → Shared → Prop} (hr : s.heap.get? r = some (fzO #[] 0 (.fresh 0 0 led))) (ho : s.heap.get? o = some (fzO es ep t)) (hne : r ≠ o) (hx : FsOk w es.toList cs) (hn : cs.length = 32 ∨ cs.length = 33) (hf : t.fits es.size = true)
    (h : ∀ h' es' ep' t', Heap.SameBut r s.heap h' → h'.get? r = some (fzO es' ep' t') → FsOk w es'.toList cs → t'.fits es'.size = true → t'.mask = 127 → t'.dummies = #[] → Q () { s with heap := h' }) :
    wpAny (model prog w) A (setMerge r o) Q E s := by
  have hsz : es.size = cs.length := by rw [← Array.length_toList, hx.len]
  have hz : es.size ≤ sizeLine := by rw [sizeLine_eq]; omega
  unfold setMerge
  rw [if_neg (by simpa using hne)]
  refine wpAny_bind (wpAny_setState_of ho rfl hf ?_)
  dsimp only
  rw [if_neg (by simp only [Array.isEmpty, decide_eq_true_eq]; omega)]
  refine wpAny_bind ?_
  unfold setRoomFor
  refine wpAny_bind (wpAny_setState_of hr rfl rfl ?_)
  have hroom : (SetTable.fresh 0 0 led).roomFor es.size = some (es.size * 2) := by
    unfold SetTable.roomFor
    rw [if_pos (by show (0 + es.size) * 5 ≥ 7 * 3; omega)]
    show some ((0 + es.size) * 2) = _
    rw [Nat.zero_add]
  dsimp only
  rw [hroom]
  dsimp only
  unfold setRelay
  refine wpAny_bind (wpAny_setState_of hr rfl rfl ?_)
  dsimp only
  have hab : SetTable.sizeAbove (es.size * 2) = 128 := by
    rcases hn with q | q <;> rw [hsz, q] <;> rfl
  rw [hab]
  rw [if_neg (by rw [sizeLine_eq]; decide)]
  have hrl : (SetTable.fresh 0 0 led).relaid (Array.map (·.1) (#[] : Array (Int × Value))) (es.size * 2) = some (⟨127, #[], #[], 0, led, 1, true⟩, #[]) := by
    unfold SetTable.relaid
    rw [hab]
    rw [show Array.map (fun x => x.1) (#[] : Array (Int × Value)) = #[] by simp]
    exact laid_nil led
  rw [hrl]
  refine wpAny_bind ?_
  show wpAny (model prog w) A (if (((#[] : Array Nat).filterMap ((#[] : Array (Int × Value))[·]?)).size != (#[] : Array (Int × Value)).size) = true then (do unsupported "internal:set-table-lost-an-element"; pure ((#[] : Array Nat).filterMap ((#[] : Array (Int × Value))[·]?), ((⟨127, #[], #[], 0, led, 1, true⟩ : SetTable)))) else pure ((#[] : Array Nat).filterMap ((#[] : Array (Int × Value))[·]?), ((⟨127, #[], #[], 0, led, 1, true⟩ : SetTable)))) _ E s
  rw [if_neg (by simp)]
  refine wpAny_pure ?_
  dsimp only
  rw [show (#[] : Array Nat).filterMap ((#[] : Array (Int × Value))[·]?) = #[] by simp]
  refine wpAny_storeSet_of hr rfl ?_ (by rw [sizeLine_eq]; decide)
  have hr1 := put_get (es' := #[]) (t' := ⟨127, #[], #[], 0, led, 1, true⟩) hr
  have hsb1 := Heap.SameBut.update s.heap r (Obj.putSet #[] ⟨127, #[], #[], 0, led, 1, true⟩)
  refine wpAny_bind (wpAny_setState_of hr1 rfl rfl ?_)
  dsimp only
  have hroad : (SetTable.road ⟨127, #[], #[], 0, led, 1, true⟩ t = .slotForSlot ∧ t.mask = 127 ∧ t.dummies = #[]) ∨ SetTable.road ⟨127, #[], #[], 0, led, 1, true⟩ t = .clean := by
    unfold SetTable.road
    rw [if_neg (by show ¬ ((0 != 0) = true); decide)]
    by_cases hm : (127 == t.mask && t.dummies.isEmpty) = true
    · rw [if_pos hm]
      simp only [Bool.and_eq_true, beq_iff_eq, Array.isEmpty_iff] at hm
      exact .inl ⟨rfl, hm.1.symm, hm.2⟩
    · rw [if_neg hm]; exact .inr rfl
  rcases hroad with ⟨e, hm, hd⟩ | e
  · rw [e]
    dsimp only
    refine wpAny_storeSet_of hr1 rfl ?_ hz
    exact h _ es _ _ (hsb1.trans (Heap.SameBut.update _ r _)) (put_get hr1) hx hf hm hd
  · rw [e]
    dsimp only
    obtain ⟨t', order, g1, g2, g3, g4, g5, _⟩ := laid_some 0 1 (led && t.led) (true && t.plain) (es.map (·.1)) (by rw [Array.size_map]; omega)
    rw [g1]
    rw [Array.size_map] at g2 g5
    have hp := order_perm g2
    have hps : (order.filterMap (es[·]?)).size = es.size := by rw [← Array.length_toList, hp.length_eq, Array.length_toList]
    refine wpAny_bind ?_
    show wpAny (model prog w) A (if ((order.filterMap (es[·]?)).size != es.size) = true then (do unsupported "internal:set-table-lost-an-element"; pure (order.filterMap (es[·]?), t')) else pure (order.filterMap (es[·]?), t')) _ E _
    rw [if_neg (by rw [hps]; simp)]
    refine wpAny_pure ?_
    dsimp only
    refine wpAny_storeSet_of hr1 rfl ?_ (by rw [hps]; exact hz)
    refine h _ _ _ t' (hsb1.trans (Heap.SameBut.update _ r _)) (put_get hr1) (hx.perm hp) (fits_of (by rw [hps]; exact g5) ?_) g3 g4
    show t'.place.size + t'.dummies.size ≤ t'.mask
    rw [g5, g4, g3]
    show es.size + 0 ≤ 127
    omega
end
end Mine
/-! Fu -/
namespace Mine
open PySem PySem.W PySem.Calls PySem.Spec PyProof.Rows
set_option Elab.async false
set_option maxRecDepth 100000
set_option linter.unusedVariables false
theorem slot_fz_or : Slot "frozenset" "__or__" "frozenset.__or__" :=
  .of (owner := "frozenset") (n := "__or__") (by rw [typeLookup_type, builtinLookup_eq_fast]; kernel_rfl) (by decide +kernel) (by decide +kernel) (by decide +kernel)
    (by first | exact .inl (by decide +kernel) | exact .inr (by decide +kernel)) (by rw [isSubtype_type]; kernel_rfl)
theorem slot_fz_sub : Slot "frozenset" "__sub__" "frozenset.__sub__" :=
  .of (owner := "frozenset") (n := "__sub__") (by rw [typeLookup_type, builtinLookup_eq_fast]; kernel_rfl) (by decide +kernel) (by decide +kernel) (by decide +kernel)
    (by first | exact .inl (by decide +kernel) | exact .inr (by decide +kernel)) (by rw [isSubtype_type]; kernel_rfl)
theorem entry_fz_or : entryFor table "frozenset.__or__" = some Builtin.«frozenset.__or__» := entryFor_of_tree (by kernel_rfl)
theorem entry_fz_sub : entryFor table "frozenset.__sub__" = some Builtin.«frozenset.__sub__» := entryFor_of_tree (by kernel_rfl)
theorem args_fz_or (a b : Value) : argsOk "frozenset.__or__" ⟨[a, b], []⟩ := by
  unfold argsOk; rw [signature?_of (id := "frozenset.__or__") (n := ['_', '_', 'r', 'o', '_', '_']) (o := ['t', 'e', 's', 'n', 'e', 'z', 'o', 'r', 'f']) (by kernel_rfl) owner_fz]; kernel_rfl
theorem args_fz_sub (a b : Value) : argsOk "frozenset.__sub__" ⟨[a, b], []⟩ := by
  unfold argsOk; rw [signature?_of (id := "frozenset.__sub__") (n := ['_', '_', 'b', 'u', 's', '_', '_']) (o := ['t', 'e', 's', 'n', 'e', 'z', 'o', 'r', 'f']) (by kernel_rfl) owner_fz]; kernel_rfl
theorem fills_fz_or : fillsNumberSlot (.type "frozenset") "or" = pure true :=
  fillsNumberSlot_of (id := "frozenset.__or__") (r := some (.builtin "frozenset.__ror__")) (by rw [typeLookup_type, builtinLookup_eq_fast]; kernel_rfl) (by decide +kernel) (by rw [typeLookup_type, builtinLookup_eq_fast]; kernel_rfl)
theorem fills_fz_sub : fillsNumberSlot (.type "frozenset") "sub" = pure true :=
  fillsNumberSlot_of (id := "frozenset.__sub__") (r := some (.builtin "frozenset.__rsub__")) (by rw [typeLookup_type, builtinLookup_eq_fast]; kernel_rfl) (by decide +kernel) (by rw [typeLookup_type, builtinLookup_eq_fast]; kernel_rfl)
theorem sub_fz_set : isSubtype (.type "frozenset") (.type "set") = pure false := by rw [isSubtype_type]; kernel_rfl
theorem sub_fz_fz : isSubtype (.type "frozenset") (.type "frozenset") = pure true := by rw [isSubtype_type]; kernel_rfl
theorem push_ne {h : Heap} {o : Obj} {a : Addr} (ha : a ≠ h.objs.size) : (h.push o).get? a = h.get? a := by
  have e : (h.push o).objs[a]? = h.objs[a]? := by
    show (h.objs.push o)[a]? = _
    rw [Array.getElem?_push, if_neg ha]
  unfold Heap.get?
  rw [e]
section
variable {prog : Program} {w : World} {A : Around} {E : Value → Shared → Prop} {s : Shared} {r o : Addr} {es : Array (Int × Value)} {ep : Nat} {t : SetTable} {cs : List Nat}
theorem fz_type (ho : s.heap.get? o = some (fzO es ep t)) : s.TypeIs (.ref o) "frozenset" := ⟨_, ho, rfl⟩
theorem any_set {Q : Bool → Shared → Prop} (ho : s.heap.get? o = some (fzO es ep t)) (h : Q true s) : wpAny (model prog w) A (Builtin.Frozenset.isAnySet (.ref o)) Q E s := by
  unfold Builtin.Frozenset.isAnySet
  refine wpAny_bind (wpAny_isInstance (fz_type ho) sub_fz_set ?_)
  exact wpAny_isInstance (fz_type ho) sub_fz_fz h
theorem base_of {Q : Value → Shared → Prop} (ho : s.heap.get? o = some (fzO es ep t)) (h : Q (.type "frozenset") s) : wpAny (model prog w) A (Builtin.Frozenset.baseOf o) Q E s := by
  unfold Builtin.Frozenset.baseOf
  refine wpAny_bind (wpAny_isInstance (fz_type ho) sub_fz_set ?_)
  exact wpAny_pure h
theorem new_fz {Q : Value → Shared → Prop} (h : ∀ led : Bool, Q (.ref s.heap.objs.size) { s with heap := s.heap.push (fzO #[] 0 (.fresh 0 0 led)) }) : wpAny (model prog w) A (newSet (.type "frozenset")) Q E s := by
  unfold newSet setsByText
  refine wpAny_bind (wpAny_bind (wpAny_askSetting (wpAny_pure ?_)))
  dsimp only
  simp only [newObj]
  exact wpAny_bind (wpAny_alloc (wpAny_pure (h _)))
theorem copy_of {Q : Value → Shared → Prop} (ho : s.heap.get? o = some (fzO es ep t)) (hx : FsOk w es.toList cs) (hn : cs.length = 32 ∨ cs.length = 33) (hf : t.fits es.size = true)
    (h : ∀ h' es' ep' t' led, Heap.SameBut s.heap.objs.size (s.heap.push (fzO #[] 0 (.fresh 0 0 led))) h' → h'.get? s.heap.objs.size = some (fzO es' ep' t') → FsOk w es'.toList cs → t'.fits es'.size = true → t'.mask = 127 → t'.dummies = #[] → Q (.ref s.heap.objs.size) { s with heap := h' }) :
    wpAny (model prog w) A (Builtin.Frozenset.copyOf o) Q E s := by
  unfold Builtin.Frozenset.copyOf
  refine wpAny_bind (base_of ho (wpAny_bind (new_fz fun led => ?_)))
  unfold Builtin.Frozenset.addrOf
  refine wpAny_bind (wpAny_pure ?_)
  refine wpAny_bind (fs_merge (s := { s with heap := s.heap.push (fzO #[] 0 (.fresh 0 0 led)) }) (Heap.get?_push_size _ rfl) (Heap.get?_push_of_some _ ho) (fun q => ?_) hx hn hf fun h' es' ep' t' h1 h2 h3 h4 h5 h6 => wpAny_pure (h h' es' ep' t' led h1 h2 h3 h4 h5 h6))
  exact absurd (Heap.lt_size ho) (by rw [q]; exact Nat.lt_irrefl _)
/-- the walk of a set of one -/
theorem walk_one {e : Int × Value} {Q : Array (Int × Value) → Shared → Prop} (ho : s.heap.get? o = some (fzO #[e] ep t)) (hf : t.fits 1 = true) (h : Q #[e] s) : wpAny (model prog w) A (setWalk o) Q E s := by
  unfold setWalk
  refine wpAny_bind (wpAny_setState_of ho rfl hf ?_)
  unfold setsByText
  refine wpAny_bind (wpAny_bind (wpAny_askSetting (wpAny_pure ?_)))
  dsimp only
  split
  · refine wpAny_bind (wpAny_askSetting (wpAny_pure ?_))
    have : pickOrder (w.params.setOrder o ep) #[e] = #[e] := by
      unfold pickOrder
      show pickOrder.go _ 1 0 [e] #[] = _
      unfold pickOrder.go
      simp [Nat.mod_one, pickOrder.go]
    exact this.symm ▸ h
  · show wpAny (model prog w) A (if (!t.plain && decide ((#[e] : Array (Int × Value)).size > 1)) = true then _ else _) _ E s
    rw [if_neg (by simp)]
    refine wpAny_bind ?_
    show wpAny (model prog w) A (if (!t.led && decide ((#[e] : Array (Int × Value)).size > 1)) = true then _ else _) _ E s
    rw [if_neg (by simp)]
    exact wpAny_pure (wpAny_pure h)
theorem walk_unseen {e : Int × Value} {others : List Addr} {fl : Option Addr} {Q : Array (Int × Value) → Shared → Prop} (ho : s.heap.get? o = some (fzO #[e] ep t)) (hf : t.fits 1 = true) (h : Q #[e] s) : wpAny (model prog w) A (setWalkUnseen o others fl) Q E s := by
  unfold setWalkUnseen
  refine wpAny_bind (wpAny_setState_of ho rfl hf ?_)
  refine wpAny_bind ?_
  unfold setsByText
  refine wpAny_bind (wpAny_askSetting (wpAny_pure ?_))
  dsimp only
  rw [if_pos (by simp)]
  exact walk_one ho hf h
/-- one more into a full set -/
theorem fs_merge1 {eo : Nat} {to : SetTable} {c : Nat} {tk : Tok} {each : Sem Unit} {Q : Unit → Shared → Prop} (hr : s.heap.get? r = some (fzO es ep t)) (ho : s.heap.get? o = some (fzO #[(hashStr w ⟨#[c]⟩, .str ⟨#[c]⟩ tk)] eo to)) (hne : r ≠ o)
    (hx : FsOk w es.toList cs) (hn : cs.length = 32) (hf : t.fits es.size = true) (hm : t.mask = 127) (hd : t.dummies = #[]) (hfo : to.fits 1 = true) (hc : c ∉ cs)
    (heach : ∀ (s' : Shared) (Q' : Unit → Shared → Prop), s'.heap.get? o = some (fzO #[(hashStr w ⟨#[c]⟩, .str ⟨#[c]⟩ tk)] eo to) → Q' () s' → wpAny (model prog w) A each Q' E s')
    (h : ∀ h' es' ep' t', Heap.SameBut r s.heap h' → h'.get? r = some (fzO es' ep' t') → FsOk w es'.toList (cs ++ [c]) → t'.fits es'.size = true → Q () { s with heap := h' }) :
    wpAny (model prog w) A (setMerge r o each) Q E s := by
  have hsz : es.size = cs.length := by rw [← Array.length_toList, hx.len]
  obtain ⟨f1, f2⟩ := of_fits hf
  have hfill : t.fill = 32 := by unfold SetTable.fill; rw [hd, f1, hsz, hn]; rfl
  unfold setMerge
  rw [if_neg (by simpa using hne)]
  refine wpAny_bind (wpAny_setState_of ho rfl hfo ?_)
  dsimp only
  rw [if_neg (by simp)]
  refine wpAny_bind ?_
  unfold setRoomFor
  refine wpAny_bind (wpAny_setState_of hr rfl hf ?_)
  have hroom : t.roomFor (#[(hashStr w ⟨#[c]⟩, Value.str ⟨#[c]⟩ tk)] : Array (Int × Value)).size = none := by
    unfold SetTable.roomFor
    rw [if_neg (by rw [hfill, hm]; show ¬ ((32 + 1) * 5 ≥ 127 * 3); decide)]
  dsimp only
  rw [hroom]
  refine wpAny_pure ?_
  refine wpAny_bind (wpAny_setState_of hr rfl hf ?_)
  dsimp only
  have hroad : t.road to = .oneByOne := by
    unfold SetTable.road
    rw [if_pos (by rw [hfill]; decide)]
  rw [hroad]
  dsimp only
  refine wpAny_bind (walk_unseen ho hfo ?_)
  refine wpAny_bind ?_
  simp only [List.forIn_toArray, List.forIn_cons, List.forIn_nil]
  refine wpAny_bind (wpAny_bind (wpAny_holding (fs_add hr hx (by omega) hf hc fun h' es' ep' t' h1 h2 h3 h4 => ?_)))
  have ho' : h'.get? o = some (fzO #[(hashStr w ⟨#[c]⟩, .str ⟨#[c]⟩ tk)] eo to) := SameBut_get h1 (Ne.symm hne) ho
  refine wpAny_bind (heach { s with heap := h' } _ ho' ?_)
  refine wpAny_bind (wpAny_setState_of (s := { s with heap := h' }) ho' rfl hfo ?_)
  dsimp only
  rw [if_neg (by simp)]
  refine wpAny_pure ?_
  dsimp only
  exact wpAny_pure (wpAny_pure (h h' es' ep' t' h1 h2 h3 h4))
theorem unchanged_ok {id : String} {Q : Unit → Shared → Prop} (ho : s.heap.get? o = some (fzO es ep t)) (hf : t.fits es.size = true) (h : Q () s) : wpAny (model prog w) A (Builtin.Frozenset.unchanged id o ep) Q E s := by
  unfold Builtin.Frozenset.unchanged
  refine wpAny_bind (wpAny_setEpoch_of ho rfl hf ?_)
  rw [if_neg (by simp)]
  exact wpAny_pure h
/-- a | b, b of one sign -/
theorem fz_or {b : Addr} {eo : Nat} {to : SetTable} {c : Nat} {tk : Tok} {R : Result → Shared → Prop} (ho : s.heap.get? o = some (fzO es ep t)) (hb : s.heap.get? b = some (fzO #[(hashStr w ⟨#[c]⟩, .str ⟨#[c]⟩ tk)] eo to)) (hne : o ≠ b)
    (hx : FsOk w es.toList cs) (hn : cs.length = 32) (hf : t.fits es.size = true) (hfo : to.fits 1 = true) (hc : c ∉ cs)
    (h : ∀ h' es' ep' t', h'.objs.size = s.heap.objs.size + 1 → (∀ a, a ≠ s.heap.objs.size → h'.get? a = s.heap.get? a) → h'.get? s.heap.objs.size = some (fzO es' ep' t') → FsOk w es'.toList (cs ++ [c]) → t'.fits es'.size = true → R (.ok (.ret (.ref s.heap.objs.size))) { s with heap := h' }) :
    codeAny (model prog w) A (.call (.builtin "frozenset.__or__") ⟨[.ref o, .ref b], []⟩) R s := by
  refine codeAny_call_builtin slot_fz_or.plain entry_fz_or (slot_fz_or.check _ _ _ _ _ _ _ _ (fz_type ho) (args_fz_or _ _) ?_)
  unfold Builtin.«frozenset.__or__»
  refine wpAny_bind (wpAny_bind (wpAny_pure ?_))
  refine wpAny_pure ?_
  dsimp only
  simp only [Bool.false_eq_true, if_false]
  refine wpAny_bind ?_
  refine wpAny_bind (any_set ho ?_)
  refine any_set hb ?_
  rw [if_neg (by simp)]
  unfold Builtin.Frozenset.addrOf
  refine wpAny_bind (wpAny_pure ?_)
  refine wpAny_bind ?_
  refine wpAny_bind (copy_of ho hx (.inl hn) hf fun h1 es1 ep1 t1 led g1 g2 g3 g4 g5 g6 => ?_)
  have hbo : (Value.ref b != Value.ref o) = true := by simpa using Ne.symm hne
  rw [if_pos hbo]
  have lt : ∀ a, a ≠ s.heap.objs.size → h1.get? a = s.heap.get? a := fun a ha => by
    rw [g1.2 a ha]
    exact push_ne ha
  have hb1 : h1.get? b = some (fzO #[(hashStr w ⟨#[c]⟩, .str ⟨#[c]⟩ tk)] eo to) := (lt b (Nat.ne_of_lt (Heap.lt_size hb))).trans hb
  refine wpAny_bind (wpAny_pure ?_)
  refine wpAny_bind (wpAny_holding ?_)
  unfold Builtin.Frozenset.updateFrom
  refine wpAny_bind (any_set (s := { s with heap := h1 }) hb1 ?_)
  rw [if_pos rfl]
  unfold Builtin.Frozenset.addrOf
  refine wpAny_bind (wpAny_pure ?_)
  unfold Builtin.Frozenset.merge
  refine wpAny_bind (wpAny_setEpoch_of (s := { s with heap := h1 }) hb1 rfl hfo ?_)
  refine fs_merge1 (s := { s with heap := h1 }) g2 hb1 (Nat.ne_of_gt (Heap.lt_size hb)) g3 hn g4 g5 g6 hfo hc (fun s' Q' e q => unchanged_ok e hfo q) fun h2 es2 ep2 t2 k1 k2 k3 k4 => ?_
  refine wpAny_pure (wpAny_pure (h h2 es2 ep2 t2 ?_ (fun a ha => (k1.2 a ha).trans (lt a ha)) k2 k3 k4))
  rw [k1.1, g1.1, Heap.size_push]
end
end Mine
/-! Fd -/
namespace Mine
open PySem PySem.W PySem.Calls PySem.Spec PyProof.Rows
set_option Elab.async false
set_option maxRecDepth 100000
set_option linter.unusedVariables false
theorem eraseAt_list {α : Type} (xs : Array α) (p : Nat) : (SetTable.eraseAt xs p).toList = xs.toList.eraseIdx p := by
  rw [List.eraseIdx_eq_take_drop_succ]
  simp [SetTable.eraseAt, List.extract_eq_take_drop, List.take_of_length_le]
section
variable {prog : Program} {w : World} {A : Around} {E : Value → Shared → Prop} {s : Shared} {r o : Addr} {es : Array (Int × Value)} {ep : Nat} {t : SetTable} {cs : List Nat}
theorem find_in {c : Nat} {tk : Tok} {Q : Option Nat → Shared → Prop} (ho : s.heap.get? o = some (fzO es ep t)) (hx : FsOk w es.toList cs) (hn : cs.length ≤ 100) (hf : t.fits es.size = true) (hc : c ∈ cs)
    (h : ∀ i, es.toList.findIdx? (fun e => (strKind prog w).is ⟨#[c]⟩ e.2) = some i → Q (some i) s) : wpAny (model prog w) A (setFind o (.str ⟨#[c]⟩ tk) (hashStr w ⟨#[c]⟩)) Q E s := by
  have hsz : es.size = cs.length := by rw [← Array.length_toList, hx.len]
  have hb : es.size < scanBound := by rw [hsz]; show _ < 4096; omega
  unfold setFind setFindIn
  refine wpAny_bind (wpAny_setState_of ho rfl hf ?_)
  dsimp only
  rw [byScan_of (knd := strKind prog w) (x := .str ⟨#[c]⟩ tk) rfl hb hx.elems]
  simp only [↓reduceIte]
  refine wpAny_bind (wpAny_rule ?_)
  refine wpAny_bind (wpAny_setScan_of (knd := strKind prog w) (strKind_is prog w ⟨#[c]⟩ tk) ho rfl hf hx.elems ?_)
  cases hr : es.toList.findIdx? (fun e => (strKind prog w).is ⟨#[c]⟩ e.2) with
  | none =>
    obtain ⟨e, he, hq⟩ := (hx.mem (prog := prog) c).mp hc
    have := List.findIdx?_eq_none_iff.mp hr e he
    rw [hq] at this; cases this
  | some i =>
    dsimp only
    rw [Nat.zero_add]
    exact wpAny_pure (h i hr)
theorem fs_discard {c : Nat} {tk : Tok} {Q : Bool → Shared → Prop} (ho : s.heap.get? o = some (fzO es ep t)) (hx : FsOk w es.toList cs) (hn : cs.length ≤ 100) (hf : t.fits es.size = true) (hc : c ∈ cs) (hm : t.mask = 127) (hd : t.dummies = #[])
    (h : ∀ h' es' ep' t', Heap.SameBut o s.heap h' → h'.get? o = some (fzO es' ep' t') → FsOk w es'.toList (cs.erase c) → t'.fits es'.size = true → t'.mask = 127 → t'.dummies.size = 1 → Q true { s with heap := h' }) :
    wpAny (model prog w) A (setDiscardHashed o (.str ⟨#[c]⟩ tk) (hashStr w ⟨#[c]⟩)) Q E s := by
  have hsz : es.size = cs.length := by rw [← Array.length_toList, hx.len]
  obtain ⟨f1, f2⟩ := of_fits hf
  unfold setDiscardHashed
  refine wpAny_bind (find_in ho hx hn hf hc fun i hi => ?_)
  dsimp only
  refine wpAny_bind (wpAny_setState_of ho rfl hf ?_)
  dsimp only
  obtain ⟨hlt, _, _⟩ := List.findIdx?_eq_some_iff_getElem.mp hi
  rw [Array.length_toList] at hlt
  have hpl : t.place[i]? = some (t.place[i]'(by omega)) := Array.getElem?_eq_getElem _
  have hdr : t.drop i = { t with place := SetTable.eraseAt t.place i, dummies := SetTable.insertAt t.dummies (SetTable.below t.dummies (t.place[i]'(by omega))) (t.place[i]'(by omega)) } := by
    unfold SetTable.drop
    rw [hpl]
  have el : ∀ {α : Type} (xs : Array α), i < xs.size → (SetTable.eraseAt xs i).size = xs.size - 1 := fun xs h => by
    rw [← Array.length_toList, eraseAt_list, List.length_eraseIdx, if_pos (by simpa using h), Array.length_toList]
  refine wpAny_bind (wpAny_storeSet_of ho rfl ?_ (by rw [el es hlt, sizeLine_eq]; omega))
  refine wpAny_bind (wpAny_point ?_)
  have hds : (t.drop i).dummies.size = 1 := by
    rw [hdr]
    show (SetTable.insertAt t.dummies _ _).size = 1
    rw [← Array.length_toList, (SetTable.insertAt_perm _ _ _).length_eq, hd]
    rfl
  refine wpAny_pure (h _ _ _ (t.drop i) (Heap.SameBut.update _ o _) (put_get ho) ?_ ?_ (by rw [hdr]; exact hm) hds)
  · rw [eraseAt_list]; exact hx.drop hi
  · refine fits_of ?_ ?_
    · rw [hdr]
      show (SetTable.eraseAt t.place i).size = _
      rw [el _ (by omega), el _ hlt, f1]
    · show (t.drop i).place.size + (t.drop i).dummies.size ≤ _
      rw [hds, hdr]
      show (SetTable.eraseAt t.place i).size + 1 ≤ t.mask
      rw [el _ (by omega), hm]
      have : cs.length ≤ 100 := hn
      omega
theorem size_of {Q : Nat → Shared → Prop} (ho : s.heap.get? o = some (fzO es ep t)) (hf : t.fits es.size = true) (h : Q es.size s) : wpAny (model prog w) A (Builtin.Frozenset.sizeOf o) Q E s := by
  unfold Builtin.Frozenset.sizeOf
  exact wpAny_bind (wpAny_setEntries_of ho rfl hf (wpAny_pure h))
/-- a - b, b of one sign that a holds -/
theorem fz_diff {b : Addr} {eo : Nat} {to : SetTable} {c : Nat} {tk : Tok} {R : Result → Shared → Prop} (ho : s.heap.get? o = some (fzO es ep t)) (hb : s.heap.get? b = some (fzO #[(hashStr w ⟨#[c]⟩, .str ⟨#[c]⟩ tk)] eo to)) (hne : o ≠ b)
    (hx : FsOk w es.toList cs) (hn : cs.length = 33) (hf : t.fits es.size = true) (hfo : to.fits 1 = true) (hc : c ∈ cs)
    (h : ∀ h' es' ep' t', h'.objs.size = s.heap.objs.size + 1 → (∀ a, a ≠ s.heap.objs.size → h'.get? a = s.heap.get? a) → h'.get? s.heap.objs.size = some (fzO es' ep' t') → FsOk w es'.toList (cs.erase c) → t'.fits es'.size = true → R (.ok (.ret (.ref s.heap.objs.size))) { s with heap := h' }) :
    codeAny (model prog w) A (.call (.builtin "frozenset.__sub__") ⟨[.ref o, .ref b], []⟩) R s := by
  have hsz : es.size = cs.length := by rw [← Array.length_toList, hx.len]
  refine codeAny_call_builtin slot_fz_sub.plain entry_fz_sub (slot_fz_sub.check _ _ _ _ _ _ _ _ (fz_type ho) (args_fz_sub _ _) ?_)
  unfold Builtin.«frozenset.__sub__»
  refine wpAny_bind (wpAny_bind (wpAny_pure ?_))
  refine wpAny_pure ?_
  dsimp only
  simp only [Bool.false_eq_true, if_false]
  refine wpAny_bind ?_
  refine wpAny_bind (any_set ho ?_)
  refine any_set hb ?_
  rw [if_neg (by simp)]
  unfold Builtin.Frozenset.addrOf
  refine wpAny_bind (wpAny_pure ?_)
  refine wpAny_bind ?_
  unfold Builtin.Frozenset.difference
  refine wpAny_bind (any_set hb ?_)
  simp only [Bool.not_true, Bool.false_eq_true, if_false, Bool.false_and, if_true]
  unfold Builtin.Frozenset.addrOf
  refine wpAny_bind (wpAny_pure ?_)
  refine wpAny_bind (size_of hb hfo ?_)
  refine wpAny_bind (size_of ho hf ?_)
  rw [if_pos (by show es.size / 4 > 1; rw [hsz, hn]; decide)]
  refine wpAny_bind (wpAny_rule ?_)
  refine wpAny_bind (copy_of ho hx (.inr hn) hf fun h1 es1 ep1 t1 led g1 g2 g3 g4 g5 g6 => ?_)
  have lt : ∀ a, a ≠ s.heap.objs.size → h1.get? a = s.heap.get? a := fun a ha => by
    rw [g1.2 a ha]
    exact push_ne ha
  have hb1 : h1.get? b = some (fzO #[(hashStr w ⟨#[c]⟩, .str ⟨#[c]⟩ tk)] eo to) := (lt b (Nat.ne_of_lt (Heap.lt_size hb))).trans hb
  have hsb : s.heap.objs.size ≠ b := Nat.ne_of_gt (Heap.lt_size hb)
  refine wpAny_bind (wpAny_pure ?_)
  refine wpAny_bind (wpAny_holding ?_)
  unfold Builtin.Frozenset.differenceUpdate
  rw [if_neg (by simpa using Ne.symm hsb)]
  refine wpAny_bind (any_set (s := { s with heap := h1 }) hb1 ?_)
  rw [if_pos rfl]
  unfold Builtin.Frozenset.addrOf
  refine wpAny_bind (wpAny_pure ?_)
  refine wpAny_bind (size_of (s := { s with heap := h1 }) hb1 hfo ?_)
  refine wpAny_bind (size_of (s := { s with heap := h1 }) g2 g4 ?_)
  have hsz1 : es1.size = 33 := by rw [← Array.length_toList, g3.len, hn]
  rw [if_neg (by rw [hsz1]; show ¬ (1 / 8 > 33); decide)]
  refine wpAny_bind (wpAny_setEpoch_of (s := { s with heap := h1 }) hb1 rfl hfo ?_)
  refine wpAny_bind (wpAny_holding ?_)
  refine wpAny_bind (walk_unseen (s := { s with heap := h1 }) hb1 hfo ?_)
  refine wpAny_bind ?_
  simp only [List.forIn_toArray, List.forIn_cons, List.forIn_nil]
  refine wpAny_bind (wpAny_bind (wpAny_holding (fs_discard (s := { s with heap := h1 }) g2 g3 (by omega) g4 hc g5 g6 fun h2 es2 ep2 t2 k1 k2 k3 k4 k5 k6 => ?_)))
  refine wpAny_bind (unchanged_ok (s := { s with heap := h2 }) (SameBut_get k1 (Ne.symm hsb) hb1) hfo ?_)
  refine wpAny_pure ?_
  dsimp only
  refine wpAny_pure (wpAny_pure ?_)
  unfold setTidy
  refine wpAny_bind (wpAny_setState_of (s := { s with heap := h2 }) k2 rfl k4 ?_)
  dsimp only
  rw [if_neg (by unfold SetTable.tooManyDummies; rw [k5, k6]; decide)]
  refine wpAny_pure (wpAny_pure (wpAny_pure (h h2 es2 ep2 t2 ?_ (fun a ha => (k1.2 a ha).trans (lt a ha)) k2 k3 k4)))
  rw [k1.1, g1.1, Heap.size_push]
end
end Mine
/-! Ge -/
namespace Mine
open PySem PySem.W PySem.Calls PySem.Spec PyProof.Rows
set_option Elab.async false
set_option maxRecDepth 100000
set_option linter.unusedVariables false
def valOf : Stmt → Expr
  | .Assign _ v _ => v
  | _ => .Constant .none 0 default
def gExp : Expr := match valOf (stAt 1) with
  | .BinOp (.Call _ (g :: _) _ _) _ _ _ => g
  | e => e
def gElt : Expr := match gExp with | .GeneratorExp e _ _ _ => e | e => e
def gScope : Scope := match gExp with | .GeneratorExp _ _ s _ => s | _ => default
def gPos : Pos × Pos := match gExp with | .GeneratorExp _ (⟨.Name _ p, _, _, _⟩ :: _) _ q => (p, q) | _ => default
def gIter : Expr := match gExp with | .GeneratorExp _ (g :: _) _ _ => g.iter | e => e
theorem gExp_is : gExp = .GeneratorExp gElt [⟨.Name (Str.ofString "i") gPos.1, gIter, [], 0⟩] gScope gPos.2 := by kernel_rfl
abbrev gEnv : Env := { scope := gScope, locals := 20, globals := mainGlobals, cells := [], qual := Str.ofString "<genexpr>.", func := none, code := .ref 19, frame := some 20, builtins := builtinsNs }
abbrev tupE : Obj := { cls := .type "tuple", data := .seq #[] }
abbrev stopE (a : Addr) : Obj := { cls := .type "StopIteration", data := .fields #[.ref a, .none, .none, .none, .bool false, .none] }
abbrev stopped (h : Heap) : Heap := (h.push tupE).push (stopE h.objs.size)
def Same (l : List Addr) (h h' : Heap) : Prop := h'.objs.size = h.objs.size ∧ ∀ b, b ∉ l → h'.get? b = h.get? b
theorem Same.refl (l : List Addr) (h : Heap) : Same l h h := ⟨rfl, fun _ _ => rfl⟩
theorem Same.trans {l : List Addr} {a b c : Heap} (x : Same l a b) (y : Same l b c) : Same l a c := ⟨y.1.trans x.1, fun d hd => (y.2 d hd).trans (x.2 d hd)⟩
theorem Same.up {l l' : List Addr} {a b : Heap} (x : Same l a b) (h : ∀ d ∈ l, d ∈ l') : Same l' a b := ⟨x.1, fun d hd => x.2 d fun q => hd (h d q)⟩
theorem Same.of {l : List Addr} {a : Addr} {h h' : Heap} (x : Heap.SameBut a h h') (ha : a ∈ l) : Same l h h' := ⟨x.1, fun d hd => x.2 d fun q => hd (q ▸ ha)⟩
/-- what the generator leans on -/
structure GF (mg mb : Str → Option Value) (i : Nat) (h : Heap) : Prop where
  it : IsRangeIter h 16 (i : Int) (32 - (i : Int)) 1
  fr : ∃ m, h.Ns 20 m
  g : h.Ns mainGlobals mg
  b : h.Ns builtinsNs mb
theorem GF.at {mg mb : Str → Option Value} {i : Nat} {h h' : Heap} (x : GF mg mb i h) (k : ∀ b ∈ ([16, 20, 3, 0] : List Nat), ∀ o, h.get? b = some o → h'.get? b = some o) : GF mg mb i h' :=
  ⟨k 16 (by simp) _ x.it, let ⟨m, hm⟩ := x.fr; ⟨m, hm.at' fun o e => k 20 (by simp) o e⟩, x.g.at' fun o e => k 3 (by simp) o e, x.b.at' fun o e => k 0 (by simp) o e⟩
section
variable {w : World} {A : Around} {E : Value → Shared → Prop} {s : Shared} {mg mb : Str → Option Value}
theorem range_end {it : Addr} {x left step : Int} {Q : Option Value → Shared → Prop} (hh : A.handled = none) (hit : IsRangeIter s.heap it x left step) (hleft : left ≤ 0)
    (hQ : Q none { s with heap := stopped s.heap }) : wpAny (model prog w) A (pyNext (.ref it)) Q E s := by
  have hT : s.TypeIs (.ref it) "range_iterator" := ⟨_, hit, rfl⟩
  unfold pyNext
  refine wpAny_bind (wpAny_attempt (wpAny_callSpecial?_slot (name := Str.ofString "__next__") hT F.slot_range_iterator_next
    (wpAny_call_entry F.slot_range_iterator_next hT F.entry_range_iterator_next ?_ (F.args_range_iterator_next_1 _))))
  show wpAny _ _ (field (.ref it) 0 >>= _) _ _ s
  refine wpAny_bind (wpAny_field hit rfl (x := rawInt x) rfl ?_)
  show wpAny _ _ (field (.ref it) 1 >>= _) _ _ s
  refine wpAny_bind (wpAny_field hit rfl (x := rawInt left) rfl ?_)
  show wpAny _ _ (field (.ref it) 2 >>= _) _ _ s
  refine wpAny_bind (wpAny_field hit rfl (x := rawInt step) rfl ?_)
  show wpAny _ _ (if left ≤ 0 then _ else _) _ _ s
  rw [if_pos hleft]
  refine wpAny_bind (wpAny_rule ?_)
  refine wpAny_bind ?_
  show wpAny _ _ (newExc (.type "StopIteration") [] >>= _) _ _ _
  refine wpAny_bind ?_
  simp only [newExc, newTuple]
  refine wpAny_bind (wpAny_newObj_type ?_ (by size_fits))
  refine wpAny_bind (m := firstArgMember _ _) (wpAny_of_eq (a := Value.none) (by first | rfl | (simp only [firstArgMember]; rfl)) ?_)
  refine wpAny_newObj_type ?_ (by size_fits)
  simp only [raiseNew]
  refine wpAny_bind (wpAny_bind (wpAny_handled ?_))
  first | rw [show A.in1.handled = none from hh] | rw [hh]
  refine wpAny_pure ?_
  refine wpAny_throw ?_
  refine wpAny_bind (wpAny_isInstance (T := "StopIteration") (b := true) ⟨_, Heap.get?_push_size _ rfl, rfl⟩ isSubtype_stop ?_)
  exact wpAny_pure hQ
theorem gen_elt {i : Nat} {ti : Tok} {m : Str → Option Value} {Q : Value → Shared → Prop} (hg : s.heap.Ns mainGlobals mg) (hm : mg (Str.ofString "chr") = none) (hb : s.heap.Ns builtinsNs mb) (hv : mb (Str.ofString "chr") = some (.builtin "chr"))
    (hn : s.heap.Ns 20 m) (hi : m (Str.ofString "i") = some (.int (i : Int) ti)) (hlt : i < 32) (h : Q (.str ⟨#[i]⟩ s.toks) { s with toks := s.toks + 1 }) : wpAny (model prog w) A (eval gElt gEnv) Q E s := by
  conv in (gElt) => whnf
  refine wpAny_Call_NameR (Calls.Name_function_global (by rfl) (by rfl) (Calls.loadGlobal_builtin hg hm hb hv ?_) (by decide))
  refine callWith_builtin1 (wpAny_Name (wpAny_loadName_local (by rfl) (by rfl) hn hi ?_) (by decide))
  refine chr_of_range (by omega) (by omega) ?_
  rw [Int.toNat_natCast]
  exact h
/-- a turn's yield -/
def gY : Protocol := fun m s₀ v s kap => (∃ tv, v = .str ⟨#[31 - m]⟩ tv) ∧ (∃ h', s = { s₀ with heap := h', toks := s₀.toks + 3 } ∧ Same [16, 20] s₀.heap h' ∧ (∃ o, h'.get? 16 = some o) ∧ ∃ o, h'.get? 20 = some o) ∧
  ∀ s'' : Shared, (∀ b ∈ ([16, 20, 3, 0] : List Nat), ∀ o, s.heap.get? b = some o → s''.heap.get? b = some o) → kap (.send .none) s''
def gR : GenEnd := fun n s₀ r s₁ => r = .ok .next ∧ n = 0 ∧ s₁ = { s₀ with heap := stopped s₀.heap }
abbrev loopC : Code := .compLoop (.GeneratorExp gElt [⟨.Name (Str.ofString "i") gPos.1, gIter, [], 0⟩] gScope gPos.2) 0 (.ref 16) .none gEnv
abbrev startC : Code := .compStart (.GeneratorExp gElt [⟨.Name (Str.ofString "i") gPos.1, gIter, [], 0⟩] gScope gPos.2) 0 (.ref 16) .none gEnv
theorem gen_loop (hh : A.handled = none) (hm : mg (Str.ofString "chr") = none) (hv : mb (Str.ofString "chr") = some (.builtin "chr")) : ∀ (k i : Nat) (s : Shared), 32 - i = k → i ≤ 32 → GF mg mb i s.heap →
    Seg (model prog w) A gR gY k s loopC ((model prog w).den loopC) [] s := by
  have hh' : (A.over loopC []).handled = none := hh
  intro k
  induction k with
  | zero =>
    intro i s hk hi G
    have hin : i = 32 := by omega
    subst hin
    show Seg _ A _ _ _ s _ ((compTurn (.GeneratorExp gElt [⟨.Name (Str.ofString "i") gPos.1, gIter, [], 0⟩] gScope gPos.2) 0 (.ref 16) .none gEnv).onRaise (leaving gEnv)) [] s
    rw [compTurn_gen, Sem.onRaise_eq_wrap]
    refine seg_bind_wrap (wpAny_standAt ?_)
    refine seg_bind_wrap (range_end hh' G.it (by decide) ?_)
    exact seg_end (.ok .next) ⟨rfl, rfl, rfl⟩
  | succ k ih =>
    intro i s hk hi G
    have hlt : i < 32 := by omega
    show Seg _ A _ _ _ s _ ((compTurn (.GeneratorExp gElt [⟨.Name (Str.ofString "i") gPos.1, gIter, [], 0⟩] gScope gPos.2) 0 (.ref 16) .none gEnv).onRaise (leaving gEnv)) [] s
    rw [compTurn_gen, Sem.onRaise_eq_wrap]
    refine seg_bind_wrap (wpAny_standAt ?_)
    refine seg_bind_wrap (wpAny_pyNext_range_item G.it (by omega) fun h1 hit1 hs1 => ?_)
    refine seg_bind_wrap (wpAny_of_eq (rfl : letOwnedTupleGo (.Name (Str.ofString "i") gPos.1) (.ref 16) (.int (i : Int) s.toks) = pure ()) ?_)
    obtain ⟨m, hn⟩ := G.fr
    have hn1 : h1.Ns 20 m := hn.at' fun o e => SameBut_get hs1 (by decide) e
    refine seg_bind_wrap (wpAny_assign_Name (wpAny_storeName_local (by rfl) hn1 (fun h2 hn2 hs2 => ?_) (by rfl)))
    have hS2 : Same [16, 20] s.heap h2 := (Same.of hs1 (by simp)).trans (Same.of hs2 (by simp))
    refine seg_bind_wrap (wpAny_of_eq (a := true) (by rfl) ?_)
    simp only [if_true]
    have hy : ∀ v, yieldOut gEnv v = yieldValue v := fun v => by
      have : gScope.isCoroutine = false := by kernel_rfl
      show (if gScope.isCoroutine = true then _ else _) = _
      rw [if_neg (by rw [this]; decide)]
    simp only [hy]
    rw [Sem.bind_eq_wrap', Sem.bind_eq_wrap', Sem.wrap_wrap, Sem.wrap_wrap]
    have hg2 : h2.Ns mainGlobals mg := G.g.at' fun o e => by rw [hS2.2 _ (by decide)]; exact e
    have hb2 : h2.Ns builtinsNs mb := G.b.at' fun o e => by rw [hS2.2 _ (by decide)]; exact e
    have hit2 : IsRangeIter h2 16 ((i + 1 : Nat) : Int) (32 - ((i + 1 : Nat) : Int)) 1 := by
      have e1 : ((i : Int) + 1) = ((i + 1 : Nat) : Int) := by omega
      have e2 : (32 - (i : Int) - 1) = 32 - ((i + 1 : Nat) : Int) := by omega
      rw [e1, e2] at hit1
      exact SameBut_get hs2 (by decide) hit1
    refine seg_wrap (gen_elt (s := { s with heap := h2, toks := s.toks + 1 + 1 }) (ti := s.toks) hg2 hm hb2 hv hn2 (by simp) hlt ?_)
    have h20 : ∃ o, h2.get? 20 = some o := let ⟨o, _, _, ho, _⟩ := hn2; ⟨o, ho⟩
    refine seg_at (seg_yield rfl rfl rfl ⟨⟨s.toks + 1 + 1, ?_⟩, ⟨h2, rfl, hS2, ⟨_, hit2⟩, h20⟩, fun s'' hal => ?_⟩)
    · rw [show 31 - k = i by omega]
    · refine seg_again rfl (ih (i + 1) s'' (by omega) hlt ?_)
      exact GF.at ⟨hit2, ⟨_, hn2⟩, hg2, hb2⟩ hal
theorem gen_start (hh : A.handled = none) (hm : mg (Str.ofString "chr") = none) (hv : mb (Str.ofString "chr") = some (.builtin "chr")) (s : Shared) (G : GF mg mb 0 s.heap) :
    Seg (model prog w) A gR gY 32 s startC ((model prog w).den startC) [] s := by
  have hh' : (A.over startC []).handled = none := hh
  have loop := gen_loop (w := w) hh hm hv 32 0 s rfl (by omega) G
  show Seg _ A _ _ _ s _ ((compStart (.GeneratorExp gElt [⟨.Name (Str.ofString "i") gPos.1, gIter, [], 0⟩] gScope gPos.2) 0 (.ref 16) .none gEnv).onRaise (leaving gEnv)) [] s
  unfold compStart
  rw [Sem.onRaise_eq_wrap]
  show Seg _ A _ _ _ s _ ((ask >>= _).wrap _ _ _ _) [] s
  refine seg_bind_wrap (wpAny_askSetting ?_)
  have hit : IsRangeIter s.heap 16 (0 + ((0 : Nat) : Int) * 1) ((32 : Nat) - ((0 : Nat) : Int)) 1 := G.it
  split
  · exact seg_again rfl loop
  · first
      | exact seg_bind_wrap (wpAny_rule (seg_bind_wrap (wpAny_standAt (seg_bind_wrap ((Walks.range hh' 16 0 1 32).self 0 s _ _ hit (seg_again rfl loop))))))
      | (refine seg_bind_wrap (wpAny_rule ?_); show Seg _ A _ _ _ s _ ((standAt gIter.pos >>= _).wrap _ _ _ _) [] s; exact seg_bind_wrap (wpAny_standAt (seg_bind_wrap ((Walks.range hh' 16 0 1 32).self 0 s _ _ hit (seg_again rfl loop)))))
end
end Mine
/-! Gl -/
namespace Mine
open PySem PySem.W PySem.Calls PySem.Spec PyProof.Rows
set_option Elab.async false
set_option maxRecDepth 100000
set_option linter.unusedVariables false
section
variable {w : World} {A : Around} {E : Value → Shared → Prop} {s : Shared} {mg mb : Str → Option Value}
theorem gen_next {a : Addr} {g n : Nat} {gs : GenState} {Q : Option Value → Shared → Prop} (hh : A.handled = none) (hl : s.heap.NoLimit) (hroom : A.depth < recursionLimit)
    (hg : s.heap.IsGen a g) (hgs : s.gens[g]? = some gs) (hgo : gs.Goes (model prog w) A.in1 gR gY n (.send .none) (s.setGen g .running))
    (hY : ∀ v s₁ gs', gY (n - 1) (s.setGen g .running) v s₁ (fun r' s'' => match n with
        | 0 => False
        | m + 1 => gs'.Goes (model prog w) A.in1 gR gY m r' s'') → Q (some v) (s₁.setGen g gs'))
    (hP : n = 0 → Q none { s.setGen g .running |>.setGen g .finished with heap := stopped (stopped s.heap) }) :
    wpAny (model prog w) A (pyNext (.ref a)) Q E s := by
  unfold pyNext
  refine wpAny_bind (wpAny_attempt (wpAny_callSpecial?_slot (name := Str.ofString "__next__") hg.typeIs slot_gen_next
    (wpAny_call_entry slot_gen_next hg.typeIs entry_gen_next ?_ (args_gen_next _))))
  show wpAny _ A.in1 (Builtin.Generator.genWake (.ref a) (.send .none)) _ _ s
  unfold Builtin.Generator.genWake
  refine wpAny_bind (wpAny_holding (wpAny_genNumber hg (wpAny_bind (wpAny_genState hgs ?_))))
  cases gs with
  | running => exact hgo.elim
  | finished => exact hgo.elim
  | _ =>
    refine wpAny_bind (wpAny_roomToWake hl hroom ?_)
    show wpAny _ A.in1 (.resume g (.send .none) [] _) _ _ s
    refine wpAny_resume hgs hgo (fun x s₁ hx => ?_) (fun v s₁ gs' hv => ?_)
    · obtain ⟨rfl, hn, rfl⟩ := hx
      show wpAny _ A.in1 (newExc (.type "StopIteration") [] >>= _) _ _ _
      refine wpAny_bind ?_
      simp only [newExc, newTuple]
      refine wpAny_bind (wpAny_newObj_type ?_ (by size_fits))
      refine wpAny_bind (m := firstArgMember _ _) (wpAny_of_eq (a := Value.none) (by first | rfl | (simp only [firstArgMember]; rfl)) ?_)
      refine wpAny_newObj_type ?_ (by size_fits)
      simp only [raiseNew]
      refine wpAny_bind (wpAny_bind (wpAny_handled ?_))
      first | rw [show A.in1.handled = none from hh] | rw [hh]
      refine wpAny_throw ?_
      refine wpAny_bind (wpAny_isInstance (T := "StopIteration") (b := true) ⟨_, Heap.get?_push_size _ rfl, rfl⟩ isSubtype_stop ?_)
      exact wpAny_pure (hP hn)
    · exact wpAny_pure ⟨v, rfl, wpAny_pure (hY v s₁ gs' hv)⟩
/-- the loop's state -/
structure LS (w : World) (A : Around) (s1 : Shared) (j : Nat) (s : Shared) : Prop where
  st : ∃ h gs es ep t, s = { s1 with heap := h, gens := #[gs], toks := s1.toks + 4 * j } ∧ Same [16, 20, 22] s1.heap h ∧
    (∀ s'' : Shared, (∀ b ∈ ([16, 20, 3, 0] : List Nat), ∀ o, h.get? b = some o → s''.heap.get? b = some o) → gs.Goes (model prog w) A.in1.in1 gR gY (32 - j) (.send .none) s'') ∧
    (∃ o, h.get? 16 = some o) ∧ (∃ o, h.get? 20 = some o) ∧ h.get? 22 = some (fzO es ep t) ∧ FsOk w es.toList (List.range j) ∧ t.fits es.size = true
theorem set_loop {s1 : Shared} {R : Result → Shared → Prop} (hh : A.handled = none) (hroom : A.depth < recursionLimit) (hg : s1.heap.IsGen 21 0) (hl : s1.heap.NoLimit)
    (hR : ∀ h es ep t, Same [16, 20, 22] s1.heap h → (∃ o, h.get? 16 = some o) → (∃ o, h.get? 20 = some o) → h.get? 22 = some (fzO es ep t) → FsOk w es.toList (List.range 32) → t.fits es.size = true →
      R (.ok (.ret .none)) { s1 with heap := stopped (stopped h), gens := #[.finished], toks := s1.toks + 128 }) :
    ∀ (k j : Nat) (s : Shared), 32 - j = k → j ≤ 32 → LS w A s1 j s → codeAny (model prog w) A (.builtin "set.update.loop" ⟨[.ref 22, .ref 21], []⟩) R s := by
  intro k
  induction k with
  | zero =>
    rintro j s hk hj ⟨h, gs, es, ep, t, rfl, hS, hgo, h16, h20, h22, hx, hf⟩
    have hj : j = 32 := by omega
    subst hj
    have hg' : h.IsGen 21 0 := let ⟨o, nm, qn, ho, r⟩ := hg; ⟨o, nm, qn, (hS.2 21 (by decide)).trans ho, r⟩
    have hl' : h.NoLimit := let ⟨mc, hns, hnn⟩ := hl; ⟨mc, hns.at' fun o e => (hS.2 cStatics (by decide)).trans e, hnn⟩
    refine codeAny_builtin F.entry_set_update_loop ?_
    rw [Around.under_plainId F.plain_set_update_loop _]
    show wpAny _ A.in1 (pyNext (.ref 21) >>= _) _ _ _
    refine wpAny_bind (gen_next (s := { s1 with heap := h, gens := #[gs], toks := s1.toks + 4 * 32 }) hh hl' hroom hg' rfl (hgo _ fun _ _ _ e => e) (fun v s₁ gs' hv => ?_) fun _ => ?_)
    · obtain ⟨_, _, hkap⟩ := hv
      exact (hkap s₁ fun _ _ _ e => e).elim
    · exact wpAny_pure (hR h es ep t hS h16 h20 h22 hx hf)
  | succ k ih =>
    rintro j s hk hj ⟨h, gs, es, ep, t, rfl, hS, hgo, h16, h20, h22, hx, hf⟩
    have hlt : j < 32 := by omega
    have hg' : h.IsGen 21 0 := let ⟨o, nm, qn, ho, r⟩ := hg; ⟨o, nm, qn, (hS.2 21 (by decide)).trans ho, r⟩
    have hl' : h.NoLimit := let ⟨mc, hns, hnn⟩ := hl; ⟨mc, hns.at' fun o e => (hS.2 cStatics (by decide)).trans e, hnn⟩
    refine codeAny_builtin F.entry_set_update_loop ?_
    rw [Around.under_plainId F.plain_set_update_loop _]
    show wpAny _ A.in1 (pyNext (.ref 21) >>= _) _ _ _
    rw [hk] at hgo
    refine wpAny_bind (gen_next (s := { s1 with heap := h, gens := #[gs], toks := s1.toks + 4 * j }) hh hl' hroom hg' rfl (hgo _ fun _ _ _ e => e) (fun v s₁ gs' hv => ?_) fun q => by cases q)
    obtain ⟨⟨tv, rfl⟩, ⟨h1, rfl, hS1, h16', h20'⟩, hkap⟩ := hv
    have e31 : 31 - (k + 1 - 1) = j := by omega
    rw [e31]
    show wpAny _ A.in1 (holding [Value.str ⟨#[j]⟩ tv] (setAdd 22 (.str ⟨#[j]⟩ tv)) >>= _) _ _ _
    refine wpAny_bind (wpAny_holding ?_)
    unfold setAdd
    refine wpAny_holding ?_
    refine wpAny_bind ((strKind prog w).pyHash (strKind_is prog w ⟨#[j]⟩ tv) ?_)
    have hS1' : Same [16, 20] h h1 := hS1
    have h22' : h1.get? 22 = some (fzO es ep t) := (hS1'.2 22 (by decide)).trans h22
    refine fs_add (s := { s1 with heap := h1, gens := #[gs'], toks := s1.toks + 4 * j + 3 + 1 }) h22' hx (by rw [List.length_range]; omega) hf (by simp) fun h2 es2 ep2 t2 g1 g2 g3 g4 => ?_
    have hsub : ∀ b ∈ ([16, 20, 3, 0] : List Nat), b ≠ 22 := by decide
    refine wpAny_pure ⟨plainId_quiet F.plain_set_update_loop _, ih (j + 1) _ (by omega) hlt ⟨h2, gs', es2, ep2, t2, ?_, ?_, fun s'' hal => ?_, ?_, ?_, g2, ?_, g4⟩⟩
    · show Shared.mk _ _ _ _ _ = Shared.mk _ _ _ _ _
      congr 1
    · exact (hS.trans (hS1'.up (by decide))).trans (Same.of g1 (by simp))
    · rw [show 32 - (j + 1) = k by omega]
      exact hkap s'' fun b hb o e => hal b hb o ((g1.2 b (hsub b hb)).trans e)
    · obtain ⟨o, ho⟩ := h16'; exact ⟨o, (g1.2 16 (by decide)).trans ho⟩
    · obtain ⟨o, ho⟩ := h20'; exact ⟨o, (g1.2 20 (by decide)).trans ho⟩
    · rw [List.range_succ]; exact g3
end
end Mine
/-! K1 -/
namespace Mine
open PySem PySem.W PySem.Calls PySem.Spec PyProof.Rows
set_option Elab.async false
set_option maxRecDepth 100000
set_option linter.unusedVariables false
def btOf (l : List Obj) : BT := (l.foldl (fun (x : BT × Nat) o => (x.1.ins x.2 o, x.2 + 1)) (.nil, 0)).1
abbrev Mt (w : World) : Model := ⟨denote treeTable, prog, w⟩
abbrev envM : Env := { scope := prog.main.scope, locals := mainNs, globals := mainNs, cells := [], code := .ref 13, frame := some 14 }
abbrev Γm (q : Pos) : PySem.Ctx := ⟨.body (behindTheImports prog) envM, none, none, [(.builtin "claim.caller" {}, q)], none⟩
def o3g (P : Params) (nm : Value) (es : List DictEntry) (ep : Nat) : Obj := { cls := Value.type "dict", data := Data.dict ([eN P "__name__" 165 nm, eN P "__doc__" 166 (Value.none), eN P "__package__" 167 (Value.none), eN P "__loader__" 168 (Value.builtin "__main__.__loader__#opaque"), eN P "__spec__" 169 (Value.none), eN P "__annotations__" 170 (Value.ref 6), eN P "__builtins__" 171 (Value.ref 4), eN P "__file__" 173 (vS ("/claim/cut.py") 172), eN P "__cached__" 174 (Value.none)] ++ es).toArray ep }
abbrev nmT : Value := vS "cpy313.tomllib._parser" 187
def oMod : Obj := { cls := .type "code", data := .fields #[vS "<module>" 182, vS "<module>" 183, vS "/claim/cut.py" 184, .int 1 0, .int 0 0, .int 0 0, .int 0 0, .int 0 0, .ref 11, .bool false, .int 181 0, .ref 12, .none, .none, .none, .none, .int 185 0, .int 1 0, vS "/claim/cut.py" 186] }
def oFr : Obj := { cls := .type "frame", slots := #[some (.ref 13), some (.ref 3), some (.ref 3), none, some (vS "__main__" 164), none, some (.ref 0)] }
def oT (vs : Array Value) : Obj := { cls := .none, data := .fields vs }
def o15 : Obj := { cls := .type "range", data := .fields #[.int 0 190, .int 32 189, .int 1 191] }
def oIt (i l : Int) : Obj := { cls := .type "range_iterator", data := .fields #[.int i 0, .int l 0, .int 1 0] }
def o19 : Obj := { cls := .type "code", data := .fields #[vS "<genexpr>" 192, vS "<genexpr>" 193, vS "/claim/cut.py" 194, .int 2 0, .int 1 0, .int 0 0, .int 0 0, .int 35 0, .ref 17, .bool true, .int 181 0, .ref 18, .none, .none, .none, .none, .int 195 0, .int 2 0, vS "/claim/cut.py" 196] }
def o20 (P : Params) : Obj := { cls := .type "frame", data := .dict #[{ hash := PyData.keyHash P (Str.ofString ".0"), key := vS ".0" 197, val := .ref 16 }] 1 }
def o21 : Obj := { cls := .type "generator", data := .fields #[.int 0 0, vS "<genexpr>" 198, vS "<genexpr>" 199] }
def byText (w : World) : Bool := w.params.followText "set-order"
/-- a set of one sign as it is made -/
def fzOne (w : World) (c : Nat) (tk : Tok) : Obj := fzO #[(hashStr w ⟨#[c]⟩, .str ⟨#[c]⟩ tk)] 1 ⟨7, #[SetTable.bits (hashStr w ⟨#[c]⟩) % 8], #[], 0, !byText w, 0, false⟩
def itDone : Obj := { cls := .type "str_ascii_iterator", data := .fields #[.none, .int 1 0] }
noncomputable def listB (P : Params) (o3 o12 : Obj) : List Obj := [boot_o_0 P, boot_o_1 P, boot_o_2 P, o3, boot_o_4 P, boot_o_5 P, boot_o_6 P, boot_o_7 P, boot_o_8 P, boot_o_9 P, boot_o_10 P, tupE, o12, oMod, oFr]
def tab1 : Obj := oT #[.int 2 0, .int 23 0, .ref 19]
noncomputable def list1 (w : World) : List Obj := listB w.params (o3g w.params nmT [] 9) tab1 ++ [o15, oIt 0 32, tupE, oT #[], o19, o20 w.params, o21, fzO #[] 0 (.fresh 0 0 (!byText w))]
noncomputable def listL (w : World) (o3 : Obj) (x16 x20 x22 : Obj) : List Obj := listB w.params o3 tab1 ++ [o15, x16, tupE, oT #[], o19, x20, o21, x22, tupE, stopE 23, tupE, stopE 25]
noncomputable def list2 (w : World) (o3 : Obj) (x16 x20 x22 : Obj) : List Obj := listL w o3 x16 x20 x22 ++ [fzOne w 127 330, itDone, tupE, stopE 29]
noncomputable def list3 (w : World) (o3 : Obj) (x16 x20 x22 x31 : Obj) : List Obj := list2 w o3 x16 x20 x22 ++ [x31]
noncomputable abbrev stT (l : List Obj) (n : Nat) (life : Life) (gens : Array GenState) (dr : Drawn) (tk : Nat) (os : OsState) : SharedT := ⟨btOf l, n, life, gens, dr, tk, os⟩
noncomputable abbrev s0T (w : World) (life : Life) (dr : Drawn) (os : OsState) : SharedT := stT (listB w.params (o3g w.params nmT [] 9) (oT #[])) 15 life #[] dr 189 os
noncomputable abbrev s1T (w : World) (life : Life) (dr : Drawn) (os : OsState) : SharedT := stT (list1 w) 23 life #[.fresh startC] dr 200 os
noncomputable abbrev sLT (w : World) (x16 x20 x22 : Obj) (life : Life) (dr : Drawn) (os : OsState) : SharedT := stT (listL w (o3g w.params nmT [] 9) x16 x20 x22) 27 life #[.finished] dr 328 os
noncomputable abbrev s2T (w : World) (x16 x20 x22 : Obj) (life : Life) (dr : Drawn) (os : OsState) : SharedT := stT (list2 w (o3g w.params nmT [] 9) x16 x20 x22) 31 life #[.finished] dr 332 os
noncomputable abbrev sUT (w : World) (x16 x20 x22 x31 : Obj) (life : Life) (dr : Drawn) (os : OsState) : SharedT := stT (list3 w (o3g w.params nmT [] 9) x16 x20 x22 x31) 32 life #[.finished] dr 332 os
abbrev e31 (P : Params) : DictEntry := eN P "ASCII_CTRL" 332 (.ref 31)
noncomputable abbrev s3T (w : World) (x16 x20 x22 x31 : Obj) (life : Life) (dr : Drawn) (os : OsState) : SharedT := stT (list3 w (o3g w.params nmT [e31 w.params] 10) x16 x20 x22 x31) 32 life #[.finished] dr 333 os
def orc1 (r1 r2 : Result × SharedT) : Orc := fun c => match c with
  | .builtin id ⟨.ref a :: _, _⟩ => match decide (id = "set.update.loop"), Nat.beq a 22 with
    | true, true => some r1
    | _, _ => none
  | .call (.builtin id) _ => match decide (id = "frozenset.__or__") with
    | true => some r2
    | false => none
  | _ => none
end Mine
/-! K2 -/
namespace Mine
open PySem PySem.W PySem.Calls PySem.Spec PyProof.Rows
set_option Elab.async false
set_option maxRecDepth 100000
set_option linter.unusedVariables false
abbrev cL : Code := .builtin "set.update.loop" ⟨[.ref 22, .ref 21], []⟩
abbrev cO : Code := .call (.builtin "frozenset.__or__") ⟨[.ref 22, .ref 27], []⟩
noncomputable abbrev orcA (w : World) (x16 x20 x22 x31 : Obj) (life : Life) (dr : Drawn) (os : OsState) : Orc := orc1 (.ok (.ret .none), sLT w x16 x20 x22 life dr os) (.ok (.ret (.ref 31)), sUT w x16 x20 x22 x31 life dr os)
abbrev pC : Pos := ⟨2, 13, 2, 51⟩
abbrev pO : Pos := ⟨2, 13, 2, 73⟩
abbrev Γ1 (q : Pos) : PySem.Ctx := ⟨cL, none, none, [(.builtin "frozenset.__new__" ⟨[.type "frozenset", .ref 21], []⟩, pC), (.builtin "type.__call__" ⟨[.type "frozenset", .ref 21], []⟩, pC), (.body (behindTheImports prog) envM, pC), (.builtin "claim.caller" {}, q)], none⟩
abbrev Γ2 (q : Pos) : PySem.Ctx := ⟨cO, none, none, [(.body (behindTheImports prog) envM, pO), (.builtin "claim.caller" {}, q)], none⟩
def Run1 (w : World) : Prop := ∀ (x16 x20 x31 : Obj) (es : Array (Int × Value)) (ep : Nat) (t : SetTable) (life : Life) (dr : Drawn) (os : OsState) (q p : Pos),
  (runW (Mt w) (orcA w x16 x20 (fzO es ep t) x31 life dr os) 3000 _ (Γm q) p (s0T w life dr os) (exec (stAt 1) envM)).map (fun y => (y.1, y.2.2.1, y.2.2.2)) =
    some (.ok .next, s3T w x16 x20 (fzO es ep t) x31 life dr os, [(Γ1 q, pC, s1T w life dr os), (Γ2 q, pO, s2T w x16 x20 (fzO es ep t) life dr os)])
theorem run1 (w : World) : Run1 w := byRow2 "special-get-raises" (fun w => by
    intro x16 x20 x31 es ep t life dr os q p
    kernel_rfl) (fun w => by
    intro x16 x20 x31 es ep t life dr os q p
    kernel_rfl) w
end Mine
/-! K3 -/
namespace Mine
open PySem PySem.W PySem.Calls PySem.Spec PyProof.Rows
set_option Elab.async false
set_option maxRecDepth 100000
set_option linter.unusedVariables false
def orc2 (r : Result × SharedT) : Orc := fun c => match c with
  | .call (.builtin id) _ => match decide (id = "frozenset.__sub__") with
    | true => some r
    | false => none
  | _ => none
abbrev cS : Code := .call (.builtin "frozenset.__sub__") ⟨[.ref 31, .ref 32], []⟩
abbrev e36 (P : Params) : DictEntry := eN P "ILLEGAL_BASIC_STR_CHARS" 336 (.ref 36)
noncomputable def list4 (w : World) (o3 : Obj) (x16 x20 x22 x31 : Obj) : List Obj := list3 w o3 x16 x20 x22 x31 ++ [fzOne w 9 334, itDone, tupE, stopE 34]
noncomputable def list5 (w : World) (o3 : Obj) (x16 x20 x22 x31 x36 : Obj) : List Obj := list4 w o3 x16 x20 x22 x31 ++ [x36]
noncomputable abbrev s4T (w : World) (x16 x20 x22 x31 : Obj) (life : Life) (dr : Drawn) (os : OsState) : SharedT := stT (list4 w (o3g w.params nmT [e31 w.params] 10) x16 x20 x22 x31) 36 life #[.finished] dr 336 os
noncomputable abbrev sVT (w : World) (x16 x20 x22 x31 x36 : Obj) (life : Life) (dr : Drawn) (os : OsState) : SharedT := stT (list5 w (o3g w.params nmT [e31 w.params] 10) x16 x20 x22 x31 x36) 37 life #[.finished] dr 336 os
noncomputable abbrev s5T (w : World) (x16 x20 x22 x31 x36 : Obj) (life : Life) (dr : Drawn) (os : OsState) : SharedT := stT (list5 w (o3g w.params nmT [e31 w.params, e36 w.params] 11) x16 x20 x22 x31 x36) 37 life #[.finished] dr 337 os
abbrev pS : Pos := ⟨3, 26, 3, 54⟩
abbrev Γ3 (q : Pos) : PySem.Ctx := ⟨cS, none, none, [(.body (behindTheImports prog) envM, pS), (.builtin "claim.caller" {}, q)], none⟩
def Run2 (w : World) : Prop := ∀ (x16 x20 x22 x36 : Obj) (es : Array (Int × Value)) (ep : Nat) (t : SetTable) (life : Life) (dr : Drawn) (os : OsState) (q p : Pos),
  (runW (Mt w) (orc2 (.ok (.ret (.ref 36)), sVT w x16 x20 x22 (fzO es ep t) x36 life dr os)) 3000 _ (Γm q) p (s3T w x16 x20 x22 (fzO es ep t) life dr os) (exec (stAt 2) envM)).map (fun y => (y.1, y.2.2.1, y.2.2.2)) =
    some (.ok .next, s5T w x16 x20 x22 (fzO es ep t) x36 life dr os, [(Γ3 q, pS, s4T w x16 x20 x22 (fzO es ep t) life dr os)])
theorem run2 (w : World) : Run2 w := byRow2 "special-get-raises" (fun w => by
    intro x16 x20 x22 x36 es ep t life dr os q p
    kernel_rfl) (fun w => by
    intro x16 x20 x22 x36 es ep t life dr os q p
    kernel_rfl) w
end Mine
/-! K4 -/
namespace Mine
open PySem PySem.W PySem.Calls PySem.Spec PyProof.Rows
set_option Elab.async false
set_option maxRecDepth 100000
set_option linter.unusedVariables false
def bodyM : List Stmt := behindTheImports prog
def restM : List Stmt := bodyM.drop 3
theorem bodyM_is : bodyM = stAt 0 :: stAt 1 :: stAt 2 :: restM := by kernel_rfl
def orcB (r : Result × SharedT) : Orc := fun c => match c with
  | .body _ _ => some r
  | _ => none
abbrev Γ0 : PySem.Ctx := ⟨.builtin "claim.caller" {}, none, none, [], none⟩
noncomputable abbrev sBoot (w : World) (life : Life) (dr : Drawn) (os : OsState) : SharedT := stT [boot_o_0 w.params, boot_o_1 w.params, boot_o_2 w.params, boot_o_3 w.params, boot_o_4 w.params, boot_o_5 w.params, boot_o_6 w.params, boot_o_7 w.params, boot_o_8 w.params, boot_o_9 w.params, boot_o_10 w.params] 11 life #[] dr 181 os
noncomputable abbrev sBody (w : World) (life : Life) (dr : Drawn) (os : OsState) : SharedT := stT (listB w.params (boot_o_3 w.params) (oT #[])) 15 life #[] dr 187 os
theorem runB (w : World) (e : SharedT) (life : Life) (dr : Drawn) (os : OsState) : (runW (Mt w) (orcB (.ok .next, e)) 1000 _ Γ0 default (sBoot w life dr os) (topStub prog).cur).map (fun y => (y.1, y.2.2.1, y.2.2.2)) =
    some (.ok (.done (.ret .none)), e, [(Γm default, default, sBody w life dr os)]) := by kernel_rfl
theorem runBlock (w : World) (life : Life) (dr : Drawn) (os : OsState) (q p : Pos) : (runW (Mt w) mute 1000 _ (Γm q) p (sBody w life dr os) (blockStart bodyM envM)).map (fun y => (y.1, y.2.2.1, y.2.2.2)) = some (.ok (), sBody w life dr os, []) := by kernel_rfl
theorem run0 (w : World) (life : Life) (dr : Drawn) (os : OsState) (q p : Pos) : (runW (Mt w) mute 1000 _ (Γm q) p (sBody w life dr os) (exec (stAt 0) envM)).map (fun y => (y.1, y.2.2.1, y.2.2.2)) = some (.ok .next, s0T w life dr os, []) := by kernel_rfl
/-- the end's objects that are asked for -/
noncomputable def endL (P : Params) (x36 : Obj) : List (Nat × Obj) := [(0, boot_o_0 P), (1, boot_o_1 P), (2, boot_o_2 P), (4, boot_o_4 P), (5, boot_o_5 P), (6, boot_o_6 P), (7, boot_o_7 P), (8, boot_o_8 P), (9, boot_o_9 P), (10, boot_o_10 P), (36, x36), (79, oT #[]), (114, oT #[])] ++ KK P
theorem runR (w : World) (x16 x20 x22 x31 x36 : Obj) (life : Life) (dr : Drawn) (os : OsState) (q p : Pos) : (runW (Mt w) mute 3000 _ (Γm q) p (s5T w x16 x20 x22 x31 x36 life dr os) (execs restM envM)).map (fun y => (y.1, y.2.2.2, y.2.2.1.n, y.2.2.1.toks, y.2.2.1.gens, y.2.2.1.life, y.2.2.1.drawn, y.2.2.1.os, (endL w.params x36).map fun z => y.2.2.1.tree.get z.1)) =
    some (.ok .next, [], 139, 491, #[.finished], life, dr, os, (endL w.params x36).map fun z => some z.2) := by kernel_rfl
end Mine
/-! Hd -/
namespace Mine
open PySem PySem.W PySem.Calls PySem.Spec PyProof.Rows
set_option Elab.async false
set_option maxRecDepth 100000
set_option linter.unusedVariables false
theorem Mt_is (w : World) : Mt w = model prog w := by unfold model Mt; rw [table_eq_tree]
/-- a run keeps the heap's life -/
theorem runs_life {M : Model} {Γ : PySem.Ctx} {p : Pos} {t : Sem Fin} {fs : List Frame} {s s' : Shared} {e : End} (h : Runs M Γ p t fs s e s') : s'.heap.life = s.heap.life := by
  induction h with
  | done => rfl
  | raise => rfl
  | yield => rfl
  | call _ _ ih1 ih2 => exact ih2.trans ih1
  | resumeFresh _ _ _ _ ih1 ih2 => exact ih2.trans ih1
  | resumeSuspended _ _ _ _ ih1 ih2 => exact ih2.trans ih1
  | segRet _ _ ih1 ih2 => exact ih2.trans ih1
  | segGen _ _ ih1 ih2 => exact ih2.trans ih1
  | segSuspGen _ _ _ _ ih1 ih2 => exact ih2.trans ih1
  | _ => rename_i ih; exact ih
theorem code_life {M : Model} {Γ : PySem.Ctx} {R : Result → Shared → Prop} {p : Pos} {s : Shared} (h : wpCode M Γ R p s) : wpCode M Γ (fun r s' => R r s' ∧ s'.heap.life = s.heap.life) p s := by
  obtain ⟨r, s', hr, hR⟩ := h
  exact ⟨r, s', hr, hR, runs_life hr⟩
theorem objs_of_get {h : Heap} {a : Addr} {o : Obj} (e : h.get? a = some o) : h.objs[a]? = some o := by
  unfold Heap.get? at e
  split at e
  · cases e
  · exact e
/-- a heap told object by object -/
theorem heap_is {h : Heap} {T : BT} {n : Nat} (hn : h.objs.size = n) (hg : ∀ i, i < n → ∃ o, h.get? i = some o ∧ T.get i = some o) : h = absHeap T n h.life := by
  obtain ⟨objs, life⟩ := h
  have : objs = (absHeap T n life).objs := by
    apply Array.ext_getElem?
    intro i
    rw [absHeap_at]
    by_cases hi : i < n
    · obtain ⟨o, h1, h2⟩ := hg i hi
      rw [if_pos hi, h2, objs_of_get h1]; rfl
    · rw [if_neg hi]
      exact Array.getElem?_eq_none (by have hn : objs.size = n := hn; omega)
  exact congrArg (Heap.mk · life) this
theorem at_get {T : BT} {n : Nat} {life : Life} {a : Addr} {o : Obj} (g : T.get a = some o) (ha : a < n) (al : alive o = some o) : (absHeap T n life).get? a = some o := (abs_get ha g).trans al
theorem in_list {l : List Nat} {f g : Nat → Option Obj} (h : l.map f = l.map g) : ∀ i ∈ l, f i = g i := by
  intro i hi
  obtain ⟨k, hk, rfl⟩ := List.getElem_of_mem hi
  have := congrArg (·[k]?) h
  simpa [hk] using this
theorem below_of {Γ : PySem.Ctx} (h1 : Γ.handled = none) (h2 : Nat.ble (frameCount Γ.below) 900 = true) : Γ.Below ⟨none, 900, none, none, unitsOf Γ.below⟩ :=
  ⟨h1, Nat.le_of_ble_eq_true h2, (by intro l hl; cases hl), (by intro g hg; cases hg), Nat.le_refl _⟩
/-- a list of objects lies in its tree -/
def Lies (l : List Obj) (n : Nat) : Prop := (List.range n).map (btOf l).get = l.map some ∧ l.length = n
theorem Lies.tree {l : List Obj} {n i : Nat} (h : Lies l n) (hi : i < n) : ∃ o, l[i]? = some o ∧ (btOf l).get i = some o := by
  have := congrArg (·[i]?) h.1
  have hl : i < l.length := by rw [h.2]; exact hi
  simp only [List.getElem?_map, List.getElem?_range hi, List.getElem?_eq_getElem hl, Option.map_some, Option.some.injEq] at this
  exact ⟨l[i], List.getElem?_eq_getElem hl, this⟩
theorem Lies.get {l : List Obj} {n i : Nat} {o : Obj} {life : Life} (h : Lies l n) (hi : l[i]? = some o) (al : alive o = some o) : (absHeap (btOf l) n life).get? i = some o := by
  have hlt : i < n := by rw [← h.2]; exact (List.getElem?_eq_some_iff.mp hi).1
  obtain ⟨o', h1, h2⟩ := h.tree hlt
  rw [hi] at h1
  cases h1
  exact at_get h2 hlt al
theorem lies1 (w : World) : Lies (list1 w) 23 := ⟨by kernel_rfl, by kernel_rfl⟩
theorem liesL (w : World) (o3 x16 x20 x22 : Obj) : Lies (listL w o3 x16 x20 x22) 27 := ⟨by kernel_rfl, by kernel_rfl⟩
theorem lies2 (w : World) (o3 x16 x20 x22 : Obj) : Lies (list2 w o3 x16 x20 x22) 31 := ⟨by kernel_rfl, by kernel_rfl⟩
theorem lies3 (w : World) (o3 x16 x20 x22 x31 : Obj) : Lies (list3 w o3 x16 x20 x22 x31) 32 := ⟨by kernel_rfl, by kernel_rfl⟩
theorem lies4 (w : World) (o3 x16 x20 x22 x31 : Obj) : Lies (list4 w o3 x16 x20 x22 x31) 36 := ⟨by kernel_rfl, by kernel_rfl⟩
theorem lies5 (w : World) (o3 x16 x20 x22 x31 x36 : Obj) : Lies (list5 w o3 x16 x20 x22 x31 x36) 37 := ⟨by kernel_rfl, by kernel_rfl⟩
/-- what two pushes keep -/
theorem stopped_get {h : Heap} {i : Nat} (hi : i < h.objs.size) : (stopped h).get? i = h.get? i := by
  have e1 : ((h.push tupE).push (stopE h.objs.size)).get? i = (h.push tupE).get? i := push_ne (by rw [Heap.size_push]; exact Nat.ne_of_lt (by omega))
  have e2 : (h.push tupE).get? i = h.get? i := push_ne (Nat.ne_of_lt hi)
  exact e1.trans e2
theorem stopped_size {h : Heap} : (stopped h).objs.size = h.objs.size + 2 := by
  show ((h.push tupE).push (stopE h.objs.size)).objs.size = _
  rw [Heap.size_push, Heap.size_push]
theorem stopped_a {h : Heap} {n : Nat} (hn : h.objs.size = n) : (stopped h).get? n = some tupE := by
  have e1 : ((h.push tupE).push (stopE h.objs.size)).get? n = (h.push tupE).get? n := push_ne (by rw [Heap.size_push, hn]; exact Nat.ne_of_lt (Nat.lt_succ_self _))
  refine e1.trans ?_
  rw [← hn]
  exact Heap.get?_push_size h rfl
theorem stopped_b {h : Heap} {n : Nat} (hn : h.objs.size = n) : (stopped h).get? (n + 1) = some (stopE n) := by
  have := Heap.get?_push_size (h.push tupE) (o := stopE h.objs.size) rfl
  rw [Heap.size_push, hn] at this
  rw [← hn] at this ⊢
  exact this
abbrev one (o : Obj) : Heap := ⟨#[o], {}⟩
theorem ns_of {h : Heap} {a : Addr} {o : Obj} (e : h.get? a = some o) (k : (one o).isNs 0 = true) : h.Ns a ((one o).nsMap 0) := by
  obtain ⟨o', es, ep, h1, r⟩ := Heap.Ns.of_isNs k
  have h2 := objs_of_get h1
  have : o = o' := by simpa using h2
  subst this
  exact ⟨o, es, ep, e, r⟩
theorem heap1 (w : World) (life : Life) (dr : Drawn) (os : OsState) : (s1T w life dr os).abs.heap = absHeap (btOf (list1 w)) 23 life := by kernel_rfl
theorem get1 {w : World} {life : Life} {dr : Drawn} {os : OsState} {a : Addr} {o : Obj} (h : (list1 w)[a]? = some o) (al : alive o = some o) : (s1T w life dr os).abs.heap.get? a = some o := by
  rw [heap1]
  exact Lies.get (lies1 w) h al
def idx1 : List Nat := [0, 1, 2, 3, 4, 5, 6, 7, 8, 9, 10, 11, 12, 13, 14, 15, 17, 18, 19, 21]
theorem idx1_all : ∀ i < 27, i ∈ idx1 ∨ i = 16 ∨ i = 20 ∨ i = 22 ∨ i = 23 ∨ i = 24 ∨ i = 25 ∨ i = 26 := by decide
theorem idx1_in : ∀ i ∈ idx1, i < 23 ∧ i ∉ ([16, 20, 22] : List Nat) := by decide
theorem idx1_same (w : World) (x16 x20 x22 : Obj) : idx1.map (fun i => (list1 w)[i]?) = idx1.map (fun i => (listL w (o3g w.params nmT [] 9) x16 x20 x22)[i]?) := by kernel_rfl
theorem idx1_alive (w : World) : idx1.map (fun i => (list1 w)[i]?.bind alive) = idx1.map (fun i => (list1 w)[i]?) := by kernel_rfl
theorem alive_of {h : Heap} {a : Addr} {o : Obj} (e : h.get? a = some o) : alive o = some o := by
  unfold Heap.get? at e
  split at e
  · cases e
  · rename_i hne
    obtain ⟨c, d, dt, sl⟩ := o
    cases dt <;> first | rfl | exact absurd e (fun q => hne _ _ _ q)
/-- the loop over the generator -/
theorem loop_ran (w : World) (life : Life) (dr : Drawn) (os : OsState) {Γ : PySem.Ctx} {p : Pos} (hc : Γ.code = cL) (h1 : Γ.handled = none) (h2 : Nat.ble (frameCount Γ.below) 900 = true) :
    ∃ x16 x20 es ep t, (alive x16 = some x16 ∧ alive x20 = some x20) ∧ FsOk w es.toList (List.range 32) ∧ t.fits es.size = true ∧ wpCode (Mt w) Γ (fun r s => r = .ok (.ret .none) ∧ s = (sLT w x16 x20 (fzO es ep t) life dr os).abs) p (s1T w life dr os).abs := by
  rw [Mt_is]
  have key : wpCode (model prog w) Γ (fun r s => r = .ok (.ret .none) ∧ ∃ x16 x20 es ep t h, s = { (s1T w life dr os).abs with heap := stopped (stopped h), gens := #[.finished], toks := 328 } ∧ Same [16, 20, 22] (s1T w life dr os).abs.heap h ∧
      h.get? 16 = some x16 ∧ h.get? 20 = some x20 ∧ h.get? 22 = some (fzO es ep t) ∧ FsOk w es.toList (List.range 32) ∧ t.fits es.size = true) p (s1T w life dr os).abs := by
    refine set_loop (A := ⟨none, 900, none, none, unitsOf Γ.below⟩) (s1 := (s1T w life dr os).abs) rfl (by show 900 < 1000; decide) ?_ ?_ (fun h es ep t hS h16 h20 h22 hx hf => ?_) 32 0 (s1T w life dr os).abs rfl (by decide) ?_ Γ p hc (below_of h1 h2)
    · exact ⟨o21, _, _, get1 (by kernel_rfl) (by kernel_rfl), rfl, rfl, rfl⟩
    · exact ⟨_, ns_of (get1 (a := 2) (o := boot_o_2 w.params) (by kernel_rfl) (by kernel_rfl)) (by kernel_rfl), by kernel_rfl⟩
    · obtain ⟨x16, h16⟩ := h16
      obtain ⟨x20, h20⟩ := h20
      exact ⟨rfl, x16, x20, es, ep, t, h, rfl, hS, h16, h20, h22, hx, hf⟩
    · have h16 : IsRangeIter (s1T w life dr os).abs.heap 16 ((0 : Nat) : Int) (32 - ((0 : Nat) : Int)) 1 := get1 (by kernel_rfl) (by kernel_rfl)
      have h20 : (s1T w life dr os).abs.heap.get? 20 = some (o20 w.params) := get1 (by kernel_rfl) (by kernel_rfl)
      have hG : GF ((one (o3g w.params nmT [] 9)).nsMap 0) ((one (boot_o_0 w.params)).nsMap 0) 0 (s1T w life dr os).abs.heap :=
        ⟨h16, ⟨_, ns_of h20 (by kernel_rfl)⟩, ns_of (get1 (a := 3) (o := o3g w.params nmT [] 9) (by kernel_rfl) (by kernel_rfl)) (by kernel_rfl), ns_of (get1 (a := 0) (o := boot_o_0 w.params) (by kernel_rfl) (by kernel_rfl)) (by kernel_rfl)⟩
      refine ⟨(s1T w life dr os).abs.heap, .fresh startC, #[], 0, .fresh 0 0 (!byText w), rfl, Same.refl _ _, fun s'' hal => ⟨rfl, ?_⟩, ⟨_, h16⟩, ⟨_, h20⟩, get1 (by kernel_rfl) (by kernel_rfl), ⟨fun e he => (by cases he), List.Perm.refl _⟩, rfl⟩
      exact gen_start rfl (by kernel_rfl) (by kernel_rfl) s'' (hG.at hal)
  obtain ⟨r, s', hr, ⟨rfl, x16, x20, es, ep, t, h, hs, hS, g16, g20, g22, hx, hf⟩, hl⟩ := code_life key
  refine ⟨x16, x20, es, ep, t, ⟨alive_of g16, alive_of g20⟩, hx, hf, _, s', hr, rfl, ?_⟩
  have hsz : h.objs.size = 23 := hS.1.trans (absHeap_size _ _ _)
  have hsz1 : (stopped h).objs.size = 25 := by rw [stopped_size, hsz]
  have hsz2 : (stopped (stopped h)).objs.size = 27 := by rw [stopped_size, hsz1]
  have low : ∀ i : Nat, i < 23 → (stopped (stopped h)).get? i = h.get? i := fun i hi => (stopped_get (by rw [hsz1]; omega)).trans (stopped_get (by rw [hsz]; exact hi))
  have hh : stopped (stopped h) = absHeap (btOf (listL w (o3g w.params nmT [] 9) x16 x20 (fzO es ep t))) 27 (stopped (stopped h)).life := by
    refine heap_is hsz2 fun i hi => ?_
    obtain ⟨o, ho, hT⟩ := (liesL w (o3g w.params nmT [] 9) x16 x20 (fzO es ep t)).tree hi
    refine ⟨o, ?_, hT⟩
    rcases idx1_all i hi with q | rfl | rfl | rfl | rfl | rfl | rfl | rfl
    · have e1 := in_list (idx1_same w x16 x20 (fzO es ep t)) i q
      have e2 := in_list (idx1_alive w) i q
      rw [ho] at e1
      have e1 : (list1 w)[i]? = some o := e1
      rw [e1] at e2
      have hi2 := idx1_in i q
      rw [low i hi2.1, hS.2 i hi2.2]
      exact get1 e1 e2
    · cases (show some x16 = some o from ho); exact (low 16 (by decide)).trans g16
    · cases (show some x20 = some o from ho); exact (low 20 (by decide)).trans g20
    · cases (show some (fzO es ep t) = some o from ho); exact (low 22 (by decide)).trans g22
    · cases (show some tupE = some o from ho)
      exact (stopped_get (by rw [hsz1]; decide)).trans (stopped_a hsz)
    · cases (show some (stopE 23) = some o from ho)
      exact (stopped_get (by rw [hsz1]; decide)).trans (stopped_b hsz)
    · cases (show some tupE = some o from ho)
      exact stopped_a hsz1
    · cases (show some (stopE 25) = some o from ho)
      exact stopped_b hsz1
  have hlife : (stopped (stopped h)).life = life := by
    rw [hs] at hl; exact hl
  rw [hs]
  show Shared.mk (stopped (stopped h)) _ _ _ _ = Shared.mk (absHeap _ 27 life) _ _ _ _
  rw [hh, hlife]
  kernel_rfl
/-- one object more -/
theorem push_is {h : Heap} {l : List Obj} {n : Nat} {x : Obj} {life : Life} (hl : Lies l n) (hl' : Lies (l ++ [x]) (n + 1)) (al : ∀ o ∈ l, alive o = some o) (h1 : h.objs.size = n + 1) (h2 : ∀ a : Nat, a ≠ n → h.get? a = (absHeap (btOf l) n life).get? a) (h3 : h.get? n = some x) (h4 : h.life = life) :
    h = absHeap (btOf (l ++ [x])) (n + 1) life := by
  rw [← h4]
  refine heap_is h1 fun i hi => ?_
  obtain ⟨o, ho, hT⟩ := hl'.tree hi
  refine ⟨o, ?_, hT⟩
  by_cases hin : i = n
  · subst hin
    have e : (l ++ [x])[l.length]? = some x := by simp
    rw [hl.2] at e
    rw [e] at ho
    cases ho
    exact h3
  · have hlt : i < l.length := by rw [hl.2]; omega
    rw [List.getElem?_append_left hlt] at ho
    rw [h2 i hin]
    exact hl.get ho (al o (List.mem_of_getElem? ho))
theorem heap2 (w : World) (x16 x20 x22 : Obj) (life : Life) (dr : Drawn) (os : OsState) : (s2T w x16 x20 x22 life dr os).abs.heap = absHeap (btOf (list2 w (o3g w.params nmT [] 9) x16 x20 x22)) 31 life := by kernel_rfl
theorem heap4 (w : World) (x16 x20 x22 x31 : Obj) (life : Life) (dr : Drawn) (os : OsState) : (s4T w x16 x20 x22 x31 life dr os).abs.heap = absHeap (btOf (list4 w (o3g w.params nmT [e31 w.params] 10) x16 x20 x22 x31)) 36 life := by kernel_rfl
theorem alive2 (w : World) (o3 x16 x20 x22 : Obj) (h3 : alive o3 = some o3) (h16 : alive x16 = some x16) (h20 : alive x20 = some x20) (h22 : alive x22 = some x22) : ∀ o ∈ list2 w o3 x16 x20 x22, alive o = some o := by
  have hb : ∀ o ∈ [boot_o_0 w.params, boot_o_1 w.params, boot_o_2 w.params, boot_o_4 w.params, boot_o_5 w.params, boot_o_6 w.params, boot_o_7 w.params, boot_o_8 w.params, boot_o_9 w.params, boot_o_10 w.params, tupE, tab1, oMod, oFr, o15, oT #[], o19, o21, stopE 23, stopE 25, fzOne w 127 330, itDone, stopE 29], alive o = some o := by
    have : [boot_o_0 w.params, boot_o_1 w.params, boot_o_2 w.params, boot_o_4 w.params, boot_o_5 w.params, boot_o_6 w.params, boot_o_7 w.params, boot_o_8 w.params, boot_o_9 w.params, boot_o_10 w.params, tupE, tab1, oMod, oFr, o15, oT #[], o19, o21, stopE 23, stopE 25, fzOne w 127 330, itDone, stopE 29].map alive = [boot_o_0 w.params, boot_o_1 w.params, boot_o_2 w.params, boot_o_4 w.params, boot_o_5 w.params, boot_o_6 w.params, boot_o_7 w.params, boot_o_8 w.params, boot_o_9 w.params, boot_o_10 w.params, tupE, tab1, oMod, oFr, o15, oT #[], o19, o21, stopE 23, stopE 25, fzOne w 127 330, itDone, stopE 29].map some := by kernel_rfl
    exact List.map_inj_left.mp this
  intro o ho
  have ho : o ∈ [boot_o_0 w.params, boot_o_1 w.params, boot_o_2 w.params, o3, boot_o_4 w.params, boot_o_5 w.params, boot_o_6 w.params, boot_o_7 w.params, boot_o_8 w.params, boot_o_9 w.params, boot_o_10 w.params, tupE, tab1, oMod, oFr, o15, x16, tupE, oT #[], o19, x20, o21, x22, tupE, stopE 23, tupE, stopE 25, fzOne w 127 330, itDone, tupE, stopE 29] := ho
  by_cases q : o ∈ [boot_o_0 w.params, boot_o_1 w.params, boot_o_2 w.params, boot_o_4 w.params, boot_o_5 w.params, boot_o_6 w.params, boot_o_7 w.params, boot_o_8 w.params, boot_o_9 w.params, boot_o_10 w.params, tupE, tab1, oMod, oFr, o15, oT #[], o19, o21, stopE 23, stopE 25, fzOne w 127 330, itDone, stopE 29]
  · exact hb o q
  · simp only [List.mem_cons, List.not_mem_nil, or_false, not_or] at ho q
    have : o = o3 ∨ o = x16 ∨ o = x20 ∨ o = x22 := by
      simp only [q, false_or, or_false] at ho
      exact ho
    rcases this with rfl | rfl | rfl | rfl <;> assumption
/-- the union -/
theorem or_ran (w : World) (x16 x20 : Obj) (es : Array (Int × Value)) (ep : Nat) (t : SetTable) (life : Life) (dr : Drawn) (os : OsState) (al : alive x16 = some x16 ∧ alive x20 = some x20) (hx : FsOk w es.toList (List.range 32)) (hf : t.fits es.size = true)
    {Γ : PySem.Ctx} {p : Pos} (hc : Γ.code = cO) (h1 : Γ.handled = none) (h2 : Nat.ble (frameCount Γ.below) 900 = true) :
    ∃ es' ep' t', FsOk w es'.toList (List.range 32 ++ [127]) ∧ t'.fits es'.size = true ∧ wpCode (Mt w) Γ (fun r s => r = .ok (.ret (.ref 31)) ∧ s = (sUT w x16 x20 (fzO es ep t) (fzO es' ep' t') life dr os).abs) p (s2T w x16 x20 (fzO es ep t) life dr os).abs := by
  rw [Mt_is]
  have hl2 := lies2 w (o3g w.params nmT [] 9) x16 x20 (fzO es ep t)
  have hsz : (s2T w x16 x20 (fzO es ep t) life dr os).abs.heap.objs.size = 31 := by rw [heap2]; exact absHeap_size _ _ _
  have key : wpCode (model prog w) Γ (fun r s => ∃ es' ep' t' h', r = .ok (.ret (.ref 31)) ∧ s = { (s2T w x16 x20 (fzO es ep t) life dr os).abs with heap := h' } ∧ h'.objs.size = 32 ∧ (∀ a : Nat, a ≠ 31 → h'.get? a = (s2T w x16 x20 (fzO es ep t) life dr os).abs.heap.get? a) ∧
      h'.get? 31 = some (fzO es' ep' t') ∧ FsOk w es'.toList (List.range 32 ++ [127]) ∧ t'.fits es'.size = true) p (s2T w x16 x20 (fzO es ep t) life dr os).abs := by
    refine fz_or (A := ⟨none, 900, none, none, unitsOf Γ.below⟩) (s := (s2T w x16 x20 (fzO es ep t) life dr os).abs) (o := 22) (b := 27) (c := 127) (tk := 330) (eo := 1) (to := ⟨7, #[SetTable.bits (hashStr w ⟨#[127]⟩) % 8], #[], 0, !byText w, 0, false⟩) (es := es) (ep := ep) (t := t) ?_ ?_ (by decide) hx (by simp) hf rfl (by decide) (fun h' es' ep' t' g1 g2 g3 g4 g5 => ?_) Γ p hc (below_of h1 h2)
    · rw [heap2]; exact hl2.get (i := 22) (by kernel_rfl) rfl
    · rw [heap2]; exact hl2.get (i := 27) (by kernel_rfl) rfl
    · rw [hsz] at g1 g2 g3
      rw [hsz]
      exact ⟨es', ep', t', h', rfl, rfl, g1, g2, g3, g4, g5⟩
  obtain ⟨r, s', hr, ⟨es', ep', t', h', rfl, hs, g1, g2, g3, g4, g5⟩, hl⟩ := code_life key
  refine ⟨es', ep', t', g4, g5, _, s', hr, rfl, ?_⟩
  have hlife : h'.life = life := by rw [hs] at hl; exact hl
  have hh := push_is hl2 (lies3 w (o3g w.params nmT [] 9) x16 x20 (fzO es ep t) (fzO es' ep' t')) (alive2 w _ _ _ _ (by kernel_rfl) al.1 al.2 rfl) g1 (fun a ha => by rw [g2 a ha, heap2]) g3 hlife
  rw [hs, hh]
  kernel_rfl
/-- the difference -/
theorem diff_ran (w : World) (x16 x20 x22 : Obj) (es : Array (Int × Value)) (ep : Nat) (t : SetTable) (life : Life) (dr : Drawn) (os : OsState) (al : alive x16 = some x16 ∧ alive x20 = some x20 ∧ alive x22 = some x22) (hx : FsOk w es.toList (List.range 32 ++ [127])) (hf : t.fits es.size = true)
    {Γ : PySem.Ctx} {p : Pos} (hc : Γ.code = cS) (h1 : Γ.handled = none) (h2 : Nat.ble (frameCount Γ.below) 900 = true) :
    ∃ es' ep' t', FsOk w es'.toList ((List.range 32 ++ [127]).erase 9) ∧ t'.fits es'.size = true ∧ wpCode (Mt w) Γ (fun r s => r = .ok (.ret (.ref 36)) ∧ s = (sVT w x16 x20 x22 (fzO es ep t) (fzO es' ep' t') life dr os).abs) p (s4T w x16 x20 x22 (fzO es ep t) life dr os).abs := by
  rw [Mt_is]
  have hl4 := lies4 w (o3g w.params nmT [e31 w.params] 10) x16 x20 x22 (fzO es ep t)
  have hsz : (s4T w x16 x20 x22 (fzO es ep t) life dr os).abs.heap.objs.size = 36 := by rw [heap4]; exact absHeap_size _ _ _
  have key : wpCode (model prog w) Γ (fun r s => ∃ es' ep' t' h', r = .ok (.ret (.ref 36)) ∧ s = { (s4T w x16 x20 x22 (fzO es ep t) life dr os).abs with heap := h' } ∧ h'.objs.size = 37 ∧ (∀ a : Nat, a ≠ 36 → h'.get? a = (s4T w x16 x20 x22 (fzO es ep t) life dr os).abs.heap.get? a) ∧
      h'.get? 36 = some (fzO es' ep' t') ∧ FsOk w es'.toList ((List.range 32 ++ [127]).erase 9) ∧ t'.fits es'.size = true) p (s4T w x16 x20 x22 (fzO es ep t) life dr os).abs := by
    refine fz_diff (A := ⟨none, 900, none, none, unitsOf Γ.below⟩) (s := (s4T w x16 x20 x22 (fzO es ep t) life dr os).abs) (o := 31) (b := 32) (c := 9) (tk := 334) (eo := 1) (to := ⟨7, #[SetTable.bits (hashStr w ⟨#[9]⟩) % 8], #[], 0, !byText w, 0, false⟩) (es := es) (ep := ep) (t := t) ?_ ?_ (by decide) hx (by simp) hf rfl (by decide) (fun h' es' ep' t' g1 g2 g3 g4 g5 => ?_) Γ p hc (below_of h1 h2)
    · rw [heap4]; exact hl4.get (i := 31) (by kernel_rfl) rfl
    · rw [heap4]; exact hl4.get (i := 32) (by kernel_rfl) rfl
    · rw [hsz] at g1 g2 g3
      rw [hsz]
      exact ⟨es', ep', t', h', rfl, rfl, g1, g2, g3, g4, g5⟩
  obtain ⟨r, s', hr, ⟨es', ep', t', h', rfl, hs, g1, g2, g3, g4, g5⟩, hl⟩ := code_life key
  refine ⟨es', ep', t', g4, g5, _, s', hr, rfl, ?_⟩
  have hlife : h'.life = life := by rw [hs] at hl; exact hl
  have al4 : ∀ o ∈ list4 w (o3g w.params nmT [e31 w.params] 10) x16 x20 x22 (fzO es ep t), alive o = some o := fun o ho => by
    have ho : o ∈ list2 w (o3g w.params nmT [e31 w.params] 10) x16 x20 x22 ++ [fzO es ep t] ++ [fzOne w 9 334, itDone, tupE, stopE 34] := ho
    rcases List.mem_append.mp ho with ho | ho
    · rcases List.mem_append.mp ho with ho | ho
      · exact alive2 w _ _ _ _ (by kernel_rfl) al.1 al.2.1 al.2.2 o ho
      · rw [List.mem_singleton.mp ho]; rfl
    · simp only [List.mem_cons, List.not_mem_nil, or_false] at ho
      rcases ho with rfl | rfl | rfl | rfl <;> rfl
  have hh := push_is hl4 (lies5 w (o3g w.params nmT [e31 w.params] 10) x16 x20 x22 (fzO es ep t) (fzO es' ep' t')) al4 g1 (fun a ha => by rw [g2 a ha, heap4]) g3 hlife
  rw [hs, hh]
  kernel_rfl
end Mine
/-! Ht -/
namespace Mine
open PySem PySem.W PySem.Calls PySem.Spec PyProof.Rows
set_option Elab.async false
set_option maxRecDepth 100000
set_option linter.unusedVariables false
section
variable {M : Model} {Γ : PySem.Ctx} {E : Value → Pos → Shared → Prop} {p : Pos} {s : Shared}
theorem wp_execs {st : Stmt} {rest : List Stmt} {env : Env} {Q : Flow → Pos → Shared → Prop} (h : Sem.wp M Γ (exec st env) (fun f p' s' => f = .next ∧ Sem.wp M Γ (execs rest env) Q E p' s') E p s) : Sem.wp M Γ (execs (st :: rest) env) Q E p s := by
  rw [execs_cons, Sem.wp_bind']
  exact Sem.wp_mono M Γ _ (fun f p' s' ⟨h1, h2⟩ => by subst h1; exact h2) (fun _ _ _ x => x) p s h
end
/-- statement 1 in the run -/
theorem st1_ran (w : World) (life : Life) (dr : Drawn) (os : OsState) (q : Pos) : ∃ x16 x20 es ep t es' ep' t', (alive x16 = some x16 ∧ alive x20 = some x20) ∧ FsOk w es'.toList (List.range 32 ++ [127]) ∧ t'.fits es'.size = true ∧
    ∀ (p : Pos) (Q : Flow → Pos → Shared → Prop) (E : Value → Pos → Shared → Prop), (∀ p', Q .next p' (s3T w x16 x20 (fzO es ep t) (fzO es' ep' t') life dr os).abs) → Sem.wp (Mt w) (Γm q) (exec (stAt 1) envM) Q E p (s0T w life dr os).abs := by
  obtain ⟨x16, x20, es, ep, t, al, hx, hf, h1⟩ := loop_ran w life dr os (Γ := Γ1 q) (p := pC) rfl rfl (by kernel_rfl)
  obtain ⟨es', ep', t', hx', hf', h2⟩ := or_ran w x16 x20 es ep t life dr os al hx hf (Γ := Γ2 q) (p := pO) rfl rfl (by kernel_rfl)
  refine ⟨x16, x20, es, ep, t, es', ep', t', al, hx', hf', fun p Q E hQ => ?_⟩
  refine wp_run (f := id) (run1 w x16 x20 (fzO es' ep' t') es ep t life dr os q p) (fun l hl y hy => ?_) hQ
  rw [show l = [(Γ1 q, pC, s1T w life dr os), (Γ2 q, pO, s2T w x16 x20 (fzO es ep t) life dr os)] from hl] at hy
  simp only [List.mem_cons, List.not_mem_nil, or_false] at hy
  rcases hy with rfl | rfl
  · exact ⟨_, _, by kernel_rfl, h1⟩
  · exact ⟨_, _, by kernel_rfl, h2⟩
theorem st2_ran (w : World) (x16 x20 x22 : Obj) (es : Array (Int × Value)) (ep : Nat) (t : SetTable) (life : Life) (dr : Drawn) (os : OsState) (q : Pos) (al : alive x16 = some x16 ∧ alive x20 = some x20 ∧ alive x22 = some x22) (hx : FsOk w es.toList (List.range 32 ++ [127])) (hf : t.fits es.size = true) :
    ∃ es' ep' t', FsOk w es'.toList ((List.range 32 ++ [127]).erase 9) ∧ t'.fits es'.size = true ∧
    ∀ (p : Pos) (Q : Flow → Pos → Shared → Prop) (E : Value → Pos → Shared → Prop), (∀ p', Q .next p' (s5T w x16 x20 x22 (fzO es ep t) (fzO es' ep' t') life dr os).abs) → Sem.wp (Mt w) (Γm q) (exec (stAt 2) envM) Q E p (s3T w x16 x20 x22 (fzO es ep t) life dr os).abs := by
  obtain ⟨es', ep', t', hx', hf', h2⟩ := diff_ran w x16 x20 x22 es ep t life dr os al hx hf (Γ := Γ3 q) (p := pS) rfl rfl (by kernel_rfl)
  refine ⟨es', ep', t', hx', hf', fun p Q E hQ => ?_⟩
  refine wp_run (f := id) (run2 w x16 x20 x22 (fzO es' ep' t') es ep t life dr os q p) (fun l hl y hy => ?_) hQ
  rw [show l = [(Γ3 q, pS, s4T w x16 x20 x22 (fzO es ep t) life dr os)] from hl] at hy
  rw [List.mem_singleton.mp hy]
  exact ⟨_, _, by kernel_rfl, h2⟩
/-- what the end of the top is -/
structure EndOk (w : World) (life : Life) (dr : Drawn) (os : OsState) (e : SharedT) : Prop where
  n : e.n = 139
  toks : e.toks = 491
  gens : e.gens = #[.finished]
  life : e.life = life
  dr : e.drawn = dr
  os : e.os = os
  objs : ∃ es ep t, FsOk w es.toList ((List.range 32 ++ [127]).erase 9) ∧ t.fits es.size = true ∧ ∀ z ∈ endL w.params (fzO es ep t), e.tree.get z.1 = some z.2
theorem rest_ran (w : World) (x16 x20 x22 x31 : Obj) (es : Array (Int × Value)) (ep : Nat) (t : SetTable) (life : Life) (dr : Drawn) (os : OsState) (q p : Pos) (hx : FsOk w es.toList ((List.range 32 ++ [127]).erase 9)) (hf : t.fits es.size = true) :
    ∃ e, EndOk w life dr os e ∧ ∀ (Q : Flow → Pos → Shared → Prop) (E : Value → Pos → Shared → Prop), (∀ p', Q .next p' e.abs) → Sem.wp (Mt w) (Γm q) (execs restM envM) Q E p (s5T w x16 x20 x22 x31 (fzO es ep t) life dr os).abs := by
  obtain ⟨⟨r, p', s', l⟩, hr, h⟩ := Option.map_eq_some_iff.mp (runR w x16 x20 x22 x31 (fzO es ep t) life dr os q p)
  simp only [Prod.mk.injEq] at h
  obtain ⟨rfl, rfl, h3, h4, h5, h6, h7, h8, h9⟩ := h
  refine ⟨s', ⟨h3, h4, h5, h6, h7, h8, es, ep, t, hx, hf, List.map_inj_left.mp h9⟩, fun Q E hQ => ?_⟩
  exact wp_run (f := id) (a := .next) (s' := s') (c := []) (by rw [hr]; rfl) (fun l hl => right_nil l hl) hQ
/-- the text's body in the run -/
theorem body_ran (w : World) (life : Life) (dr : Drawn) (os : OsState) (q p : Pos) : ∃ e, EndOk w life dr os e ∧ wpCode (Mt w) (Γm q) (fun r s => r = .ok .next ∧ s = e.abs) p (sBody w life dr os).abs := by
  obtain ⟨x16, x20, es, ep, t, es', ep', t', al, hx, hf, h1⟩ := st1_ran w life dr os q
  obtain ⟨es2, ep2, t2, hx2, hf2, h2⟩ := st2_ran w x16 x20 (fzO es ep t) es' ep' t' life dr os q ⟨al.1, al.2, rfl⟩ hx hf
  have key : wpCode (Mt w) (Γm q) (fun r s => r = .ok .next ∧ ∃ e, EndOk w life dr os e ∧ s = e.abs) p (sBody w life dr os).abs := by
    refine (Sem.wp_iff_runs (Mt w) (Γm q) _ _ p _).mp ?_
    show Sem.wp (Mt w) (Γm q) ((blockStart bodyM envM).bind fun _ => ((execs bodyM envM).onRaise (leaving envM)).bind fun f => (Sem.pure (Fin.done f) : Sem Fin)) _ _ p _
    rw [Sem.wp_bind]
    refine wp_run (f := id) (runBlock w life dr os q p) (fun l hl => right_nil l hl) fun p1 => ?_
    rw [Sem.wp_bind, Sem.wp_onRaise, bodyM_is]
    refine wp_execs (wp_run (f := id) (run0 w life dr os q p1) (fun l hl => right_nil l hl) fun p2 => ⟨rfl, ?_⟩)
    refine wp_execs (h1 p2 _ _ fun p3 => ⟨rfl, ?_⟩)
    refine wp_execs (h2 p3 _ _ fun p4 => ⟨rfl, ?_⟩)
    obtain ⟨e, g1, g2⟩ := rest_ran w x16 x20 (fzO es ep t) (fzO es' ep' t') es2 ep2 t2 life dr os q p4 hx2 hf2
    refine g2 _ _ fun p5 => ?_
    exact ⟨rfl, _, g1, rfl⟩
  obtain ⟨r, s', hr, rfl, e, he, rfl⟩ := key
  exact ⟨e, he, _, _, hr, rfl, rfl⟩
/-- the top in the run -/
theorem top_ran (w : World) (life : Life) (dr : Drawn) (os : OsState) : ∃ e, EndOk w life dr os e ∧ ∀ (Q : Fin → Pos → Shared → Prop) (E : Value → Pos → Shared → Prop), (∀ p', Q (.done (.ret .none)) p' e.abs) → Sem.wp (Mt w) Γ0 (topStub prog).cur Q E default (sBoot w life dr os).abs := by
  obtain ⟨e, he, h⟩ := body_ran w life dr os default default
  refine ⟨e, he, fun Q E hQ => ?_⟩
  refine wp_run (f := id) (runB w e life dr os) (fun l hl y hy => ?_) hQ
  rw [show l = [(Γm default, default, sBody w life dr os)] from hl] at hy
  rw [List.mem_singleton.mp hy]
  exact ⟨_, _, rfl, h⟩
end Mine
/-! Hr -/
namespace Mine
open PySem PySem.W PySem.Calls PySem.Spec PyProof.Rows
set_option Elab.async false
set_option maxRecDepth 100000
set_option linter.unusedVariables false
section
variable {den : Code → Sem Fin} {p : Program} {w : World}
theorem before_halt : ∀ {n : Nat} {s s' : Shared} {t : Thread} {o : Outcome}, runN den p w n s t = .halted o s' → ∃ m s₁ t₁, runN den p w m s t = .running s₁ t₁ ∧ step den p w s₁ t₁ = .halt o s'
  | 0, _, _, _, _, h => by cases h
  | n + 1, s, s', t, o, h => by
    simp only [runN] at h
    cases hs : step den p w s t with
    | halt o₂ s₂ => rw [hs] at h; cases h; exact ⟨0, s, t, rfl, hs⟩
    | go s₂ t₂ =>
      rw [hs] at h
      obtain ⟨m, s₁, t₁, h1, h2⟩ := before_halt h
      exact ⟨m + 1, s₁, t₁, by simp only [runN, hs]; exact h1, h2⟩
theorem sched_of_run : ∀ {n : Nat} {s s₁ : Shared} {t t₁ : Thread}, runN den p w n s t = .running s₁ t₁ → (∀ k s₁ t₁, runN den p w k s t = .running s₁ t₁ → t₁.calm = true) → s.asleep → schedN den p w n (.single s t) = .running (.single s₁ t₁)
  | 0, s, s₁, t, t₁, h, _, _ => by cases h; rfl
  | n + 1, s, s₁, t, t₁, h, hc, hz => by
    simp only [runN] at h
    cases hs : step den p w s t with
    | halt o₂ s₂ => rw [hs] at h; cases h
    | go s₂ t₂ =>
      rw [hs] at h
      have e : sstep den p w (.single s t) = .go (.single s₂ t₂) := by
        rcases sstep_single den p w s t (hc 0 s t rfl) hz with e | e
        · rw [e, hs]; rfl
        · rw [hs] at e; cases e
      simp only [schedN, e]
      exact sched_of_run h (fun k s₁ t₁ q => hc (k + 1) s₁ t₁ (by simp only [runN, hs]; exact q)) (Shared.asleep_of_life (step_life den p w s s₂ t t₂ hs) hz)
def isDone : Step → Bool
  | .halt (.done _) _ => true
  | _ => false
theorem done_finish {o : Outcome} {s : Shared} : isDone (finish o s) = true → ∃ f, o = .done f := by
  cases o with
  | done f => exact fun _ => ⟨f, rfl⟩
  | _ =>
    intro h
    unfold finish at h
    cases hc : leftWithCleanup s.gens <;> rw [hc] at h <;> exact Bool.noConfusion (h : false = true)
theorem halt_through {s s' : Shared} {t : Thread} {f : Flow} (h : step den p w s t = .halt (.done f) s') : s' = s ∧ through t = true := by
  refine ⟨step_halt_same den p w s s' t _ h, ?_⟩
  have hd : isDone (step den p w s t) = true := by rw [h]; rfl
  clear h
  obtain ⟨heap, gens, drawn, toks, os⟩ := s
  obtain ⟨cur, code, pos, stack⟩ := t
  cases cur with
  | pure r =>
    cases r with
    | again c => exact Bool.noConfusion (hd : false = true)
    | done g =>
      cases stack with
      | nil => rfl
      | cons fr r => cases fr <;> exact Bool.noConfusion (hd : false = true)
  | raise e =>
    cases stack with
    | nil => exact (nomatch done_finish (hd : isDone (finish (.uncaught e) _) = true))
    | cons fr r => cases fr <;> exact Bool.noConfusion (hd : false = true)
  | finish e =>
    replace hd : isDone (if leftWithCleanup gens then .halt (.unsupported "lifetime:generator-with-cleanup-left-suspended") ⟨heap, gens, drawn, toks, os⟩ else .halt (.ended e) ⟨heap, gens, drawn, toks, os⟩) = true := hd
    cases hc : leftWithCleanup gens <;> rw [hc] at hd <;> exact Bool.noConfusion (hd : false = true)
  | load a q k =>
    replace hd : isDone (match heap.get? a with | some o => .go ⟨heap, gens, drawn, toks, os⟩ ⟨k o, code, pos, stack⟩ | none => .halt (.stuck (if a < heap.objs.size then "load: the object has been freed" else "load: no object at this address")) ⟨heap, gens, drawn, toks, os⟩) = true := hd
    cases hc : heap.get? a <;> rw [hc] at hd <;> exact Bool.noConfusion (hd : false = true)
  | update a q f k =>
    replace hd : isDone (if (heap.get? a).isSome then .go ⟨heap.update a f, gens, drawn, toks, os⟩ ⟨k (), code, pos, stack⟩ else .halt (.stuck "update: no object at this address, or it has been freed") ⟨heap, gens, drawn, toks, os⟩) = true := hd
    cases hc : (heap.get? a).isSome <;> rw [hc] at hd <;> exact Bool.noConfusion (hd : false = true)
  | choose src n k =>
    cases n with
    | zero => exact Bool.noConfusion (hd : false = true)
    | succ n => exact Bool.noConfusion (hd : false = true)
  | genState g k =>
    unfold step at hd
    dsimp only at hd
    cases hc : gens[g]? <;> rw [hc] at hd <;> exact Bool.noConfusion (hd : false = true)
  | resume g r l k =>
    unfold step at hd
    dsimp only at hd
    cases hc : gens[g]? with
    | none => rw [hc] at hd; exact Bool.noConfusion (hd : false = true)
    | some st =>
      rw [hc] at hd
      cases st with
      | fresh c =>
        cases r with
        | send v => cases v <;> exact Bool.noConfusion (hd : false = true)
        | throw e => exact Bool.noConfusion (hd : false = true)
      | _ => exact Bool.noConfusion (hd : false = true)
  | «yield» v g0 l kk =>
    unfold step at hd
    dsimp only at hd
    cases hc : splitAtGen stack with
    | none => rw [hc] at hd; exact Bool.noConfusion (hd : false = true)
    | some x =>
      rw [hc] at hd
      obtain ⟨fs, ⟨g, k, c, p⟩, rest⟩ := x
      exact Bool.noConfusion (hd : false = true)
  | _ => exact Bool.noConfusion (hd : false = true)
end
theorem forget_finished {s s' : Shared} (h : s.forget = s'.forget) (hg : s'.gens = #[.finished]) : s = s' := by
  obtain ⟨a1, g1, a3, a4, a5⟩ := s
  obtain ⟨b1, g2, b3, b4, b5⟩ := s'
  have hg : g2 = #[.finished] := hg
  subst hg
  simp only [Shared.forget, Shared.mk.injEq] at h
  obtain ⟨rfl, h2, rfl, rfl, rfl⟩ := h
  have : g1 = #[.finished] := by
    have hz : g1.size = 1 := by have := congrArg Array.size h2; simpa using this
    have h0 : (g1.map GenState.forget)[0]? = some .finished := by rw [h2]; simp [GenState.forget]
    rw [Array.getElem?_map] at h0
    obtain ⟨g, hg, e⟩ := Option.map_eq_some_iff.mp h0
    have : g = .finished := by cases g <;> simp [GenState.forget] at e ⊢
    subst this
    apply Array.ext_getElem?
    intro i
    cases i with
    | zero => exact hg
    | succ i => rw [Array.getElem?_eq_none (by omega), Array.getElem?_eq_none (by simp)]
  rw [this]
theorem clean_finished : leftWithCleanup #[.finished] = false := by kernel_rfl
theorem end_gens {w : World} {life : Life} {dr : Drawn} {os : OsState} {e : SharedT} (h : EndOk w life dr os e) : e.abs.gens = #[.finished] := h.gens
/-- the top runs through, in any world -/
theorem top_sched (w : World) (life : Life) (dr : Drawn) (os : OsState) (hz : life.registered = [] ∧ life.counting = false) :
    ∃ e, EndOk w life dr os e ∧ ∃ n t, schedN (denote table) prog w n (.single (sBoot w life dr os).abs (topStub prog)) = .running (.single e.abs t) ∧ through t = true := by
  obtain ⟨e, he, h⟩ := top_ran w life dr os
  refine ⟨e, he, ?_⟩
  rw [Mt_is] at h
  have hw := h (Sem.finPost (model prog w) Γ0 fun r s' => (r = .ok (.ret .none) ∧ s' = e.abs) ∧ leftWithCleanup s'.gens = false) (fun x _ s' => (.error x = (.ok (.ret .none) : Result) ∧ s' = e.abs) ∧ leftWithCleanup s'.gens = false) fun p' => ⟨⟨rfl, rfl⟩, by rw [end_gens he]; exact clean_finished⟩
  obtain ⟨n, r, s', hn, rfl, rfl⟩ := (wp_iff_halts (M := model prog w) (R := fun r s' => r = .ok (.ret .none) ∧ s' = e.abs) ..).mp hw
  obtain ⟨s'', hr, hf, hc⟩ := runNI_real _ _ _ hn (outcomeOf_ends _)
  have hs : s'' = e.abs := forget_finished hf (end_gens he)
  subst hs
  obtain ⟨m, s₁, t₁, h1, h2⟩ := before_halt hr
  obtain ⟨rfl, ht⟩ := halt_through h2
  exact ⟨m, t₁, sched_of_run h1 hc hz, ht⟩
end Mine
/-! Gu -/
namespace Mine
open PySem PySem.W PySem.Calls PySem.Spec PyProof.Rows
set_option Elab.async false
set_option maxRecDepth 100000
set_option linter.unusedVariables false
theorem lt11 : ∀ b : Nat, b < 11 → b = 0 ∨ b = 1 ∨ b = 2 ∨ b = 3 ∨ b = 4 ∨ b = 5 ∨ b = 6 ∨ b = 7 ∨ b = 8 ∨ b = 9 ∨ b = 10 := by decide
theorem endL_alive (P : Params) (es : Array (Int × Value)) (ep : Nat) (t : SetTable) : (endL P (fzO es ep t)).map (fun z => alive z.2) = (endL P (fzO es ep t)).map fun z => some z.2 := by kernel_rfl
theorem endL_low (P : Params) (x : Obj) : (endL P x).all (fun z => Nat.blt z.1 139) = true := by kernel_rfl
section
variable {w : World} {life : Life} {dr : Drawn} {os : OsState} {e : SharedT}
theorem EndOk.get (h : EndOk w life dr os e) : ∃ es ep t, FsOk w es.toList ((List.range 32 ++ [127]).erase 9) ∧ t.fits es.size = true ∧ ∀ z ∈ endL w.params (fzO es ep t), e.abs.heap.get? z.1 = some z.2 := by
  obtain ⟨es, ep, t, hx, hf, ho⟩ := h.objs
  refine ⟨es, ep, t, hx, hf, fun z hz => ?_⟩
  show (absHeap e.tree e.n e.life).get? z.1 = some z.2
  refine at_get (ho z hz) ?_ (List.map_inj_left.mp (endL_alive w.params es ep t) z hz)
  rw [h.n]
  have := List.all_eq_true.mp (endL_low w.params (fzO es ep t)) z hz
  exact Nat.le_of_ble_eq_true this
end
/-- the low objects behind the top -/
noncomputable def hK (P : Params) : Heap := ⟨#[boot_o_0 P, boot_o_1 P, boot_o_2 P, o3 P, boot_o_4 P, boot_o_5 P, boot_o_6 P, boot_o_7 P, boot_o_8 P, boot_o_9 P, boot_o_10 P], {}⟩
theorem hK_get (P : Params) : [0, 2, 3, 4].map (hK P).get? = [some (boot_o_0 P), some (boot_o_2 P), some (o3 P), some (boot_o_4 P)] := by kernel_rfl
theorem boot_get (P : Params) : [0, 1, 2, 3, 4, 5, 6, 7, 8, 9, 10].map (boot_heap P).get? = [some (boot_o_0 P), some (boot_o_1 P), some (boot_o_2 P), some (boot_o_3 P), some (boot_o_4 P), some (boot_o_5 P), some (boot_o_6 P), some (boot_o_7 P), some (boot_o_8 P), some (boot_o_9 P), some (boot_o_10 P)] := by kernel_rfl
theorem boot_size (P : Params) : (boot_heap P).objs.size = 11 := by kernel_rfl
/-- two heaps alike in what a look at names asks -/
structure Like (h h' : Heap) : Prop where
  b : h.get? builtinsNs = h'.get? builtinsNs
  s : h.get? cStatics = h'.get? cStatics
  g : h.get? mainNs = h'.get? mainNs
  m : h.get? 4 = h'.get? 4
section
variable {h h' : Heap}
theorem Like.global (x : Like h h') (n : Str) : globalOf h n = globalOf h' n := by unfold globalOf; rw [x.g]
theorem Like.static (x : Like h h') (n : Str) : staticOf h n = staticOf h' n := by unfold staticOf; rw [x.s]
theorem Like.builtin (x : Like h h') (n : Str) : builtinOf h n = builtinOf h' n := by unfold builtinOf; rw [x.b]
end
theorem hK_ns (P : Params) : ((hK P).isNs mainGlobals, (hK P).isNs builtinsNs, (hK P).isNs cStatics) = (true, true, true) := by kernel_rfl
theorem hK_blt (P : Params) : (hK P).bltView = bltViewBooted := by kernel_rfl
theorem hK_bound (P : Params) : namesBound prog (hK P) = true := by kernel_rfl
theorem hK_laid (P : Params) : laidKept (boot_heap P) (hK P) = true := by kernel_rfl
theorem hK_stat (P : Params) : staticsOk (importedModules prog.main.body) (boot_heap P) (hK P) = true := by kernel_rfl
theorem hK_acc (P : Params) : (hK P).accountedOkI (importedModules prog.main.body) = true := by kernel_rfl
theorem hK_bm (P : Params) : (hK P).nsMap mainGlobals (Str.ofString "__builtins__") = some (.ref 4) := by kernel_rfl
section
variable {w : World} {life : Life} {dr : Drawn} {os : OsState} {e : SharedT}
theorem EndOk.like (h : EndOk w life dr os e) : Like e.abs.heap (hK w.params) := by
  obtain ⟨es, ep, t, _, _, ho⟩ := h.get
  have k := hK_get w.params
  simp only [List.map_cons, List.map_nil, List.cons.injEq, and_true] at k
  obtain ⟨k0, k2, k3, k4⟩ := k
  refine ⟨?_, ?_, ?_, ?_⟩
  · exact (ho (0, boot_o_0 w.params) (List.mem_of_getElem? (i := 0) rfl)).trans k0.symm
  · exact (ho (2, boot_o_2 w.params) (List.mem_of_getElem? (i := 2) rfl)).trans k2.symm
  · exact (ho (3, o3 w.params) (List.mem_of_getElem? (i := 13) rfl)).trans k3.symm
  · exact (ho (4, boot_o_4 w.params) (List.mem_of_getElem? (i := 3) rfl)).trans k4.symm
theorem staticsAcc_like {h h' : Heap} {mods : List Str} (x : Like h h') (y : staticsAccountedI h' mods) : staticsAccountedI h mods := by
  unfold staticsAccountedI at y ⊢
  simp only [x.static]
  exact y
theorem top_ran_ok (h : EndOk w {} dr os e) {n : Nat} {t : Thread} (hs : schedN (denote table) prog w n (.single (⟨boot_heap w.params, #[], dr, 181, os⟩ : Shared) (topStub prog)) = .running (.single e.abs t)) (ht : through t = true) (hlife : (boot_heap w.params).life = {}) :
    TopRan prog w ⟨boot_heap w.params, #[], dr, 181, os⟩ e.abs := by
  have L := h.like
  obtain ⟨es, ep, tb, _, _, ho⟩ := h.get
  have N := hK_ns w.params
  simp only [Prod.mk.injEq] at N
  obtain ⟨n1, n2, n3⟩ := N
  refine ⟨⟨n, t, hs, ht⟩, h.life.trans hlife.symm, ?_, fun b o hb hn => ?_, staticsAcc_like L (Heap.accountedI_of_ok (hK_acc w.params)), ?_, ?_, ?_, ?_, ?_, ?_, ?_⟩
  · exact Shared.rest_eq h.os
  · have hlt := Heap.lt_size hb
    have hlt : b < 11 := by rw [show (Shared.mk (boot_heap w.params) #[] dr 181 os).heap.objs.size = 11 from boot_size w.params] at hlt; exact hlt
    have k := boot_get w.params
    simp only [List.map_cons, List.map_nil, List.cons.injEq, and_true] at k
    obtain ⟨k0, k1, k2, k3, k4, k5, k6, k7, k8, k9, k10⟩ := k
    have hb : (boot_heap w.params).get? b = some o := hb
    have go : ∀ (i : Nat) (o' : Obj), (boot_heap w.params).get? i = some o' → (i, o') ∈ endL w.params (fzO es ep tb) → b = i → e.abs.heap.get? b = some o := fun i o' h1 h2 h3 => by
      subst h3
      rw [hb] at h1
      cases h1
      exact ho _ h2
    have := lt11 b hlt
    rcases this with q | q | q | q | q | q | q | q | q | q | q
    · exact go 0 _ k0 (List.mem_of_getElem? (i := 0) rfl) q
    · exact go 1 _ k1 (List.mem_of_getElem? (i := 1) rfl) q
    · exact go 2 _ k2 (List.mem_of_getElem? (i := 2) rfl) q
    · exact absurd (.inl q) hn
    · exact go 4 _ k4 (List.mem_of_getElem? (i := 3) rfl) q
    · exact go 5 _ k5 (List.mem_of_getElem? (i := 4) rfl) q
    · exact go 6 _ k6 (List.mem_of_getElem? (i := 5) rfl) q
    · exact go 7 _ k7 (List.mem_of_getElem? (i := 6) rfl) q
    · exact go 8 _ k8 (List.mem_of_getElem? (i := 7) rfl) q
    · exact go 9 _ k9 (List.mem_of_getElem? (i := 8) rfl) q
    · exact go 10 _ k10 (List.mem_of_getElem? (i := 9) rfl) q
  · intro key
    rw [L.static]
    exact statics_of_ok (hK_stat w.params) key
  · obtain ⟨o, es, n, k1, k2, k3⟩ := Pin.keysAreStrs_of n1
    exact ⟨o, es, n, L.g.trans k1, k2, k3⟩
  · intro x hx
    rw [L.builtin]
    exact (Pin.builtinOf_eq n2 x).trans (Heap.of_bltView n2 (hK_blt w.params) x hx)
  · exact ⟨4, boot_o_4 w.params, by rw [L.global]; exact (Pin.globalOf_eq n1 _).trans (hK_bm w.params), ho (4, boot_o_4 w.params) (List.mem_of_getElem? (i := 3) rfl), by kernel_rfl, by kernel_rfl⟩
  · intro g hg
    rw [end_gens h] at hg
    have : g = .finished := by simpa using hg
    subst this; trivial
  · intro x v hx
    rw [L.global] at hx
    exact names_of_bound (hK_bound w.params) x v hx
  · intro x hx
    rw [L.global]
    exact laid_of_kept (hK_laid w.params) x hx
end
end Mine
/-! Gw -/
namespace Mine
open PySem PySem.W PySem.Calls PySem.Spec PyProof.Rows
set_option Elab.async false
set_option maxRecDepth 100000
set_option maxHeartbeats 4000000
set_option linter.unusedVariables false
abbrev looseT : List Str := prog.boundNames
/-- what the walk of law is to give -/
def LawWp : Prop := ∀ (w : World) (s : Shared) (h₀ : Heap) (mg mb : Str → Option Value) (mean : ExcName → Option Value) (l : Addr) (vs : Array Value) (ns : List Int),
  Gd w looseT mean mg mb h₀ → FzOf prog w h₀ 36 → h₀.get? 79 = none → h₀.get? 114 = none → h₀.objs.size ≤ s.heap.objs.size → (∀ b o, h₀.get? b = some o → s.heap.get? b = some o) →
  s.heap.get? 79 = some (tabObj #[]) → s.heap.get? 114 = some (tabObj #[]) → h₀.IsList l vs → IntsAre vs.toList ns → ns.length ≤ 63 →
  wpAny (model prog w) callerA (call (.ref 138) [.ref l]) (fun v s' => v = .bool true ∧ (∀ b o, h₀.get? b = some o → s'.heap.get? b = some o) ∧ (∃ ps, s'.heap.get? 79 = some (tabObj ps)) ∧ (∃ ps, s'.heap.get? 114 = some (tabObj ps)) ∧ s'.os = s.os ∧ s'.gens = s.gens)
    (fun _ _ => False) s
section
variable {w : World} {life : Life} {dr : Drawn} {os : OsState} {e : SharedT}
theorem ill_mem (n : Nat) : ill n = true ↔ n ∈ (List.range 32 ++ [127]).erase 9 := by
  rw [List.Nodup.mem_erase_iff (by decide)]
  simp only [ill, Bool.or_eq_true, Bool.and_eq_true, decide_eq_true_eq, Bool.not_eq_true', decide_eq_false_iff_not, List.mem_append, List.mem_range, List.mem_singleton]
  omega
theorem EndOk.fz (h : EndOk w life dr os e) : FzOf prog w e.abs.heap 36 := by
  obtain ⟨es, ep, t, hx, hf, ho⟩ := h.get
  refine ⟨_, es, ep, t, ho (36, fzO es ep t) (List.mem_of_getElem? (i := 10) rfl), rfl, rfl, rfl, hx.elems, fun n => (ill_mem n).trans (hx.mem n), ?_, hf⟩
  have := hx.len
  rw [Array.length_toList] at this
  rw [this]
  show ((List.range 32 ++ [127]).erase 9).length < 4096
  decide
theorem EndOk.frag (h : EndOk w life dr os e) : (KK w.params).In e.abs.heap := by
  obtain ⟨es, ep, t, hx, hf, ho⟩ := h.get
  intro a o hl
  have : (a, o) ∈ KK w.params := by
    have : ∀ (l : List (Addr × Obj)), l.lookup a = some o → (a, o) ∈ l := by
      intro l
      induction l with
      | nil => intro q; cases q
      | cons z l ih =>
        obtain ⟨b, x⟩ := z
        intro q
        rw [List.lookup_cons] at q
        split at q
        · cases q
          rename_i hq
          have : a = b := by simpa using hq
          subst this
          exact .head _
        · exact .tail _ (ih q)
    exact this _ hl
  exact ho (a, o) (List.mem_append_right _ this)
theorem hK_free (P : Params) : ((hK P).nsKeys mainGlobals).all (fun k => startupNames.contains k || looseT.contains k) = true := by kernel_rfl
theorem top_like {h : Heap} {P : Params} (L : Like h (hK P)) (hm : h.get? 4 = some (boot_o_4 P)) : Top topProg looseT (ExcName.means h) ((hK P).nsMap mainGlobals) ((hK P).nsMap builtinsNs) h := by
  have N := hK_ns P
  simp only [Prod.mk.injEq] at N
  obtain ⟨n1, n2, n3⟩ := N
  have ns : ∀ {a : Addr} {m : Str → Option Value}, h.get? a = (hK P).get? a → (hK P).Ns a m → h.Ns a m := fun e ⟨o, es, ep, h1, r⟩ => ⟨o, es, ep, e.trans h1, r⟩
  refine ⟨ns L.g (.of_isNs n1), ns L.b (.of_isNs n2), ⟨_, ns L.s (.of_isNs n3), by kernel_rfl⟩, ⟨_, ns L.s (.of_isNs n3), by kernel_rfl⟩, fun d hd => ?_, fun o ho => ?_, fun x d hv => ?_, fun x h1 h2 _ _ _ => ?_, fun x hx => Heap.of_bltView n2 (hK_blt P) x hx, fun d hd => ?_, ?_, fun hi => ?_⟩
  · exact absurd hd (by rw [show recsOf topProg = [] by kernel_rfl]; exact List.not_mem_nil)
  · exact absurd ho (by rw [show ownsOf topProg = [] by kernel_rfl]; exact List.not_mem_nil)
  · exact absurd (valOf_name hv) (by rw [show valNames topProg = [] by kernel_rfl]; exact List.not_mem_nil)
  · refine Heap.nsMap_none fun hk => ?_
    have := List.all_eq_true.mp (hK_free P) x hk
    simp only [Bool.or_eq_true, List.contains_iff_mem] at this
    exact this.elim h1 h2
  · exact absurd hd (by rw [show recsOf topProg = [] by kernel_rfl]; exact List.not_mem_nil)
  · exact ⟨4, boot_o_4 P, hK_bm P, by decide, hm, by kernel_rfl, by kernel_rfl, by kernel_rfl⟩
  · exact absurd hi (by decide +kernel)
end
theorem boot_is (w : World) (dr : Drawn) (os : OsState) : (sBoot w {} dr os).abs = ⟨boot_heap w.params, #[], dr, 181, os⟩ := by kernel_rfl
theorem opening_is : opening prog = plainProg prog.main.scope.names := by kernel_rfl
theorem fence_is (s : Shared) : fenceModules? prog s = some s := by kernel_rfl
theorem boot_consts (w : World) : ((boot_heap w.params).life, boot_toks) = (({} : Life), 181) := by kernel_rfl
/-- the opening -/
theorem opened (w : World) : (∃ s, AfterRun (opening prog) w s) ∧ ∀ s, AfterRun (opening prog) w s → ∃ os, s = ⟨boot_heap w.params, #[], boot_drawn, 181, os⟩ := by
  have h := boot_open (N := 600) opening_is (by decide) fence_is w
  rw [← table_eq_tree] at h
  obtain ⟨s₀, h1, h2⟩ := Option.map_eq_some_iff.mp h
  obtain ⟨s, h3, h4⟩ := Option.bind_eq_some_iff.mp h1
  have A := AfterImport.of_importEnds h3
  refine ⟨⟨s, A⟩, fun s' hs' => ?_⟩
  obtain rfl : s' = s := AfterImport.unique hs' A
  rw [fence_is] at h4
  cases h4
  obtain ⟨hp, gs, dr, tk, os⟩ := s₀
  simp only [Prod.mk.injEq] at h2
  obtain ⟨rfl, rfl, rfl, rfl⟩ := h2
  have := boot_consts w
  simp only [Prod.mk.injEq] at this
  exact ⟨os, by rw [this.2]⟩
theorem theDef_law : prog.theDef (Str.ofString "law") = some (paramsOf (stAt 21), bodyOf (stAt 21), scopeOf (stAt 21)) := by kernel_rfl
theorem law_at (P : Params) : (hK P).nsMap mainGlobals (Str.ofString "law") = some (.ref 138) := by kernel_rfl
section
variable {w : World} {dr : Drawn} {os : OsState} {e : SharedT}
theorem EndOk.pin (h : EndOk w {} dr os e) : isTheDefsW prog e.abs.heap (Str.ofString "law") := by
  have N := hK_ns w.params
  simp only [Prod.mk.injEq] at N
  refine ⟨138, o138, _, _, _, _, by rw [h.like.global]; exact (Pin.globalOf_eq N.1 _).trans (law_at w.params), h.frag 138 o138 rfl, rfl, theDef_law, rfl, rfl, rfl, rfl, rfl, rfl, rfl, rfl, ?_⟩
  exact ⟨.inl ⟨by kernel_rfl, rfl⟩, [], by kernel_rfl, .inl ⟨rfl, rfl⟩⟩
end
abbrev row : RowW := PySem.Challenge.rw_mr0151_01.row.toRowW
theorem code83 (P : Params) : (o83 P).cls = .type "code" ∧ ∃ vs, (o83 P).data = .fields vs ∧ vs[11]? = some (.ref 79) := ⟨rfl, _, rfl, rfl⟩
theorem code118 (P : Params) : (o118 P).cls = .type "code" ∧ ∃ vs, (o118 P).data = .fields vs ∧ vs[11]? = some (.ref 114) := ⟨rfl, _, rfl, rfl⟩
theorem good_of {s s' : Shared} {h₀ : Heap} (P : Params) (X : (KK P).In s.heap) (hh : h₀ = hideAll s.heap [79, 114]) (h79 : s.heap.get? 79 = some (tabObj #[])) (h114 : s.heap.get? 114 = some (tabObj #[]))
    (old : ∀ b o, h₀.get? b = some o → s'.heap.get? b = some o) (t79 : ∃ ps, s'.heap.get? 79 = some (tabObj ps)) (t114 : ∃ ps, s'.heap.get? 114 = some (tabObj ps)) : ∀ b o, s.heap.get? b = some o → asItWas s.heap s'.heap b o := by
  intro b o hb
  by_cases q : b ∈ ([79, 114] : List Nat)
  · have q' : b = 79 ∨ b = 114 := by simpa using q
    rcases q' with rfl | rfl
    · obtain ⟨ps, hp⟩ := t79
      rw [h79] at hb
      cases hb
      obtain ⟨c1, vs, c2, c3⟩ := code83 P
      exact .inr (.inl ⟨⟨83, o83 P, vs, X 83 (o83 P) rfl, c1, c2, c3⟩, rfl, #[], ps, rfl, by rw [hp]; simp [tabObj]⟩)
    · obtain ⟨ps, hp⟩ := t114
      rw [h114] at hb
      cases hb
      obtain ⟨c1, vs, c2, c3⟩ := code118 P
      exact .inr (.inl ⟨⟨118, o118 P, vs, X 118 (o118 P) rfl, c1, c2, c3⟩, rfl, #[], ps, rfl, by rw [hp]; simp [tabObj]⟩)
  · exact .inl (old b o (by rw [hh]; exact hideAll_get _ hb q))
theorem hide_list {h : Heap} {l : Addr} {vs : Array Value} (x : h.IsList l vs) (h79 : h.get? 79 = some (tabObj #[])) (h114 : h.get? 114 = some (tabObj #[])) : (hideAll h [79, 114]).IsList l vs := by
  obtain ⟨o, h1, h2, n, h3⟩ := x
  refine ⟨o, hideAll_get _ h1 (fun q => ?_), h2, n, h3⟩
  have q' : l = 79 ∨ l = 114 := by simpa using q
  rcases q' with rfl | rfl
  · rw [h79] at h1; cases h1; cases h2
  · rw [h114] at h1; cases h1; cases h2
theorem call_from (H : LawWp) {w : World} {dr : Drawn} {os : OsState} {e : SharedT} (he : EndOk w {} dr os e) : row.claim.CallFrom (callStub (Str.ofString "law")) w (fun b => false = true ∧ madeByTheTop ⟨boot_heap w.params, #[], dr, 181, os⟩ e.abs b) (false = false) (fun h' => false = true → namesKept prog PySem.Challenge.rw_mr0151_01.own e.abs.heap h' ∧ ∀ x ∈ row.claim.records, ∀ a, classAt e.abs.heap x.1 = some a → recordClass h' a x.1 (x.2.map (·.1)) = true) e.abs := by
  refine ClaimW.callFrom_of_specN (c := row.claim) (tree := fun vs => do match ← nsGet mainNs (Str.ofString "law") with
      | some f => do ret (← PySem.call f vs)
      | none => unsupported "claim.caller:no-such-global") ?_ (by rw [end_gens he]; exact clean_finished) fun args hpre hlay ord hord => ?_
  · show e.life.registered = [] ∧ e.life.counting = false
    rw [he.life]; exact ⟨rfl, rfl⟩
  obtain ⟨⟨vs, s₁⟩, hlaid⟩ := Option.isSome_iff_exists.mp (layAllW_isSome (R := row.claim.records) (cl := classAt e.abs.heap) (P := w.params) (ord := ord) (fun c hc => (nomatch hc)) args row.args e.abs (pre_splitW hpre).1)
  have keeps := layAllW_keeps _ _ _ hlaid
  have hal := layAllW_rest _ _ _ hlaid
  obtain ⟨as, hrd, hin, hold⟩ := reads_layAllW hord _ _ _ hlaid hlay s₁.heap (fun _ _ e => e)
  have hwl := well_layAllW hord args e.abs _ hlaid s₁.heap fun _ _ e => e
  have hlow : ∀ a ∈ as, (a == sysModules) = false := fun a ha => beq_eq_false_iff_ne.mpr fun q => by
    have h1 := (hin.2.2 a ha).1
    rw [q] at h1
    have h2 : e.abs.heap.objs.size = 139 := by
      show (absHeap e.tree e.n e.life).objs.size = 139
      rw [absHeap_size, he.n]
    rw [h2] at h1
    exact absurd h1 (by decide)
  refine ⟨vs, s₁, hlaid, ?_⟩
  have hrd0 := hrd
  have hpre0 := hpre
  wrow_args hpre hlay hrd hwl hlow
  rename IntsAre _ _ => hI
  rename Heap.IsList _ _ _ => hL
  rename ¬ (_ < _) => hc
  rename List Int => ns
  have frs : (frees row && row.within.isEmpty) = true := by kernel_rfl
  obtain ⟨k5, k6⟩ := Bool.and_eq_true_iff.mp frs
  obtain ⟨hsame, hu, ha, hap, hm⟩ := frees_parts k5
  have hi := ident_freeW hu ha hap
  have keeps : ∀ b o, e.abs.heap.get? b = some o → s₁.heap.get? b = some o := keeps
  have X1 : (KK w.params).In s₁.heap := he.frag.keeps keeps
  obtain ⟨es, ep, tb, hx, hf, ho⟩ := he.get
  have h79 : s₁.heap.get? 79 = some (tabObj #[]) := keeps _ _ (ho (79, oT #[]) (List.mem_of_getElem? (i := 11) rfl))
  have h114 : s₁.heap.get? 114 = some (tabObj #[]) := keeps _ _ (ho (114, oT #[]) (List.mem_of_getElem? (i := 12) rfl))
  have hide : ∀ b o, s₁.heap.get? b = some o → b ∉ ([79, 114] : List Nat) → (hideAll s₁.heap [79, 114]).get? b = some o := fun b o q n => hideAll_get _ q n
  have G0 : Gd w looseT (ExcName.means (hideAll s₁.heap [79, 114])) ((hK w.params).nsMap mainGlobals) ((hK w.params).nsMap builtinsNs) (hideAll s₁.heap [79, 114]) := by
    have k := hK_get w.params
    simp only [List.map_cons, List.map_nil, List.cons.injEq, and_true] at k
    obtain ⟨k0, k2, k3, k4⟩ := k
    have g4 : (hideAll s₁.heap [79, 114]).get? 4 = some (boot_o_4 w.params) := hide 4 _ (keeps _ _ (ho (4, boot_o_4 w.params) (List.mem_of_getElem? (i := 3) rfl))) (by decide)
    refine ⟨fun a o hl => hide a o (X1 a o hl) ?_, top_like ⟨?_, ?_, ?_, ?_⟩ g4⟩
    · have hn : (KK w.params).lookup 79 = none ∧ (KK w.params).lookup 114 = none := ⟨by kernel_rfl, by kernel_rfl⟩
      intro q
      have q' : a = 79 ∨ a = 114 := by simpa using q
      rcases q' with rfl | rfl
      · rw [hn.1] at hl; cases hl
      · rw [hn.2] at hl; cases hl
    · exact (hide 0 _ (keeps _ _ (ho (0, boot_o_0 w.params) (List.mem_of_getElem? (i := 0) rfl))) (by decide)).trans k0.symm
    · exact (hide 2 _ (keeps _ _ (ho (2, boot_o_2 w.params) (List.mem_of_getElem? (i := 2) rfl))) (by decide)).trans k2.symm
    · exact (hide 3 _ (keeps _ _ (ho (3, o3 w.params) (List.mem_of_getElem? (i := 13) rfl))) (by decide)).trans k3.symm
    · exact g4.trans k4.symm
  have Z0 : FzOf prog w (hideAll s₁.heap [79, 114]) 36 := by
    obtain ⟨o, es, ep, t, h1, r⟩ := he.fz
    exact ⟨o, es, ep, t, hide 36 _ (keeps _ _ h1) (by decide), r⟩
  have hL0 := hide_list hL h79 h114
  have hgl : s₁.heap.Ns mainGlobals ((hK w.params).nsMap mainGlobals) := G0.T.g.keeps fun b o q => of_hideAll _ q
  refine wpAny_bind (wpAny_nsGet hgl ?_)
  rw [law_at]
  refine wpAny_bind (wpAny_mono (H w { s₁ with gens := #[] } _ _ _ _ _ _ ns G0 Z0 (hideAll_none _ (by simp)) (hideAll_none _ (by simp)) (Nat.le_of_eq (hideAll_size _ _)) (fun b o q => of_hideAll _ q) h79 h114 hL0 (by simpa using hI) (by omega)) (fun v s' g => wpAny_pure ?_) fun x s' g => g.elim)
  obtain ⟨rfl, old, t79, t114, hos, hgs⟩ := g
  have hold' := good_of w.params X1 rfl h79 h114 old t79 t114
  refine ⟨_, rfl, .inl ⟨_, rfl, fun cls => rfl, ⟨.bool true, _, [], _, .bool true, hrd0.keepsK (fun b o q hcl => ?_), ?_, fun _ => ⟨List.nodup_nil, fun a ha => (nomatch ha), fun a ha => (nomatch ha)⟩, fun _ _ => hi _ _⟩, fun i hi' => ?_, fun b o q _ _ => hold' b o q, fun i hi' => ?_⟩, hos.trans hal.2.2.1, hgs, fun q => (by cases q)⟩
  · rcases hold' b o q with k | ⟨_, c, _⟩ | ⟨_, c, _⟩
    · exact k
    · exact absurd c hcl
    · exact absurd c hcl
  · first | kernel_rfl | wrow_post
  · rw [show row.claim.same = none from hsame] at hi'; cases hi'
  · rw [show row.claim.within = [] from List.isEmpty_iff.mp k6] at hi'; cases hi'
theorem said_ok : PySem.Challenge.rw_mr0151_01.wellSaid = true := by
  delta OpenLaw.wellSaid OpenRow.wellSaid OpenRow.partSaid looksOpen
  repeat' with_reducible refine look_both ?_ ?_
  all_goals decide +kernel
theorem holds_of (H : LawWp) : PySem.Challenge.rw_mr0151_01.Holds := by
  w_on
  refine holds_law said_ok fun said => ?_
  refine ⟨by assumption, ?_, ?_⟩
  · w_witness2
  · refine ⟨⟨⟨by kernel_rfl, by kernel_rfl, by kernel_rfl, by kernel_rfl, by kernel_rfl, by decide +kernel⟩, by decide +kernel, rfl⟩, ⟨[.list []], by decide +kernel, by decide +kernel⟩, fun w => ⟨(opened w).1, fun s hs => ?_⟩⟩
    obtain ⟨os, rfl⟩ := (opened w).2 s hs
    obtain ⟨e, he, n, t, hsch, ht⟩ := top_sched w {} boot_drawn os ⟨rfl, rfl⟩
    rw [boot_is] at hsch
    have hl := boot_consts w
    simp only [Prod.mk.injEq] at hl
    refine ⟨_, fence_is _, rfl, e.abs, top_ran_ok he hsch ht hl.1, fun n hn => ?_, fun x hx => (nomatch hx), fun x hx => (nomatch hx), call_from H he⟩
    have : n = Str.ofString "law" := by
      have hn : n ∈ [Str.ofString "law"] := hn
      exact List.mem_singleton.mp hn
    subst this
    exact he.pin
end Mine
/-! Tx -/
namespace Mine
open PySem PySem.W PySem.Calls PySem.Spec PyProof.Rows
set_option Elab.async false
set_option maxRecDepth 100000
set_option maxHeartbeats 4000000
set_option linter.unusedVariables false
theorem fillTx : (PySem.Challenge.rw_mr0151_01, KK) = (PySem.Challenge.rw_mr0151_01, KK) := by k_fill; rfl
abbrev env98 (L : Addr) : Env := envX (Str.ofString "_law_pieces") (scopeOf (stAt 15)) L 98 (.ref 97) [(Str.ofString "signs", L + 2), (Str.ofString "x", L + 1)]
def forBody (i j : Nat) : List Stmt := match (bodyOf (stAt i))[j]? with | some (.For _ _ b _ _) => b | _ => []
def textX : Expr := match forBody 15 1 with | [_, _, _, _, .Assign _ e _, _] => e | _ => .Constant .none 0 default
def compX : Expr := match textX with | .Call _ (c :: _) _ _ => c | _ => textX
def compElt : Expr := match compX with | .ListComp e _ _ _ => e | _ => textX
def compScope : Scope := match compX with | .ListComp _ _ s _ => s | _ => scopeOf (stAt 15)
abbrev clos98 (L : Addr) : List (Str × Addr) := [(Str.ofString "x", L + 1), (Str.ofString "signs", L + 2)]
theorem clos_is (L : Addr) : closureFor compScope (env98 L) = pure (clos98 L) := by kernel_rfl
theorem elt_eval {w : World} {A : Around} {s : Shared} {E : Value → Shared → Prop} {L C : Addr} {m : Str → Option Value} {x i : Int} {sg : Str} {t t2 t3 : Tok}
   (hx : 0 ≤ x) (hx2 : x < 1000000000) (hi : 0 ≤ i) (hi2 : i ≤ 3) (hsg : sg.length = 4) (h1 : s.heap.IsCell (L + 1) (some (.int x t))) (h2 : s.heap.IsCell (L + 2) (some (.str sg t2))) (hn : s.heap.Ns C m) (hk : m (Str.ofString "k") = some (.int i t3))
   {Q : Value → Shared → Prop} (ret : ∀ c tc tk, c ∈ sg.cps.toList → Q (.str ⟨#[c]⟩ tc) { s with toks := tk })
   : wpAny (model prog w) A (eval compElt (compEnvC compScope (clos98 L) C (env98 L))) Q E s := by
  w_on
  conv in (compElt) => whnf
  walk1
  refine wpAny_Name (wpAny_loadName_cell (c := L + 2) rfl rfl rfl h2 ?_) (by decide)
  walk1
  walk1
  walk1
  refine wpAny_Name (wpAny_loadName_cell (c := L + 1) rfl rfl rfl h1 ?_) (by decide)
  walk1
  refine floordiv_int (by decide) ?_ (.inl (PyProof.noPylong_small (by omega)))
  walk1
  walk1
  refine wpAny_Name (wpAny_loadName_local rfl rfl hn hk ?_) (by decide)
  refine pow_int_small hi (by omega) (by decide) ?_
  have hp : (1 : Int) ≤ 4 ^ i.toNat ∧ (4 : Int) ^ i.toNat ≤ 64 := by
    have : i = 0 ∨ i = 1 ∨ i = 2 ∨ i = 3 := by omega
    rcases this with rfl | rfl | rfl | rfl <;> decide
  generalize (4 : Int) ^ i.toNat = q at *
  refine floordiv_int (by omega) ?_ (.inl (PyProof.noPylong_small (by omega)))
  walk1
  refine mod_int' (by decide) ?_
  have hm : 0 ≤ ((x.fdiv 12).fdiv q).fmod 4 ∧ ((x.fdiv 12).fdiv q).fmod 4 < 4 := ⟨Int.fmod_nonneg_of_pos _ (by decide), Int.fmod_lt_of_pos _ (by decide)⟩
  generalize ((x.fdiv 12).fdiv q).fmod 4 = j at *
  dsimp only
  walk1
  obtain ⟨c, hc, he⟩ := item_eq (x := sg) (j := j) hm.1 (by omega)
  rw [he]
  exact ret c _ _ (List.mem_of_getElem? hc)
def compIter : Expr := match compX with | .ListComp _ (g :: _) _ _ => g.iter | _ => textX
def compPos : Pos × Pos := match compX with | .ListComp _ (⟨.Name _ p, _, _, _⟩ :: _) _ q => (p, q) | _ => default
theorem comp_is : compX = .ListComp compElt [⟨.Name (Str.ofString "k") compPos.1, compIter, [], 0⟩] compScope compPos.2 := by kernel_rfl
/-- one-sign strs out of sg -/
def SgV (sg : Str) (v : Value) : Prop := ∃ c u, v = .str ⟨#[c]⟩ u ∧ c ∈ sg.cps.toList
theorem Walks_bounded {prog : Program} {w : World} {A : Around} {I : Addr} {fp wr : List Addr} {n : Nat} {P : Nat → Value → Prop} {St : Nat → Heap → Prop} (W : Walks prog w A I fp wr n P St) : Walks prog w A I fp wr n (fun i v => i < n ∧ P i v) St where
  sub := W.sub
  frame := W.frame
  item := fun i s Q E hi st hQ => W.item i s Q E hi st fun v h' tk hP => hQ v h' tk ⟨hi, hP⟩
  done := W.done
  self := W.self
theorem paired_all {α β : Type} {P : β → Prop} : ∀ {a : List α} {b : List β}, Paired (fun _ y => P y) a b → a.length = b.length ∧ ∀ v ∈ b, P v
  | _, _, .nil => ⟨rfl, fun _ h => nomatch h⟩
  | _, _, .cons h r => ⟨by simp [(paired_all r).1], fun v hv => by
      rcases List.mem_cons.mp hv with rfl | hv
      · exact h
      · exact (paired_all r).2 v hv⟩
theorem comp_eval {w : World} {s : Shared} {dp un : Nat} {gd : Option (List Code)} {outer : List Env} {E : Value → Shared → Prop} {h₀ : Heap} {L : Addr} {mg mb m : Str → Option Value} {mean : ExcName → Option Value} {loose : List Str} {fs : Led} {Q : Value → Shared → Prop}
   {x n : Int} {sg : Str} {t t2 t3 : Tok} {ox og : Obj} (hx : 0 ≤ x) (hx2 : x < 1000000000) (hn : 0 ≤ n) (hn2 : n ≤ 3) (hsg : sg.length = 4) (hm : m (Str.ofString "size") = some (.int n t3))
   (F : Fr h₀ L s.heap m) (G : Gd w loose mean mg mb h₀) (N : News h₀ L s.heap fs) (h1 : (L + 1, ox) ∈ fs) (h2 : (L + 2, og) ∈ fs) (hox : ox.data = .cell (some (.int x t))) (hog : og.data = .cell (some (.str sg t2)))
   (ret : ∀ D h' tk (ys : Array Value), Fr h₀ L h' m → News h₀ L h' fs → h'.IsList D ys → ys.size = n.toNat → (∀ v ∈ ys.toList, SgV sg v) → (∀ p ∈ fs, p.1 ≠ D) → D ≠ L → h₀.get? D = none → Q (.ref D) { s with heap := h', toks := tk })
   : wpAny (model prog w) ⟨none, dp, some (env98 L :: outer), gd, un⟩ (eval compX (env98 L)) Q E s := by
  w_on
  have X := G.X
  have T := G.T
  rw [comp_is]
  refine wpAny_ListComp_free (cl := clos98 L) (fun _ => true) (fun _ y => SgV sg y) (clos_is L) (by decide +kernel) rfl (by decide +kernel) (by decide +kernel) ?_
  delta env98
  conv in (compIter) => whnf
  walk1
  refine nameX_B F X (topRead_of T) (by kernel_rfl) (v := .type "range") (by boot_by_name) (by decide) ?_
  walk1
  walk1
  refine nameX_L F hm ?_
  walk1
  refine call_range_1 ?_
  have F1 := F.push { cls := .type "range", data := .fields #[.int 0 s.toks, .int n t3, .int 1 (s.toks + 1)] }
  have N1 := N.push F { cls := .type "range", data := .fields #[.int 0 s.toks, .int n t3, .int 1 (s.toks + 1)] }
  have hrs : Builtin.Range.rangeSize 0 n 1 = (n.toNat : Int) := by rw [rangeSize_one]; split <;> omega
  refine wpAny_pyIter_range (IsRange.new _ _ _ _ _ _ _) (small_one (by decide) (by decide) (by omega) (by omega)) ?_
  rw [hrs]
  dsimp only at *
  generalize hH : (s.heap.push { cls := .type "range", data := .fields #[.int 0 s.toks, .int n t3, .int 1 (s.toks + 1)] } : Heap) = H at *
  have hadd : ∀ b o, H.get? b = some o → (H.push { cls := .type "range_iterator", data := .fields #[rawInt 0, rawInt (n.toNat : Int), rawInt 1] }).get? b = some o := fun b o e => Heap.get?_push_of_some _ e
  refine ⟨H.objs.size, [H.objs.size], [H.objs.size], n.toNat, _, _, rfl, Walks_bounded (Walks.range rfl H.objs.size 0 1 n.toNat), by rw [sizeLine_eq]; omega, ?_, ?_, ?_, ?_⟩
  · have e1 : (0 : Int) + ((0 : Nat) : Int) * 1 = 0 := by decide
    have e2 : ((n.toNat : Nat) : Int) - ((0 : Nat) : Int) = (n.toNat : Int) := by omega
    rw [e1, e2]
    exact Heap.get?_push_size _ rfl
  · intro b hb
    rw [List.mem_singleton.mp hb, Heap.size_push]; exact Nat.lt_succ_self _
  · have hne : ∀ b o, H.get? b = some o → b ∉ [H.objs.size] := fun b o e q => by
      rw [List.mem_singleton.mp q] at e
      exact absurd (Heap.lt_size e) (Nat.lt_irrefl _)
    refine ⟨fun C i v s₃ m₃ E' hC hPv hns hmx hkp htk => wpAny_pure ⟨rfl, s₃.heap, s₃.toks, rfl, fun _ _ e => e⟩, fun C i v s₃ m₃ E' hC hPv _ hns hmx hkp htk => ?_⟩
    obtain ⟨hi, tv, rfl⟩ := hPv
    have c1 : s₃.heap.IsCell (L + 1) (some (.int x t)) := ⟨ox, hkp _ _ (hne _ _ (N1 _ (.tail _ h1)).1) (hadd _ _ (N1 _ (.tail _ h1)).1), hox⟩
    have c2 : s₃.heap.IsCell (L + 2) (some (.str sg t2)) := ⟨og, hkp _ _ (hne _ _ (N1 _ (.tail _ h2)).1) (hadd _ _ (N1 _ (.tail _ h2)).1), hog⟩
    exact elt_eval hx hx2 (by omega) (by omega) hsg c1 c2 hns hmx fun c tc tk hc => ⟨⟨c, tc, rfl, hc⟩, s₃.heap, tk, rfl, fun _ _ e => e⟩
  · intro D h' tk ys vs hD hl hpl hlen hPv hF hkp
    have kp : ∀ b o, H.get? b = some o → h'.get? b = some o := fun b o e => hkp b o (fun q => by
      rw [List.mem_singleton.mp q] at e
      exact absurd (Heap.lt_size e) (Nat.lt_irrefl _)) (hadd b o e)
    have hDn : ∀ b o, H.get? b = some o → b ≠ D := fun b o e q => by
      have := hadd b o e
      rw [q, hD] at this; cases this
    obtain ⟨hz, hall⟩ := paired_all hF
    refine ret D h' tk ys (F1.keeps kp) (fun p hp => ⟨kp _ _ (N1 p (.tail _ hp)).1, (N1 p (.tail _ hp)).2⟩) hl ?_ hall (fun p hp => hDn _ _ (N1 p (.tail _ hp)).1) (fun q => ?_) ?_
    · rw [← Array.length_toList, ← hz, ← hlen]; simp
    · obtain ⟨o, _, _, ho, _⟩ := F1.ns
      exact hDn L o ho q.symm
    · cases e : h₀.get? D with
      | none => rfl
      | some o => exact absurd rfl (hDn D o (F1.keep _ _ e))
theorem sgv_strs {sg : Str} : ∀ {l : List Value}, (∀ v ∈ l, SgV sg v) → ∃ cs : List Nat, StrsAre l (cs.map fun c => ⟨#[c]⟩) ∧ cs.length = l.length ∧ ∀ c ∈ cs, c ∈ sg.cps.toList
  | [], _ => ⟨[], .nil, rfl, fun _ h => nomatch h⟩
  | v :: l, h => by
    obtain ⟨c, u, rfl, hc⟩ := h v (.head _)
    obtain ⟨cs, h1, h2, h3⟩ := sgv_strs fun v hv => h v (.tail _ hv)
    refine ⟨c :: cs, .cons _ _ h1, by simp [h2], fun d hd => ?_⟩
    rcases List.mem_cons.mp hd with rfl | hd
    · exact hc
    · exact h3 d hd
theorem join_signs : ∀ (cs : List Nat), (PySem.Str.join (Str.ofString "") (cs.map fun c => (⟨#[c]⟩ : Str))).cps.toList = cs
  | [] => rfl
  | [c] => rfl
  | c :: d :: r => by
    show ((⟨#[c]⟩ : Str) ++ Str.ofString "" ++ PySem.Str.join (Str.ofString "") ((d :: r).map fun c => (⟨#[c]⟩ : Str))).cps.toList = _
    rw [PySem.Str.cps_append, PySem.Str.cps_append, show (Str.ofString "").cps = #[] from by decide +kernel]
    have := join_signs (d :: r)
    simp only [List.map_cons] at this ⊢
    rw [Array.toList_append, this]
    rfl
theorem text_eval {w : World} {s : Shared} {dp un : Nat} {gd : Option (List Code)} {outer : List Env} {E : Value → Shared → Prop} {h₀ : Heap} {L : Addr} {mg mb m : Str → Option Value} {mean : ExcName → Option Value} {loose : List Str} {fs : Led} {Q : Value → Shared → Prop}
   {x n : Int} {sg : Str} {t t2 t3 : Tok} {ox og : Obj} (hx : 0 ≤ x) (hx2 : x < 1000000000) (hn : 0 ≤ n) (hn2 : n ≤ 3) (hsg : sg.length = 4) (hm : m (Str.ofString "size") = some (.int n t3))
   (F : Fr h₀ L s.heap m) (G : Gd w loose mean mg mb h₀) (N : News h₀ L s.heap fs) (h1 : (L + 1, ox) ∈ fs) (h2 : (L + 2, og) ∈ fs) (hox : ox.data = .cell (some (.int x t))) (hog : og.data = .cell (some (.str sg t2)))
   (ret : ∀ y h' tk ty, Fr h₀ L h' m → News h₀ L h' fs → y.length = n.toNat → (∀ c ∈ y.cps.toList, c ∈ sg.cps.toList) → Q (.str y ty) { s with heap := h', toks := tk })
   : wpAny (model prog w) ⟨none, dp, some (env98 L :: outer), gd, un⟩ (eval textX (env98 L)) Q E s := by
  w_on
  have X := G.X
  have T := G.T
  conv in (textX) => whnf
  delta env98
  walk1
  walk1
  walk1
  walk1
  walk1
  refine comp_eval (s := { s with toks := _ }) hx hx2 hn hn2 hsg hm F G N h1 h2 hox hog fun D h' tk ys F1 N1 hl hz hall hfs hDL hD0 => ?_
  walk1
  obtain ⟨cs, g1, g2, g3⟩ := sgv_strs hall
  have hcl : cs.length ≤ 3 := by rw [g2, Array.length_toList, hz]; omega
  have hlen : ∀ l : List Nat, ((l.map fun c => (⟨#[c]⟩ : Str)).map (·.length)).sum = l.length := fun l => by
    induction l with
    | nil => rfl
    | cons c l ih => simp only [List.map_cons, List.sum_cons, List.length_cons, ih]; show 1 + _ = _; omega
  refine join_list (s := { s with heap := h', toks := tk }) hl g1 (by
    rw [hlen, List.length_map, show (Str.ofString "").length = 0 from by decide +kernel]
    omega) fun t' k => ?_
  k_steps
  refine ret _ _ _ _ F1 N1 ?_ ?_
  · rw [len_list, eq_of_beq (join_plain_closes _ _), join_signs, g2, Array.length_toList, hz]
  · intro c hc
    rw [eq_of_beq (join_plain_closes _ _), join_signs] at hc
    exact g3 c hc
end Mine
/-! Pa -/
namespace Mine
open PySem PySem.W PySem.Calls PySem.Spec PyProof.Rows
set_option Elab.async false
set_option maxRecDepth 100000
set_option maxHeartbeats 4000000
set_option linter.unusedVariables false
theorem fillPa : (PySem.Challenge.rw_mr0151_01, KK) = (PySem.Challenge.rw_mr0151_01, KK) := by k_fill; rfl
abbrev loc98 (Nl : Addr) : Str → Option Value := fun z => [(Str.ofString "numbers", Value.ref Nl)].lookup z
abbrev in98 (Nl Pl : Addr) (kv sv tv : Option Value) : Str → Option Value := fun y => if y = Str.ofString "text" then tv else if y = Str.ofString "size" then sv else if y = Str.ofString "kind" then kv else if y = Str.ofString "pieces" then some (Value.ref Pl) else loc98 Nl y
/-- the signs of a kind -/
def sgs (kd : Str) : Str := if kd = Str.ofString "#" then Str.ofString "'#a\t" else if kd = Str.ofString "'" then Str.ofString "#a\t\u2028" else Str.ofString " \t\n\n"
theorem sgs_len {kd : Str} : (sgs kd).length = 4 := by
  unfold sgs; split
  · decide +kernel
  · split <;> decide +kernel
theorem frA {h₀ h : Heap} {L Nl Pl : Addr} {kv sv tv : Option Value} {n k : Value} (F : Fr h₀ L h (fun y => if y = Str.ofString "size" then some n else (fun y => if y = Str.ofString "kind" then some k else in98 Nl Pl kv sv tv y) y)) : Fr h₀ L h (in98 Nl Pl (some k) (some n) tv) := by
  have e : (fun y => if y = Str.ofString "size" then some n else (fun y => if y = Str.ofString "kind" then some k else in98 Nl Pl kv sv tv y) y) = in98 Nl Pl (some k) (some n) tv := by
    funext y
    by_cases h1 : y = Str.ofString "size"
    · subst h1; rfl
    · by_cases h2 : y = Str.ofString "kind"
      · subst h2; rfl
      · simp only [in98, if_neg h1, if_neg h2]
  rw [e] at F; exact F
theorem frB {h₀ h : Heap} {L Nl Pl : Addr} {kv sv tv : Option Value} {n : Value} (F : Fr h₀ L h (fun y => if y = Str.ofString "size" then some n else in98 Nl Pl kv sv tv y)) : Fr h₀ L h (in98 Nl Pl kv (some n) tv) := by
  have e : (fun y => if y = Str.ofString "size" then some n else in98 Nl Pl kv sv tv y) = in98 Nl Pl kv (some n) tv := by
    funext y
    by_cases h1 : y = Str.ofString "size"
    · subst h1; rfl
    · simp only [in98, if_neg h1]
  rw [e] at F; exact F
theorem frC {h₀ h : Heap} {L Nl Pl : Addr} {kv sv tv : Option Value} {n : Value} (F : Fr h₀ L h (fun y => if y = Str.ofString "text" then some n else in98 Nl Pl kv sv tv y)) : Fr h₀ L h (in98 Nl Pl kv sv (some n)) := by
  have e : (fun y => if y = Str.ofString "text" then some n else in98 Nl Pl kv sv tv y) = in98 Nl Pl kv sv (some n) := by
    funext y
    by_cases h1 : y = Str.ofString "text"
    · subst h1; rfl
    · simp only [in98, if_neg h1]
  rw [e] at F; exact F
def fst (i : Nat) : Stmt := ((forBody 15 1)[i]?).getD (.Pass default)
theorem forBody_is : forBody 15 1 = [fst 0, fst 1, fst 2, fst 3, fst 4, fst 5] := by kernel_rfl
theorem st_kind {w : World} {s : Shared} {dp un : Nat} {gd : Option (List Code)} {outer : List Env} {E : Value → Shared → Prop} {h₀ : Heap} {L : Addr} {mg mb : Str → Option Value} {mean : ExcName → Option Value} {loose : List Str} {fs : Led} {Q : Flow → Shared → Prop} {Nl Pl : Addr} {x : Int} {t : Tok} {kv sv tv : Option Value} {ox : Obj} (hx : 0 ≤ x) (hx2 : x < 1000000000)
   (F : Fr h₀ L s.heap (in98 Nl Pl kv sv tv)) (G : Gd w loose mean mg mb h₀) (N : News h₀ L s.heap ((L + 1, ox) :: fs)) (hox : ox.data = .cell (some (.int x t)))
   (ret : ∀ kd tk' h' tk, Kds kd → Fr h₀ L h' (fun y => if y = Str.ofString "kind" then some (.str kd tk') else in98 Nl Pl kv sv tv y) → News h₀ L h' ((L + 1, ox) :: fs) → Q .next { s with heap := h', toks := tk })
   : wpAny (model prog w) ⟨none, dp, some (env98 L :: outer), gd, un⟩ (exec (fst 0) (env98 L)) Q E s := by
  w_on
  have X := G.X
  have T := G.T
  delta env98
  conv in (fst _) => whnf
  have h3 : x.fmod 3 = 0 ∨ x.fmod 3 = 1 ∨ x.fmod 3 = 2 := by
    have h1 := Int.fmod_nonneg_of_pos x (b := 3) (by decide)
    have h2 := Int.fmod_lt_of_pos x (b := 3) (by decide)
    omega
  k_steps
  rcases h3 with h3 | h3 | h3
  · rw [h3]
    dsimp only
    k_steps
    rename Fr _ _ _ _ => F9
    rename News _ _ _ _ => N9
    exact ret (Str.ofString "#") _ _ _ (.inl rfl) F9 fun p hp => N9 p (.tail _ hp)
  · rw [h3]
    dsimp only
    k_steps
    rename Fr _ _ _ _ => F9
    rename News _ _ _ _ => N9
    exact ret (Str.ofString "'") _ _ _ (.inr (.inl rfl)) F9 fun p hp => N9 p (.tail _ hp)
  · rw [h3]
    dsimp only
    k_steps
    rename Fr _ _ _ _ => F9
    rename News _ _ _ _ => N9
    exact ret (Str.ofString "") _ _ _ (.inr (.inr rfl)) F9 fun p hp => N9 p (.tail _ hp)
theorem st_size {w : World} {s : Shared} {dp un : Nat} {gd : Option (List Code)} {outer : List Env} {E : Value → Shared → Prop} {h₀ : Heap} {L : Addr} {mg mb : Str → Option Value} {mean : ExcName → Option Value} {loose : List Str} {fs : Led} {Q : Flow → Shared → Prop} {x : Int} {t : Tok} {ox : Obj} {m : Str → Option Value} (hx : 0 ≤ x) (hx2 : x < 1000000000)
   (F : Fr h₀ L s.heap m) (G : Gd w loose mean mg mb h₀) (N : News h₀ L s.heap ((L + 1, ox) :: fs)) (hox : ox.data = .cell (some (.int x t)))
   (ret : ∀ n tn h' tk, 0 ≤ n → n ≤ 3 → Fr h₀ L h' (fun y => if y = Str.ofString "size" then some (.int n tn) else m y) → News h₀ L h' ((L + 1, ox) :: fs) → Q .next { s with heap := h', toks := tk })
   : wpAny (model prog w) ⟨none, dp, some (env98 L :: outer), gd, un⟩ (exec (fst 1) (env98 L)) Q E s := by
  w_on
  have X := G.X
  have T := G.T
  delta env98
  conv in (fst _) => whnf
  have hn : 0 ≤ (x.fdiv 3).fmod 4 ∧ (x.fdiv 3).fmod 4 < 4 := ⟨Int.fmod_nonneg_of_pos _ (by decide), Int.fmod_lt_of_pos _ (by decide)⟩
  k_steps
  rename Fr _ _ _ _ => F9
  rename News _ _ _ _ => N9
  exact ret _ _ _ _ hn.1 (by omega) F9 N9
theorem st_if {w : World} {s : Shared} {dp un : Nat} {gd : Option (List Code)} {outer : List Env} {E : Value → Shared → Prop} {h₀ : Heap} {L : Addr} {mg mb : Str → Option Value} {mean : ExcName → Option Value} {loose : List Str} {fs : Led} {Q : Flow → Shared → Prop} {Nl Pl : Addr} {kd : Str} {n : Int} {tk' tn : Tok} {tv : Option Value} (hkd : Kds kd) (hn : 0 ≤ n) (hn2 : n ≤ 3)
   (F : Fr h₀ L s.heap (in98 Nl Pl (some (.str kd tk')) (some (.int n tn)) tv)) (G : Gd w loose mean mg mb h₀) (N : News h₀ L s.heap fs)
   (ret : ∀ n tn h' tk, 0 ≤ n → n ≤ 3 → (kd = Str.ofString "" → 1 ≤ n) → Fr h₀ L h' (in98 Nl Pl (some (.str kd tk')) (some (.int n tn)) tv) → News h₀ L h' fs → Q .next { s with heap := h', toks := tk })
   : wpAny (model prog w) ⟨none, dp, some (env98 L :: outer), gd, un⟩ (exec (fst 2) (env98 L)) Q E s := by
  w_on
  have X := G.X
  have T := G.T
  delta env98
  conv in (fst _) => whnf
  rcases hkd with rfl | rfl | rfl
  · k_steps
    rename Fr _ _ _ _ => F9
    rename News _ _ _ _ => N9
    exact ret n tn _ _ hn hn2 (fun q => absurd q (by decide)) F9 N9
  · k_steps
    rename Fr _ _ _ _ => F9
    rename News _ _ _ _ => N9
    exact ret n tn _ _ hn hn2 (fun q => absurd q (by decide)) F9 N9
  · k_steps
    · rename Fr _ _ _ _ => F9
      rename News _ _ _ _ => N9
      exact ret 1 _ _ _ (by decide) (by decide) (fun _ => by decide) (frB F9) N9
    · rename n ≠ 0 => hne
      exact ret n tn _ _ hn hn2 (fun _ => by omega) F N
theorem st_signs {w : World} {s : Shared} {dp un : Nat} {gd : Option (List Code)} {outer : List Env} {E : Value → Shared → Prop} {h₀ : Heap} {L : Addr} {mg mb : Str → Option Value} {mean : ExcName → Option Value} {loose : List Str} {fs : Led} {Q : Flow → Shared → Prop} {Nl Pl : Addr} {kd : Str} {n : Int} {tk' tn : Tok} {tv gv : Option Value} {og : Obj} (hkd : Kds kd)
   (F : Fr h₀ L s.heap (in98 Nl Pl (some (.str kd tk')) (some (.int n tn)) tv)) (G : Gd w loose mean mg mb h₀) (N : News h₀ L s.heap ((L + 2, og) :: fs)) (hog : og.data = .cell gv) (hfs : ∀ p ∈ fs, p.1 ≠ L + 2)
   (ret : ∀ t2 h' tk og', og'.data = .cell (some (.str (sgs kd) t2)) → Fr h₀ L h' (in98 Nl Pl (some (.str kd tk')) (some (.int n tn)) tv) → News h₀ L h' ((L + 2, og') :: fs) → Q .next { s with heap := h', toks := tk })
   : wpAny (model prog w) ⟨none, dp, some (env98 L :: outer), gd, un⟩ (exec (fst 3) (env98 L)) Q E s := by
  w_on
  have X := G.X
  have T := G.T
  delta env98
  conv in (fst _) => whnf
  rcases hkd with rfl | rfl | rfl
  · iterate 17 walk1
    dsimp only at *
    rename News _ _ _ _ => N9
    rename Fr _ _ _ _ => F9
    rename (L + 2 < _ ∧ _) => hlt
    refine storeX_C F9 N9 rfl (.tail (Nat.ne_of_gt hlt.1) (.head hfs)) hog fun h' o' F' N' ho' => ?_
    exact ret _ h' _ o' ho' F' fun p hp => N' p (.tail _ hp)
  · iterate 17 walk1
    dsimp only at *
    rename News _ _ _ _ => N9
    rename Fr _ _ _ _ => F9
    rename (L + 2 < _ ∧ _) => hlt
    refine storeX_C F9 N9 rfl (.tail (Nat.ne_of_gt hlt.1) (.head hfs)) hog fun h' o' F' N' ho' => ?_
    exact ret _ h' _ o' ho' F' fun p hp => N' p (.tail _ hp)
  · iterate 17 walk1
    dsimp only at *
    rename News _ _ _ _ => N9
    rename Fr _ _ _ _ => F9
    rename (L + 2 < _ ∧ _) => hlt
    refine storeX_C F9 N9 rfl (.tail (Nat.ne_of_gt hlt.1) (.head hfs)) hog fun h' o' F' N' ho' => ?_
    exact ret _ h' _ o' ho' F' fun p hp => N' p (.tail _ hp)
/-- what may be in a piece -/
def Sgs (kd tx : Str) : Prop := ∀ c ∈ tx.cps.toList, c ∈ (sgs kd).cps.toList
theorem st_text {w : World} {s : Shared} {dp un : Nat} {gd : Option (List Code)} {outer : List Env} {E : Value → Shared → Prop} {h₀ : Heap} {L : Addr} {mg mb : Str → Option Value} {mean : ExcName → Option Value} {loose : List Str} {fs : Led} {Q : Flow → Shared → Prop} {Nl Pl : Addr} {kd : Str} {x n : Int} {t t2 tk' tn : Tok} {tv : Option Value} {ox og : Obj} (hx : 0 ≤ x) (hx2 : x < 1000000000) (hn : 0 ≤ n) (hn2 : n ≤ 3)
   (F : Fr h₀ L s.heap (in98 Nl Pl (some (.str kd tk')) (some (.int n tn)) tv)) (G : Gd w loose mean mg mb h₀) (N : News h₀ L s.heap fs) (h1 : (L + 1, ox) ∈ fs) (h2 : (L + 2, og) ∈ fs) (hox : ox.data = .cell (some (.int x t))) (hog : og.data = .cell (some (.str (sgs kd) t2)))
   (ret : ∀ y ty h' tk, y.length = n.toNat → Sgs kd y → Fr h₀ L h' (in98 Nl Pl (some (.str kd tk')) (some (.int n tn)) (some (.str y ty))) → News h₀ L h' fs → Q .next { s with heap := h', toks := tk })
   : wpAny (model prog w) ⟨none, dp, some (env98 L :: outer), gd, un⟩ (exec (fst 4) (env98 L)) Q E s := by
  have e : fst 4 = .Assign [.Name (Str.ofString "text") (match fst 4 with | .Assign [.Name _ p] _ _ => p | _ => default)] textX (match fst 4 with | .Assign _ _ p => p | _ => default) := by kernel_rfl
  rw [e]
  refine wpAny_Assign_Name (text_eval hx hx2 hn hn2 sgs_len (by rfl) F G N h1 h2 hox hog fun y h' tk ty F' N' hl hs => ?_) (by rfl)
  refine storeX_L F' N' fun h'' F'' N'' => ?_
  exact ret y ty h'' _ hl hs (frC F'') N''
end Mine
/-! Pb -/
namespace Mine
open PySem PySem.W PySem.Calls PySem.Spec PyProof.Rows
set_option Elab.async false
set_option maxRecDepth 100000
set_option maxHeartbeats 4000000
set_option linter.unusedVariables false
theorem fillPb : (PySem.Challenge.rw_mr0151_01, KK) = (PySem.Challenge.rw_mr0151_01, KK) := by k_fill; rfl
section
variable {w : World} {A : Around} {E : Value → Shared → Prop} {s : Shared} {l : Addr} {vi : List Value} {v : Value} {u : Tok}
theorem last_item {value slice : PySem.Expr} {Q : Value → Shared → Prop} (hl : s.heap.IsList l (vi ++ [v]).toArray) (h : Q v s)
    (hs : subscripted slice false (.ref l) (.int (-1) u) = operate [.ref l, .int (-1) u] (getItem (.ref l) (.int (-1) u)) := by with_unfolding_all rfl) :
    wpAny (model prog w) A (subscriptTail value slice (.ref l) (.int (-1) u)) Q E s :=
  tail_any hl.typeIs slot_list_getitem.lookup (wpAny_getItem_list_neg hl (by decide) (by simp; omega) (by decide) (x := v) (by
    have : (-1 + (((vi ++ [v]).toArray.size : Nat) : Int)).toNat = vi.length := by simp; omega
    rw [this]; simp) h) hs
theorem set_last {n : Nat} {v' : Value} {Q : Unit → Shared → Prop} (ho : s.heap.get? l = some (listOf (vi ++ [v]).toArray n)) (h : ∀ h' n', h'.get? l = some (listOf (vi ++ [v']).toArray n') → Heap.SameBut l s.heap h' → Q () { s with heap := h' }) :
    wpAny (model prog w) A (setItem (.ref l) (.int (-1) u) v') Q E s := by
  have hl : s.heap.IsList l (vi ++ [v]).toArray := ⟨_, ho, rfl, _, rfl⟩
  unfold setItem
  try with_reducible refine wpAny_holding ?_
  first | refine wpAny_bind (wpAny_pure ?_) | skip
  refine wpAny_bind (wpAny_sequenceKey hl.typeIs (by decide) ?_)
  refine wpAny_bind (wpAny_callSpecial?_slot (name := Str.ofString "__setitem__") hl.typeIs slot_list_setitem
    (wpAny_call_entry slot_list_setitem hl.typeIs entry_list_setitem ?_ (args_list_setitem _ _ _)))
  show wpAny _ _ (Builtin.List.listSubscript? (.int (-1) u) >>= _) _ _ s
  refine wpAny_bind (wpAny_listSubscript_int (by decide +kernel) ?_)
  have hidx : seqIndex? (-1) (vi ++ [v]).toArray.size = some vi.length := by
    rw [seqIndex_neg (by decide) (by simp; omega)]
    congr 1
    simp
    omega
  show wpAny _ _ ((Builtin.List.listItems (.ref l) >>= fun xs => pure ((seqIndex? (Int.negSucc 0) xs.size).bind fun i => xs[i]?.map (i, ·))) >>= _) _ _ s
  refine wpAny_bind (wpAny_bind ?_)
  show wpAny _ _ (seqItems? (.ref l) >>= _) _ _ s
  refine wpAny_bind (wpAny_seqItems ho rfl (wpAny_pure (wpAny_pure ?_)))
  rw [show Int.negSucc 0 = -1 from rfl, hidx]
  have hx : (vi ++ [v]).toArray[vi.length]? = some v := by simp
  simp only [Option.bind_some, hx, Option.map_some]
  refine wpAny_bind (wpAny_setSeqItemAt ho rfl ?_)
  have hg : (s.heap.update l (Obj.mapSeq (·.setIfInBounds vi.length v'))).get? l = some (listOf (vi ++ [v']).toArray n) := by
    have := Heap.get?_update_self (Obj.mapSeq (·.setIfInBounds vi.length v')) ho rfl
    rw [this]
    congr 1
    show listOf _ _ = _
    simp [Obj.mapSeq]
  first
    | exact wpAny_bind (wpAny_pure (wpAny_pure ⟨.none, rfl, wpAny_pure (h _ n hg (Heap.SameBut.update ..))⟩))
    | exact wpAny_pure ⟨.none, rfl, wpAny_pure (h _ n hg (Heap.SameBut.update ..))⟩
end
theorem news_del2 {h₀ h : Heap} {L : Addr} {p q : Addr × Obj} {r : Led} (N : News h₀ L h (p :: q :: r)) : News h₀ L h (p :: r) := fun x hx => by
  rcases List.mem_cons.mp hx with rfl | hx
  · exact N _ (.head _)
  · exact N x (.tail _ (.tail _ hx))
theorem st_last {w : World} {s : Shared} {dp un : Nat} {gd : Option (List Code)} {outer : List Env} {E : Value → Shared → Prop} {h₀ : Heap} {L : Addr} {mg mb : Str → Option Value} {mean : ExcName → Option Value} {loose : List Str} {r : Led} {Q : Flow → Shared → Prop}
   {Nl Pl a : Addr} {kd y k0 t0 : Str} {n : Int} {tk' tn ty u1 u2 : Tok} {vi : List Value} {e : Nat} (hkd : Kds kd) (hk0 : Kds k0) (hy : y.length ≤ 1000) (ht0 : t0.length ≤ 1000) (hvi : vi.length ≤ 1000)
   (F : Fr h₀ L s.heap (in98 Nl Pl (some (.str kd tk')) (some (.int n tn)) (some (.str y ty)))) (G : Gd w loose mean mg mb h₀) (N : News h₀ L s.heap ((Pl, listOf (vi ++ [Value.ref a]).toArray e) :: r)) (ha : (a, tupObj #[.str k0 u1, .str t0 u2]) ∈ r) (hPl : ∀ p ∈ r, p.1 ≠ Pl)
   (app : ¬ (kd = Str.ofString "" ∧ k0 = Str.ofString "") → ∀ D e' v1 v2 h' tk, AllLt D r → Pl < D → Fr h₀ L h' (in98 Nl Pl (some (.str kd tk')) (some (.int n tn)) (some (.str y ty))) →
     News h₀ L h' ((D, tupObj #[.str kd v1, .str y v2]) :: (Pl, listOf (vi ++ [Value.ref a] ++ [Value.ref D]).toArray e') :: r) → Q .next { s with heap := h', toks := tk })
   (rep : kd = Str.ofString "" → k0 = Str.ofString "" → ∀ D e' v1 v2 h' tk, AllLt D r → Pl < D → Fr h₀ L h' (in98 Nl Pl (some (.str kd tk')) (some (.int n tn)) (some (.str y ty))) →
     News h₀ L h' ((D, tupObj #[.str (Str.ofString "") v1, .str (t0 ++ y) v2]) :: (Pl, listOf (vi ++ [Value.ref D]).toArray e') :: r) → Q .next { s with heap := h', toks := tk })
   : wpAny (model prog w) ⟨none, dp, some (env98 L :: outer), gd, un⟩ (exec (fst 5) (env98 L)) Q E s := by
  w_on
  have X := G.X
  have T := G.T
  delta env98
  conv in (fst _) => whnf
  have N2 := news_dup N (.tail _ ha)
  clear N
  rcases hkd with rfl | rfl | rfl
  · k_steps
    rename News _ _ _ _ => N9
    rename Fr _ _ _ _ => F9
    rename (a < _ ∧ _) => hlt
    refine append_K F9 N9 (.tail (Nat.ne_of_gt hlt.2.1) (.tail (hPl _ ha) (.head hPl))) (fun h7 F7 N7 => ?_) (by have := hvi; simp; rw [sizeLine_eq]; omega)
    rw [List.push_toArray] at N7
    exact wpAny_execs_nil (app (fun q => absurd q.1 (by decide)) _ _ _ _ _ _ hlt.2.2 hlt.2.1 F7 (news_del2 N7))
  · k_steps
    rename News _ _ _ _ => N9
    rename Fr _ _ _ _ => F9
    rename (a < _ ∧ _) => hlt
    refine append_K F9 N9 (.tail (Nat.ne_of_gt hlt.2.1) (.tail (hPl _ ha) (.head hPl))) (fun h7 F7 N7 => ?_) (by have := hvi; simp; rw [sizeLine_eq]; omega)
    rw [List.push_toArray] at N7
    exact wpAny_execs_nil (app (fun q => absurd q.1 (by decide)) _ _ _ _ _ _ hlt.2.2 hlt.2.1 F7 (news_del2 N7))
  · k_steps
    refine last_item (vi := vi) (v := .ref a) ⟨_, (N2 _ (.tail _ (.head _))).1, rfl, _, rfl⟩ ?_
    k_steps
    · rename (k0 == Str.ofString "") = true => hk
      have hk := eq_of_beq hk
      dsimp only
      refine last_item (vi := vi) (v := .ref a) ⟨_, (N2 _ (.tail _ (.head _))).1, rfl, _, rfl⟩ ?_
      k_steps
      rename News _ _ _ _ => N9
      rename Fr _ _ _ _ => F9
      rename (a < _ ∧ _) => hlt
      have z := N9 _ (.tail _ (.tail _ (.head _)))
      refine set_last (vi := vi) (v := .ref a) z.1 fun h7 n7 hg hs => ?_
      have F7 := F9.change hs z.2.1 z.2.2
      have N7 := news_set (pre := [_, _]) N9 (fun p hp => by
        simp only [List.mem_cons, List.not_mem_nil, or_false] at hp
        rcases hp with rfl | rfl
        · exact Nat.ne_of_gt hlt.2.1
        · exact hPl _ ha) hPl hs hg
      exact wpAny_execs_nil (rep rfl hk _ _ _ _ _ _ hlt.2.2 hlt.2.1 F7 (news_del2 N7))
    · rename (k0 == Str.ofString "") = false => hk
      rename News _ _ _ _ => N9
      rename Fr _ _ _ _ => F9
      rename (a < _ ∧ _) => hlt
      refine append_K F9 N9 (.tail (Nat.ne_of_gt hlt.2.1) (.tail (hPl _ ha) (.head hPl))) (fun h7 F7 N7 => ?_) (by have := hvi; simp; rw [sizeLine_eq]; omega)
      rw [List.push_toArray] at N7
      exact wpAny_execs_nil (app (fun q => by rw [q.2] at hk; simp at hk) _ _ _ _ _ _ hlt.2.2 hlt.2.1 F7 (news_del2 N7))
end Mine
/-! Pc -/
namespace Mine
open PySem PySem.W PySem.Calls PySem.Spec PyProof.Rows
set_option Elab.async false
set_option maxRecDepth 100000
set_option maxHeartbeats 4000000
set_option linter.unusedVariables false
theorem fillPc : (PySem.Challenge.rw_mr0151_01, KK) = (PySem.Challenge.rw_mr0151_01, KK) := by k_fill; rfl
abbrev kE : Str := Str.ofString ""
abbrev kC : Str := Str.ofString "#"
abbrev kL : Str := Str.ofString "'"
/-- no white behind white -/
def Alt : List (Str × Str) → Prop
  | [] => True
  | [_] => True
  | p :: q :: r => ¬ (p.1 = kE ∧ q.1 = kE) ∧ Alt (q :: r)
theorem alt_snoc {p : Str × Str} : ∀ {l : List (Str × Str)} {q : Str × Str}, Alt (l ++ [q]) → ¬ (q.1 = kE ∧ p.1 = kE) → Alt (l ++ [q] ++ [p])
  | [], q, _, h => ⟨h, trivial⟩
  | [a], q, hl, h => ⟨hl.1, h, trivial⟩
  | a :: b :: l, q, hl, h => ⟨hl.1, alt_snoc (l := b :: l) hl.2 h⟩
theorem alt_repl {k t t' : Str} : ∀ {l : List (Str × Str)}, Alt (l ++ [(k, t)]) → Alt (l ++ [(k, t')])
  | [], _ => trivial
  | [a], hl => ⟨hl.1, trivial⟩
  | a :: b :: l, hl => ⟨hl.1, alt_repl (l := b :: l) hl.2⟩
def Pok (kd tx : Str) : Prop := Kds kd ∧ Sgs kd tx ∧ (kd = kE → 1 ≤ tx.length)
structure Wf (n : Nat) (ps : List (Str × Str)) : Prop where
  head : ps.head? = some (kC, kL)
  ok : ∀ p ∈ ps, Pok p.1 p.2 ∧ p.2.length ≤ 3 * n + 1
  alt : Alt ps
  len : ps.length ≤ n + 1
theorem Wf.app {n : Nat} {pi : List (Str × Str)} {k0 t0 kd y : Str} (h : Wf n (pi ++ [(k0, t0)])) (hn : ¬ (kd = kE ∧ k0 = kE)) (hp : Pok kd y) (hy : y.length ≤ 3) : Wf (n + 1) (pi ++ [(k0, t0)] ++ [(kd, y)]) := by
  refine ⟨?_, fun p hq => ?_, alt_snoc h.alt (fun q => hn ⟨q.2, q.1⟩), by have := h.len; simp at this ⊢; omega⟩
  · have := h.head
    cases pi with
    | nil => exact this
    | cons a l => exact this
  · rcases List.mem_append.mp hq with hq | hq
    · exact ⟨(h.ok p hq).1, by have := (h.ok p hq).2; omega⟩
    · rw [List.mem_singleton.mp hq]; exact ⟨hp, by show y.length ≤ _; omega⟩
theorem Wf.rep {n : Nat} {pi : List (Str × Str)} {t0 y : Str} (h : Wf n (pi ++ [(kE, t0)])) (hp : Pok kE y) (hy : y.length ≤ 3) : Wf (n + 1) (pi ++ [(kE, t0 ++ y)]) := by
  refine ⟨?_, fun p hq => ?_, alt_repl h.alt, by have := h.len; simp at this ⊢; omega⟩
  · have := h.head
    cases pi with
    | nil =>
      have e : (kE, t0) = (kC, kL) := by simpa using this
      exact absurd (show kE = kC from congrArg Prod.fst e) (by decide)
    | cons a l => exact this
  · rcases List.mem_append.mp hq with hq | hq
    · have := h.ok p (List.mem_append_left _ hq)
      exact ⟨this.1, by have := this.2; omega⟩
    · rw [List.mem_singleton.mp hq]
      obtain ⟨⟨_, h1, h2⟩, h3⟩ := h.ok (kE, t0) (by simp)
      refine ⟨⟨.inr (.inr rfl), fun c hc => ?_, fun _ => ?_⟩, ?_⟩
      · have hc : c ∈ (t0 ++ y).cps.toList := hc
        rw [PySem.Str.cps_append, Array.toList_append] at hc
        rcases List.mem_append.mp hc with hc | hc
        · exact h1 c hc
        · exact hp.2.1 c hc
      · show 1 ≤ (t0 ++ y).length
        rw [PySem.Str.length_append]
        have := h2 rfl
        have : 1 ≤ t0.length := this
        omega
      · show (t0 ++ y).length ≤ _
        rw [PySem.Str.length_append]
        have : t0.length ≤ 3 * n + 1 := h3
        omega
theorem Pcs.unsnoc {led : Led} {v : Value} : ∀ {vs : List Value} {ps : List (Str × Str)}, Pcs led (vs ++ [v]) ps → ∃ pi k t, ps = pi ++ [(k, t)] ∧ Pcs led vs pi ∧ ∃ a u1 u2, v = .ref a ∧ (a, tupObj #[.str k u1, .str t u2]) ∈ led
  | [], [], h => h.elim
  | [], [(k, t)], ⟨⟨a, u1, u2, e, hm⟩, _⟩ => ⟨[], k, t, rfl, trivial, a, u1, u2, e, hm⟩
  | [], _ :: _ :: _, ⟨_, h⟩ => h.elim
  | _ :: _, [], h => h.elim
  | w :: vs, p :: ps, ⟨h1, h2⟩ => by
    obtain ⟨pi, k, t, rfl, h3, r⟩ := Pcs.unsnoc h2
    exact ⟨p :: pi, k, t, rfl, ⟨h1, h3⟩, r⟩
/-- the loop's state -/
def InPc (L : Addr) (fs : Led) (Nl Pl : Addr) (i : Nat) (led : Led) (m : Str → Option Value) : Prop :=
  ∃ kv sv tv ox og xv gv vi a e tl ps, led = (L + 1, ox) :: (L + 2, og) :: (Pl, listOf (vi ++ [Value.ref a]).toArray e) :: (tl ++ fs) ∧ m = in98 Nl Pl kv sv tv ∧ ox.data = .cell xv ∧ og.data = .cell gv ∧ Pcs (tl ++ fs) (vi ++ [Value.ref a]) ps ∧ Wf i ps ∧
    ∀ p ∈ tl, L + 2 < p.1 ∧ p.1 ≠ Pl ∧ Fixed p.2
section
variable {w : World} {A : Around} {s : Shared} {R : Result → Shared → Prop} {x : Str} {px : Pos} {body : List Stmt} {env : Env} {h₀ : Heap} {L I Pl : Addr} {vs : List Value} {k : Nat}
/-- a loop whose name is a cell -/
theorem for_listC (hh : A.handled = none)
    (J : Nat → Led → (Str → Option Value) → Prop) (hJ : ∀ i led m, J i led m → ∃ k, (Pl, listOf vs.toArray k) ∈ led)
    (turn : ∀ i v oI led m h' tk, vs[i]? = some v → J i led m → LiOf Pl (i + 1) oI → Fr h₀ L h' m → News h₀ L h' ((I, oI) :: led) → (∀ p ∈ led, p.1 ≠ I) →
      wpAny (model prog w) A (storeName env x v) (fun _ s₂ => wpAny (model prog w) A (execs body env) (fun f s₃ => match f with
        | .next => Nxt h₀ L I oI s J (i + 1) s₃
        | .cont => Nxt h₀ L I oI s J (i + 1) s₃
        | .brk => R (.ok .next) s₃
        | .ret v => R (.ok (.ret v)) s₃) (notedBy (model prog w) A env fun e s' => R (.error e) s') s₂) (notedBy (model prog w) A env fun e s' => R (.error e) s') { s with heap := h', toks := tk })
    (done : ∀ led m h' tk, J vs.length led m → Fr h₀ L h' m → News h₀ L h' led → R (.ok .next) { s with heap := h', toks := tk })
    {led : Led} {m : Str → Option Value} {oI : Obj} (h0 : J 0 led m) (hI : LiOf Pl 0 oI) (F : Fr h₀ L s.heap m) (N : News h₀ L s.heap ((I, oI) :: led)) (ap : ∀ p ∈ led, p.1 ≠ I) :
    codeAny (model prog w) A (.forLoop (.Name x px) (.ref I) body [] env) R s := by
  refine for_ (InFor h₀ L I Pl s vs.length J) ?_ (vs.length + 1) ⟨0, led, m, s.heap, s.toks, oI, hI, Nat.zero_le _, by omega, rfl, h0, F, N, ap⟩
  clear h0 hI F N ap
  rintro n s' ⟨i, led, m, h', tk, oI, hI, hi, rfl, rfl, hj, F, N, ap⟩
  obtain ⟨k, hk⟩ := hJ i led m hj
  have hI5 := N _ (.head _)
  have hit : h'.IsListIter I Pl i := ⟨oI, hI5.1, hI.1, hI.2⟩
  have hls : h'.IsList Pl vs.toArray := ⟨_, (N _ (.tail _ hk)).1, rfl, _, rfl⟩
  cases hv : vs[i]? with
  | none =>
    have hiv : i = vs.length := Nat.le_antisymm hi (by simpa using hv)
    refine wpAny_pyNext_list_end hh hit hls (by simpa using hv) fun h6 hx6 => ?_
    subst hiv
    exact done led m h6 tk hj ⟨F.ns.extBut hx6 (Ne.symm hI5.2.1), fun b o e => hx6 b o (fun q => by rw [q, hI5.2.2] at e; cases e) (F.keep b o e), F.above⟩ fun p hp => ⟨hx6 _ _ (ap p hp) (N p (.tail _ hp)).1, (N p (.tail _ hp)).2⟩
  | some v =>
    have hlt : i < vs.length := (List.getElem?_eq_some_iff.mp hv).1
    refine wpAny_pyNext_list_item hit hls (x := v) (by simpa using hv) fun h6 ⟨o6, g1, g2, g3⟩ hs6 => ?_
    have N6 : News h₀ L h6 ((I, o6) :: led) := fun p hp => by
      rcases List.mem_cons.mp hp with rfl | hp
      · exact ⟨g1, hI5.2⟩
      · exact ⟨(hs6.2 _ (ap p hp)).trans (N p (.tail _ hp)).1, (N p (.tail _ hp)).2⟩
    have F6 : Fr h₀ L h6 m := ⟨F.ns.sameBut hs6 (Ne.symm hI5.2.1), fun b o e => (hs6.2 b (fun q => by rw [q, hI5.2.2] at e; cases e)).trans (F.keep b o e), F.above⟩
    refine wpAny_mono (turn i v o6 led m h6 tk hv hj ⟨g2, g3⟩ F6 N6 ap) (fun _ s₂ h₂ => wpAny_mono h₂ (fun f s₃ h₃ => ?_) fun _ _ x => x) fun _ _ x => x
    have nx : Nxt h₀ L I o6 s J (i + 1) s₃ → Again (InFor h₀ L I Pl s vs.length J) (vs.length + 1 - i) s₃ := fun ⟨led', m', h8, tk8, e8, j8, F8, N8, ap8⟩ =>
      ⟨vs.length + 1 - (i + 1), by omega, ⟨i + 1, led', m', h8, tk8, o6, ⟨g2, g3⟩, hlt, rfl, e8, j8, F8, N8, ap8⟩⟩
    cases f with
    | next => exact nx h₃
    | cont => exact nx h₃
    | brk => exact h₃
    | ret v => exact h₃
end
theorem ints_at : ∀ {vs : List Value} {ns : List Int} {i : Nat} {v : Value}, IntsAre vs ns → vs[i]? = some v → ∃ n t, v = .int n t ∧ n ∈ ns
  | _, _, i, v, .nil, h => by simp at h
  | _, _, 0, v, .cons n t hr, h => ⟨n, t, by simp at h; exact h.symm, .head _⟩
  | _, _, i + 1, v, .cons n t hr, h => by
    obtain ⟨n', t', e, hm⟩ := ints_at hr (i := i) (v := v) (by simpa using h)
    exact ⟨n', t', e, .tail _ hm⟩
theorem ar1 {p L : Nat} (h : L + 2 < p) : p ≠ L + 1 := by omega
theorem ar2 {p L : Nat} (h : p < L) : p ≠ L + 1 := by omega
theorem ar3 {p L : Nat} (h : p < L) : p ≠ L + 2 := by omega
theorem ar4 {p L P : Nat} (hP : L + 2 < P) (h : p < L) : p ≠ P := by omega
theorem ar5 {L : Nat} : L + 2 ≠ L + 1 := by omega
theorem mem_p2 {α : Type} {a b p : α} {r : List α} (h : p ∈ a :: b :: r) : p ∈ b :: a :: r := by
  simp only [List.mem_cons] at h ⊢; rcases h with h | h | h <;> simp [h]
theorem mem_p3 {α : Type} {a b c p : α} {r : List α} (h : p ∈ a :: b :: c :: r) : p ∈ c :: b :: a :: r := by
  simp only [List.mem_cons] at h ⊢; rcases h with h | h | h | h <;> simp [h]
theorem mem_p4 {α : Type} {a b c d p : α} {r : List α} (h : p ∈ d :: b :: c :: a :: r) : p ∈ a :: b :: c :: d :: r := by
  simp only [List.mem_cons] at h ⊢; rcases h with h | h | h | h | h <;> simp [h]
theorem mem_p6 {α : Type} {i a b c d p : α} {t f : List α} (h : p ∈ i :: a :: b :: c :: (d :: t ++ f)) : p ∈ d :: c :: i :: a :: b :: (t ++ f) := by
  simp only [List.cons_append, List.mem_cons] at h ⊢; rcases h with h | h | h | h | h | h <;> simp [h]
theorem pieces_turn {w : World} {s : Shared} {dp un : Nat} {gd : Option (List Code)} {outer : List Env} {h₀ : Heap} {L : Addr} {mg mb : Str → Option Value} {mean : ExcName → Option Value} {loose : List Str} {fs : Led} {E : Value → Shared → Prop} {Q : Flow → Shared → Prop}
   {Nl Pl I : Addr} {x : Int} {t : Tok} {i tk : Nat} {oI : Obj} {led : Led} {m : Str → Option Value} {h' : Heap} (hx : 0 ≤ x) (hx2 : x < 1000000000) (hi : i ≤ 20) (hPL : L + 2 < Pl) (hfs : ∀ p ∈ fs, p.1 < L) (G : Gd w loose mean mg mb h₀)
   (hJ : InPc L fs Nl Pl i led m) (hIo : Fixed oI) (F : Fr h₀ L h' m) (N : News h₀ L h' ((I, oI) :: led)) (ap : ∀ p ∈ led, p.1 ≠ I)
   (nx : ∀ s₃, Nxt h₀ L I oI s (InPc L fs Nl Pl) (i + 1) s₃ → Q .next s₃)
   : wpAny (model prog w) ⟨none, dp, some (env98 L :: outer), gd, un⟩ (storeName (env98 L) (Str.ofString "x") (.int x t)) (fun _ s₂ => wpAny (model prog w) ⟨none, dp, some (env98 L :: outer), gd, un⟩ (execs (forBody 15 1) (env98 L)) Q E s₂) E { s with heap := h', toks := tk } := by
  obtain ⟨kv, sv, tv, ox, og, xv, gv, vi, a, e, tl, ps, rfl, rfl, hox, hog, hP, hW, htl⟩ := hJ
  have hI1 : I ≠ L + 1 := fun q => ap (L + 1, ox) (.head _) q.symm
  have hI2 : I ≠ L + 2 := fun q => ap (L + 2, og) (.tail _ (.head _)) q.symm
  have hIP : I ≠ Pl := fun q => ap (Pl, _) (.tail _ (.tail _ (.head _))) q.symm
  have hr1 : ∀ p ∈ tl ++ fs, p.1 ≠ L + 1 ∧ p.1 ≠ L + 2 ∧ p.1 ≠ Pl := fun p hp => by
    rcases List.mem_append.mp hp with hp | hp
    · have := htl p hp
      exact ⟨ar1 this.1, Nat.ne_of_gt this.1, this.2.1⟩
    · have := hfs p hp
      exact ⟨ar2 this, ar3 this, ar4 hPL this⟩
  have hd2 : ∀ p ∈ (L + 2, og) :: (Pl, listOf (vi ++ [Value.ref a]).toArray e) :: (tl ++ fs), p.1 ≠ L + 1 := fun p hp => by
    rcases List.mem_cons.mp hp with rfl | hp
    · exact ar5
    · rcases List.mem_cons.mp hp with rfl | hp
      · exact ar1 hPL
      · exact (hr1 p hp).1
  refine storeX_C F N rfl (.tail hI1 (.head hd2)) hox fun h1 o1 F1 N1 ho1 => ?_
  rw [forBody_is]
  have N1' : News h₀ L h1 ((L + 1, o1) :: (I, oI) :: (L + 2, og) :: (Pl, listOf (vi ++ [Value.ref a]).toArray e) :: (tl ++ fs)) := fun p hp => N1 p (mem_p2 hp)
  refine wpAny_execs_cons ?_
  refine st_kind (s := { s with heap := h1, toks := tk }) hx hx2 F1 G N1' ho1 fun kd tk' h2 tk2 hkd F2 N2 => ?_
  refine wpAny_execs_cons ?_
  refine st_size (s := { s with heap := h2, toks := tk2 }) hx hx2 F2 G N2 ho1 fun n tn h3 tk3 hn hn2 F3 N3 => ?_
  refine wpAny_execs_cons ?_
  refine st_if (s := { s with heap := h3, toks := tk3 }) hkd hn hn2 (frA F3) G N3 fun n tn h4 tk4 hn hn2 hn3 F4 N4 => ?_
  have N4' : News h₀ L h4 ((L + 2, og) :: (I, oI) :: (L + 1, o1) :: (Pl, listOf (vi ++ [Value.ref a]).toArray e) :: (tl ++ fs)) := fun p hp => N4 p (mem_p3 hp)
  refine wpAny_execs_cons ?_
  refine @st_signs w { s with heap := h4, toks := tk4 } dp un gd outer E h₀ L mg mb mean loose ((I, oI) :: (L + 1, o1) :: (Pl, listOf (vi ++ [Value.ref a]).toArray e) :: (tl ++ fs)) _ Nl Pl kd n tk' tn tv gv og hkd F4 G N4' hog (fun p hp => ?_) fun t2 h5 tk5 og' hog' F5 N5 => ?_
  · rcases List.mem_cons.mp hp with rfl | hp
    · exact hI2
    · rcases List.mem_cons.mp hp with rfl | hp
      · exact Ne.symm ar5
      · rcases List.mem_cons.mp hp with rfl | hp
        · exact Nat.ne_of_gt hPL
        · exact (hr1 p hp).2.1
  refine wpAny_execs_cons ?_
  refine st_text (s := { s with heap := h5, toks := tk5 }) hx hx2 hn hn2 F5 G N5 (.tail _ (.tail _ (.head _))) (.head _) ho1 hog' fun y ty h6 tk6 hyl hys F6 N6 => ?_
  obtain ⟨pi, k0, t0, rfl, hPi, a', u1, u2, ea, hat⟩ := hP.unsnoc
  cases ea
  have hk0 := hW.ok (k0, t0) (by simp)
  have hvl := hPi.len
  have hpl := hW.len
  have hy3 : y.length ≤ 3 := by omega
  have hpok : Pok kd y := ⟨hkd, hys, fun q => by have := hn3 q; omega⟩
  have N6' : News h₀ L h6 ((Pl, listOf (vi ++ [Value.ref a]).toArray e) :: (I, oI) :: (L + 1, o1) :: (L + 2, og') :: (tl ++ fs)) := fun p hp => N6 p (mem_p4 hp)
  have hPl' : ∀ p ∈ (I, oI) :: (L + 1, o1) :: (L + 2, og') :: (tl ++ fs), p.1 ≠ Pl := fun p hp => by
    rcases List.mem_cons.mp hp with rfl | hp
    · exact hIP
    · rcases List.mem_cons.mp hp with rfl | hp
      · exact Ne.symm (ar1 hPL)
      · rcases List.mem_cons.mp hp with rfl | hp
        · exact Nat.ne_of_lt hPL
        · exact (hr1 p hp).2.2
  have htl' : ∀ {D : Addr} {o : Obj}, AllLt D ((I, oI) :: (L + 1, o1) :: (L + 2, og') :: (tl ++ fs)) → Pl < D → Fixed o → ∀ p ∈ (D, o) :: tl, L + 2 < p.1 ∧ p.1 ≠ Pl ∧ Fixed p.2 := fun hD hPD ho p hp => by
    rcases List.mem_cons.mp hp with rfl | hp
    · exact ⟨hD.2.2.1, Nat.ne_of_gt hPD, ho⟩
    · exact htl p hp
  have apI : ∀ {D : Addr} {o : Obj} {ol : Obj}, AllLt D ((I, oI) :: (L + 1, o1) :: (L + 2, og') :: (tl ++ fs)) → ∀ p ∈ (L + 1, o1) :: (L + 2, og') :: (Pl, ol) :: ((D, o) :: tl ++ fs), p.1 ≠ I := fun hD p hp => by
    simp only [List.cons_append, List.mem_cons] at hp
    rcases hp with rfl | rfl | rfl | rfl | hp
    · exact Ne.symm hI1
    · exact Ne.symm hI2
    · exact Ne.symm hIP
    · exact Nat.ne_of_gt hD.1
    · exact ap p (.tail _ (.tail _ (.tail _ hp)))
  refine wpAny_execs_cons ?_
  refine st_last (s := { s with heap := h6, toks := tk6 }) (r := (I, oI) :: (L + 1, o1) :: (L + 2, og') :: (tl ++ fs)) (Nl := Nl) (Pl := Pl) (a := a) (kd := kd) (y := y) (k0 := k0) (t0 := t0) (n := n) (tk' := tk') (tn := tn) (ty := ty) (u1 := u1) (u2 := u2) (vi := vi) (e := e) hkd hk0.1.1 (by omega) (by have := hk0.2; show t0.length ≤ 1000; have : t0.length ≤ 3 * i + 1 := this; omega) (by rw [hvl]; simp at hpl; omega) F6 G N6' (.tail _ (.tail _ (.tail _ hat))) hPl' (fun hne D e' v1 v2 h7 tk7 hD hPD F7 N7 => ?_) fun hke hk0e D e' v1 v2 h7 tk7 hD hPD F7 N7 => ?_
  · refine wpAny_execs_nil (nx _ ⟨(L + 1, o1) :: (L + 2, og') :: (Pl, listOf (vi ++ [Value.ref a] ++ [Value.ref D]).toArray e') :: ((D, tupObj #[.str kd v1, .str y v2]) :: tl ++ fs), _, h7, tk7, rfl, ⟨_, _, _, o1, og', _, _, vi ++ [Value.ref a], D, e', (D, tupObj #[.str kd v1, .str y v2]) :: tl, pi ++ [(k0, t0)] ++ [(kd, y)], rfl, rfl, ho1, hog', ?_, hW.app hne hpok hy3, htl' hD hPD fixed_seq⟩, F7, fun p hp => N7 p ?_, apI hD⟩)
    · exact (hP.mono fun p hp => .tail _ hp).snoc ⟨D, v1, v2, rfl, .head _⟩
    · exact mem_p6 hp
  · subst hke
    subst hk0e
    refine wpAny_execs_nil (nx _ ⟨(L + 1, o1) :: (L + 2, og') :: (Pl, listOf (vi ++ [Value.ref D]).toArray e') :: ((D, tupObj #[.str kE v1, .str (t0 ++ y) v2]) :: tl ++ fs), _, h7, tk7, rfl, ⟨_, _, _, o1, og', _, _, vi, D, e', (D, tupObj #[.str kE v1, .str (t0 ++ y) v2]) :: tl, pi ++ [(kE, t0 ++ y)], rfl, rfl, ho1, hog', ?_, hW.rep hpok hy3, htl' hD hPD fixed_seq⟩, F7, fun p hp => N7 p ?_, apI hD⟩)
    · exact (hPi.mono fun p hp => .tail _ hp).snoc ⟨D, v1, v2, rfl, .head _⟩
    · exact mem_p6 hp
end Mine
/-! Pd -/
namespace Mine
open PySem PySem.W PySem.Calls PySem.Spec PyProof.Rows
set_option Elab.async false
set_option maxRecDepth 100000
set_option maxHeartbeats 4000000
set_option linter.unusedVariables false
theorem fillPd : (PySem.Challenge.rw_mr0151_01, KK) = (PySem.Challenge.rw_mr0151_01, KK) := by k_fill; rfl
theorem in98_first {Nl Pl : Addr} : (fun y => if y = Str.ofString "pieces" then some (Value.ref Pl) else loc98 Nl y) = in98 Nl Pl none none none := by
  funext y
  by_cases h1 : y = Str.ofString "pieces"
  · subst h1; rfl
  · by_cases h2 : y = Str.ofString "text"
    · subst h2; rfl
    · by_cases h3 : y = Str.ofString "size"
      · subst h3; rfl
      · by_cases h4 : y = Str.ofString "kind"
        · subst h4; rfl
        · simp only [in98, if_neg h1, if_neg h2, if_neg h3, if_neg h4]
theorem wf_first : Wf 0 [(kC, kL)] := by
  refine ⟨rfl, fun p hp => ?_, trivial, by decide⟩
  rw [List.mem_singleton.mp hp]
  exact ⟨⟨.inl rfl, by unfold Sgs; decide +kernel, fun q => absurd q (by decide)⟩, by decide +kernel⟩
/-- what the pieces are -/
structure Pieces (ps : List (Str × Str)) : Prop where
  wf : ∃ pi, ps = pi ++ [(kL, kC)] ∧ Wf 10 pi
theorem Wf.up {n m : Nat} {ps : List (Str × Str)} (h : Wf n ps) (hm : n ≤ m) : Wf m ps := ⟨h.head, fun p hp => ⟨(h.ok p hp).1, by have := (h.ok p hp).2; omega⟩, h.alt, by have := h.len; omega⟩
theorem ar6 {p q L : Nat} (h : q < L) (h2 : L + 2 < p) : q ≠ p := by omega
theorem pieces_body {w : World} {s : Shared} {dp un : Nat} {gd : Option (List Code)} {outer : List Env} {E : Value → Shared → Prop} {h₀ : Heap} {L : Addr} {mg mb : Str → Option Value} {mean : ExcName → Option Value} {loose : List Str} {fs : Led} {Q : Flow → Shared → Prop}
   {Nl : Addr} {vs : List Value} {ns : List Int} {kN : Nat} {ox og : Obj} (hI : IntsAre vs ns) (hns : ∀ n ∈ ns, 0 ≤ n ∧ n < 1000000000) (hlen : ns.length ≤ 10) (hdp : dp + 1 < recursionLimit) (hfs : ∀ p ∈ fs, p.1 < L)
   (F : Fr h₀ L s.heap (loc98 Nl)) (G : Gd w loose mean mg mb h₀) (N : News h₀ L s.heap ((L + 1, ox) :: (L + 2, og) :: fs)) (hox : ox.data = .cell none) (hog : og.data = .cell none) (hNl : (Nl, listOf vs.toArray kN) ∈ fs) (O : FrsIn outer fs)
   (ret : ∀ ps, Pieces ps → ∀ D vals new h' tk m', Fr h₀ L h' m' → News h₀ L h' (new ++ fs) → (D, listOf vals.toArray 0) ∈ new → Pcs (new ++ fs) vals ps → (∀ p ∈ new, ∀ q ∈ fs, q.1 ≠ p.1) → (∀ p ∈ new, Fixed p.2) → Q (.ret (.ref D)) { s with heap := h', toks := tk })
   : wpAny (model prog w) ⟨none, dp, some (env98 L :: outer), gd, un⟩ (execs (bodyOf (stAt 15)) (env98 L)) Q E s := by
  w_on
  have X := G.X
  have T := G.T
  delta env98
  conv in (bodyOf _) => whnf
  iterate 14 walk1
  dsimp only at *
  rename Fr _ _ _ _ => F0
  rename News _ _ _ _ => N0
  rename (_ < _ ∧ L + 1 < _ ∧ _) => hlt2
  rename (L + 1 < _ ∧ _) => hlt1
  rw [in98_first] at F0
  obtain ⟨D, Pl, F0, N0, hlt1, hlt2⟩ : ∃ D Pl, Fr h₀ L _ (in98 Nl Pl none none none) ∧ News h₀ L _ ((Pl, listOf #[Value.ref D] 0) :: (D, tupObj #[Value.str (Str.ofString "#") s.toks, Value.str (Str.ofString "'") (s.toks + 1)]) :: (L + 1, ox) :: (L + 2, og) :: fs) ∧ (L + 1 < D ∧ L + 2 < D ∧ AllLt D fs) ∧ (D < Pl ∧ L + 1 < Pl ∧ L + 2 < Pl ∧ AllLt Pl fs) := ⟨_, _, F0, N0, hlt1, hlt2⟩
  have hls := (N0 _ (.tail _ (.tail _ (.tail _ (.tail _ hNl))))).1
  refine wpAny_execs_cons (wpAny_For (nameX_L F0 rfl (wpAny_pyIter_list ⟨_, hls, rfl, _, rfl⟩ ?_)))
  have F2 := F0.push { cls := .type "list_iterator", data := .fields #[.ref Nl, .int 0 0] }
  have N2 := N0.push F0 { cls := .type "list_iterator", data := .fields #[.ref Nl, .int 0 0] }
  have ap2 : ∀ p ∈ (Pl, listOf #[Value.ref D] 0) :: (D, tupObj #[Value.str (Str.ofString "#") s.toks, Value.str (Str.ofString "'") (s.toks + 1)]) :: (L + 1, ox) :: (L + 2, og) :: fs, p.1 ≠ _ := fun p hp => Nat.ne_of_lt (Heap.lt_size (N0 p hp).1)
  clear F0 N0
  refine for_listC (vs := vs) (Pl := Nl) rfl (InPc L fs Nl Pl) (fun i led m hJ => ?_) (fun i v oI led m h' tk hv hJ hoI F3 N3 ap3 => ?_) (fun led m h' tk hJ F3 N3 => ?_) (oI := { cls := .type "list_iterator", data := .fields #[.ref Nl, .int 0 0] }) (led := (L + 1, ox) :: (L + 2, og) :: (Pl, listOf ([] ++ [Value.ref D]).toArray 0) :: ([(D, tupObj #[Value.str (Str.ofString "#") s.toks, Value.str (Str.ofString "'") (s.toks + 1)])] ++ fs)) ⟨none, none, none, ox, og, none, none, [], D, 0, [(D, tupObj #[Value.str (Str.ofString "#") s.toks, Value.str (Str.ofString "'") (s.toks + 1)])], [(kC, kL)], rfl, rfl, hox, hog, ?_, wf_first, ?_⟩ ⟨rfl, rfl⟩ F2 (fun p hp => N2 p ?_) fun p hp => ap2 p ?_
  · obtain ⟨kv, sv, tv, ox, og, xv, gv, vi, a, e, tl, ps, rfl, _⟩ := hJ
    exact ⟨kN, .tail _ (.tail _ (.tail _ (List.mem_append_right _ hNl)))⟩
  · obtain ⟨n, tn, rfl, hn⟩ := ints_at hI hv
    have hil : i < vs.length := (List.getElem?_eq_some_iff.mp hv).1
    have := hI.length
    exact pieces_turn (hns n hn).1 (hns n hn).2 (by omega) hlt2.2.2.1 hfs G hJ hoI.fixed F3 N3 ap3 fun s₃ q => q
  · obtain ⟨kv, sv, tv, ox', og', xv, gv, vi, a, e, tl, ps, rfl, rfl, _, _, hP, hW, htl⟩ := hJ
    clear F2 N2 hls
    have hPl3 : News h₀ L h' ((Pl, listOf (vi ++ [Value.ref a]).toArray e) :: (tl ++ fs)) := fun p hp => N3 p (.tail _ (.tail _ hp))
    clear N3
    k_steps
    rename Fr _ _ _ _ => F6
    rename News _ _ _ _ => N6
    rename (_ < _ ∧ Pl < _ ∧ AllLt _ (tl ++ fs)) => g2
    rename (Pl < _ ∧ AllLt _ (tl ++ fs)) => g1
    have hvl := hP.len
    have hpl := hW.len
    have hil := hI.length
    refine kmk_add_lit (zs := vi ++ [Value.ref a] ++ [_]) F6 N6 (by is_list) (by is_list) rfl (fun D8 h8 F8 N8 l8 => ?_) (by rw [sizeLine_eq]; simp at hvl hpl ⊢; omega)
    obtain ⟨E8, T8, N8, l8, g1⟩ : ∃ E8 T8, News h₀ L h8 ((D8, listOf (vi ++ [Value.ref a] ++ [Value.ref E8]).toArray 0) :: T8 :: (E8, tupObj #[Value.str kL tk, Value.str kC (tk + 1)]) :: (Pl, listOf (vi ++ [Value.ref a]).toArray e) :: (tl ++ fs)) ∧ (∀ p ∈ T8 :: (E8, tupObj #[Value.str kL tk, Value.str kC (tk + 1)]) :: (Pl, listOf (vi ++ [Value.ref a]).toArray e) :: (tl ++ fs), p.1 < D8) ∧ (Pl < E8 ∧ AllLt E8 (tl ++ fs)) := ⟨_, _, N8, l8, g1⟩
    refine ret (ps ++ [(kL, kC)]) ⟨ps, rfl, hW.up (by omega)⟩ D8 (vi ++ [Value.ref a] ++ [Value.ref E8]) ((D8, listOf (vi ++ [Value.ref a] ++ [Value.ref E8]).toArray 0) :: (E8, tupObj #[Value.str kL tk, Value.str kC (tk + 1)]) :: tl) h8 _ _ F8 (fun p hp => N8 p ?_) (.head _) ?_ (fun p hp q hq => ?_) fun p hp => ?_
    · simp only [List.cons_append, List.mem_cons] at hp ⊢
      rcases hp with h | h | h
      · exact .inl h
      · exact .inr (.inr (.inl h))
      · exact .inr (.inr (.inr (.inr h)))
    · exact (hP.mono fun p hp => .tail _ (.tail _ hp)).snoc ⟨E8, _, _, rfl, .tail _ (.head _)⟩
    · simp only [List.mem_cons] at hp
      rcases hp with rfl | rfl | hp
      · exact Nat.ne_of_lt (l8 q (.tail _ (.tail _ (.tail _ (List.mem_append_right _ hq)))))
      · exact Nat.ne_of_lt (allLt_mem g1.2 q (List.mem_append_right _ hq))
      · exact ar6 (hfs q hq) (htl p hp).1
    · simp only [List.mem_cons] at hp
      rcases hp with rfl | rfl | hp
      · exact fixed_seq
      · exact fixed_seq
      · exact (htl p hp).2.2
  · exact ⟨⟨_, _, _, rfl, .head _⟩, trivial⟩
  · intro p hp
    rw [List.mem_singleton.mp hp]
    exact ⟨hlt1.2.1, Nat.ne_of_lt hlt2.1, fixed_seq⟩
  · simp only [List.cons_append, List.nil_append, List.mem_cons] at hp ⊢
    rcases hp with h | h | h | h | h | h <;> simp [h]
  · simp only [List.cons_append, List.nil_append, List.mem_cons] at hp ⊢
    rcases hp with h | h | h | h | h <;> simp [h]
theorem pieces_call {w : World} {s : Shared} {dp un : Nat} {gd : Option (List Code)} {env : Env} {outer : List Env} {E : Value → Shared → Prop} {h₀ : Heap} {L : Addr} {m mg mb : Str → Option Value} {mean : ExcName → Option Value} {loose : List Str} {led : Led} {Q : Value → Shared → Prop}
   {Nl : Addr} {vs : List Value} {ns : List Int} {kN : Nat} (hf : env.frame = some L) (hke : env.scope.kind ≠ .module) (F : Fr h₀ L s.heap m) (G : Gd w loose mean mg mb h₀) (N : News h₀ L s.heap led) (O : FrsIn outer led) (hdp : dp + 2 < recursionLimit)
   (hI : IntsAre vs ns) (hns : ∀ n ∈ ns, 0 ≤ n ∧ n < 1000000000) (hlen : ns.length ≤ 10) (hNl : (Nl, listOf vs.toArray kN) ∈ led)
   (ret : ∀ ps, Pieces ps → ∀ D vals new h' tk, Fr h₀ L h' m → News h₀ L h' (new ++ led) → (D, listOf vals.toArray 0) ∈ new → Pcs (new ++ led) vals ps → (∀ p ∈ new, ∀ q ∈ led, q.1 ≠ p.1) → (∀ p ∈ new, Fixed p.2) → Q (.ref D) { s with heap := h', toks := tk })
   : wpAny (model prog w) ⟨none, dp, some (env :: outer), gd, un⟩ (call (.ref 98) [.ref Nl]) Q E s := by
  refine enterC (scope := scopeOf (stAt 15)) (cdv := .ref 97) (qual := Str.ofString "_law_pieces") (binds := [(Str.ofString "numbers", .ref Nl)]) rfl hf hke F N O (G.X 98 o98 rfl) rfl G.T.nolimit ⟨97, _, _, _, rfl, G.X 97 (o97 _) rfl, rfl, rfl⟩ (by show dp < recursionLimit; omega) (BindsTo.of_eq rfl) (fun n => ?_) (by decide +kernel) (fun g L' h₁ tk cells oL st F₁ N₁ Y O₁ bk lt => ?_) rfl rfl rfl
  · intro y hy
    have hy : y = (Str.ofString "numbers", .ref Nl) := by simpa using hy
    subst hy
    exact .inl rfl
  obtain ⟨oG, oX, rfl, hoG, hoX⟩ := Y.two
  have e : (bindL (envOfC (Str.ofString "_law_pieces") (scopeOf (stAt 15)) L' 98 (.ref 97)).kindOf [(Str.ofString "numbers", .ref Nl)] fun _ => none) = loc98 Nl := by
    funext y
    by_cases h1 : y = Str.ofString "numbers"
    · subst h1; rfl
    · show (if y = Str.ofString "numbers" then some (Value.ref Nl) else none) = _
      rw [if_neg h1]
      show none = [(Str.ofString "numbers", Value.ref Nl)].lookup y
      rw [List.lookup_cons]
      rw [show (y == Str.ofString "numbers") = false by simpa using h1]
      rfl
  rw [e] at F₁
  refine pieces_body (s := { s with heap := h₁, toks := tk }) hI hns hlen (by show dp + 1 + 1 < recursionLimit; omega) lt F₁ (G.keeps st) (fun p hp => N₁ p ?_) hoX hoG (.tail _ hNl) O₁ fun ps hps D vals new h' tk' m' F' N' hD hP ap fx => ?_
  · simp only [List.cons_append, List.nil_append, List.mem_cons] at hp ⊢
    rcases hp with h | h | h | h <;> simp [h]
  · obtain ⟨oL', led', he, hoL, t1, F2, N2⟩ := bk [] _ h' m' new _ F' N' (.refl _) ap
    injection he with he1 he2
    subst he2
    have nodict : ∀ {new r : Led} {oL' : Obj} {a : Addr} {vs : Array Value} {n : Nat} {ty : String}, (∃ es n, oL'.data = .dict es n) → (a, (⟨.type ty, none, .seq vs n, #[]⟩ : Obj)) ∈ new ++ (L, oL') :: r → (a, (⟨.type ty, none, .seq vs n, #[]⟩ : Obj)) ∈ new ++ r := fun hd hm => by
      rcases List.mem_append.mp hm with hm | hm
      · exact List.mem_append_left _ hm
      · rcases List.mem_cons.mp hm with e | hm
        · obtain ⟨es, n, hd⟩ := hd
          cases e; cases hd
        · exact List.mem_append_right _ hm
    have hoL2 : ∃ es n, oL.data = .dict es n := by
      have : oL = oL' := congrArg Prod.snd he1
      rw [this]; exact hoL
    exact ret ps hps D vals new h' tk' F2 N2 hD (hP.imp fun a tk tt p h => nodict hoL2 h) (fun p hp q hq => ap p hp q (.tail _ hq)) fx
end Mine
/-! La1 -/
namespace Mine
open PySem PySem.W PySem.Calls PySem.Spec PyProof.Rows
set_option Elab.async false
set_option maxRecDepth 100000
set_option maxHeartbeats 4000000
set_option linter.unusedVariables false
theorem fillLa1 : (PySem.Challenge.rw_mr0151_01, KK) = (PySem.Challenge.rw_mr0151_01, KK) := by k_fill; rfl
abbrev env138 (L : Addr) : Env := envOf (Str.ofString "law") (scopeOf (stAt 21)) L 138 (.ref 137)
abbrev loc138 (l : Addr) : Str → Option Value := fun z => [(Str.ofString "script", Value.ref l)].lookup z
def lst (i : Nat) : Stmt := ((bodyOf (stAt 21))[i]?).getD (.Pass default)
theorem lawBody_is : bodyOf (stAt 21) = [lst 0, lst 1, lst 2, lst 3, lst 4, lst 5, lst 6, lst 7, lst 8] := by kernel_rfl
theorem l_numbers {w : World} {s : Shared} {dp un : Nat} {gd : Option (List Code)} {outer : List Env} {E : Value → Shared → Prop} {h₀ : Heap} {L : Addr} {mg mb : Str → Option Value} {mean : ExcName → Option Value} {loose : List Str} {fs : Led} {Q : Flow → Shared → Prop}
   {l : Addr} {vs : List Value} {ns : List Int} (hl : h₀.IsList l vs.toArray) (hI : IntsAre vs ns) (hlen : ns.length ≤ 63)
   (F : Fr h₀ L s.heap (loc138 l)) (G : Gd w loose mean mg mb h₀) (N : News h₀ L s.heap fs)
   (ret : ∀ Nl vs' ns' k h' tk, IntsAre vs' ns' → (∀ n ∈ ns', 0 ≤ n ∧ n < 1000000000) → ns'.length ≤ 10 → Fr h₀ L h' (fun q => if q = Str.ofString "numbers" then some (Value.ref Nl) else loc138 l q) → News h₀ L h' ((Nl, listOf vs'.toArray k) :: fs) → (∀ p ∈ fs, p.1 ≠ Nl) → Q .next { s with heap := h', toks := tk })
   : wpAny (model prog w) ⟨none, dp, some (env138 L :: outer), gd, un⟩ (exec (lst 0) (env138 L)) Q E s := by
  w_on
  have X := G.X
  have T := G.T
  delta env138
  conv in (lst _) => whnf
  k_steps
  rename CarriedAll _ _ => hC
  rename NewPlain _ _ _ _ => hP
  rename Fr h₀ L _ (fun q => if q = Str.ofString "numbers" then some (Value.ref _) else loc138 l q) => F9
  rename h₀.get? _ = none => hn
  rename News _ _ _ _ => N9
  obtain ⟨k, N10⟩ := made_enters hP F9 N9 hn
  have hI2 := CarriedAll.intsOf hC
  have e9 : (10 : Int) ^ Int.toNat 9 = 1000000000 := by decide
  rw [e9] at hI2
  refine ret _ _ _ k _ _ hI2 (fun n hn => ?_) ?_ F9 (news_del2 N10) (fun p hp => hP.2 p (.tail _ hp))
  · obtain ⟨a, _, rfl⟩ := List.mem_map.mp hn
    exact ⟨Int.fmod_nonneg_of_pos _ (by decide), Int.fmod_lt_of_pos _ (by decide)⟩
  · rw [List.length_map]
    exact Nat.le_trans (List.length_filter_le _ _) (by rw [List.length_take]; omega)
/-- names of the frame so far -/
abbrev m1 (l Nl : Addr) : Str → Option Value := fun q => if q = Str.ofString "numbers" then some (Value.ref Nl) else loc138 l q
abbrev m2 (l Nl Pl : Addr) : Str → Option Value := fun q => if q = Str.ofString "pieces" then some (Value.ref Pl) else m1 l Nl q
theorem l_pieces {w : World} {s : Shared} {dp un : Nat} {gd : Option (List Code)} {outer : List Env} {E : Value → Shared → Prop} {h₀ : Heap} {L : Addr} {mg mb : Str → Option Value} {mean : ExcName → Option Value} {loose : List Str} {fs : Led} {Q : Flow → Shared → Prop}
   {l Nl : Addr} {vs : List Value} {ns : List Int} {kN : Nat} (hI : IntsAre vs ns) (hns : ∀ n ∈ ns, 0 ≤ n ∧ n < 1000000000) (hlen : ns.length ≤ 10) (hNl : (Nl, listOf vs.toArray kN) ∈ fs) (hdp : dp + 2 < recursionLimit)
   (F : Fr h₀ L s.heap (m1 l Nl)) (G : Gd w loose mean mg mb h₀) (N : News h₀ L s.heap fs) (O : FrsIn outer fs)
   (ret : ∀ ps, Pieces ps → ∀ Pl vals new h' tk, Fr h₀ L h' (m2 l Nl Pl) → News h₀ L h' (new ++ fs) → (Pl, listOf vals.toArray 0) ∈ new → Pcs (new ++ fs) vals ps → (∀ p ∈ new, ∀ q ∈ fs, q.1 ≠ p.1) → (∀ p ∈ new, Fixed p.2) → Q .next { s with heap := h', toks := tk })
   : wpAny (model prog w) ⟨none, dp, some (env138 L :: outer), gd, un⟩ (exec (lst 1) (env138 L)) Q E s := by
  w_on
  have X := G.X
  have T := G.T
  delta env138
  conv in (lst _) => whnf
  k_steps
  refine pieces_call rfl isFn F G N O hdp hI hns hlen hNl fun ps hps D vals new h' tk F' N' hD hP ap fx => ?_
  clear F N
  k_steps
  rename Fr _ _ _ _ => F9
  rename News _ _ _ _ => N9
  exact ret ps hps D vals new _ _ F9 N9 hD hP ap fx
end Mine
/-! La2 -/
namespace Mine
open PySem PySem.W PySem.Calls PySem.Spec PyProof.Rows
set_option Elab.async false
set_option maxRecDepth 100000
set_option maxHeartbeats 4000000
set_option linter.unusedVariables false
theorem fillLa2 : (PySem.Challenge.rw_mr0151_01, KK) = (PySem.Challenge.rw_mr0151_01, KK) := by k_fill; rfl
theorem written_keep {w : World} {s : Shared} {dp un : Nat} {gd : Option (List Code)} {E : Value → Shared → Prop} {h₀ : Heap} {L a : Addr} {mg mb : Str → Option Value} {mean : ExcName → Option Value} {loose : List Str} {Q : Value → Shared → Prop}
   {kd tx : Str} {t1 t2 : Tok} {oL : Obj} {es : Array DictEntry} {n : Nat} (G : Gd w loose mean mg mb h₀) (keep : ∀ b o, h₀.get? b = some o → s.heap.get? b = some o) (hL0 : h₀.get? L = none) (ha0 : h₀.get? a = none) (hne : a ≠ L)
   (hL : s.heap.get? L = some oL) (hLd : oL.data = .dict es n) (ha : s.heap.get? a = some (tupObj #[.str kd t1, .str tx t2])) (hdp : dp < recursionLimit) (hx : tx.length ≤ 1048576) (hkd : Kds kd)
   (ret : ∀ h' tk tj, (∀ b o, s.heap.get? b = some o → h'.get? b = some o) → Q (.str (wtn kd tx) tj) { s with heap := h', toks := tk })
   : wpAny (model prog w) ⟨none, dp, some [env138 L], gd, un⟩ (call (.ref 105) [.ref a]) Q E s := by
  have G' := G.keeps keep
  have st : ∀ b o, h₀.get? b = some o → (hideAll s.heap [L, a]).get? b = some o := fun b o e => hideAll_get _ (keep b o e) fun q => by
    simp only [List.mem_cons, List.not_mem_nil, or_false] at q
    rcases q with rfl | rfl
    · rw [hL0] at e; cases e
    · rw [ha0] at e; cases e
  refine wpAny_call (codeAny_call_def (fd := fdAt 16 "_law_written" .none (vS "law_mr0151_01" 421) 104) (binds := [(Str.ofString "piece", .ref a)]) hdp (G'.X 105 o105 rfl) rfl G'.T.nolimit ⟨104, _, _, _, rfl, G'.X 104 (o104 _) rfl, rfl, rfl⟩ rfl (BindsTo.of_eq rfl) (by decide +kernel) (locs rfl) (fun h₁ hns hk₁ => ?_) rfl rfl rfl)
  have lt : ∀ {b : Addr} {o : Obj}, s.heap.get? b = some o → b ≠ s.heap.objs.size := fun e => Nat.ne_of_lt (Heap.lt_size e)
  refine written_body (s := { s with heap := h₁, toks := _ }) (h₀ := hideAll s.heap [L, a]) (L := s.heap.objs.size) (fs := [(L, oL), (a, tupObj #[.str kd t1, .str tx t2])]) (a := a) (t1 := t1) (t2 := t2) (outer := [env138 L]) hx hkd ⟨hns, fun b o e => hk₁ b o (of_hideAll _ e), Nat.le_of_eq (hideAll_size _ _)⟩ (G.keeps st) (fun p hp => ?_) (fun env he => ?_) fun h' tk tj m' F' N' => ?_
  · simp only [List.mem_cons, List.not_mem_nil, or_false] at hp
    rcases hp with rfl | rfl | rfl
    · exact ⟨hk₁ _ _ ha, lt ha, hideAll_none _ (by simp)⟩
    · exact ⟨hk₁ _ _ hL, lt hL, hideAll_none _ (by simp)⟩
    · exact ⟨hk₁ _ _ ha, lt ha, hideAll_none _ (by simp)⟩
  · rw [List.mem_singleton.mp he]
    exact ⟨isFn, L, oL, rfl, .head _, es, n, hLd⟩
  · refine ret h' tk tj fun b o e => ?_
    by_cases q : b ∈ ([L, a] : List Addr)
    · simp only [List.mem_cons, List.not_mem_nil, or_false] at q
      rcases q with rfl | rfl
      · rw [hL] at e; cases e; exact (N' _ (.head _)).1
      · rw [ha] at e; cases e; exact (N' _ (.tail _ (.head _))).1
    · exact F'.keep b o (hideAll_get _ e q)
def srcX : Expr := match lst 2 with | .Assign _ e _ => e | _ => .Constant .none 0 default
def sCompX : Expr := match srcX with | .Call _ (c :: _) _ _ => c | e => e
def sElt : Expr := match sCompX with | .ListComp e _ _ _ => e | e => e
def sScope : Scope := match sCompX with | .ListComp _ _ s _ => s | _ => default
def sIter : Expr := match sCompX with | .ListComp _ (g :: _) _ _ => g.iter | e => e
def sPos : Pos × Pos := match sCompX with | .ListComp _ (⟨.Name _ p, _, _, _⟩ :: _) _ q => (p, q) | _ => default
theorem sComp_is : sCompX = .ListComp sElt [⟨.Name (Str.ofString "piece") sPos.1, sIter, [], 0⟩] sScope sPos.2 := by kernel_rfl
theorem sClos (L : Addr) : closureFor sScope (env138 L) = pure [] := by kernel_rfl
/-- an item is its piece written -/
def WrV (led : Led) (v y : Value) : Prop := ∃ a kd tx u1 u2 t, v = .ref a ∧ (a, tupObj #[.str kd u1, .str tx u2]) ∈ led ∧ y = .str (wtn kd tx) t
theorem sElt_eval {w : World} {s : Shared} {dp un : Nat} {gd : Option (List Code)} {E : Value → Shared → Prop} {h₀ : Heap} {L a C : Addr} {mg mb m : Str → Option Value} {mean : ExcName → Option Value} {loose : List Str} {Q : Value → Shared → Prop}
   {kd tx : Str} {t1 t2 : Tok} {oL : Obj} {es : Array DictEntry} {n : Nat} (G : Gd w loose mean mg mb h₀) (keep : ∀ b o, h₀.get? b = some o → s.heap.get? b = some o) (hL0 : h₀.get? L = none) (ha0 : h₀.get? a = none) (hne : a ≠ L)
   (hL : s.heap.get? L = some oL) (hLd : oL.data = .dict es n) (ha : s.heap.get? a = some (tupObj #[.str kd t1, .str tx t2])) (hdp : dp < recursionLimit) (hx : tx.length ≤ 1048576) (hkd : Kds kd)
   (hn : s.heap.Ns C m) (hk : m (Str.ofString "piece") = some (.ref a))
   (ret : ∀ h' tk tj, (∀ b o, s.heap.get? b = some o → h'.get? b = some o) → Q (.str (wtn kd tx) tj) { s with heap := h', toks := tk })
   : wpAny (model prog w) ⟨none, dp, some [env138 L], gd, un⟩ (eval sElt (compEnvC sScope [] C (env138 L))) Q E s := by
  w_on
  have G' := G.keeps keep
  conv in (sElt) => whnf
  refine wpAny_Call_NameR (Calls.Name_function_global (by rfl) (by rfl) (Calls.loadGlobal_global G'.T.g (v := .ref 105) (mg_of G'.X G'.T.g (by kernel_rfl)) ?_) (by decide))
  refine Calls.callWith_function (o := o105) (fd := fdAt 16 "_law_written" .none (vS "law_mr0151_01" 421) 104) (Calls.evalArgs_plain (Calls.spliced_cons (wpAny_Name (wpAny_loadName_local (by rfl) (by rfl) hn hk (Calls.spliced_nil ⟨⟨G'.X 105 o105 rfl, rfl⟩, ?_⟩)) (by decide))))
  exact written_keep G keep hL0 ha0 hne hL hLd ha hdp hx hkd ret
/-- the text of the pieces -/
def cat : List (Str × Str) → Str
  | [] => Str.ofString ""
  | p :: r => wtn p.1 p.2 ++ cat r
theorem out_of {h₀ h : Heap} {L : Addr} {m : Str → Option Value} (F : Fr h₀ L h m) : h₀.get? L = none := by
  cases e : h₀.get? L with
  | none => rfl
  | some o => exact absurd (Heap.lt_size e) (Nat.not_lt.mpr F.above)
theorem sComp_eval {w : World} {s : Shared} {dp un : Nat} {gd : Option (List Code)} {E : Value → Shared → Prop} {h₀ : Heap} {L Pl : Addr} {mg mb m : Str → Option Value} {mean : ExcName → Option Value} {loose : List Str} {fs : Led} {Q : Value → Shared → Prop}
   {vals : List Value} {ps : List (Str × Str)} {kP : Nat} (hm : m (Str.ofString "pieces") = some (.ref Pl)) (hP : Pcs fs vals ps) (hk : ∀ p ∈ ps, Kds p.1 ∧ p.2.length ≤ 1000) (hn : ps.length ≤ 100) (hdp : dp < recursionLimit)
   (F : Fr h₀ L s.heap m) (G : Gd w loose mean mg mb h₀) (N : News h₀ L s.heap fs) (hPl : (Pl, listOf vals.toArray kP) ∈ fs)
   (ret : ∀ D h' tk (ys : Array Value), Fr h₀ L h' m → News h₀ L h' fs → h'.IsList D ys → Paired (WrV fs) vals ys.toList → Q (.ref D) { s with heap := h', toks := tk })
   : wpAny (model prog w) ⟨none, dp, some [env138 L], gd, un⟩ (eval sCompX (env138 L)) Q E s := by
  w_on
  rw [sComp_is]
  refine wpAny_ListComp_free (cl := []) (fun _ => true) (WrV fs) (sClos L) (by decide +kernel) rfl (by decide +kernel) (by decide +kernel) ?_
  conv in (sIter) => whnf
  refine nameX_L F hm ?_
  have hl : s.heap.IsList Pl vals.toArray := ⟨_, (N _ hPl).1, rfl, _, rfl⟩
  refine wpAny_pyIter_list hl ?_
  have hadd : ∀ b o, s.heap.get? b = some o → (s.heap.push { cls := .type "list_iterator", data := .fields #[.ref Pl, .int 0 0] }).get? b = some o := fun b o e => Heap.get?_push_of_some _ e
  have hneI : Pl ≠ s.heap.objs.size := Nat.ne_of_lt (Heap.lt_size (N _ hPl).1)
  refine ⟨s.heap.objs.size, [s.heap.objs.size, Pl], [s.heap.objs.size], vals.toArray.size, _, _, rfl, Walks.list rfl s.heap.objs.size Pl hneI vals.toArray, ?_, ?_, ?_, ?_, ?_⟩
  · rw [sizeLine_eq, List.size_toArray, hP.len]; omega
  · exact ⟨⟨_, Heap.get?_push_size _ rfl, rfl, rfl⟩, hl.at fun o e => hadd _ _ e⟩
  · intro b hb
    simp only [List.mem_cons, List.not_mem_nil, or_false] at hb
    rw [Heap.size_push]
    rcases hb with rfl | rfl
    · exact Nat.lt_succ_self _
    · exact Nat.lt_succ_of_lt (Heap.lt_size (N _ hPl).1)
  · have hne : ∀ b o, s.heap.get? b = some o → b ∉ [s.heap.objs.size] := fun b o e q => by
      rw [List.mem_singleton.mp q] at e
      exact absurd (Heap.lt_size e) (Nat.lt_irrefl _)
    refine ⟨fun C i v s₃ m₃ E' hC hPv hns hmx hkp htk => wpAny_pure ⟨rfl, s₃.heap, s₃.toks, rfl, fun _ _ e => e⟩, fun C i v s₃ m₃ E' hC hPv _ hns hmx hkp htk => ?_⟩
    have kp : ∀ b o, s.heap.get? b = some o → s₃.heap.get? b = some o := fun b o e => hkp _ _ (hne _ _ e) (hadd _ _ e)
    obtain ⟨kd, tx, a, t1, t2, rfl, ha, hps⟩ := hP.at (i := i) (v := v) (by rw [← hPv]; simp)
    obtain ⟨oL, es, n, hoL, hLd, _⟩ := F.ns
    obtain ⟨q1, q2⟩ := hk _ (List.mem_of_getElem? hps)
    exact sElt_eval (s := s₃) (L := L) G (fun b o e => kp _ _ (F.keep b o e)) (out_of F) (N _ ha).2.2 (N _ ha).2.1 (kp _ _ hoL) hLd (kp _ _ (N _ ha).1) hdp (Nat.le_trans q2 (by decide)) q1 hns hmx fun h' tk tj hk' => ⟨⟨a, kd, tx, t1, t2, tj, rfl, ha, rfl⟩, h', tk, rfl, hk'⟩
  · intro D h' tk ys vs hD hl' hpl hlen hPv hF hkp
    have kp : ∀ b o, s.heap.get? b = some o → h'.get? b = some o := fun b o e => hkp b o (fun q => by
      rw [List.mem_singleton.mp q] at e
      exact absurd (Heap.lt_size e) (Nat.lt_irrefl _)) (hadd b o e)
    have hvs : vs = vals := List.ext_getElem? fun j => by
      cases e : vs[j]? with
      | none =>
        have h1 := List.getElem?_eq_none_iff.mp e
        rw [List.size_toArray] at hlen
        exact (List.getElem?_eq_none_iff.mpr (by omega)).symm
      | some v => have := hPv j v e; rw [← this]; simp
    rw [List.filter_eq_self.mpr (fun _ _ => rfl), hvs] at hF
    exact ret D h' tk ys (F.keeps kp) (fun p hp => ⟨kp _ _ (N p hp).1, (N p hp).2⟩) hl' hF
end Mine
/-! La3 -/
namespace Mine
open PySem PySem.W PySem.Calls PySem.Spec PyProof.Rows
set_option Elab.async false
set_option maxRecDepth 100000
set_option maxHeartbeats 4000000
set_option linter.unusedVariables false
theorem fillLa3 : (PySem.Challenge.rw_mr0151_01, KK) = (PySem.Challenge.rw_mr0151_01, KK) := by k_fill; rfl
theorem wrv_strs {led : Led} : ∀ {vs l : List Value} {ps : List (Str × Str)}, Pcs led vs ps → News h₀ L h led → Paired (WrV led) vs l → StrsAre l (ps.map fun p => wtn p.1 p.2)
  | [], _, [], _, _, .nil => .nil
  | v :: vs, _, p :: ps, hP, N, .cons h r => by
    obtain ⟨⟨a, t1, t2, rfl, ha⟩, hr⟩ := hP
    obtain ⟨b, kd, tx, u1, u2, t, e, hb, rfl⟩ := h
    cases e
    have e := (N _ ha).1.symm.trans (N _ hb).1
    injection e with e
    have e2 : (#[.str p.1 t1, .str p.2 t2] : Array Value) = #[.str kd u1, .str tx u2] := by injection e with _ _ e _; injection e
    have e3 : [Value.str p.1 t1, .str p.2 t2] = [.str kd u1, .str tx u2] := congrArg Array.toList e2
    injection e3 with e4 e5
    injection e4 with e4
    injection e5 with e5
    injection e5 with e5
    rw [← e4, ← e5]
    exact .cons _ _ (wrv_strs hr N r)
theorem wtn_len2 {kd tx : Str} (hk : Kds kd) : (wtn kd tx).length ≤ tx.length + 2 := by
  rcases hk with rfl | rfl | rfl
  · rw [wtn_c, Str.length_append, Str.length_append]; show 1 + _ + 1 ≤ _; omega
  · rw [wtn_l, Str.length_append, Str.length_append]; show 1 + _ + 1 ≤ _; omega
  · rw [wtn_e, Str.length_append, Str.length_append]; show 0 + _ + 0 ≤ _; omega
theorem app_nil (x : Str) : x ++ Str.ofString "" = x := by
  have h : (x ++ Str.ofString "").cps = x.cps := by rw [PySem.Str.cps_append, show (Str.ofString "").cps = #[] from by decide +kernel]; simp
  cases x
  exact congrArg Str.mk h
theorem join_cat : ∀ (ps : List (Str × Str)), PySem.Str.join (Str.ofString "") (ps.map fun p => wtn p.1 p.2) = cat ps
  | [] => rfl
  | [p] => by
    show wtn p.1 p.2 = wtn p.1 p.2 ++ Str.ofString ""
    rw [app_nil]
  | p :: q :: r => by
    show wtn p.1 p.2 ++ Str.ofString "" ++ PySem.Str.join (Str.ofString "") ((q :: r).map fun p => wtn p.1 p.2) = wtn p.1 p.2 ++ cat (q :: r)
    rw [join_cat (q :: r), app_nil]
abbrev m3 (l Nl Pl : Addr) (src : Str) (t : Tok) : Str → Option Value := fun q => if q = Str.ofString "src" then some (Value.str src t) else m2 l Nl Pl q
theorem l_src {w : World} {s : Shared} {dp un : Nat} {gd : Option (List Code)} {E : Value → Shared → Prop} {h₀ : Heap} {L : Addr} {mg mb : Str → Option Value} {mean : ExcName → Option Value} {loose : List Str} {fs : Led} {Q : Flow → Shared → Prop}
   {l Nl Pl : Addr} {vals : List Value} {ps : List (Str × Str)} {kP : Nat} (hP : Pcs fs vals ps) (hk : ∀ p ∈ ps, Kds p.1 ∧ p.2.length ≤ 1000) (hn : ps.length ≤ 100) (hdp : dp < recursionLimit)
   (F : Fr h₀ L s.heap (m2 l Nl Pl)) (G : Gd w loose mean mg mb h₀) (N : News h₀ L s.heap fs) (hPl : (Pl, listOf vals.toArray kP) ∈ fs)
   (ret : ∀ t h' tk, Fr h₀ L h' (m3 l Nl Pl (cat ps) t) → News h₀ L h' fs → Q .next { s with heap := h', toks := tk })
   : wpAny (model prog w) ⟨none, dp, some [env138 L], gd, un⟩ (exec (lst 2) (env138 L)) Q E s := by
  w_on
  have X := G.X
  have T := G.T
  delta env138
  conv in (lst _) => whnf
  walk1
  walk1
  walk1
  walk1
  walk1
  walk1
  refine sComp_eval (s := { s with toks := _ }) (Pl := Pl) rfl hP hk hn hdp F G N hPl fun D h' tk ys F1 N1 hl hY => ?_
  clear F N
  walk1
  have hS := wrv_strs hP N1 hY
  have hlen : ∀ ps : List (Str × Str), (∀ p ∈ ps, Kds p.1 ∧ p.2.length ≤ 1000) → ((ps.map fun p => wtn p.1 p.2).map (·.length)).sum ≤ 1002 * ps.length := fun l => by
    induction l with
    | nil => intro _; exact Nat.zero_le _
    | cons p l ih =>
      intro h
      have h1 := ih fun q hq => h q (.tail _ hq)
      obtain ⟨h2, h3⟩ := h p (.head _)
      have h4 := wtn_len2 (tx := p.2) h2
      simp only [List.map_cons, List.sum_cons, List.length_cons]
      omega
  refine join_list (s := { s with heap := h', toks := tk }) hl hS (by
    have := hlen ps hk
    rw [show (Str.ofString "").length = 0 from by decide +kernel]
    omega) fun t' k => ?_
  rw [eq_of_beq (join_plain_closes _ _), join_cat]
  generalize cat ps = src at ret ⊢
  k_steps
  rename Fr _ _ _ _ => F9
  rename News _ _ _ _ => N9
  exact ret _ _ _ F9 N9
end Mine
/-! La4 -/
namespace Mine
open PySem PySem.W PySem.Calls PySem.Spec PyProof.Rows
set_option Elab.async false
set_option maxRecDepth 100000
set_option maxHeartbeats 4000000
set_option linter.unusedVariables false
theorem fillLa4 : (PySem.Challenge.rw_mr0151_01, KK) = (PySem.Challenge.rw_mr0151_01, KK) := by k_fill; rfl
/-- what the ledger of law holds -/
structure LL (h₀ : Heap) (L : Addr) (h : Heap) (fs : Led) (Nl Pl : Addr) (vs : List Value) (ns : List Int) (vals : List Value) (ps : List (Str × Str)) : Prop where
  news : News h₀ L h fs
  t79 : TabOk 79 qCr (posOf stCr) fs
  t114 : TabOk 114 qLam lamPos fs
  pcs : Pcs fs vals ps
  pl : (Pl, listOf vals.toArray 0) ∈ fs
  nl : ∃ k, (Nl, listOf vs.toArray k) ∈ fs
  nums : IntsAre vs ns
theorem LL.turns {h₀ h h' : Heap} {L : Addr} {fs new led' : Led} {Nl Pl : Addr} {vs : List Value} {ns : List Int} {vals : List Value} {ps : List (Str × Str)} (W : LL h₀ L h fs Nl Pl vs ns vals ps) (tt : TurnsB [114, 79] fs led') (N' : News h₀ L h' (new ++ led'))
    (t1 : TabOk 79 qCr (posOf stCr) (new ++ led')) (t2 : TabOk 114 qLam lamPos (new ++ led')) : LL h₀ L h' (new ++ led') Nl Pl vs ns vals ps :=
  ⟨N', t1, t2, (W.pcs.turns tt).mono fun p hp => List.mem_append_right _ hp, List.mem_append_right _ (tt.keepsIn W.pl fixed_seq), W.nl.elim fun k h => ⟨k, List.mem_append_right _ (tt.keepsIn h fixed_seq)⟩, W.nums⟩
def datP (p : Str × Str) : W.Dat := .tuple [.str p.1, .str p.2]
theorem Pcs.dat {led : Led} : ∀ {vs : List Value} {ps : List (Str × Str)}, Pcs led vs ps → DatAll led vs (ps.map datP)
  | [], [], _ => .nil
  | _ :: _, p :: ps, h => by
    obtain ⟨⟨a, t1, t2, rfl, ha⟩, hr⟩ := h
    exact .cons (.tuple ha (.cons (.str _ _) (.cons (.str _ _) .nil))) (Pcs.dat hr)
def TxOk (ps : List (Str × Str)) : Prop := ∀ p ∈ ps, PyData.strOk p.1 = true ∧ PyData.strOk p.2 = true
theorem TxOk.dat {ps : List (Str × Str)} (h : TxOk ps) : ∀ d ∈ ps.map datP, kqdOk 8 d = true := fun d hd => by
  obtain ⟨p, hp, rfl⟩ := List.mem_map.mp hd
  obtain ⟨h1, h2⟩ := h p hp
  simp [datP, kqdOk, h1, h2]
theorem ne_same {w : World} {A : Around} {E : Value → Shared → Prop} {s : Shared} {h₀ : Heap} {L a b : Addr} {fs : Led} {xs ys : List Value} {ka kb : Nat} {ps : List (Str × Str)} {Q : Value → Shared → Prop}
    (N : News h₀ L s.heap fs) (ha : (a, listOf xs.toArray ka) ∈ fs) (hb : (b, listOf ys.toArray kb) ∈ fs) (hx : Pcs fs xs ps) (hy : Pcs fs ys ps) (hok : TxOk ps) (hu : A.units + 64 < cLine) (h : Q (.bool false) s) : wpAny (model prog w) A (compareOp .NotEq (.ref a) (.ref b)) Q E s := by
  refine kqd_ne N ha rfl rfl hx.dat (fun p h => h) hb rfl rfl hy.dat (fun p h => h) hok.dat hok.dat hu ?_
  simpa using h
theorem l_read {w : World} {s : Shared} {dp un : Nat} {gd : Option (List Code)} {E : Value → Shared → Prop} {h₀ : Heap} {L : Addr} {mg mb : Str → Option Value} {mean : ExcName → Option Value} {loose : List Str} {fs : Led} {Q : Flow → Shared → Prop}
   {l Nl Pl : Addr} {vs vals : List Value} {ns : List Int} {ps : List (Str × Str)} {x : Str} {t : Tok} (hx : x.length ≤ 1048576) (hdp : dp + 7 < recursionLimit) (hun : un + 103 < cLine) (hok : TxOk ps)
   (hR : ∀ i qs, ReadTo x.cps.toList x.length i qs → qs = ps) (hE : ∀ n i qs txt, ReadTo x.cps.toList n i qs → n < x.length → ¬ StepErr x i txt)
   (F : Fr h₀ L s.heap (m3 l Nl Pl x t)) (G : Gd w loose mean mg mb h₀) (Z : FzOf prog w h₀ 36) (W : LL h₀ L s.heap fs Nl Pl vs ns vals ps)
   (ret : ∀ h' tk fs', Fr h₀ L h' (m3 l Nl Pl x t) → LL h₀ L h' fs' Nl Pl vs ns vals ps → Q .next { s with heap := h', toks := tk })
   : wpAny (model prog w) ⟨none, dp, some [env138 L], gd, un⟩ (exec (lst 3) (env138 L)) Q E s := by
  w_on
  have X := G.X
  have T := G.T
  have N := W.news
  delta env138
  conv in (lst _) => whnf
  k_steps
  refine read_call rfl isFn F G Z N (fun e h => nomatch h) W.t79 W.t114 hdp hx hun (fun i qs hq Ls vs' new h' tk led' F' N' tt ap t1 t2 hL hP' => ?_) fun n i qs txt hq hn he => absurd he (hE _ _ _ _ hq hn)
  clear F N
  rw [hR _ _ hq] at hP'
  walk1
  have W' : LL h₀ L h' (new ++ led') Nl Pl vs ns vals ps := W.turns tt N' t1 t2
  refine ne_same (s := { s with heap := h', toks := tk }) N' hL W'.pl hP' W'.pcs hok (by show un + 64 < cLine; omega) ?_
  walk1
  rw [if_neg (by decide)]
  walk1
  exact ret _ _ _ F' W'
end Mine
/-! La5 -/
namespace Mine
open PySem PySem.W PySem.Calls PySem.Spec PyProof.Rows
set_option Elab.async false
set_option maxRecDepth 100000
set_option maxHeartbeats 4000000
set_option linter.unusedVariables false
theorem fillLa5 : (PySem.Challenge.rw_mr0151_01, KK) = (PySem.Challenge.rw_mr0151_01, KK) := by k_fill; rfl
theorem sum_le : ∀ {ns : List Int}, (∀ n ∈ ns, 0 ≤ n ∧ n < 1000000000) → 0 ≤ (ns.map fun a => Int.fdiv a 768).sum ∧ (ns.map fun a => Int.fdiv a 768).sum ≤ 1000000000 * ns.length
  | [], _ => ⟨by decide, by decide⟩
  | n :: ns, h => by
    obtain ⟨h1, h2⟩ := sum_le fun n hn => h n (.tail _ hn)
    obtain ⟨h3, h4⟩ := h n (.head _)
    have h5 : n.fdiv 768 = n / 768 := Int.fdiv_eq_ediv_of_nonneg _ (by decide)
    simp only [List.map_cons, List.sum_cons, List.length_cons, h5] at h1 h2 ⊢
    omega
theorem div_bd {a : Int} {n : Nat} (h : 0 ≤ a) : 0 ≤ a.fmod ((n : Int) + 1) ∧ a.fmod ((n : Int) + 1) ≤ n ∧ 0 ≤ a.fdiv ((n : Int) + 1) ∧ a.fdiv ((n : Int) + 1) ≤ a := by
  have h1 := Int.fmod_nonneg_of_pos a (show (0 : Int) < (n : Int) + 1 by omega)
  have h2 := Int.fmod_lt_of_pos a (show (0 : Int) < (n : Int) + 1 by omega)
  refine ⟨h1, by omega, ?_, ?_⟩
  · rw [Int.fdiv_eq_ediv_of_nonneg _ (by omega)]; exact Int.ediv_nonneg h (by omega)
  · rw [Int.fdiv_eq_ediv_of_nonneg _ (by omega)]; exact Int.ediv_le_self _ h
theorem LL.at {h₀ h h' : Heap} {L : Addr} {fs : Led} {Nl Pl : Addr} {vs : List Value} {ns : List Int} {vals : List Value} {ps : List (Str × Str)} (W : LL h₀ L h fs Nl Pl vs ns vals ps) (N' : News h₀ L h' fs) : LL h₀ L h' fs Nl Pl vs ns vals ps :=
  ⟨N', W.t79, W.t114, W.pcs, W.pl, W.nl, W.nums⟩
abbrev m4 (l Nl Pl : Addr) (src : Str) (t : Tok) (re : Int) (tr : Tok) (ro : Int) (to : Tok) : Str → Option Value := fun q => if q = Str.ofString "room" then some (Value.int ro to) else if q = Str.ofString "rest" then some (Value.int re tr) else m3 l Nl Pl src t q
theorem l_div {w : World} {s : Shared} {dp un : Nat} {gd : Option (List Code)} {E : Value → Shared → Prop} {h₀ : Heap} {L : Addr} {mg mb : Str → Option Value} {mean : ExcName → Option Value} {loose : List Str} {fs : Led} {Q : Flow → Shared → Prop}
   {l Nl Pl : Addr} {vs vals : List Value} {ns : List Int} {ps : List (Str × Str)} {x : Str} {t : Tok} (hx : x.length ≤ 1048576) (hns : ∀ n ∈ ns, 0 ≤ n ∧ n < 1000000000) (hlen : ns.length ≤ 10)
   (F : Fr h₀ L s.heap (m3 l Nl Pl x t)) (G : Gd w loose mean mg mb h₀) (W : LL h₀ L s.heap fs Nl Pl vs ns vals ps)
   (ret : ∀ (re : Int) tr (ro : Int) to h' tk fs', 0 ≤ ro → ro ≤ x.length → 0 ≤ re → re ≤ 1000000000000 → Fr h₀ L h' (m4 l Nl Pl x t re tr ro to) → LL h₀ L h' fs' Nl Pl vs ns vals ps → Q .next { s with heap := h', toks := tk })
   : wpAny (model prog w) ⟨none, dp, some [env138 L], gd, un⟩ (exec (lst 4) (env138 L)) Q E s := by
  w_on
  have X := G.X
  have T := G.T
  obtain ⟨kN, hNl⟩ := W.nl
  have N := news_dup W.news hNl
  have hI := W.nums
  delta env138
  conv in (lst _) => whnf
  walk1
  walk1
  walk1
  walk1
  walk1
  walk1
  walk1
  walk1
  walk1
  walk1
  walk1
  walk1
  walk1
  walk1
  walk1
  k_steps
  rename CarriedAll _ _ => hC
  rename News _ _ _ _ => N9
  rename Heap.IsList _ _ (List.toArray _) => hl
  rename Fr _ _ _ _ => F9
  have hI2 := CarriedAll.intsOf hC
  refine LSm.sum_ints (s := { s with heap := _, toks := _ }) F9 N9 rfl hl hI2 fun h2 tk2 t2 F2 N2 => ?_
  clear hl hC F9 N9
  have hb : 0 ≤ ((ns.filter fun _ => true).map fun a => Int.fdiv a 768).sum ∧ ((ns.filter fun _ => true).map fun a => Int.fdiv a 768).sum ≤ 1000000000 * ns.length := by
    rw [List.filter_eq_self.mpr fun _ _ => rfl]
    exact sum_le hns
  generalize ((ns.filter fun _ => true).map fun a => Int.fdiv a 768).sum = S at *
  clear hI2
  k_steps
  rename Fr _ _ _ _ => F9
  rename News _ _ _ _ => N9
  have hm := div_bd (a := S + 18) (n := x.length) (by omega)
  exact ret _ _ _ _ _ _ fs hm.1 hm.2.1 hm.2.2.1 (by omega) F9 (W.at fun p hp => N9 p (.tail _ (.tail _ hp)))
abbrev m5 (l Nl Pl : Addr) (src : Str) (t : Tok) (re : Int) (tr : Tok) (ro : Int) (to : Tok) (g : Int) (tg : Tok) : Str → Option Value := fun q => if q = Str.ofString "gap" then some (Value.int g tg) else if q = Str.ofString "rest" then some (Value.int re tr) else if q = Str.ofString "room" then some (Value.int ro to) else m3 l Nl Pl src t q
theorem m5_is {l Nl Pl : Addr} {src : Str} {t tr to tg tr' : Tok} {re re' ro g : Int} : (fun y => if y = Str.ofString "gap" then some (Value.int g tg) else if y = Str.ofString "rest" then some (Value.int re' tr') else m4 l Nl Pl src t re tr ro to y) = m5 l Nl Pl src t re' tr' ro to g tg := by
  funext y
  show (if y = Str.ofString "gap" then some (Value.int g tg) else if y = Str.ofString "rest" then some (Value.int re' tr') else if y = Str.ofString "room" then some (Value.int ro to) else if y = Str.ofString "rest" then some (Value.int re tr) else m3 l Nl Pl src t y) = if y = Str.ofString "gap" then some (Value.int g tg) else if y = Str.ofString "rest" then some (Value.int re' tr') else if y = Str.ofString "room" then some (Value.int ro to) else m3 l Nl Pl src t y
  by_cases h2 : y = Str.ofString "rest"
  · rw [if_pos h2, if_pos h2]
  · rw [if_neg h2, if_neg h2, if_neg h2]
theorem frS {h₀ h : Heap} {L : Addr} {m m' : Str → Option Value} (e : m = m') (F : Fr h₀ L h m) : Fr h₀ L h m' := e ▸ F
theorem l_div2 {w : World} {s : Shared} {dp un : Nat} {gd : Option (List Code)} {E : Value → Shared → Prop} {h₀ : Heap} {L : Addr} {mg mb : Str → Option Value} {mean : ExcName → Option Value} {loose : List Str} {fs : Led} {Q : Flow → Shared → Prop}
   {l Nl Pl : Addr} {vs vals : List Value} {ns : List Int} {ps : List (Str × Str)} {x : Str} {t tr to : Tok} {re ro : Int} (hx : x.length ≤ 1048576) (h0 : 0 ≤ re) (h1 : re ≤ 1000000000000)
   (F : Fr h₀ L s.heap (m4 l Nl Pl x t re tr ro to)) (G : Gd w loose mean mg mb h₀) (W : LL h₀ L s.heap fs Nl Pl vs ns vals ps)
   (ret : ∀ (re : Int) tr (g : Int) tg h' tk, 0 ≤ g → g ≤ x.length → 0 ≤ re → re ≤ 1000000000000 → Fr h₀ L h' (m5 l Nl Pl x t re tr ro to g tg) → LL h₀ L h' fs Nl Pl vs ns vals ps → Q .next { s with heap := h', toks := tk })
   : wpAny (model prog w) ⟨none, dp, some [env138 L], gd, un⟩ (exec (lst 5) (env138 L)) Q E s := by
  w_on
  have X := G.X
  have T := G.T
  have N := W.news
  delta env138
  conv in (lst _) => whnf
  k_steps
  rename Fr _ _ _ _ => F9
  rename News _ _ _ _ => N9
  have hm := div_bd (a := re) (n := x.length) h0
  refine ret _ _ _ _ _ _ hm.1 hm.2.1 hm.2.2.1 (by omega) (frS m5_is F9) (W.at fun p hp => N9 p (.tail _ hp))
end Mine
/-! La6 -/
namespace Mine
open PySem PySem.W PySem.Calls PySem.Spec PyProof.Rows
set_option Elab.async false
set_option maxRecDepth 100000
set_option maxHeartbeats 4000000
set_option linter.unusedVariables false
theorem fillLa6 : (PySem.Challenge.rw_mr0151_01, KK) = (PySem.Challenge.rw_mr0151_01, KK) := by k_fill; rfl
theorem LL.more {h₀ h h' : Heap} {L : Addr} {fs new : Led} {Nl Pl : Addr} {vs : List Value} {ns : List Int} {vals : List Value} {ps : List (Str × Str)} (W : LL h₀ L h fs Nl Pl vs ns vals ps) (N' : News h₀ L h' (new ++ fs)) : LL h₀ L h' (new ++ fs) Nl Pl vs ns vals ps :=
  ⟨N', W.t79.mono fun p hp => List.mem_append_right _ hp, W.t114.mono fun p hp => List.mem_append_right _ hp, W.pcs.mono fun p hp => List.mem_append_right _ hp, List.mem_append_right _ W.pl, W.nl.elim fun k h => ⟨k, List.mem_append_right _ h⟩, W.nums⟩
abbrev eofTxt : Str := Str.ofString "Expected \"'\" (at end of document)"
theorem l_cut {w : World} {s : Shared} {dp un : Nat} {gd : Option (List Code)} {E : Value → Shared → Prop} {h₀ : Heap} {L : Addr} {mg mb : Str → Option Value} {mean : ExcName → Option Value} {loose : List Str} {fs : Led} {Q : Flow → Shared → Prop}
   {l Nl Pl : Addr} {vs vals : List Value} {ns : List Int} {ps : List (Str × Str)} {x : Str} {t tr to tg : Tok} {re ro g : Int} (hx : x.length ≤ 1048576) (hdp : dp + 7 < recursionLimit) (hun : un + 103 < cLine) (h0 : 0 ≤ ro) (h1 : ro ≤ x.length)
   (hk : ∀ p ∈ ps, Kds p.1 ∧ p.2.length ≤ 1000) (hn : ps.length ≤ 1000)
   (hR : ∀ (y : Str) i qs, y.cps.toList = x.cps.toList.take ro.toNat → ReadTo y.cps.toList y.length i qs → cutP ps [] ro.toNat = .ps qs ∧ TxOk qs)
   (hE : ∀ (y : Str) n i qs txt, y.cps.toList = x.cps.toList.take ro.toNat → ReadTo y.cps.toList n i qs → n < y.length → StepErr y i txt → cutP ps [] ro.toNat = .msg ∧ txt = eofTxt)
   (F : Fr h₀ L s.heap (m5 l Nl Pl x t re tr ro to g tg)) (G : Gd w loose mean mg mb h₀) (Z : FzOf prog w h₀ 36) (W : LL h₀ L s.heap fs Nl Pl vs ns vals ps)
   (ret : ∀ h' tk fs', Fr h₀ L h' (m5 l Nl Pl x t re tr ro to g tg) → LL h₀ L h' fs' Nl Pl vs ns vals ps → Q .next { s with heap := h', toks := tk })
   : wpAny (model prog w) ⟨none, dp, some [env138 L], gd, un⟩ (exec (lst 6) (env138 L)) Q E s := by
  w_on
  have X := G.X
  have T := G.T
  have N := W.news
  delta env138
  conv in (lst _) => whnf
  k_steps
  rename Fr _ _ _ _ => F9
  rename News _ _ _ _ => N9
  have hy := slice_to (x := x) h0 h1
  generalize Txt.slice x none (some ro) = y at hy ⊢
  have hyl : y.length ≤ 1048576 := by
    have : y.cps.toList.length = y.length := rfl
    rw [← this, hy, List.length_take]
    have : x.cps.toList.length = x.length := rfl
    omega
  refine read_call (s := { s with heap := _, toks := _ }) rfl isFn F9 G Z N9 (fun e h => nomatch h) W.t79 W.t114 hdp hyl hun (fun i qs hq Ls vs' new h' tk led' F' N' tt ap t1 t2 hL hP' => ?_) fun n i qs txt hq hn' he te new h' tk led' F' N' tt ap t1 t2 => ?_
  · clear F9 N9
    have W' : LL h₀ L h' (new ++ led') Nl Pl vs ns vals ps := W.turns tt N' t1 t2
    obtain ⟨e1, ok⟩ := hR y i qs hy hq
    generalize new ++ led' = fs1 at *
    k_steps
    rename Fr _ _ h' _ => F2
    rename News _ _ h' _ => N2
    refine cut_call (s := { s with heap := _, toks := _ }) rfl isFn F2 G N2 (fun e h => nomatch h) (by omega) h0 (by omega) W'.pcs hk hn W'.pl (fun qs' e2 D vals' e new2 h2 tk2 F3 N3 hD hP2 ap2 fx2 => ?_) fun e2 => ?_
    · clear F2 N2
      rw [e1] at e2
      injection e2 with e2
      subst e2
      have W3 := W'.more N3
      refine ne_same (s := { s with heap := h2, toks := tk2 }) N3 (List.mem_append_right _ hL) (List.mem_append_left _ hD) (hP'.mono fun p hp => List.mem_append_right _ hp) hP2 ok (by show un + 64 < cLine; omega) ?_
      walk1
      rw [if_neg (by decide)]
      walk1
      exact ret _ _ _ F3 W3
    · rw [e1] at e2; cases e2
  · clear F9 N9
    have W' : LL h₀ L h' (new ++ led') Nl Pl vs ns vals ps := W.turns tt N' t1 t2
    obtain ⟨e1, rfl⟩ := hE y n i qs txt hy hq hn' he
    generalize new ++ led' = fs1 at *
    k_steps
    rename Fr _ _ h' _ => F2
    rename News _ _ h' _ => N2
    refine cut_call (s := { s with heap := _, toks := _ }) rfl isFn F2 G N2 (fun e h => nomatch h) (by omega) h0 (by omega) W'.pcs hk hn W'.pl (fun qs' e2 => ?_) fun e2 h2 tk2 tj F3 N3 => ?_
    · rw [e1] at e2; cases e2
    · clear F2 N2
      have W3 := W'.at N3
      walk1
      rw [show (eofTxt != Str.ofString "Expected \"'\" (at end of document)") = false from by decide +kernel]
      walk1
      rw [if_neg (by decide)]
      walk1
      exact ret _ _ _ F3 W3
end Mine
/-! La7 -/
namespace Mine
open PySem PySem.W PySem.Calls PySem.Spec PyProof.Rows
set_option Elab.async false
set_option maxRecDepth 100000
set_option maxHeartbeats 4000000
set_option linter.unusedVariables false
theorem fillLa7 : (PySem.Challenge.rw_mr0151_01, KK) = (PySem.Challenge.rw_mr0151_01, KK) := by k_fill; rfl
abbrev m6 (l Nl Pl : Addr) (src : Str) (t : Tok) (re : Int) (tr : Tok) (ro : Int) (to : Tok) (g : Int) (tg : Tok) (sg nm : Str) (ts tn : Tok) : Str → Option Value := fun q => if q = Str.ofString "name" then some (Value.str nm tn) else if q = Str.ofString "sign" then some (Value.str sg ts) else m5 l Nl Pl src t re tr ro to g tg q
/-- the four signs and their names -/
def SgNm (sg nm : Str) : Prop := ∃ c : Nat, (c = 0 ∨ c = 31 ∨ c = 127 ∨ c = 13) ∧ sg = ⟨#[c]⟩ ∧ nm = reprText ⟨#[c]⟩
theorem l_sign {w : World} {s : Shared} {dp un : Nat} {gd : Option (List Code)} {E : Value → Shared → Prop} {h₀ : Heap} {L : Addr} {mg mb : Str → Option Value} {mean : ExcName → Option Value} {loose : List Str} {fs : Led} {Q : Flow → Shared → Prop}
   {l Nl Pl : Addr} {vs vals : List Value} {ns : List Int} {ps : List (Str × Str)} {x : Str} {t tr to tg : Tok} {re ro g : Int}
   (F : Fr h₀ L s.heap (m5 l Nl Pl x t re tr ro to g tg)) (G : Gd w loose mean mg mb h₀) (W : LL h₀ L s.heap fs Nl Pl vs ns vals ps)
   (ret : ∀ sg nm ts tn h' tk, SgNm sg nm → Fr h₀ L h' (m6 l Nl Pl x t re tr ro to g tg sg nm ts tn) → LL h₀ L h' fs Nl Pl vs ns vals ps → Q .next { s with heap := h', toks := tk })
   : wpAny (model prog w) ⟨none, dp, some [env138 L], gd, un⟩ (exec (lst 7) (env138 L)) Q E s := by
  w_on
  have X := G.X
  have T := G.T
  have N := W.news
  delta env138
  conv in (lst _) => whnf
  k_steps
  have h4 : re.fmod 4 = 0 ∨ re.fmod 4 = 1 ∨ re.fmod 4 = 2 ∨ re.fmod 4 = 3 := by
    have h1 := Int.fmod_nonneg_of_pos re (show (0 : Int) < 4 by decide)
    have h2 := Int.fmod_lt_of_pos re (show (0 : Int) < 4 by decide)
    omega
  rcases h4 with h4 | h4 | h4 | h4
  · rw [h4]
    dsimp only
    k_steps
    rename Fr _ _ _ _ => F9
    rename News _ _ _ _ => N9
    exact ret _ _ _ _ _ _ ⟨0, by decide, by decide +kernel, by decide +kernel⟩ F9 (W.at fun p hp => N9 p (.tail _ (.tail _ (.tail _ (.tail _ (.tail _ hp))))))
  · rw [h4]
    dsimp only
    k_steps
    rename Fr _ _ _ _ => F9
    rename News _ _ _ _ => N9
    exact ret _ _ _ _ _ _ ⟨31, by decide, by decide +kernel, by decide +kernel⟩ F9 (W.at fun p hp => N9 p (.tail _ (.tail _ (.tail _ (.tail _ (.tail _ hp))))))
  · rw [h4]
    dsimp only
    k_steps
    rename Fr _ _ _ _ => F9
    rename News _ _ _ _ => N9
    exact ret _ _ _ _ _ _ ⟨127, by decide, by decide +kernel, by decide +kernel⟩ F9 (W.at fun p hp => N9 p (.tail _ (.tail _ (.tail _ (.tail _ (.tail _ hp))))))
  · rw [h4]
    dsimp only
    k_steps
    rename Fr _ _ _ _ => F9
    rename News _ _ _ _ => N9
    exact ret _ _ _ _ _ _ ⟨13, by decide, by decide +kernel, by decide +kernel⟩ F9 (W.at fun p hp => N9 p (.tail _ (.tail _ (.tail _ (.tail _ (.tail _ hp))))))
end Mine
/-! La8 -/
namespace Mine
open PySem PySem.W PySem.Calls PySem.Spec PyProof.Rows
set_option Elab.async false
set_option maxRecDepth 100000
set_option maxHeartbeats 4000000
set_option linter.unusedVariables false
theorem fillLa8 : (PySem.Challenge.rw_mr0151_01, KK) = (PySem.Challenge.rw_mr0151_01, KK) := by k_fill; rfl
theorem slice_from {x : Str} {j : Int} (h0 : 0 ≤ j) (h2 : j ≤ x.length) : (Txt.slice x (some j) none).cps.toList = x.cps.toList.drop j.toNat := by
  rw [eq_of_beq (slice_closes_fromL (b := x.length) h0 h2 rfl)]
  have e2 : x.cps.toList.length = x.length := rfl
  exact List.take_of_length_le (by rw [List.length_drop]; omega)
theorem sgnm_len {sg nm : Str} (h : SgNm sg nm) : nm.length ≤ 1000 := by
  obtain ⟨c, h1 | h1 | h1 | h1, _, rfl⟩ := h <;> subst h1 <;> decide +kernel
theorem l_last {w : World} {s : Shared} {dp un : Nat} {gd : Option (List Code)} {E : Value → Shared → Prop} {h₀ : Heap} {L : Addr} {mg mb : Str → Option Value} {mean : ExcName → Option Value} {loose : List Str} {fs : Led} {Q : Flow → Shared → Prop}
   {l Nl Pl : Addr} {vs vals : List Value} {ns : List Int} {ps : List (Str × Str)} {x sg nm : Str} {t tr to tg ts tn : Tok} {re ro g : Int} (hx : x.length ≤ 1000000) (hdp : dp + 7 < recursionLimit) (hun : un + 103 < cLine) (h0 : 0 ≤ g) (h1 : g ≤ x.length) (hsp : (spRun g ps).1 = x)
   (hk : ∀ p ∈ ps, Kds p.1 ∧ p.2.length ≤ 1000) (hn : ps.length ≤ 100) (hsg : SgNm sg nm)
   (hR : ∀ (y : Str) i qs, y.cps.toList = x.cps.toList.take g.toNat ++ sg.cps.toList ++ x.cps.toList.drop g.toNat → ¬ ReadTo y.cps.toList y.length i qs)
   (hE : ∀ (y : Str) n i qs txt, y.cps.toList = x.cps.toList.take g.toNat ++ sg.cps.toList ++ x.cps.toList.drop g.toNat → ReadTo y.cps.toList n i qs → n < y.length → StepErr y i txt → txt = spoilTxt (spRun g ps).2 nm ((spRun g ps).1.cps.toList.take g.toNat) g)
   (F : Fr h₀ L s.heap (m6 l Nl Pl x t re tr ro to g tg sg nm ts tn)) (G : Gd w loose mean mg mb h₀) (Z : FzOf prog w h₀ 36) (W : LL h₀ L s.heap fs Nl Pl vs ns vals ps)
   (ret : ∀ h' tk fs', Fr h₀ L h' (m6 l Nl Pl x t re tr ro to g tg sg nm ts tn) → LL h₀ L h' fs' Nl Pl vs ns vals ps → Q (.ret (.bool true)) { s with heap := h', toks := tk })
   : wpAny (model prog w) ⟨none, dp, some [env138 L], gd, un⟩ (exec (lst 8) (env138 L)) Q E s := by
  w_on
  have X := G.X
  have T := G.T
  have N := W.news
  have hsl : sg.length ≤ 1 := by obtain ⟨c, _, rfl, _⟩ := hsg; exact Nat.le_refl _
  delta env138
  conv in (lst _) => whnf
  k_steps
  rename Fr _ _ _ _ => F9
  rename News _ _ _ _ => N9
  have hy : (Txt.slice x none (some g) ++ sg ++ Txt.slice x (some g) none).cps.toList = x.cps.toList.take g.toNat ++ sg.cps.toList ++ x.cps.toList.drop g.toNat := by
    rw [Str.cps_append, Str.cps_append, Array.toList_append, Array.toList_append, slice_to h0 h1, slice_from h0 h1]
  generalize Txt.slice x none (some g) ++ sg ++ Txt.slice x (some g) none = y at hy ⊢
  have hyl : y.length ≤ 1048576 := by
    have e : y.cps.toList.length = y.length := rfl
    have e2 : x.cps.toList.length = x.length := rfl
    have e3 : sg.cps.toList.length = sg.length := rfl
    rw [← e, hy, List.length_append, List.length_append, List.length_take, List.length_drop]
    omega
  refine read_call (s := { s with heap := _, toks := _ }) rfl isFn F9 G Z N9 (fun e h => nomatch h) W.t79 W.t114 hdp hyl hun (fun i qs hq => absurd hq (hR y i qs hy)) fun n i qs txt hq hn' he te new h' tk led' F' N' tt ap t1 t2 => ?_
  clear F9 N9
  have W' : LL h₀ L h' (new ++ led') Nl Pl vs ns vals ps := W.turns tt N' t1 t2
  have et := hE y n i qs txt hy hq hn' he
  generalize new ++ led' = fs1 at *
  k_steps
  rename Fr _ _ h' _ => F2
  rename News _ _ h' _ => N2
  refine spoilt_call (s := { s with heap := _, toks := _ }) rfl isFn F2 G N2 (fun e h => nomatch h) (by omega) h0 (by rw [hsp]; exact h1) (sgnm_len hsg) W'.pcs hk hn W'.pl fun h2 tk2 tj F3 N3 => ?_
  clear F2 N2
  have W3 := W'.at N3
  rw [← et]
  walk1
  rw [show (txt == txt) = true from beq_self_eq_true txt]
  exact ret _ _ _ F3 W3
end Mine
/-! La9 -/
namespace Mine
open PySem PySem.W PySem.Calls PySem.Spec PyProof.Rows
set_option Elab.async false
set_option maxRecDepth 100000
set_option maxHeartbeats 4000000
set_option linter.unusedVariables false
theorem fillLa9 : (PySem.Challenge.rw_mr0151_01, KK) = (PySem.Challenge.rw_mr0151_01, KK) := by k_fill; rfl
/-- the plain law: what the reader answers -/
structure PlainLaw : Prop where
  whole : ∀ ps, Pieces ps → (∀ i qs, ReadTo (cat ps).cps.toList (cat ps).length i qs → qs = ps) ∧ (∀ n i qs txt, ReadTo (cat ps).cps.toList n i qs → n < (cat ps).length → ¬ StepErr (cat ps) i txt)
  part : ∀ ps r, Pieces ps → r ≤ (cat ps).length → ∀ y : Str, y.cps.toList = (cat ps).cps.toList.take r → (∀ i qs, ReadTo y.cps.toList y.length i qs → cutP ps [] r = .ps qs ∧ TxOk qs) ∧
    (∀ n i qs txt, ReadTo y.cps.toList n i qs → n < y.length → StepErr y i txt → cutP ps [] r = .msg ∧ txt = eofTxt)
  bad : ∀ ps (g : Int) sg nm, Pieces ps → 0 ≤ g → g ≤ (cat ps).length → SgNm sg nm → ∀ y : Str, y.cps.toList = (cat ps).cps.toList.take g.toNat ++ sg.cps.toList ++ (cat ps).cps.toList.drop g.toNat → (∀ i qs, ¬ ReadTo y.cps.toList y.length i qs) ∧
    (∀ n i qs txt, ReadTo y.cps.toList n i qs → n < y.length → StepErr y i txt → txt = spoilTxt (spRun g ps).2 nm ((spRun g ps).1.cps.toList.take g.toNat) g)
  run : ∀ ps (g : Int), (spRun g ps).1 = cat ps
theorem cat_len : ∀ {ps : List (Str × Str)}, (∀ p ∈ ps, Kds p.1 ∧ p.2.length ≤ 1000) → (cat ps).length ≤ 1002 * ps.length
  | [], _ => by show (Str.ofString "").length ≤ _; exact Nat.le_of_eq (by decide +kernel)
  | p :: ps, h => by
    have h1 := cat_len fun q hq => h q (.tail _ hq)
    obtain ⟨h2, h3⟩ := h p (.head _)
    have h4 := wtn_len2 (tx := p.2) h2
    show (wtn p.1 p.2 ++ cat ps).length ≤ _
    rw [Str.length_append, List.length_cons]
    omega
theorem Pieces.facts {ps : List (Str × Str)} (h : Pieces ps) : (∀ p ∈ ps, Kds p.1 ∧ p.2.length ≤ 1000) ∧ ps.length ≤ 12 ∧ TxOk ps := by
  obtain ⟨pi, rfl, hw⟩ := h.wf
  have hpok : ∀ p ∈ pi ++ [(kL, kC)], Pok p.1 p.2 ∧ p.2.length ≤ 31 := fun p hp => by
    rcases List.mem_append.mp hp with hp | hp
    · exact hw.ok p hp
    · rw [List.mem_singleton.mp hp]
      exact ⟨⟨.inr (.inl rfl), by unfold Sgs; decide +kernel, fun q => absurd q (by decide)⟩, by decide +kernel⟩
  refine ⟨fun p hp => ⟨(hpok p hp).1.1, Nat.le_trans (hpok p hp).2 (by decide)⟩, by have := hw.len; simp; omega, fun p hp => ?_⟩
  obtain ⟨⟨h1, h2, _⟩, _⟩ := hpok p hp
  refine ⟨by rcases h1 with h1 | h1 | h1 <;> rw [h1] <;> decide +kernel, ?_⟩
  unfold PyData.strOk
  rw [Array.all_eq_true']
  intro c hc
  have h3 := h2 c (Array.mem_toList_iff.mpr hc)
  rcases h1 with h1 | h1 | h1 <;> rw [h1] at h3
  · exact (by decide +kernel : ∀ c ∈ (sgs (Str.ofString "#")).cps.toList, decide (c < 0x110000) = true) c h3
  · exact (by decide +kernel : ∀ c ∈ (sgs (Str.ofString "'")).cps.toList, decide (c < 0x110000) = true) c h3
  · exact (by decide +kernel : ∀ c ∈ (sgs (Str.ofString "")).cps.toList, decide (c < 0x110000) = true) c h3
theorem law_body {w : World} {s : Shared} {dp un : Nat} {gd : Option (List Code)} {E : Value → Shared → Prop} {h₀ : Heap} {L : Addr} {mg mb : Str → Option Value} {mean : ExcName → Option Value} {loose : List Str} {fs : Led} {Q : Flow → Shared → Prop}
   (H : PlainLaw) {l : Addr} {vs : List Value} {ns : List Int} (hl : h₀.IsList l vs.toArray) (hI : IntsAre vs ns) (hlen : ns.length ≤ 63) (hdp : dp + 7 < recursionLimit) (hun : un + 103 < cLine)
   (F : Fr h₀ L s.heap (loc138 l)) (G : Gd w loose mean mg mb h₀) (Z : FzOf prog w h₀ 36) (N : News h₀ L s.heap fs) (h79 : TabOk 79 qCr (posOf stCr) fs) (h114 : TabOk 114 qLam lamPos fs)
   (ret : ∀ h' tk m' fs', Fr h₀ L h' m' → News h₀ L h' fs' → TabOk 79 qCr (posOf stCr) fs' → TabOk 114 qLam lamPos fs' → Q (.ret (.bool true)) { s with heap := h', toks := tk })
   : wpAny (model prog w) ⟨none, dp, some [env138 L], gd, un⟩ (execs (bodyOf (stAt 21)) (env138 L)) Q E s := by
  rw [lawBody_is]
  refine wpAny_execs_cons (l_numbers hl hI hlen F G N fun Nl vs1 ns1 k h1 tk1 hI1 hb1 hl1 F1 N1 ap1 => ?_)
  dsimp only
  refine wpAny_execs_cons (l_pieces (s := { s with heap := h1, toks := tk1 }) hI1 hb1 hl1 (.head _) (by omega) F1 G N1 (fun e h => nomatch h) fun ps hps Pl vals new h2 tk2 F2 N2 hPl hP ap2 fx2 => ?_)
  dsimp only
  obtain ⟨hk, hn, hok⟩ := hps.facts
  refine wpAny_execs_cons (l_src (s := { s with heap := h2, toks := tk2 }) hP hk (by omega) (by omega) F2 G N2 (List.mem_append_left _ hPl) fun t3 h3 tk3 F3 N3 => ?_)
  dsimp only
  have hx := cat_len hk
  have W3 : LL h₀ L h3 (new ++ (Nl, listOf vs1.toArray k) :: fs) Nl Pl vs1 ns1 vals ps := ⟨N3, h79.mono fun p hp => List.mem_append_right _ (.tail _ hp), h114.mono fun p hp => List.mem_append_right _ (.tail _ hp), hP, List.mem_append_left _ hPl, ⟨k, List.mem_append_right _ (.head _)⟩, hI1⟩
  obtain ⟨hw1, hw2⟩ := H.whole ps hps
  refine wpAny_execs_cons (l_read (s := { s with heap := h3, toks := tk3 }) (by omega) hdp hun hok hw1 hw2 F3 G Z W3 fun h4 tk4 fs4 F4 W4 => ?_)
  dsimp only
  refine wpAny_execs_cons (l_div (s := { s with heap := h4, toks := tk4 }) (by omega) hb1 hl1 F4 G W4 fun re5 tr5 ro5 to5 h5 tk5 fs5 b1 b2 b3 b4 F5 W5 => ?_)
  dsimp only
  refine wpAny_execs_cons (l_div2 (s := { s with heap := h5, toks := tk5 }) (by omega) b3 b4 F5 G W5 fun re6 tr6 g6 tg6 h6 tk6 c1 c2 c3 c4 F6 W6 => ?_)
  dsimp only
  have hp := fun (y : Str) hy => H.part ps ro5.toNat hps (by omega) y hy
  refine wpAny_execs_cons (l_cut (s := { s with heap := h6, toks := tk6 }) (by omega) hdp hun b1 b2 hk (by omega) (fun y i qs hy => (hp y hy).1 i qs) (fun y n i qs txt hy => (hp y hy).2 n i qs txt) F6 G Z W6 fun h7 tk7 fs7 F7 W7 => ?_)
  dsimp only
  refine wpAny_execs_cons ?_
  refine @l_sign w { s with heap := h7, toks := tk7 } dp un gd E h₀ L mg mb mean loose fs7 _ l Nl Pl vs1 vals ns1 ps (cat ps) t3 tr6 to5 tg6 re6 ro5 g6 F7 G W7 ?_
  intro sg nm ts tn h8 tk8 hsg F8 W8
  dsimp only
  have hb := H.bad ps g6 sg nm hps c1 c2 hsg
  refine wpAny_execs_cons (l_last (s := { s with heap := h8, toks := tk8 }) (by omega) hdp hun c1 c2 (H.run ps g6) hk (by omega) hsg (fun y i qs hy => (hb y hy).1 i qs) (fun y n i qs txt hy => (hb y hy).2 n i qs txt) F8 G Z W8 fun h9 tk9 fs9 F9 W9 => ?_)
  exact ret _ _ _ _ F9 W9.news W9.t79 W9.t114
theorem lawWp_of (H : PlainLaw) : LawWp := by
  intro w s h₀ mg mb mean l vs ns G Z h79 h114 hsz keep k79 k114 hl hI hlen
  have G' := G.keeps keep
  refine wpAny_call (codeAny_call_def (fd := fdAt 21 "law" .none (vS "law_mr0151_01" 421) 137) (binds := [(Str.ofString "script", .ref l)]) (by decide +kernel) (G'.X 138 o138 rfl) rfl G'.T.nolimit ⟨137, _, _, _, rfl, G'.X 137 (o137 _) rfl, rfl, rfl⟩ rfl (BindsTo.of_eq rfl) (by decide +kernel) (locs rfl) (fun h₁ hns hk₁ => ?_) rfl rfl rfl)
  have lt : ∀ {b : Addr} {o : Obj}, s.heap.get? b = some o → b ≠ s.heap.objs.size := fun e => Nat.ne_of_lt (Heap.lt_size e)
  refine law_body (s := { s with heap := h₁, toks := _ }) (dp := 302) (un := 7) (gd := some []) (L := s.heap.objs.size) (fs := [(79, tabObj #[]), (114, tabObj #[])]) H (l := l) (vs := vs.toList) (by rw [Array.toArray_toList]; exact hl) hI hlen (by decide +kernel) (by decide +kernel) ⟨hns, fun b o e => hk₁ b o (keep b o e), hsz⟩ G Z (fun p hp => ?_) ⟨_, .head _, .inl rfl⟩ ⟨_, .tail _ (.head _), .inl rfl⟩ fun h' tk m' fs' F' N' t1 t2 => ?_
  · simp only [List.mem_cons, List.not_mem_nil, or_false] at hp
    rcases hp with rfl | rfl
    · exact ⟨hk₁ _ _ k79, lt k79, h79⟩
    · exact ⟨hk₁ _ _ k114, lt k114, h114⟩
  · obtain ⟨p1, q1, _⟩ := t1
    obtain ⟨p2, q2, _⟩ := t2
    exact ⟨rfl, F'.keep, ⟨p1, (N' _ q1).1⟩, ⟨p2, (N' _ q2).1⟩, rfl, rfl⟩
end Mine
/-! Pl1 -/
namespace Mine
open PySem PySem.W PySem.Calls PySem.Spec PyProof.Rows
set_option Elab.async false
set_option maxRecDepth 100000
set_option maxHeartbeats 4000000
set_option linter.unusedVariables false
theorem nextTo_one {l : List Nat} {i c k k' : Nat} (h : nextTo l i c k) (h' : nextTo l i c k') : k = k' := by
  obtain ⟨a1, a2, a3⟩ := h
  obtain ⟨b1, b2, b3⟩ := h'
  rcases Nat.lt_trichotomy k k' with q | q | q
  · rcases a2 with a2 | ⟨a2, a4⟩
    · exact absurd a2 (b3 k a1 q)
    · rcases b2 with b2 | ⟨b2, _⟩
      · exact absurd b2 (a4 k' b1)
      · omega
  · exact q
  · rcases b2 with b2 | ⟨b2, b4⟩
    · exact absurd b2 (a3 k' b1 q)
    · rcases a2 with a2 | ⟨a2, _⟩
      · exact absurd a2 (b4 k a1)
      · omega
theorem StepTo.one {l : List Nat} {i j j' : Nat} {kd kd' tx tx' : Str} (h : StepTo l i j kd tx) (h' : StepTo l i j' kd' tx') : j = j' ∧ kd = kd' ∧ tx = tx' := by
  rcases h with ⟨a1, k, a2, a3, a4, rfl, rfl, rfl⟩ | ⟨a1, k, a2, a3, a4, rfl, rfl, rfl⟩ | ⟨a, a1, a2, a3, rfl, a4, rfl, rfl⟩ <;>
  rcases h' with ⟨b1, k', b2, b3, b4, rfl, rfl, rfl⟩ | ⟨b1, k', b2, b3, b4, rfl, rfl, rfl⟩ | ⟨b, b1, b2, b3, rfl, b4, rfl, rfl⟩
  · cases nextTo_one a2 b2; exact ⟨rfl, rfl, rfl⟩
  · rw [a1] at b1; cases b1
  · rw [a1] at b1; cases b1; exact absurd rfl b2
  · rw [a1] at b1; cases b1
  · cases nextTo_one a2 b2; exact ⟨rfl, rfl, rfl⟩
  · rw [a1] at b1; cases b1; exact absurd rfl b3
  · rw [a1] at b1; cases b1; exact absurd rfl a2
  · rw [a1] at b1; cases b1; exact absurd rfl a3
  · exact ⟨rfl, rfl, rfl⟩
theorem no_ill {l : List Nat} {i k p a : Nat} (h : ((l.drop i).take (k - i)).any ill = false) (h1 : i ≤ p) (h2 : p < k) (h3 : l[p]? = some a) : ill a = false := by
  rw [List.any_eq_false] at h
  have : a ∈ (l.drop i).take (k - i) := by
    refine List.mem_of_getElem? (i := p - i) ?_
    rw [List.getElem?_take_of_lt (by omega), List.getElem?_drop, show i + (p - i) = p by omega, h3]
  have := h a this
  simpa using this
theorem StepTo.noErr {x : Str} {i j : Nat} {kd tx txt : Str} (h : StepTo x.cps.toList i j kd tx) : ¬ StepErr x i txt := by
  intro h'
  rcases h with ⟨a1, k, a2, a3, a4, rfl, rfl, rfl⟩ | ⟨a1, k, a2, a3, a4, rfl, rfl, rfl⟩ | ⟨a, a1, a2, a3, rfl, a4, rfl, rfl⟩ <;>
  rcases h' with ⟨b1, b2⟩ | ⟨b1, b2⟩ | ⟨b, b1, b2, b3, b4, rfl⟩
  · rcases b2 with ⟨b2, _⟩ | ⟨k', p, a, b2, _, b3, b4, b5, b6, _⟩
    · cases b2
    · cases nextTo_one a2 b2
      rw [no_ill a4 b3 b4 b5] at b6; cases b6
  · rw [a1] at b1; cases b1
  · rw [a1] at b1; cases b1; exact absurd rfl b2
  · rw [a1] at b1; cases b1
  · rcases b2 with ⟨_, b2, _⟩ | ⟨k', p, a, b2, _, b3, b4, b5, b6, _⟩
    · exact absurd a3 (b2 k a2.1)
    · cases nextTo_one a2 b2
      rw [no_ill a4 b3 b4 b5] at b6; cases b6
  · rw [a1] at b1; cases b1; exact absurd rfl b3
  · rw [a1] at b1; cases b1; exact absurd rfl a2
  · rw [a1] at b1; cases b1; exact absurd rfl a3
  · rw [b4] at a4; exact absurd rfl a4
theorem UErr.one {x : Str} {c i : Nat} {b : Bool} {txt txt' : Str} (h : UErr x c i b txt) (h' : UErr x c i b txt') : txt = txt' := by
  rcases h with ⟨a1, a2, rfl⟩ | ⟨k, p, a, a1, a2, a3, a4, a5, a6, a7, rfl⟩ <;> rcases h' with ⟨b1, b2, rfl⟩ | ⟨k', p', a', b1, b2, b3, b4, b5, b6, b7, rfl⟩
  · rfl
  · exact absurd (b2 a1) (a2 k' b1.1)
  · exact absurd (a2 b1) (b2 k a1.1)
  · rcases Nat.lt_trichotomy p p' with q | q | q
    · rw [b7 p a3 q a a5] at a6; cases a6
    · subst q
      rw [a5] at b5; cases b5; rfl
    · rw [a7 p' b3 q a' b5] at b6; cases b6
theorem StepErr.one {x : Str} {i : Nat} {txt txt' : Str} (h : StepErr x i txt) (h' : StepErr x i txt') : txt = txt' := by
  rcases h with ⟨a1, a2⟩ | ⟨a1, a2⟩ | ⟨a, a1, a2, a3, a4, rfl⟩ <;> rcases h' with ⟨b1, b2⟩ | ⟨b1, b2⟩ | ⟨b, b1, b2, b3, b4, rfl⟩
  · exact a2.one b2
  · rw [a1] at b1; cases b1
  · rw [a1] at b1; cases b1; exact absurd rfl b2
  · rw [a1] at b1; cases b1
  · exact a2.one b2
  · rw [a1] at b1; cases b1; exact absurd rfl b3
  · rw [a1] at b1; cases b1; exact absurd rfl a2
  · rw [a1] at b1; cases b1; exact absurd rfl a3
  · rfl
/-- steps one after another -/
inductive Run (l : List Nat) : Nat → List (Str × Str) → Prop
  | nil : Run l 0 []
  | snoc {i j : Nat} {ps : List (Str × Str)} {p : Str × Str} : Run l i ps → StepTo l i j p.1 p.2 → Run l j (ps ++ [p])
theorem StepTo.more {l : List Nat} {i j : Nat} {kd tx : Str} (h : StepTo l i j kd tx) : i < j ∧ i < l.length := by
  refine ⟨?_, h.bounds.1⟩
  rcases h with ⟨_, k, h2, _, _, rfl, _⟩ | ⟨_, k, h2, _, _, rfl, _⟩ | ⟨a, _, _, _, rfl, h, _⟩
  · have := h2.1; omega
  · have := h2.1; omega
  · omega
theorem Run.len {l : List Nat} {j : Nat} {ps : List (Str × Str)} (h : Run l j ps) : ps.length ≤ j ∧ ps.length ≤ l.length := by
  induction h with
  | nil => exact ⟨Nat.le_refl _, Nat.zero_le _⟩
  | snoc h s ih => have := s.more; simp only [List.length_append, List.length_cons, List.length_nil]; omega
theorem Run.same {l : List Nat} : ∀ {n j j' : Nat} {ps ps' : List (Str × Str)}, Run l j ps → Run l j' ps' → ps.length = n → ps'.length = n → j = j' ∧ ps = ps'
  | n, _, _, _, _, .nil, .nil, _, _ => ⟨rfl, rfl⟩
  | n, _, _, _, _, .nil, .snoc _ _, h1, h2 => by simp at h1 h2; omega
  | n, _, _, _, _, .snoc _ _, .nil, h1, h2 => by simp at h1 h2; omega
  | 0, _, _, _, _, .snoc _ _, .snoc _ _, h1, h2 => by simp at h1
  | n + 1, _, _, _, _, .snoc (p := p) a s, .snoc (p := p') b s', h1, h2 => by
    obtain ⟨rfl, rfl⟩ := Run.same (n := n) a b (by simpa using h1) (by simpa using h2)
    obtain ⟨rfl, e1, e2⟩ := s.one s'
    exact ⟨rfl, by rw [Prod.ext e1 e2]⟩
/-- a shorter run steps on -/
theorem Run.next {l : List Nat} {j i : Nat} {ps qs : List (Str × Str)} (h : Run l j ps) : Run l i qs → qs.length < ps.length → ∃ (k : Nat) (p : Str × Str), StepTo l i k p.1 p.2 := by
  induction h with
  | nil => intro _ h; exact absurd h (Nat.not_lt_zero _)
  | @snoc i' j ps p h s ih =>
    intro hq hl
    simp only [List.length_append, List.length_cons, List.length_nil] at hl
    by_cases q : qs.length = ps.length
    · obtain ⟨rfl, rfl⟩ := hq.same h rfl q.symm
      exact ⟨j, p, s⟩
    · exact ih hq (by omega)
theorem ReadTo.run {l : List Nat} {n i : Nat} {qs : List (Str × Str)} (h : ReadTo l n i qs) : Run l i qs ∧ (qs.length = n ∨ l.length ≤ i) := by
  induction h with
  | zero => exact ⟨.nil, .inl rfl⟩
  | stay h hl ih => exact ⟨ih.1, .inr hl⟩
  | @step n i j ps kd tx h s ih =>
    refine ⟨.snoc (p := (kd, tx)) ih.1 s, ?_⟩
    rcases ih.2 with q | q
    · exact .inl (by simp [q])
    · exact absurd s.more.2 (by omega)
theorem run_done {x : Str} {j : Nat} {ps : List (Str × Str)} (h : Run x.cps.toList j ps) (hj : x.length ≤ j) :
    (∀ i qs, ReadTo x.cps.toList x.length i qs → qs = ps) ∧ ∀ n i qs txt, ReadTo x.cps.toList n i qs → n < x.length → ¬ StepErr x i txt := by
  have e : x.cps.toList.length = x.length := rfl
  refine ⟨fun i qs hq => ?_, fun n i qs txt hq hn he => ?_⟩
  · obtain ⟨r, hl⟩ := hq.run
    rcases Nat.lt_trichotomy qs.length ps.length with q | q | q
    · obtain ⟨k, p, s⟩ := h.next r q
      have := s.more.2
      have := h.len.2
      rcases hl with hl | hl <;> omega
    · exact (r.same h q rfl).2
    · obtain ⟨k, p, s⟩ := r.next h q
      have := s.more.2
      omega
  · obtain ⟨r, hl⟩ := hq.run
    rcases Nat.lt_trichotomy qs.length ps.length with q | q | q
    · obtain ⟨k, p, s⟩ := h.next r q
      exact s.noErr he
    · obtain ⟨rfl, rfl⟩ := r.same h q rfl
      have : ∃ a, x.cps.toList[i]? = some a := by
        rcases he with ⟨a1, _⟩ | ⟨a1, _⟩ | ⟨a, a1, _⟩ <;> exact ⟨_, a1⟩
      obtain ⟨a, ha⟩ := this
      have := (List.getElem?_eq_some_iff.mp ha).1
      omega
    · obtain ⟨k, p, s⟩ := r.next h q
      have := s.more.2
      omega
theorem run_err {x : Str} {j : Nat} {ps : List (Str × Str)} {txt0 : Str} (h : Run x.cps.toList j ps) (hj : StepErr x j txt0) :
    (∀ i qs, ¬ ReadTo x.cps.toList x.length i qs) ∧ ∀ n i qs txt, ReadTo x.cps.toList n i qs → n < x.length → StepErr x i txt → txt = txt0 := by
  have e : x.cps.toList.length = x.length := rfl
  have hjl : j < x.length := by
    have : ∃ a, x.cps.toList[j]? = some a := by
      rcases hj with ⟨a1, _⟩ | ⟨a1, _⟩ | ⟨a, a1, _⟩ <;> exact ⟨_, a1⟩
    obtain ⟨a, ha⟩ := this
    exact (List.getElem?_eq_some_iff.mp ha).1
  refine ⟨fun i qs hq => ?_, fun n i qs txt hq hn he => ?_⟩
  · obtain ⟨r, hl⟩ := hq.run
    rcases Nat.lt_trichotomy qs.length ps.length with q | q | q
    · obtain ⟨k, p, s⟩ := h.next r q
      have := s.more.2
      have := h.len.2
      rcases hl with hl | hl <;> omega
    · obtain ⟨rfl, rfl⟩ := r.same h q rfl
      have := h.len.1
      rcases hl with hl | hl <;> omega
    · obtain ⟨k, p, s⟩ := r.next h q
      exact s.noErr hj
  · obtain ⟨r, hl⟩ := hq.run
    rcases Nat.lt_trichotomy qs.length ps.length with q | q | q
    · obtain ⟨k, p, s⟩ := h.next r q
      exact absurd he s.noErr
    · obtain ⟨rfl, rfl⟩ := r.same h q rfl
      exact he.one hj
    · obtain ⟨k, p, s⟩ := r.next h q
      exact absurd hj s.noErr
end Mine
/-! Pl2 -/
namespace Mine
open PySem PySem.W PySem.Calls PySem.Spec PyProof.Rows
set_option Elab.async false
set_option maxRecDepth 100000
set_option maxHeartbeats 4000000
set_option linter.unusedVariables false
theorem mid_at {a t r : List Nat} {j : Nat} (h : a.length ≤ j) (h2 : j < a.length + t.length) : ∃ d, (a ++ t ++ r)[j]? = some d ∧ d ∈ t := by
  have hj : j - a.length < t.length := by omega
  refine ⟨t[j - a.length], ?_, List.getElem_mem hj⟩
  rw [List.append_assoc, List.getElem?_append_right h, List.getElem?_append_left hj, List.getElem?_eq_getElem hj]
theorem behind_at {a t r : List Nat} {j : Nat} (h : a.length + t.length ≤ j) : (a ++ t ++ r)[j]? = r[j - (a.length + t.length)]? := by
  rw [List.getElem?_append_right (by rw [List.length_append]; exact h), List.length_append]
theorem next_at {a t r : List Nat} {c : Nat} (h : c ∉ t) : nextTo (a ++ t ++ c :: r) a.length c (a.length + t.length) := by
  refine ⟨by omega, .inl ?_, fun j h1 h2 q => ?_⟩
  · rw [behind_at (Nat.le_refl _)]; simp
  · obtain ⟨d, e, hd⟩ := mid_at (r := c :: r) h1 h2
    rw [e] at q; cases q; exact h hd
theorem nextTo_end {a t : List Nat} {c : Nat} (h : c ∉ t) : nextTo (a ++ t) a.length c (a.length + t.length) := by
  have key : ∀ j, a.length ≤ j → (a ++ t)[j]? ≠ some c := fun j h1 q => by
    by_cases h2 : j < a.length + t.length
    · obtain ⟨d, e, hd⟩ := mid_at (r := []) h1 h2
      rw [List.append_nil] at e
      rw [e] at q; cases q; exact h hd
    · rw [List.getElem?_eq_none_iff.mpr (by rw [List.length_append]; omega)] at q; cases q
  exact ⟨by omega, .inr ⟨by rw [List.length_append], key⟩, fun j h1 _ => key j h1⟩
theorem mid_take {a t r : List Nat} : ((a ++ t ++ r).drop a.length).take (a.length + t.length - a.length) = t := by
  rw [List.append_assoc, List.drop_left, Nat.add_sub_cancel_left, List.take_left]
theorem mid_cut {a t r : List Nat} : cut (a ++ t ++ r) a.length (a.length + t.length) = ⟨t.toArray⟩ := by
  unfold cut; rw [mid_take]
theorem first_at {a r : List Nat} {c : Nat} : (a ++ c :: r)[a.length]? = some c := by simp
theorem any_ill {t : List Nat} (h : ∀ c ∈ t, ill c = false) : t.any ill = false := by
  rw [List.any_eq_false]; intro c hc; rw [h c hc]; exact Bool.false_ne_true
/-- a comment and its line's end -/
theorem step_c {a t r : List Nat} (h : ∀ c ∈ t, ill c = false) (h2 : 10 ∉ t) : StepTo (a ++ (35 :: t ++ [10]) ++ r) a.length (a.length + t.length + 2) (Str.ofString "#") ⟨t.toArray⟩ := by
  have e : a ++ (35 :: t ++ [10]) ++ r = (a ++ [35]) ++ t ++ 10 :: r := by simp
  have el : (a ++ [35]).length = a.length + 1 := by simp
  have hn := next_at (a := a ++ [35]) (r := r) h2
  have ht := mid_take (a := a ++ [35]) (t := t) (r := 10 :: r)
  have hc := mid_cut (a := a ++ [35]) (t := t) (r := 10 :: r)
  rw [el] at hn ht hc
  rw [e]
  refine .inl ⟨by simp, a.length + 1 + t.length, hn, by simp; omega, by rw [ht]; exact any_ill h, by omega, rfl, hc.symm⟩
/-- a comment up to the end -/
theorem step_c0 {a t : List Nat} (h : ∀ c ∈ t, ill c = false) (h2 : 10 ∉ t) : StepTo (a ++ 35 :: t) a.length (a.length + t.length + 2) (Str.ofString "#") ⟨t.toArray⟩ := by
  have e : a ++ 35 :: t = (a ++ [35]) ++ t := by simp
  have el : (a ++ [35]).length = a.length + 1 := by simp
  have hn := nextTo_end (a := a ++ [35]) h2
  have ht := mid_take (a := a ++ [35]) (t := t) (r := [])
  have hc := mid_cut (a := a ++ [35]) (t := t) (r := [])
  rw [el] at hn ht hc
  rw [List.append_nil] at ht hc
  rw [e]
  refine .inl ⟨by simp, a.length + 1 + t.length, hn, by simp; omega, by rw [ht]; exact any_ill h, by omega, rfl, hc.symm⟩
/-- a literal -/
theorem step_l {a t r : List Nat} (h : ∀ c ∈ t, ill c = false) (h2 : 39 ∉ t) : StepTo (a ++ (39 :: t ++ [39]) ++ r) a.length (a.length + t.length + 2) (Str.ofString "'") ⟨t.toArray⟩ := by
  have e : a ++ (39 :: t ++ [39]) ++ r = (a ++ [39]) ++ t ++ 39 :: r := by simp
  have el : (a ++ [39]).length = a.length + 1 := by simp
  have hn := next_at (a := a ++ [39]) (r := r) h2
  have ht := mid_take (a := a ++ [39]) (t := t) (r := 39 :: r)
  have hc := mid_cut (a := a ++ [39]) (t := t) (r := 39 :: r)
  have hb := behind_at (a := a ++ [39]) (t := t) (r := 39 :: r) (Nat.le_refl _)
  rw [el] at hn ht hc hb
  rw [e]
  refine .inr (.inl ⟨by simp, a.length + 1 + t.length, hn, by rw [hb]; simp, by rw [ht]; exact any_ill h, by omega, rfl, hc.symm⟩)
theorem run_mid {t r : List Nat} (h : ∀ c ∈ t, c ∈ wsL) (hr : ∀ c, r.head? = some c → c ∉ wsL) : runOf wsL (t ++ r) = t.length := by
  induction t with
  | nil =>
    cases r with
    | nil => rfl
    | cons c r => exact runOf_out (hr c rfl)
  | cons c t ih =>
    rw [List.cons_append, runOf_in (h c (.head _)), ih fun d hd => h d (.tail _ hd)]; rfl
/-- blanks -/
theorem step_e {a t r : List Nat} (h : ∀ c ∈ t, c ∈ wsL) (h1 : t ≠ []) (hr : ∀ c, r.head? = some c → c ∉ wsL) : StepTo (a ++ t ++ r) a.length (a.length + t.length) (Str.ofString "") ⟨t.toArray⟩ := by
  cases t with
  | nil => exact absurd rfl h1
  | cons c t =>
    have hc := h c (.head _)
    have n1 : c ≠ 35 := fun q => by subst q; revert hc; decide
    have n2 : c ≠ 39 := fun q => by subst q; revert hc; decide
    refine .inr (.inr ⟨c, by simp, n1, n2, ?_, by simp, rfl, mid_cut.symm⟩)
    rw [List.append_assoc, List.drop_left, run_mid h hr]
end Mine
/-! Pl3 -/
namespace Mine
open PySem PySem.W PySem.Calls PySem.Spec PyProof.Rows
set_option Elab.async false
set_option maxRecDepth 100000
set_option maxHeartbeats 4000000
set_option linter.unusedVariables false
/-- the signs of a written piece, of a text -/
abbrev wl (p : Str × Str) : List Nat := (wtn p.1 p.2).cps.toList
abbrev cl (ps : List (Str × Str)) : List Nat := (cat ps).cps.toList
theorem wl_c {tx : Str} : wl (kC, tx) = 35 :: tx.cps.toList ++ [10] := by
  show (wtn kC tx).cps.toList = _
  rw [wtn_c, Str.cps_append, Str.cps_append, Array.toList_append, Array.toList_append]; rfl
theorem wl_l {tx : Str} : wl (kL, tx) = 39 :: tx.cps.toList ++ [39] := by
  show (wtn kL tx).cps.toList = _
  rw [wtn_l, Str.cps_append, Str.cps_append, Array.toList_append, Array.toList_append]; rfl
theorem wl_e {tx : Str} : wl (kE, tx) = tx.cps.toList := by
  show (wtn kE tx).cps.toList = _
  rw [wtn_e, Str.cps_append, Str.cps_append, Array.toList_append, Array.toList_append, show (Str.ofString "").cps.toList = [] from by decide +kernel]; simp
theorem cl_cons {p : Str × Str} {r : List (Str × Str)} : cl (p :: r) = wl p ++ cl r := by
  show (wtn p.1 p.2 ++ cat r).cps.toList = _
  rw [Str.cps_append, Array.toList_append]
theorem str_of (x : Str) : (⟨x.cps.toList.toArray⟩ : Str) = x := by cases x; simp
theorem sg_c {tx : Str} (h : Sgs kC tx) : (∀ c ∈ tx.cps.toList, ill c = false) ∧ 10 ∉ tx.cps.toList :=
  ⟨fun c hc => (by decide +kernel : ∀ c ∈ (sgs kC).cps.toList, ill c = false) c (h c hc), fun q => absurd (h _ q) (by decide +kernel)⟩
theorem sg_l {tx : Str} (h : Sgs kL tx) : (∀ c ∈ tx.cps.toList, ill c = false) ∧ 39 ∉ tx.cps.toList :=
  ⟨fun c hc => (by decide +kernel : ∀ c ∈ (sgs kL).cps.toList, ill c = false) c (h c hc), fun q => absurd (h _ q) (by decide +kernel)⟩
theorem sg_e {tx : Str} (h : Sgs kE tx) : ∀ c ∈ tx.cps.toList, c ∈ wsL :=
  fun c hc => (by decide +kernel : ∀ c ∈ (sgs kE).cps.toList, c ∈ wsL) c (h c hc)
theorem step_of {pre rest : List Nat} {p : Str × Str} (hp : Pok p.1 p.2) (hr : p.1 = kE → ∀ c, rest.head? = some c → c ∉ wsL) : StepTo (pre ++ wl p ++ rest) pre.length (pre.length + (wl p).length) p.1 p.2 := by
  obtain ⟨kd, tx⟩ := p
  obtain ⟨h1, h2, h3⟩ := hp
  dsimp only at h1 h2 h3 hr
  rcases h1 with rfl | rfl | rfl
  · have h := step_c (a := pre) (r := rest) (sg_c h2).1 (sg_c h2).2
    rw [str_of] at h
    rw [wl_c]
    simpa [Nat.add_assoc] using h
  · have h := step_l (a := pre) (r := rest) (sg_l h2).1 (sg_l h2).2
    rw [str_of] at h
    rw [wl_l]
    simpa [Nat.add_assoc] using h
  · have h := step_e (a := pre) (r := rest) (sg_e h2) (fun q => by
      have := h3 rfl
      have e : tx.cps.toList.length = tx.length := rfl
      rw [q] at e; simp at e; omega) (hr rfl)
    rw [str_of] at h
    rw [wl_e]
    exact h
theorem head_ok {p : Str × Str} {r : List (Str × Str)} (ha : Alt (p :: r)) (hk : ∀ q ∈ r, Pok q.1 q.2) (h : p.1 = kE) : ∀ c, (cl r).head? = some c → c ∉ wsL := by
  intro c hc
  cases r with
  | nil => rw [show cl [] = [] from by decide +kernel] at hc; cases hc
  | cons q r =>
    have hq := hk q (.head _)
    have hn : q.1 ≠ kE := fun e => ha.1 ⟨h, e⟩
    rw [cl_cons] at hc
    obtain ⟨kd, tx⟩ := q
    rcases hq.1 with e | e | e
    · dsimp only at e; subst e; rw [wl_c] at hc; cases hc; decide
    · dsimp only at e; subst e; rw [wl_l] at hc; cases hc; decide
    · exact absurd e hn
end Mine
/-! Pl4 -/
namespace Mine
open PySem PySem.W PySem.Calls PySem.Spec PyProof.Rows
set_option Elab.async false
set_option maxRecDepth 100000
set_option maxHeartbeats 4000000
set_option linter.unusedVariables false
theorem alt_tail {p : Str × Str} {r : List (Str × Str)} (h : Alt (p :: r)) : Alt r := by
  cases r with
  | nil => trivial
  | cons q r => exact h.2
theorem eof_txt {y : Str} : errText y (expMsg 39) y.length = eofTxt := by
  unfold errText coordS
  rw [if_pos (Int.le_refl _)]
  decide +kernel
theorem ok_text {ks : Str} {t : List Nat} (h1 : PyData.strOk ks = true) (h : ∀ c ∈ t, c < 0x110000) : PyData.strOk (⟨t.toArray⟩ : Str) = true := by
  unfold PyData.strOk
  rw [Array.all_eq_true']
  intro c hc
  exact decide_eq_true (h c (by simpa using hc))
theorem Pok.small {p : Str × Str} (h : Pok p.1 p.2) : PyData.strOk p.1 = true ∧ ∀ c ∈ p.2.cps.toList, c < 0x110000 := by
  obtain ⟨h1, h2, _⟩ := h
  refine ⟨by rcases h1 with h1 | h1 | h1 <;> rw [h1] <;> decide +kernel, fun c hc => ?_⟩
  have h3 := h2 c hc
  rcases h1 with h1 | h1 | h1 <;> rw [h1] at h3
  · exact (by decide +kernel : ∀ c ∈ (sgs (Str.ofString "#")).cps.toList, c < 0x110000) c h3
  · exact (by decide +kernel : ∀ c ∈ (sgs (Str.ofString "'")).cps.toList, c < 0x110000) c h3
  · exact (by decide +kernel : ∀ c ∈ (sgs (Str.ofString "")).cps.toList, c < 0x110000) c h3
theorem TxOk.snoc {d : List (Str × Str)} {p : Str × Str} (h : TxOk d) (h1 : PyData.strOk p.1 = true) (h2 : PyData.strOk p.2 = true) : TxOk (d ++ [p]) := fun q hq => by
  rcases List.mem_append.mp hq with hq | hq
  · exact h q hq
  · rw [List.mem_singleton.mp hq]; exact ⟨h1, h2⟩
theorem part_gen {y : Str} : ∀ (qs : List (Str × Str)) (pre : List Nat) (d : List (Str × Str)) (r : Nat), (∀ q ∈ qs, Pok q.1 q.2) → Alt qs → TxOk d → r ≤ (cl qs).length → y.cps.toList = pre ++ (cl qs).take r → Run y.cps.toList pre.length d →
    (∃ j out, cutP qs d r = .ps out ∧ Run y.cps.toList j out ∧ y.length ≤ j ∧ TxOk out) ∨ (cutP qs d r = .msg ∧ ∃ j out, Run y.cps.toList j out ∧ StepErr y j eofTxt)
  | [], pre, d, r, _, _, hd, hr, hy, hR => by
    have e : y.cps.toList.length = y.length := rfl
    rw [show cl [] = [] from by decide +kernel] at hy
    refine .inl ⟨pre.length, d, rfl, hR, ?_, hd⟩
    rw [← e, hy]; simp
  | p :: rs, pre, d, r, hk, ha, hd, hr, hy, hR => by
    have e : y.cps.toList.length = y.length := rfl
    have hp := hk p (.head _)
    rw [cl_cons] at hr hy
    rw [List.length_append] at hr
    by_cases hlt : r < (wl p).length
    · have hy' : y.cps.toList = pre ++ (wl p).take r := by rw [hy, List.take_append_of_le_length (by omega)]
      have hc : cutP (p :: rs) d r = if r = 0 then .ps d else if p.1 = Str.ofString "'" then .msg else .ps (d ++ [(p.1, cut (wtn p.1 p.2).cps.toList p.1.length r)]) := by
        exact if_pos hlt
      rw [hc]
      by_cases h0 : r = 0
      · rw [if_pos h0]
        refine .inl ⟨pre.length, d, rfl, hR, ?_, hd⟩
        rw [← e, hy', h0]; simp
      · rw [if_neg h0]
        obtain ⟨kd, tx⟩ := p
        have hp' := hp
        obtain ⟨h1, h2, h3⟩ := hp'
        dsimp only at h1 h2 h3
        rcases h1 with rfl | rfl | rfl
        · rw [if_neg (show ¬ Str.ofString "#" = Str.ofString "'" from by decide)]
          rw [wl_c] at hlt hy'
          have hl : r - 1 ≤ tx.cps.toList.length := by simp at hlt; simp; omega
          obtain ⟨n, rfl⟩ : ∃ n, r = n + 1 := ⟨r - 1, by omega⟩
          have hy2 : y.cps.toList = pre ++ 35 :: tx.cps.toList.take n := by
            rw [hy', List.cons_append, List.take_succ_cons, List.take_append_of_le_length (by simpa using hl)]
          have ht : cut (wtn kC tx).cps.toList kC.length (n + 1) = ⟨(tx.cps.toList.take n).toArray⟩ := by
            have e1 : (wtn kC tx).cps.toList = 35 :: tx.cps.toList ++ [10] := wl_c
            rw [e1]
            show (⟨(((35 :: tx.cps.toList ++ [10]).drop 1).take (n + 1 - 1)).toArray⟩ : Str) = _
            rw [List.cons_append, List.drop_succ_cons, List.drop_zero, Nat.add_sub_cancel, List.take_append_of_le_length (by simpa using hl)]
          have hs := step_c0 (a := pre) (t := tx.cps.toList.take n) (fun c hc => (sg_c h2).1 c (List.mem_of_mem_take hc)) (fun q => (sg_c h2).2 (List.mem_of_mem_take q))
          rw [← hy2] at hs
          refine .inl ⟨_, _, rfl, .snoc (p := (kC, cut (wtn kC tx).cps.toList kC.length (n + 1))) hR (by rw [ht]; exact hs), ?_, hd.snoc hp.small.1 (by rw [ht]; exact ok_text hp.small.1 fun c hc => hp.small.2 c (List.mem_of_mem_take hc))⟩
          rw [← e, hy2]; simp; omega
        · rw [if_pos rfl]
          refine .inr ⟨rfl, pre.length, d, hR, ?_⟩
          rw [wl_l] at hlt hy'
          have hl : r - 1 ≤ tx.cps.toList.length := by simp at hlt; simp; omega
          obtain ⟨n, rfl⟩ : ∃ n, r = n + 1 := ⟨r - 1, by omega⟩
          have hy2 : y.cps.toList = pre ++ 39 :: tx.cps.toList.take n := by
            rw [hy', List.cons_append, List.take_succ_cons, List.take_append_of_le_length (by simpa using hl)]
          refine .inr (.inl ⟨by rw [hy2]; exact first_at, .inl ⟨rfl, fun j hj q => ?_, eof_txt.symm⟩⟩)
          rw [hy2, show pre ++ 39 :: tx.cps.toList.take n = (pre ++ [39]) ++ tx.cps.toList.take n by simp, List.getElem?_append_right (by simpa using hj)] at q
          exact (sg_l h2).2 (List.mem_of_mem_take (List.mem_of_getElem? q))
        · rw [if_neg (show ¬ Str.ofString "" = Str.ofString "'" from by decide)]
          rw [wl_e] at hlt hy'
          have ht : cut (wtn kE tx).cps.toList kE.length r = ⟨(tx.cps.toList.take r).toArray⟩ := by
            have e1 : (wtn kE tx).cps.toList = tx.cps.toList := wl_e
            rw [e1]; rfl
          have hs := step_e (a := pre) (t := tx.cps.toList.take r) (r := []) (fun c hc => sg_e h2 c (List.mem_of_mem_take hc)) (fun q => by
            have := congrArg List.length q
            rw [List.length_take, List.length_nil] at this; omega) (fun c hc => by cases hc)
          rw [List.append_nil, ← hy'] at hs
          refine .inl ⟨_, _, rfl, .snoc (p := (kE, cut (wtn kE tx).cps.toList kE.length r)) hR (by rw [ht]; exact hs), ?_, hd.snoc hp.small.1 (by rw [ht]; exact ok_text hp.small.1 fun c hc => hp.small.2 c (List.mem_of_mem_take hc))⟩
          rw [← e, hy']; simp
    · have hc : cutP (p :: rs) d r = cutP rs (d ++ [p]) (r - (wl p).length) := by
        exact if_neg hlt
      have hy' : y.cps.toList = pre ++ wl p ++ (cl rs).take (r - (wl p).length) := by
        rw [hy, List.take_append, List.take_of_length_le (by omega), List.append_assoc]
      rw [hc]
      refine part_gen rs (pre ++ wl p) (d ++ [p]) (r - (wl p).length) (fun q hq => hk q (.tail _ hq)) (alt_tail ha) (hd.snoc hp.small.1 ?_) (by omega) hy' ?_
      · rw [← str_of p.2]; exact ok_text hp.small.1 hp.small.2
      · rw [List.length_append]
        refine .snoc hR ?_
        rw [hy']
        refine step_of hp fun h0 c hc => head_ok ha (fun q hq => hk q (.tail _ hq)) h0 c ?_
        cases hcl : cl rs with
        | nil => rw [hcl] at hc; simp at hc
        | cons x xs =>
          rw [hcl] at hc
          cases hn : r - (wl p).length with
          | zero => rw [hn] at hc; cases hc
          | succ n => rw [hn] at hc; exact hc
end Mine
/-! Pl5 -/
namespace Mine
open PySem PySem.W PySem.Calls PySem.Spec PyProof.Rows
set_option Elab.async false
set_option maxRecDepth 100000
set_option maxHeartbeats 4000000
set_option linter.unusedVariables false
/-- a control sign in a text that a sign ends -/
theorem u_err {y : Str} {a t1 t2 r : List Nat} {c q : Nat} {b : Bool} (hy : y.cps.toList = a ++ (t1 ++ c :: t2) ++ q :: r) (hq : q ∉ t1 ++ c :: t2) (h1 : ∀ d ∈ t1, ill d = false) (hc : ill c = true) :
    UErr y q a.length b (errText y (foundMsg c) ((a.length + t1.length : Nat) : Int)) := by
  refine .inr ⟨a.length + (t1 ++ c :: t2).length, a.length + t1.length, c, ?_, fun _ => ?_, by omega, by simp, ?_, hc, fun p hp1 hp2 d hd => ?_, rfl⟩
  · rw [hy]; exact next_at hq
  · rw [hy, behind_at (Nat.le_refl _)]; simp
  · rw [hy, show a ++ (t1 ++ c :: t2) ++ q :: r = (a ++ t1) ++ c :: (t2 ++ q :: r) by simp, ← List.length_append]; exact first_at
  · rw [hy, show a ++ (t1 ++ c :: t2) ++ q :: r = a ++ t1 ++ (c :: t2 ++ q :: r) by simp] at hd
    obtain ⟨d', e, hm⟩ := mid_at (a := a) (t := t1) (r := c :: t2 ++ q :: r) hp1 hp2
    rw [e] at hd; cases hd; exact h1 _ hm
theorem neither_err {y : Str} {a r : List Nat} {c : Nat} (hy : y.cps.toList = a ++ c :: r) (h1 : c ≠ 35) (h2 : c ≠ 39) (h3 : c ∉ wsL) : StepErr y a.length (errText y (Str.ofString "Neither") (a.length : Int)) := by
  refine .inr (.inr ⟨c, by rw [hy]; exact first_at, h1, h2, ?_, rfl⟩)
  rw [hy, List.drop_left, runOf_out h3]
theorem spRun_from {g : Int} : ∀ (ps : List (Str × Str)) (a : Str × Bool), (ps.foldl (spSt g) a).1 = a.1 ++ cat ps
  | [], a => by
    show a.1 = a.1 ++ Str.ofString ""
    rw [show Str.ofString "" = Str.empty from by decide, Str.append_empty]
  | p :: r, a => by
    rw [List.foldl_cons, spRun_from r]
    show a.1 ++ wtn p.1 p.2 ++ cat r = a.1 ++ (wtn p.1 p.2 ++ cat r)
    rw [Str.append_assoc]
theorem spRun_behind {g : Int} : ∀ (ps : List (Str × Str)) (a : Str × Bool), g ≤ a.1.length → (ps.foldl (spSt g) a).2 = a.2
  | [], a, _ => rfl
  | p :: r, a, h => by
    rw [List.foldl_cons, spRun_behind r]
    · show (if _ then true else a.2) = a.2
      rw [if_neg fun q => by omega]
    · show g ≤ ((a.1 ++ wtn p.1 p.2).length : Nat)
      rw [Str.length_append]; omega
/-- the words of a spoilt file -/
abbrev whyMsg (wi : Bool) (c : Nat) : Str := if wi then foundMsg c else Str.ofString "Neither"
theorem bad_gen {y : Str} {c : Nat} (hc : ill c = true) (n1 : c ≠ 35) (n2 : c ≠ 39) (n3 : c ∉ wsL) : ∀ (qs : List (Str × Str)) (pre : List Nat) (d : List (Str × Str)) (g : Nat) (A : Str), (∀ q ∈ qs, Pok q.1 q.2) → Alt qs → g ≤ (cl qs).length → A.length = pre.length →
    y.cps.toList = pre ++ ((cl qs).take g ++ c :: (cl qs).drop g) → Run y.cps.toList pre.length d →
    ∃ j out, Run y.cps.toList j out ∧ StepErr y j (errText y (whyMsg (qs.foldl (spSt ((pre.length + g : Nat) : Int)) (A, false)).2 c) ((pre.length + g : Nat) : Int))
  | [], pre, d, g, A, _, _, hr, hA, hy, hR => by
    rw [show cl [] = [] from by decide +kernel] at hy hr
    have h0 : g = 0 := by simpa using hr
    subst h0
    exact ⟨_, _, hR, neither_err (r := []) hy n1 n2 n3⟩
  | p :: rs, pre, d, g, A, hk, ha, hr, hA, hy, hR => by
    have hp := hk p (.head _)
    rw [cl_cons] at hr hy
    rw [List.length_append] at hr
    have hw : (A ++ wtn p.1 p.2).length = pre.length + (wl p).length := by rw [Str.length_append, hA]; rfl
    by_cases h0 : g = 0
    · subst h0
      rw [spRun_behind _ _ (by show _ ≤ ((A.length : Nat) : Int); omega)]
      exact ⟨_, _, hR, neither_err hy n1 n2 n3⟩
    · by_cases hlt : g < (wl p).length
      · have hy' : y.cps.toList = pre ++ ((wl p).take g ++ c :: ((wl p).drop g ++ cl rs)) := by
          rw [hy, List.take_append_of_le_length (by omega), List.drop_append_of_le_length (by omega)]
        rw [List.foldl_cons, spRun_behind _ _ (by show _ ≤ (((A ++ wtn p.1 p.2).length : Nat) : Int); omega)]
        have hb : (spSt ((pre.length + g : Nat) : Int) (A, false) p).2 = if p.1 ≠ Str.ofString "" then true else false := by
          show (if _ then true else false) = _
          by_cases q : p.1 ≠ Str.ofString ""
          · rw [if_pos q, if_pos ⟨q, by show (A.length : Int) < _; omega, by show _ < (A.length : Int) + ((wl p).length : Nat); omega⟩]
          · rw [if_neg q, if_neg fun h => q h.1]
        rw [hb]
        obtain ⟨kd, tx⟩ := p
        obtain ⟨h1, h2, h3⟩ := hp
        dsimp only at h1 h2 h3 hb ⊢
        obtain ⟨n, rfl⟩ : ∃ n, g = n + 1 := ⟨g - 1, by omega⟩
        rcases h1 with rfl | rfl | rfl
        · rw [if_pos (show Str.ofString "#" ≠ Str.ofString "" from by decide)]
          rw [wl_c] at hlt hy'
          have hl : n ≤ tx.cps.toList.length := by simp at hlt; simp; omega
          have hy2 : y.cps.toList = (pre ++ [35]) ++ (tx.cps.toList.take n ++ c :: tx.cps.toList.drop n) ++ 10 :: cl rs := by
            rw [hy', List.cons_append, List.take_succ_cons, List.drop_succ_cons, List.take_append_of_le_length hl, List.drop_append_of_le_length hl]; simp
          have hu := u_err (b := false) hy2 (fun q => by
            rcases List.mem_append.mp q with q | q
            · exact (sg_c h2).2 (List.mem_of_mem_take q)
            · rcases List.mem_cons.mp q with q | q
              · subst q; exact n3 (by decide)
              · exact (sg_c h2).2 (List.mem_of_mem_drop q)) (fun d hd => (sg_c h2).1 d (List.mem_of_mem_take hd)) hc
          have e1 : (pre ++ [35]).length = pre.length + 1 := by simp
          have e2 : (pre ++ [35]).length + (tx.cps.toList.take n).length = pre.length + (n + 1) := by rw [e1, List.length_take]; omega
          rw [e2, e1] at hu
          exact ⟨_, _, hR, .inl ⟨by rw [hy', List.cons_append, List.take_succ_cons]; simp, hu⟩⟩
        · rw [if_pos (show Str.ofString "'" ≠ Str.ofString "" from by decide)]
          rw [wl_l] at hlt hy'
          have hl : n ≤ tx.cps.toList.length := by simp at hlt; simp; omega
          have hy2 : y.cps.toList = (pre ++ [39]) ++ (tx.cps.toList.take n ++ c :: tx.cps.toList.drop n) ++ 39 :: cl rs := by
            rw [hy', List.cons_append, List.take_succ_cons, List.drop_succ_cons, List.take_append_of_le_length hl, List.drop_append_of_le_length hl]; simp
          have hu := u_err (b := true) hy2 (fun q => by
            rcases List.mem_append.mp q with q | q
            · exact (sg_l h2).2 (List.mem_of_mem_take q)
            · rcases List.mem_cons.mp q with q | q
              · exact n2 q.symm
              · exact (sg_l h2).2 (List.mem_of_mem_drop q)) (fun d hd => (sg_l h2).1 d (List.mem_of_mem_take hd)) hc
          have e1 : (pre ++ [39]).length = pre.length + 1 := by simp
          have e2 : (pre ++ [39]).length + (tx.cps.toList.take n).length = pre.length + (n + 1) := by rw [e1, List.length_take]; omega
          rw [e2, e1] at hu
          exact ⟨_, _, hR, .inr (.inl ⟨by rw [hy', List.cons_append, List.take_succ_cons]; simp, hu⟩)⟩
        · rw [if_neg (show ¬ Str.ofString "" ≠ Str.ofString "" from fun q => q rfl)]
          rw [wl_e] at hlt hy'
          have hy2 : y.cps.toList = pre ++ tx.cps.toList.take (n + 1) ++ c :: (tx.cps.toList.drop (n + 1) ++ cl rs) := by rw [hy']; simp
          have hs := step_e (a := pre) (t := tx.cps.toList.take (n + 1)) (r := c :: (tx.cps.toList.drop (n + 1) ++ cl rs)) (fun d hd => sg_e h2 d (List.mem_of_mem_take hd)) (fun q => by
            have := congrArg List.length q
            rw [List.length_take, List.length_nil] at this; omega) (fun d hd => by cases hd; exact n3)
          rw [← hy2] at hs
          have hn := neither_err (a := pre ++ tx.cps.toList.take (n + 1)) hy2 n1 n2 n3
          have e2 : (pre ++ tx.cps.toList.take (n + 1)).length = pre.length + (n + 1) := by rw [List.length_append, List.length_take]; omega
          have e3 : pre.length + (tx.cps.toList.take (n + 1)).length = pre.length + (n + 1) := by rw [List.length_take]; omega
          rw [e2] at hn
          rw [e3] at hs
          exact ⟨_, _, .snoc (p := (kE, _)) hR hs, hn⟩
      · have hy' : y.cps.toList = pre ++ wl p ++ ((cl rs).take (g - (wl p).length) ++ c :: (cl rs).drop (g - (wl p).length)) := by
          rw [hy, List.take_append, List.take_of_length_le (by omega), List.drop_append, List.drop_eq_nil_of_le (by omega)]; simp
        have hb : spSt ((pre.length + g : Nat) : Int) (A, false) p = (A ++ wtn p.1 p.2, false) := by
          refine Prod.ext rfl ?_
          show (if _ then true else false) = false
          rw [if_neg fun h => by
            have h2 : ((pre.length + g : Nat) : Int) < (A.length : Int) + ((wl p).length : Nat) := h.2.2
            omega]
        rw [List.foldl_cons, hb]
        have e1 : (pre ++ wl p).length + (g - (wl p).length) = pre.length + g := by rw [List.length_append]; omega
        have h := bad_gen hc n1 n2 n3 rs (pre ++ wl p) (d ++ [p]) (g - (wl p).length) (A ++ wtn p.1 p.2) (fun q hq => hk q (.tail _ hq)) (alt_tail ha) (by omega) (by rw [hw, List.length_append]) hy' ?_
        · rw [e1] at h; exact h
        · rw [List.length_append]
          refine .snoc hR ?_
          rw [hy']
          refine step_of hp fun h0 d hd => ?_
          cases hn : g - (wl p).length with
          | zero => rw [hn] at hd; cases hd; exact n3
          | succ n =>
            cases hcl : cl rs with
            | nil => rw [hcl, hn] at hd; simp at hd; subst hd; exact n3
            | cons x xs =>
              rw [hcl, hn] at hd
              exact head_ok ha (fun q hq => hk q (.tail _ hq)) h0 d (by rw [hcl]; exact hd)
end Mine
/-! Pl6 -/
namespace Mine
open PySem PySem.W PySem.Calls PySem.Spec PyProof.Rows
set_option Elab.async false
set_option maxRecDepth 100000
set_option maxHeartbeats 4000000
set_option linter.unusedVariables false
theorem whole_gen {y : Str} : ∀ (qs : List (Str × Str)) (pre : List Nat) (d : List (Str × Str)), (∀ q ∈ qs, Pok q.1 q.2) → Alt qs → y.cps.toList = pre ++ cl qs → Run y.cps.toList pre.length d → Run y.cps.toList y.length (d ++ qs)
  | [], pre, d, _, _, hy, hR => by
    rw [show cl [] = [] from by decide +kernel, List.append_nil] at hy
    rw [List.append_nil, len_list, congrArg List.length hy]; exact hR
  | p :: rs, pre, d, hk, ha, hy, hR => by
    have hp := hk p (.head _)
    rw [cl_cons, ← List.append_assoc] at hy
    have h := whole_gen rs (pre ++ wl p) (d ++ [p]) (fun q hq => hk q (.tail _ hq)) (alt_tail ha) hy ?_
    · rw [List.append_assoc] at h; exact h
    · rw [List.length_append]
      refine .snoc hR ?_
      rw [hy]
      exact step_of hp fun h0 => head_ok ha (fun q hq => hk q (.tail _ hq)) h0
theorem Pieces.oks {ps : List (Str × Str)} (h : Pieces ps) : (∀ q ∈ ps, Pok q.1 q.2) ∧ Alt ps := by
  obtain ⟨pi, rfl, hw⟩ := h.wf
  refine ⟨fun p hp => ?_, ?_⟩
  · rcases List.mem_append.mp hp with hp | hp
    · exact (hw.ok p hp).1
    · rw [List.mem_singleton.mp hp]
      exact ⟨.inr (.inl rfl), by unfold Sgs; decide +kernel, fun q => absurd q (by decide)⟩
  · rcases List.eq_nil_or_concat pi with e | ⟨l, q, e⟩
    · rw [e]; trivial
    · rw [List.concat_eq_append] at e
      have ha := hw.alt
      rw [e] at ha ⊢
      exact alt_snoc ha fun q => absurd q.2 (by decide)
theorem lit_at : Str.ofString " (at " ++ Str.ofString "line " = Str.ofString " (at line " := by decide +kernel
theorem emp_left (x : Str) : Str.empty ++ x = x := Str.empty_append x
theorem txt_eq {y : Str} {l : List Nat} {g c : Nat} {wi : Bool} {nm : Str} (hg : g < y.length) (hl : y.cps.toList.take g = l) (hn : nm = reprText ⟨#[c]⟩) : errText y (whyMsg wi c) (g : Int) = spoilTxt wi nm l (g : Int) := by
  subst hn
  have hw : whyMsg wi c = if wi then Str.ofString "Found invalid character " ++ reprText ⟨#[c]⟩ else Str.ofString "Neither" := by
    cases wi
    · rfl
    · show foundMsg c = _
      unfold foundMsg
      rw [emp_left]; rfl
  unfold errText coordS lineCol spoilTxt
  rw [if_neg (by omega), Int.toNat_natCast, hl, hw, emp_left, emp_left]
  generalize (if wi = true then Str.ofString "Found invalid character " ++ reprText ⟨#[c]⟩ else Str.ofString "Neither") = W
  generalize Str.ofString (toString ((l.count 10 : Int) + 1)) = R
  generalize Str.ofString (toString (colAt l g)) = C
  rw [← lit_at]
  simp only [Str.append_assoc]
theorem plain : PlainLaw where
  whole ps h := by
    obtain ⟨h1, h2⟩ := h.oks
    have hr := whole_gen (y := cat ps) ps [] [] h1 h2 rfl .nil
    rw [List.nil_append] at hr
    exact run_done hr (Nat.le_refl _)
  part ps r h hr y hy := by
    obtain ⟨h1, h2⟩ := h.oks
    rcases part_gen (y := y) ps [] [] r h1 h2 (fun p hp => nomatch hp) hr hy .nil with ⟨j, out, e1, e2, e3, e4⟩ | ⟨e1, j, out, e2, e3⟩
    · obtain ⟨a1, a2⟩ := run_done e2 e3
      exact ⟨fun i qs hq => by rw [a1 i qs hq]; exact ⟨e1, e4⟩, fun n i qs txt hq hn he => absurd he (a2 n i qs txt hq hn)⟩
    · obtain ⟨a1, a2⟩ := run_err e2 e3
      exact ⟨fun i qs hq => absurd hq (a1 i qs), fun n i qs txt hq hn he => ⟨e1, a2 n i qs txt hq hn he⟩⟩
  bad ps g sg nm h h0 hg hsg y hy := by
    obtain ⟨h1, h2⟩ := h.oks
    obtain ⟨c, hc, rfl, hnm⟩ := hsg
    have hc1 : ill c = true ∧ c ≠ 35 ∧ c ≠ 39 ∧ c ∉ wsL := by
      rcases hc with rfl | rfl | rfl | rfl <;> decide
    obtain ⟨n, rfl⟩ : ∃ n : Nat, g = n := ⟨g.toNat, by omega⟩
    rw [Int.toNat_natCast] at hy ⊢
    have hn : n ≤ (cl ps).length := by have : (cl ps).length = (cat ps).length := rfl; omega
    have hy' : y.cps.toList = [] ++ ((cl ps).take n ++ c :: (cl ps).drop n) := by rw [hy]; simp
    obtain ⟨j, out, e2, e3⟩ := bad_gen hc1.1 hc1.2.1 hc1.2.2.1 hc1.2.2.2 ps [] [] n (Str.ofString "") h1 h2 hn (by decide) hy' .nil
    rw [show ([] : List Nat).length + n = n from Nat.zero_add n] at e3
    have hl : n < y.length := by rw [len_list, hy', List.nil_append, List.length_append, List.length_cons, List.length_take]; omega
    have ht : y.cps.toList.take n = (spRun n ps).1.cps.toList.take n := by
      rw [hy', show (spRun n ps).1 = cat ps from by unfold spRun; rw [spRun_from, show Str.ofString "" = Str.empty from by decide, emp_left], List.nil_append, List.take_append_of_le_length (by rw [List.length_take]; exact Nat.le_min.mpr ⟨Nat.le_refl _, hn⟩), List.take_take, Nat.min_self]
    rw [txt_eq hl ht hnm] at e3
    exact run_err e2 e3
  run ps g := by
    unfold spRun
    rw [spRun_from, show Str.ofString "" = Str.empty from by decide, emp_left]
theorem holds_all : PySem.Challenge.rw_mr0151_01.Holds := holds_of (lawWp_of plain)
end Mine
open PySem PySem.W PyProof.Rows
theorem PySem.Challenge.cw_mr0151_01_holds : PySem.Challenge.rw_mr0151_01.Holds :=
  Mine.holds_all
