import PyProof.Rows.All
import Wide.All
import OpenK.AllK
import Wide.FinOn
import Lean
import PySem.Challenge.RW_kl0054_02
set_option Elab.async false
set_option maxRecDepth 100000
open PySem PySem.W PySem.Spec PySem.Calls PyProof.Rows
namespace Mine

/-- the frames keep all but their slots -/
def FK (fs : List Env) (h h' : Heap) : Prop := ∀ e ∈ fs, ∀ L, e.frame = some L → ∀ o, h.get? L = some o → ∃ sl, h'.get? L = some { o with slots := sl }
theorem FK.refl (fs : List Env) (h : Heap) : FK fs h h := fun _ _ _ _ o e => ⟨o.slots, e⟩
theorem FK.trans {fs : List Env} {h₁ h₂ h₃ : Heap} (x : FK fs h₁ h₂) (y : FK fs h₂ h₃) : FK fs h₁ h₃ := fun e he L hL o ho => by
  obtain ⟨s1, h1⟩ := x e he L hL o ho
  obtain ⟨s2, h2⟩ := y e he L hL _ h1
  exact ⟨s2, h2⟩
theorem FK.keeps {fs : List Env} {h h' : Heap} (k : h.StaysIn h') : FK fs h h' := fun _ _ _ _ o e => ⟨o.slots, k _ _ e⟩
theorem FK.mono {fs gs : List Env} {h h' : Heap} (x : FK fs h h') (s : ∀ e ∈ gs, e ∈ fs) : FK gs h h' := fun e he => x e (s e he)

theorem stays_refl (h : Heap) : h.StaysIn h := fun _ _ e => e
theorem stays_trans {a b c : Heap} (x : a.StaysIn b) (y : b.StaysIn c) : a.StaysIn c := fun _ _ e => y _ _ (x _ _ e)
theorem fresh_none {G h : Heap} (k : G.StaysIn h) {a : Addr} (e : h.get? a = none) : G.get? a = none := by
  cases q : G.get? a with
  | none => rfl
  | some o => have := k a o q; rw [e] at this; cases this
theorem size_none (h : Heap) : h.get? h.objs.size = none := by
  cases q : h.get? h.objs.size with
  | none => rfl
  | some o => exact absurd (Heap.lt_size q) (Nat.lt_irrefl _)

theorem ff_mem {h G : Heap} {fs : List Env} (F : h.FunFrames G fs) : ∀ e ∈ fs, ∃ L o, e.frame = some L ∧ G.get? L = none ∧ h.get? L = some o ∧ ∀ vs, o.data ≠ .fields vs := by
  induction fs with
  | nil => exact fun e he => absurd he List.not_mem_nil
  | cons a l ih =>
    obtain ⟨_, f, r⟩ := F
    intro e he
    rcases List.mem_cons.mp he with rfl | he
    · exact f
    · exact ih r e he
theorem ff_to {h h' G G' : Heap} : ∀ {fs : List Env}, h.FunFrames G fs → (∀ e ∈ fs, ∀ L, e.frame = some L → G'.get? L = none) → (∀ e ∈ fs, ∀ L, e.frame = some L → ∀ o, h.get? L = some o → ∃ o', h'.get? L = some o' ∧ (o'.data = o.data ∨ ∀ vs, o'.data ≠ .fields vs)) → h'.FunFrames G' fs
  | [], _, _, _ => trivial
  | e :: fs, ⟨k, ⟨L, o, a, _, c, d⟩, r⟩, hn, hk => ⟨k, by
      obtain ⟨o', h1, h2⟩ := hk e (.head _) L a o c
      exact ⟨L, o', a, hn e (.head _) L a, h1, fun vs q => by
        rcases h2 with h2 | h2
        · exact d vs (h2 ▸ q)
        · exact h2 vs q⟩, ff_to r (fun e he => hn e (.tail _ he)) fun e he => hk e (.tail _ he)⟩

structure Wd (fs : List Env) (G : Heap) (ow : List (Addr × Obj)) (h : Heap) : Prop where
  keep : G.StaysIn h
  own : ∀ p ∈ ow, h.get? p.1 = some p.2
  ownG : ∀ p ∈ ow, G.get? p.1 = none
  nd : (ow.map (·.1)).Nodup
  ff : h.FunFrames G fs
  fd : ∀ p ∈ ow, ∀ e ∈ fs, e.frame ≠ some p.1

structure Lf (fs : List Env) (G h G' : Heap) (ow' : List (Addr × Obj)) (h' : Heap) : Prop where
  gr : G.StaysIn G'
  wd : Wd fs G' ow' h'
  fk : FK fs h h'

theorem Lf.refl {fs : List Env} {G h : Heap} {ow : List (Addr × Obj)} (W : Wd fs G ow h) : Lf fs G h G ow h := ⟨stays_refl _, W, FK.refl _ _⟩
theorem Lf.trans {fs : List Env} {G h G₁ h₁ G₂ h₂ : Heap} {ow₁ ow₂ : List (Addr × Obj)} (x : Lf fs G h G₁ ow₁ h₁) (y : Lf fs G₁ h₁ G₂ ow₂ h₂) : Lf fs G h G₂ ow₂ h₂ :=
  ⟨stays_trans x.gr y.gr, y.wd, x.fk.trans y.fk⟩

theorem Wd.keeps {fs : List Env} {G h h' : Heap} {ow : List (Addr × Obj)} (W : Wd fs G ow h) (k : h.StaysIn h') : Wd fs G ow h' :=
  ⟨stays_trans W.keep k, fun p hp => k _ _ (W.own p hp), W.ownG, W.nd, ff_to W.ff (fun e he L hL => by
    obtain ⟨L', o, a, b, _⟩ := ff_mem W.ff e he
    rw [hL] at a; cases a; exact b) fun e he L hL o ho => ⟨o, k _ _ ho, .inl rfl⟩, W.fd⟩

theorem Wd.frameG {fs : List Env} {G h : Heap} {ow : List (Addr × Obj)} (W : Wd fs G ow h) {e : Env} (he : e ∈ fs) {L : Addr} (hL : e.frame = some L) : G.get? L = none := by
  obtain ⟨L', o, a, b, _⟩ := ff_mem W.ff e he
  rw [hL] at a; cases a; exact b
theorem Wd.frameIn {fs : List Env} {G h : Heap} {ow : List (Addr × Obj)} (W : Wd fs G ow h) {e : Env} (he : e ∈ fs) {L : Addr} (hL : e.frame = some L) : ∃ o, h.get? L = some o ∧ ∀ vs, o.data ≠ .fields vs := by
  obtain ⟨L', o, a, _, c, d⟩ := ff_mem W.ff e he
  rw [hL] at a; cases a; exact ⟨o, c, d⟩

/-- all that is new, or let go of, is frozen -/
theorem Wd.grow {fs : List Env} {G h h' : Heap} {ow ow' : List (Addr × Obj)} (W : Wd fs G ow h) (k : h.StaysIn h') (hs : ∀ p ∈ ow', p ∈ ow) (hn : (ow'.map (·.1)).Nodup) :
    ∃ G', G.StaysIn G' ∧ Wd fs G' ow' h' ∧ (∀ b o, h'.get? b = some o → b ∉ ow'.map (·.1) → (∀ e ∈ fs, e.frame ≠ some b) → G'.get? b = some o) := by
  have W' := W.keeps k
  have key : ∀ b o, h'.get? b = some o → b ∉ ow'.map (·.1) → (∀ e ∈ fs, e.frame ≠ some b) → (hideAll h' (ow'.map (·.1) ++ fs.filterMap (·.frame))).get? b = some o := fun b o e n1 n2 =>
    hideAll_get _ e fun m => by
      rcases List.mem_append.mp m with m | m
      · exact n1 m
      · obtain ⟨env, he, hf⟩ := List.mem_filterMap.mp m
        exact n2 env he hf
  have gr : G.StaysIn (hideAll h' (ow'.map (·.1) ++ fs.filterMap (·.frame))) := fun b o e => key b o (W'.keep b o e) (fun m => by
      obtain ⟨p, hp, rfl⟩ := List.mem_map.mp m
      rw [W.ownG p (hs p hp)] at e; cases e) fun env he hf => by
      rw [W.frameG he hf] at e; cases e
  refine ⟨_, gr, ⟨fun b o e => of_hideAll _ e, fun p hp => W'.own p (hs p hp), fun p hp => hideAll_none _ (List.mem_append_left _ (List.mem_map_of_mem hp)), hn, ?_, fun p hp => W.fd p (hs p hp)⟩, key⟩
  exact ff_to W'.ff (fun e he L hL => hideAll_none _ (List.mem_append_right _ (List.mem_filterMap.mpr ⟨e, he, hL⟩))) fun e he L hL o ho => ⟨o, ho, .inl rfl⟩

theorem Wd.lf_grow {fs : List Env} {G h h' : Heap} {ow : List (Addr × Obj)} (W : Wd fs G ow h) (k : h.StaysIn h') :
    ∃ G', Lf fs G h G' ow h' ∧ ∀ b o, h.get? b = none → h'.get? b = some o → G'.get? b = some o := by
  obtain ⟨G', a, b, c⟩ := W.grow k (fun _ h => h) W.nd
  refine ⟨G', ⟨a, b, FK.keeps k⟩, fun x o n e => c x o e (fun m => ?_) fun env he hf => ?_⟩
  · obtain ⟨p, hp, rfl⟩ := List.mem_map.mp m
    rw [W.own p hp] at n; cases n
  · obtain ⟨o', ho', _⟩ := W.frameIn he hf
    rw [ho'] at n; cases n

theorem Wd.own_new {fs : List Env} {G h h' : Heap} {ow : List (Addr × Obj)} (W : Wd fs G ow h) (k : h.StaysIn h') {a : Addr} {o : Obj} (n : h.get? a = none) (e : h'.get? a = some o) : Wd fs G ((a, o) :: ow) h' := by
  have W' := W.keeps k
  refine ⟨W'.keep, fun p hp => ?_, fun p hp => ?_, ?_, W'.ff, fun p hp env he hf => ?_⟩
  · rcases List.mem_cons.mp hp with rfl | hp
    · exact e
    · exact W'.own p hp
  · rcases List.mem_cons.mp hp with rfl | hp
    · exact fresh_none W.keep n
    · exact W.ownG p hp
  · rw [List.map_cons, List.nodup_cons]
    refine ⟨fun m => ?_, W.nd⟩
    obtain ⟨p, hp, q⟩ := List.mem_map.mp m
    have := W.own p hp
    rw [q, n] at this; cases this
  · rcases List.mem_cons.mp hp with rfl | hp
    · obtain ⟨o', ho', _⟩ := W.frameIn he hf
      rw [n] at ho'; cases ho'
    · exact W.fd p hp env he hf

/-- an own object turned -/
theorem Wd.put {fs : List Env} {G h h' : Heap} {pre post : List (Addr × Obj)} {a : Addr} {o o' : Obj} (W : Wd fs G (pre ++ (a, o) :: post) h) (hs : Heap.SameBut a h h') (e : h'.get? a = some o') :
    Lf fs G h G (pre ++ (a, o') :: post) h' := by
  have nd := W.nd
  rw [List.map_append, List.map_cons, List.nodup_append] at nd
  obtain ⟨_, n2, n3⟩ := nd
  rw [List.nodup_cons] at n2
  have aG : G.get? a = none := W.ownG (a, o) (by simp)
  have af : ∀ env ∈ fs, env.frame ≠ some a := W.fd (a, o) (by simp)
  have kk : ∀ b, b ≠ a → h'.get? b = h.get? b := hs.2
  refine ⟨stays_refl _, ⟨fun b x q => (kk b fun z => by rw [z, aG] at q; cases q).trans (W.keep b x q), fun p hp => ?_, fun p hp => ?_, ?_, ?_, fun p hp => ?_⟩, ?_⟩
  · rcases List.mem_append.mp hp with hp | hp
    · exact (kk p.1 fun z => n3 _ (List.mem_map_of_mem hp) _ (.head _) z).trans (W.own p (List.mem_append_left _ hp))
    · rcases List.mem_cons.mp hp with rfl | hp
      · exact e
      · exact (kk p.1 fun z => n2.1 (List.mem_map.mpr ⟨p, hp, z⟩)).trans (W.own p (List.mem_append_right _ (.tail _ hp)))
  · rcases List.mem_append.mp hp with hp | hp
    · exact W.ownG p (List.mem_append_left _ hp)
    · rcases List.mem_cons.mp hp with rfl | hp
      · exact aG
      · exact W.ownG p (List.mem_append_right _ (.tail _ hp))
  · have := W.nd
    rw [List.map_append, List.map_cons] at this ⊢
    exact this
  · exact ff_to W.ff (fun e he L hL => W.frameG he hL) fun e he L hL o ho => ⟨o, (kk L fun z => af e he (z ▸ hL)).trans ho, .inl rfl⟩
  · rcases List.mem_append.mp hp with hp | hp
    · exact W.fd p (List.mem_append_left _ hp)
    · rcases List.mem_cons.mp hp with rfl | hp
      · exact af
      · exact W.fd p (List.mem_append_right _ (.tail _ hp))
  · exact fun e he L hL o ho => ⟨o.slots, (kk L fun z => af e he (z ▸ hL)).trans ho⟩

structure Ent where
  G : Heap
  h : Heap
  fs : List Env

structure At (X : Ent) (G : Heap) (ow : List (Addr × Obj)) (env : Env) (m : Str → Option Value) (h : Heap) : Prop where
  gr : X.G.StaysIn G
  wd : Wd (env :: X.fs) G ow h
  fk : FK X.fs X.h h
  ns : h.Ns env.locals m
  fr : env.frame = some env.locals
  nX : ∀ e ∈ X.fs, e.frame ≠ some env.locals

section
variable {X : Ent} {G G' h h' : Heap} {ow ow' : List (Addr × Obj)} {env : Env} {m m' : Str → Option Value}
theorem At.nG (AT : At X G ow env m h) : G.get? env.locals = none := AT.wd.frameG (.head _) AT.fr
theorem At.nO (AT : At X G ow env m h) : ∀ p ∈ ow, p.1 ≠ env.locals := fun p hp z => AT.wd.fd p hp env (.head _) (z ▸ AT.fr)
theorem At.keep (AT : At X G ow env m h) : G.StaysIn h := AT.wd.keep

theorem ns_slots {h h' : Heap} {L : Addr} {m : Str → Option Value} (n : h.Ns L m) (k : ∀ o, h.get? L = some o → ∃ sl, h'.get? L = some { o with slots := sl }) : h'.Ns L m := by
  obtain ⟨o, es, ep, ho, hd, r⟩ := n
  obtain ⟨sl, e⟩ := k o ho
  exact ⟨_, es, ep, e, hd, r⟩

theorem At.back (AT : At X G ow env m h) (l : Lf (env :: X.fs) G h G' ow' h') : At X G' ow' env m h' :=
  ⟨stays_trans AT.gr l.gr, l.wd, AT.fk.trans (l.fk.mono fun _ he => .tail _ he), ns_slots AT.ns fun o e => l.fk env (.head _) env.locals AT.fr o e, AT.fr, AT.nX⟩

theorem At.keeps (AT : At X G ow env m h) (k : h.StaysIn h') : At X G ow env m h' := AT.back ⟨stays_refl _, AT.wd.keeps k, FK.keeps k⟩

theorem At.grow (AT : At X G ow env m h) (k : h.StaysIn h') : ∃ G', G.StaysIn G' ∧ At X G' ow env m h' ∧ ∀ b o, h.get? b = none → h'.get? b = some o → G'.get? b = some o := by
  obtain ⟨G', l, q⟩ := AT.wd.lf_grow k
  exact ⟨G', l.gr, AT.back l, q⟩
theorem At.own_new (AT : At X G ow env m h) (k : h.StaysIn h') {a : Addr} {o : Obj} (n : h.get? a = none) (e : h'.get? a = some o) : At X G ((a, o) :: ow) env m h' :=
  AT.back ⟨stays_refl _, AT.wd.own_new k n e, FK.keeps k⟩
theorem At.put {pre post : List (Addr × Obj)} {a : Addr} {o o' : Obj} (AT : At X G (pre ++ (a, o) :: post) env m h) (hs : Heap.SameBut a h h') (e : h'.get? a = some o') : At X G (pre ++ (a, o') :: post) env m h' :=
  AT.back (AT.wd.put hs e)

theorem At.store (AT : At X G ow env m h) (hn : h'.Ns env.locals m') (hs : Heap.SameBut env.locals h h') : At X G ow env m' h' := by
  have kk : ∀ b, b ≠ env.locals → h'.get? b = h.get? b := hs.2
  refine ⟨AT.gr, ⟨fun b o e => (kk b fun z => by rw [z, AT.nG] at e; cases e).trans (AT.keep b o e), fun p hp => (kk _ (AT.nO p hp)).trans (AT.wd.own p hp), AT.wd.ownG, AT.wd.nd, ?_, AT.wd.fd⟩, ?_, hn, AT.fr, AT.nX⟩
  · refine ff_to AT.wd.ff (fun e he L hL => AT.wd.frameG he hL) fun e he L hL o ho => ?_
    by_cases z : L = env.locals
    · subst z
      obtain ⟨o', es, ep, ho', hd, _⟩ := hn
      exact ⟨o', ho', .inr fun vs q => by rw [hd] at q; cases q⟩
    · exact ⟨o, (kk L z).trans ho, .inl rfl⟩
  · exact AT.fk.trans fun e he L hL o ho => ⟨o.slots, (kk L fun z => AT.nX e he (z ▸ hL)).trans ho⟩

theorem At.lf (AT : At X G ow env m h) : Lf X.fs X.G X.h G ow h :=
  ⟨AT.gr, ⟨AT.keep, AT.wd.own, AT.wd.ownG, AT.wd.nd, AT.wd.ff.2.2, fun p hp e he => AT.wd.fd p hp e (.tail _ he)⟩, AT.fk⟩

/-- the frame is left; some of what was own is let go of -/
theorem At.leave (AT : At X G ow env m h) (hs : ∀ p ∈ ow', p ∈ ow) (hn : (ow'.map (·.1)).Nodup) :
    ∃ G', G.StaysIn G' ∧ Lf X.fs X.G X.h G' ow' h ∧ ∀ p ∈ ow, p.1 ∉ ow'.map (·.1) → G'.get? p.1 = some p.2 := by
  obtain ⟨G', a, b, c⟩ := AT.lf.wd.grow (fun _ _ e => e) hs hn
  exact ⟨G', a, ⟨stays_trans AT.gr a, b, AT.fk⟩, fun p hp n => c _ _ (AT.wd.own p hp) n fun e he => AT.wd.fd p hp e (.tail _ he)⟩
/-- some of what was own is let go of, in the frame -/
theorem At.freeze (AT : At X G ow env m h) (hs : ∀ p ∈ ow', p ∈ ow) (hn : (ow'.map (·.1)).Nodup) :
    ∃ G', G.StaysIn G' ∧ At X G' ow' env m h ∧ ∀ p ∈ ow, p.1 ∉ ow'.map (·.1) → G'.get? p.1 = some p.2 := by
  obtain ⟨G', a, b, c⟩ := AT.wd.grow (fun _ _ e => e) hs hn
  exact ⟨G', a, AT.back ⟨a, b, FK.refl _ _⟩, fun p hp n => c _ _ (AT.wd.own p hp) n fun e he => AT.wd.fd p hp e he⟩
end

/-- the stack around, with the room that is left -/
structure Ar (A : Around) (fs : List Env) (d u : Nat) : Prop where
  fr : A.frames = some fs
  hd : A.handled = none
  dp : A.depth + d < recursionLimit
  un : A.units + u < cLine
theorem Ar.less {A : Around} {fs : List Env} {d u d' u' : Nat} (a : Ar A fs d u) (h1 : d' ≤ d) (h2 : u' ≤ u) : Ar A fs d' u' := ⟨a.fr, a.hd, by have := a.dp; omega, by have := a.un; omega⟩
theorem Ar.in1 {A : Around} {fs : List Env} {d u : Nat} (a : Ar A fs d (u + 1)) : Ar A.in1 fs d u := ⟨a.fr, a.hd, a.dp, by have := a.un; show A.units + 1 + u < cLine; omega⟩
theorem Ar.deeper {A : Around} {fs : List Env} {d u : Nat} (env : Env) (a : Ar A fs (d + 1) (u + 3)) : Ar (A.deeper env) (env :: fs) d u :=
  ⟨Around.frames_deeper a.fr, a.hd, by have := a.dp; show A.depth + 1 + d < recursionLimit; omega, by have := a.un; show A.units + 3 + u < cLine; omega⟩

/-- the names of the top and of the built-ins -/
structure Sta (mg mb : Str → Option Value) (G : Heap) : Prop where
  g : G.Ns mainGlobals mg
  b : G.Ns builtinsNs mb
  lim : G.NoLimit
  bi : ∀ x : Str, x ≠ "__name__" → mb x = bootBuiltins x
theorem Sta.mono {mg mb : Str → Option Value} {G G' : Heap} (S : Sta mg mb G) (k : G.StaysIn G') : Sta mg mb G' := ⟨S.g.keeps k, S.b.keeps k, S.lim.keeps k, S.bi⟩

structure FnAt (G : Heap) (f : Addr) (name qual : Str) (params : Arguments) (body : List Stmt) (scope : Scope) (cl : List (Str × Addr)) : Prop where
  ex : ∃ o pm doc an cdv ct, G.get? f = some o ∧ o.data = .func (fnX name qual params body scope cl .none .none doc pm an cdv ct) ∧ G.CodeRec cdv qual
theorem FnAt.mono {G G' : Heap} {f : Addr} {name qual : Str} {params : Arguments} {body : List Stmt} {scope : Scope} {cl : List (Str × Addr)} (F : FnAt G f name qual params body scope cl) (k : G.StaysIn G') : FnAt G' f name qual params body scope cl :=
  let ⟨o, pm, doc, an, cdv, ct, a, b, c⟩ := F.ex; ⟨o, pm, doc, an, cdv, ct, k _ _ a, b, c.keeps k⟩

section
variable {prog : Program} {w : World} {A : Around} {E : Value → Shared → Prop} {s : Shared} {fs : List Env} {G : Heap} {ow : List (Addr × Obj)} {Q : Value → Shared → Prop}
  {f : Addr} {name qual : Str} {params : Arguments} {body : List Stmt} {scope : Scope} {cl : List (Str × Addr)} {vals : List Value} {binds : List (Str × Value)}

/-- what a frame's raise does on its way out -/
def Out (prog : Program) (w : World) (A : Around) (env : Env) (E : Value → Shared → Prop) (e : Value) (s' : Shared) : Prop :=
  wpAny (model prog w) (A.deeper env) (leaving env e) (fun _ s'' => E e s'') (fun e' s'' => E e' s'') s'

theorem code_fn {R : Result → Shared → Prop} (W : Wd fs G ow s.heap) (hA : A.depth < recursionLimit) (lim : G.NoLimit) (F : FnAt G f name qual params body scope cl)
    (hb : ∀ doc pm an cdv ct, BindsTo s (fnX name qual params body scope cl .none .none doc pm an cdv ct) ⟨vals, []⟩ binds)
    (hloc : ∀ y ∈ binds, scope.names.lookup y.1 = some .local)
    (h : ∀ L cdv h₁, L = s.heap.objs.size → s.heap.StaysIn h₁ → At ⟨G, s.heap, fs⟩ G ow (envX qual scope L f cdv cl) (fun y => binds.reverse.lookup y) h₁ →
      wpAny (model prog w) (A.deeper (envX qual scope L f cdv cl)) (execs body (envX qual scope L f cdv cl))
        (fun fl s' => R (.ok (.ret (match fl with | .ret v => v | _ => .none))) s')
        (Out prog w A (envX qual scope L f cdv cl) (fun e s' => R (.error e) s')) { s with heap := h₁, toks := s.toks + binds.length })
    (hcell : ∀ x ∈ scope.names, x.2 ≠ .cell) (hco : scope.isCoroutine = false) (hgen : scope.isGenerator = false) (hk : scope.kind = .function) :
    codeAny (model prog w) A (.call (.ref f) ⟨vals, []⟩) R s := by
  obtain ⟨o, pm, doc, an, cdv, ct, ho, hd, hcd⟩ := F.ex
  refine codeAny_call_def (fd := fnX name qual params body scope cl .none .none doc pm an cdv ct) (body := body) (binds := binds) hA (W.keep _ _ ho) hd (lim.keeps W.keep) (hcd.keeps W.keep) rfl (hb _ _ _ _ _) hcell hloc (fun h₁ hns hk₁ => ?_) hco hgen hk
  refine h s.heap.objs.size cdv h₁ rfl hk₁ ?_
  have W' := W.keeps (h' := h₁) hk₁
  have nL : s.heap.get? s.heap.objs.size = none := size_none _
  have nf : ∀ e ∈ fs, e.frame ≠ some s.heap.objs.size := fun e he hf => by
    obtain ⟨o', ho', _⟩ := W.frameIn he hf
    rw [nL] at ho'; cases ho'
  refine ⟨stays_refl _, ⟨W'.keep, W'.own, W'.ownG, W'.nd, ⟨by show scope.kind ≠ .module; rw [hk]; decide, ?_, W'.ff⟩, fun p hp e he hf => ?_⟩, FK.keeps hk₁, hns, rfl, nf⟩
  · obtain ⟨o', es, ep, ho', hd', _⟩ := hns
    exact ⟨_, o', rfl, fresh_none W.keep nL, ho', fun vs q => by rw [hd'] at q; cases q⟩
  · rcases List.mem_cons.mp he with rfl | he
    · have : s.heap.objs.size = p.1 := Option.some.inj hf
      have := W.own p hp
      rw [← ‹s.heap.objs.size = p.1›, nL] at this; cases this
    · exact W.fd p hp e he hf

theorem call_fn (W : Wd fs G ow s.heap) (hA : A.depth < recursionLimit) (lim : G.NoLimit) (F : FnAt G f name qual params body scope cl)
    (hb : ∀ doc pm an cdv ct, bindArgs (fnX name qual params body scope cl .none .none doc pm an cdv ct) ⟨vals, []⟩ = pure binds)
    (hloc : (binds.all fun y => decide (scope.names.lookup y.1 = some .local)) = true)
    (h : ∀ L cdv h₁, L = s.heap.objs.size → s.heap.StaysIn h₁ → At ⟨G, s.heap, fs⟩ G ow (envX qual scope L f cdv cl) (fun y => binds.reverse.lookup y) h₁ →
      wpAny (model prog w) (A.deeper (envX qual scope L f cdv cl)) (execs body (envX qual scope L f cdv cl))
        (fun fl s' => Q (match fl with | .ret v => v | _ => .none) s')
        (Out prog w A (envX qual scope L f cdv cl) E) { s with heap := h₁, toks := s.toks + binds.length })
    (hcell : ∀ x ∈ scope.names, x.2 ≠ .cell) (hco : scope.isCoroutine = false) (hgen : scope.isGenerator = false) (hk : scope.kind = .function) :
    wpAny (model prog w) A (call (.ref f) vals) Q E s :=
  wpAny_call (code_fn W hA lim F (fun _ _ _ _ _ => BindsTo.of_eq (hb _ _ _ _ _)) (fun y hy => of_decide_eq_true (List.all_eq_true.mp hloc y hy)) h hcell hco hgen hk)
end

theorem mine_mro_map : mroOf (.type "map") = pure [.type "map", .type "object"] := by rw [mroOf_type]; kernel_rfl
theorem mine_lookup_map_new : typeLookup (.type "map") "__new__" = pure (some (.builtin "map.__new__")) := by rw [typeLookup_type, builtinLookup_eq_fast]; kernel_rfl
theorem slot_map_init : Slot "map" "__init__" "object.__init__" :=
  .of (owner := "object") (n := "__init__") (by rw [typeLookup_type, builtinLookup_eq_fast]; kernel_rfl) (by decide +kernel) (by decide +kernel) (by decide +kernel)
    (by first | exact .inl (by decide +kernel) | exact .inr (by decide +kernel)) (by rw [isSubtype_type]; kernel_rfl)
theorem slot_map_iter : Slot "map" "__iter__" "map.__iter__" :=
  .of (owner := "map") (n := "__iter__") (by rw [typeLookup_type, builtinLookup_eq_fast]; kernel_rfl) (by decide +kernel) (by decide +kernel) (by decide +kernel)
    (by first | exact .inl (by decide +kernel) | exact .inr (by decide +kernel)) (by rw [isSubtype_type]; kernel_rfl)
theorem slot_map_next : Slot "map" "__next__" "map.__next__" :=
  .of (owner := "map") (n := "__next__") (by rw [typeLookup_type, builtinLookup_eq_fast]; kernel_rfl) (by decide +kernel) (by decide +kernel) (by decide +kernel)
    (by first | exact .inl (by decide +kernel) | exact .inr (by decide +kernel)) (by rw [isSubtype_type]; kernel_rfl)
theorem entry_map_new : entryFor table "map.__new__" = some Builtin.«map.__new__» := entryFor_of_tree (by kernel_rfl)
theorem entry_map_next : entryFor table "map.__next__" = some Builtin.«map.__next__» := entryFor_of_tree (by kernel_rfl)
theorem entry_map_iter : entryFor table "map.__iter__" = some Builtin.«dict_keyiterator.__iter__» :=
  entryFor_alias (id' := "dict_keyiterator.__iter__") (by kernel_rfl) rfl (by decide +kernel) (by kernel_rfl)
theorem args_map_iter (a : Value) : argsOk "map.__iter__" ⟨[a], []⟩ := by unfold argsOk; kernel_rfl
theorem args_map_next (a : Value) : argsOk "map.__next__" ⟨[a], []⟩ := by unfold argsOk; kernel_rfl
theorem map_no_len : typeLookup (.type "map") "__len__" = pure none := by rw [typeLookup_type, builtinLookup_eq_fast]; kernel_rfl
theorem map_no_hint : typeLookup (.type "map") "__length_hint__" = pure none := by rw [typeLookup_type, builtinLookup_eq_fast]; kernel_rfl
theorem called_map : TypeCalled "map" "map.__new__" "object.__init__" :=
  ⟨by decide +kernel, by decide +kernel, ⟨_, _, mine_mro_map⟩, madeBy_type mine_mro_map mine_lookup_map_new (by decide +kernel), by decide +kernel, by rw [isSubtype_type]; kernel_rfl, slot_map_init⟩
theorem typeCall_map (a : Value) (b : List Value) : checkTypeCall "map" ⟨a :: b, []⟩ = pure () := by kernel_rfl
theorem newCall_map_1 (a b : Value) : checkBuiltinCall "map.__new__" ⟨[.type "map", a, b], []⟩ = pure () := by kernel_rfl
theorem newCall_map_2 (a b c : Value) : checkBuiltinCall "map.__new__" ⟨[.type "map", a, b, c], []⟩ = pure () := by kernel_rfl
theorem newCall_map_3 (a b c d : Value) : checkBuiltinCall "map.__new__" ⟨[.type "map", a, b, c, d], []⟩ = pure () := by kernel_rfl
theorem initArgs_map_1 (o a b : Value) : argsOk "object.__init__" ⟨[o, a, b], []⟩ := by unfold argsOk; kernel_rfl


inductive All2 {α β : Type} (R : α → β → Prop) : List α → List β → Prop
  | nil : All2 R [] []
  | cons {a b l r} : R a b → All2 R l r → All2 R (a :: l) (b :: r)
theorem All2.length {α β : Type} {R : α → β → Prop} {l : List α} {r : List β} (h : All2 R l r) : l.length = r.length := by
  induction h with
  | nil => rfl
  | cons _ _ ih => simp [ih]
theorem All2.imp {α β : Type} {R S : α → β → Prop} (f : ∀ a b, R a b → S a b) {l : List α} {r : List β} (h : All2 R l r) : All2 S l r := by
  induction h with
  | nil => exact .nil
  | cons x _ ih => exact .cons (f _ _ x) ih
theorem All2.append {α β : Type} {R : α → β → Prop} {l l' : List α} {r r' : List β} (h : All2 R l r) (k : All2 R l' r') : All2 R (l ++ l') (r ++ r') := by
  induction h with
  | nil => exact k
  | cons x _ ih => exact .cons x ih

theorem All2.reverse {α β : Type} {R : α → β → Prop} {l : List α} {r : List β} (h : All2 R l r) : All2 R l.reverse r.reverse := by
  induction h with
  | nil => exact .nil
  | cons x _ ih => rw [List.reverse_cons, List.reverse_cons]; exact ih.append (.cons x .nil)

theorem Wd.sub {fs : List Env} {G h : Heap} {ow ow' : List (Addr × Obj)} (W : Wd fs G ow h) (hs : ∀ p ∈ ow', p ∈ ow) (hn : (ow'.map (·.1)).Nodup) : Wd fs G ow' h :=
  ⟨W.keep, fun p hp => W.own p (hs p hp), fun p hp => W.ownG p (hs p hp), hn, W.ff, fun p hp => W.fd p (hs p hp)⟩
theorem Wd.perm {fs : List Env} {G h : Heap} {ow ow' : List (Addr × Obj)} (W : Wd fs G ow h) (p : ow.Perm ow') : Wd fs G ow' h :=
  W.sub (fun _ hp => p.mem_iff.mpr hp) ((p.map _).nodup_iff.mp W.nd)
theorem Wd.right {fs : List Env} {G h : Heap} {a b : List (Addr × Obj)} (W : Wd fs G (a ++ b) h) : Wd fs G b h := by
  refine W.sub (fun _ hp => List.mem_append_right _ hp) ?_
  have := W.nd
  rw [List.map_append, List.nodup_append] at this
  exact this.2.1
theorem Lf.right {fs : List Env} {G h G' h' : Heap} {a b : List (Addr × Obj)} (l : Lf fs G h G' (a ++ b) h') : Lf fs G h G' b h' := ⟨l.gr, l.wd.right, l.fk⟩
theorem Lf.perm {fs : List Env} {G h G' h' : Heap} {a b : List (Addr × Obj)} (l : Lf fs G h G' a h') (p : a.Perm b) : Lf fs G h G' b h' := ⟨l.gr, l.wd.perm p, l.fk⟩

def IsIt (o : Obj) (l : Addr) (t : Nat) : Prop := o.cls = .type "list_iterator" ∧ o.data = .fields #[.ref l, .int t 0]
def Its (its : List (Addr × Obj)) (ls : List Addr) (t : Nat) : Prop := All2 (fun p l => IsIt p.2 l t) its ls
theorem IsIt.at {h : Heap} {a l : Addr} {o : Obj} {t : Nat} (x : IsIt o l t) (e : h.get? a = some o) : h.IsListIter a l t := ⟨o, e, x.1, x.2⟩

section
variable {prog : Program} {w : World} {A : Around} {E : Value → Shared → Prop} {s : Shared} {fs : List Env} {G : Heap} {ow : List (Addr × Obj)}

theorem iterAll_go (f : Value → Array Value → Sem (ForInStep (Array Value))) (hf : ∀ x r, f x r = (do let v ← holding r.toList (pyIter x); pure (.yield (r.push v)))) :
    ∀ (ls : List Addr) (ow : List (Addr × Obj)) (s : Shared) (acc : Array Value) (Q : Array Value → Shared → Prop), Wd fs G ow s.heap → (∀ l ∈ ls, ∃ xs, s.heap.IsList l xs) →
    (∀ its h', Its its ls 0 → s.heap.StaysIn h' → Wd fs G (its ++ ow) h' → Q (acc ++ (its.map fun p => Value.ref p.1).toArray) { s with heap := h' }) →
    wpAny (model prog w) A (forIn (ls.map Value.ref) acc f) Q E s
  | [], ow, s, acc, Q, W, _, h => by
    have := h [] s.heap .nil (stays_refl _) W
    simp only [List.map_nil, List.forIn_nil]
    exact wpAny_pure (by simpa using this)
  | l :: ls, ow, s, acc, Q, W, hl, h => by
    simp only [List.map_cons, List.forIn_cons, hf]
    obtain ⟨xs, hx⟩ := hl l (.head _)
    refine wpAny_bind (wpAny_bind (wpAny_holding (wpAny_pyIter_list hx (wpAny_pure ?_))))
    show wpAny _ _ (forIn _ _ f) _ _ _
    have k : s.heap.StaysIn (s.heap.push { cls := .type "list_iterator", data := .fields #[.ref l, .int 0 0] }) := fun _ _ e => Heap.get?_push_of_some _ e
    have e := Heap.get?_push_size s.heap (o := { cls := .type "list_iterator", data := .fields #[.ref l, .int 0 0] }) rfl
    have W₁ := W.own_new k (size_none _) e
    refine iterAll_go f hf ls _ { s with heap := _ } _ Q W₁ (fun l' hl' => ?_) fun its h' hi hk W' => ?_
    · obtain ⟨ys, hy⟩ := hl l' (.tail _ hl')
      exact ⟨ys, hy.push _⟩
    · have := h ((s.heap.objs.size, { cls := .type "list_iterator", data := .fields #[.ref l, .int 0 0] }) :: its) h' (.cons ⟨rfl, rfl⟩ hi) (stays_trans k hk) (W'.perm (by simpa using List.perm_middle))
      simpa using this

theorem iterAll_wd {ls : List Addr} {Q : List Value → Shared → Prop} (W : Wd fs G ow s.heap) (hl : ∀ l ∈ ls, ∃ xs, s.heap.IsList l xs)
    (h : ∀ its h', Its its ls 0 → s.heap.StaysIn h' → Wd fs G (its ++ ow) h' → Q (its.map fun p => Value.ref p.1) { s with heap := h' }) :
    wpAny (model prog w) A (Builtin.SmallTypes.iterAll (ls.map Value.ref)) Q E s := by
  unfold Builtin.SmallTypes.iterAll
  refine wpAny_bind (iterAll_go _ (fun _ _ => rfl) ls ow s #[] _ W hl fun its h' hi hk W' => wpAny_pure ?_)
  simpa using h its h' hi hk W'

theorem sub_map : isSubtype (.type "map") (.type "map") = pure true := by rw [isSubtype_type]; kernel_rfl

def mapObj (T : Addr) (f : Value) : Obj := { cls := .type "map", data := .fields #[.ref T, f] }
def tupObj (vs : List Value) : Obj := { cls := .type "tuple", data := .seq vs.toArray }

theorem map_new {f : Value} {ls : List Addr} {R : Result → Shared → Prop} (hne : ls ≠ []) (hle : ls.length ≤ 1000) (W : Wd fs G ow s.heap) (hl : ∀ l ∈ ls, ∃ xs, s.heap.IsList l xs)
    (h : ∀ its h' h'' T mo, Its its ls 0 → s.heap.StaysIn h' → Wd fs G (its ++ ow) h' → h'.StaysIn h'' → T = h'.objs.size → mo = T + 1 → h''.get? T = some (tupObj (its.map fun p => Value.ref p.1)) → h''.get? mo = some (mapObj T f) → h'.get? T = none → h'.get? mo = none →
      R (.ok (.ret (.ref mo))) { s with heap := h'' }) :
    wpAny (model prog w) A (Builtin.«map.__new__» ⟨.type "map" :: f :: ls.map Value.ref, []⟩) (fun fin s' => ∃ v, fin = .done (.ret v) ∧ R (.ok (.ret v)) s') E s := by
  obtain ⟨hp, g, d, tk, os⟩ := s
  have hsub := sub_map
  have hlen : ¬ ((f :: ls.map Value.ref).length < 2) := by
    cases ls with
    | nil => exact absurd rfl hne
    | cons a r => simp
  have hd : (f :: ls.map Value.ref).drop 1 = ls.map Value.ref := rfl
  have hh : (f :: ls.map Value.ref).headD .none = f := rfl
  unfold Builtin.«map.__new__»
  have hnew : Builtin.SmallTypes.newClass "map" ⟨.type "map" :: f :: ls.map Value.ref, []⟩ = pure (.type "map", f :: ls.map Value.ref) := by
    simp only [Builtin.SmallTypes.newClass, isType, hsub]; rfl
  rw [hnew]
  refine wpAny_bind (wpAny_pure ?_)
  refine wpAny_bind (wpAny_pure ?_)
  simp only [hlen, if_false, hd, hh]
  refine wpAny_bind ?_
  refine iterAll_wd (s := ⟨hp, g, d, tk, os⟩) W hl fun its h' hi hk W' => ?_
  have hil : its.length = ls.length := hi.length
  refine wpAny_bind (wpAny_newTuple ?_ (by rw [List.length_map, hil]; exact Nat.le_trans hle (by decide)))
  unfold Builtin.SmallTypes.newRecord
  refine wpAny_bind (wpAny_newObj_type (wpAny_pure ⟨_, rfl, ?_⟩) (by size_fits))
  have hz : (h'.push (tupObj (its.map fun p => Value.ref p.1))).objs.size = h'.objs.size + 1 := Heap.size_push ..
  have e1 := Heap.get?_push_size h' (o := tupObj (its.map fun p => Value.ref p.1)) rfl
  have e2 := Heap.get?_push_size (h'.push (tupObj (its.map fun p => Value.ref p.1))) (o := mapObj h'.objs.size f) rfl
  rw [hz] at e2
  exact hz ▸ h its h' _ _ _ hi hk W' (fun b o e => Heap.get?_push_of_some _ (Heap.get?_push_of_some _ e)) rfl rfl (Heap.get?_push_of_some _ e1) e2 (size_none _) (by
    cases q : h'.get? (h'.objs.size + 1) with
    | none => rfl
    | some o => exact absurd (Heap.lt_size q) (Nat.not_lt.mpr (Nat.le_succ _)))
end


theorem Wd.extBut {fs : List Env} {G h h' : Heap} {pre post : List (Addr × Obj)} {a : Addr} {o : Obj} (W : Wd fs G (pre ++ (a, o) :: post) h) (hs : Heap.ExtBut a h h') : Lf fs G h G (pre ++ post) h' := by
  have aG : G.get? a = none := W.ownG (a, o) (by simp)
  have af : ∀ env ∈ fs, env.frame ≠ some a := W.fd (a, o) (by simp)
  have nd := W.nd
  rw [List.map_append, List.map_cons] at nd
  have nd' : ((pre ++ post).map (·.1)).Nodup := by
    rw [List.map_append]
    exact (List.perm_middle.nodup_iff.mp nd).of_cons
  have na : ∀ p ∈ pre ++ post, p.1 ≠ a := fun p hp z => by
    have := (List.nodup_cons.mp (List.perm_middle.nodup_iff.mp nd)).1
    rw [← List.map_append] at this
    exact this (List.mem_map.mpr ⟨p, hp, z⟩)
  have sub : ∀ p ∈ pre ++ post, p ∈ pre ++ (a, o) :: post := fun p hp => by
    rcases List.mem_append.mp hp with hp | hp
    · exact List.mem_append_left _ hp
    · exact List.mem_append_right _ (.tail _ hp)
  refine ⟨stays_refl _, ⟨fun b x q => hs b x (fun z => by rw [z, aG] at q; cases q) (W.keep b x q), fun p hp => hs _ _ (na p hp) (W.own p (sub p hp)), fun p hp => W.ownG p (sub p hp), nd', ?_, fun p hp => W.fd p (sub p hp)⟩, ?_⟩
  · exact ff_to W.ff (fun e he L hL => W.frameG he hL) fun e he L hL x hx => ⟨x, hs _ _ (fun z => af e he (z ▸ hL)) hx, .inl rfl⟩
  · exact fun e he L hL x hx => ⟨x.slots, hs _ _ (fun z => af e he (z ▸ hL)) hx⟩

theorem isList_ne_iter {h : Heap} {l i l' : Addr} {xs : Array Value} {t : Nat} (x : h.IsList l xs) (y : h.IsListIter i l' t) : l ≠ i := by
  rintro rfl
  obtain ⟨o, ho, hc, _⟩ := x
  obtain ⟨o', ho', hc', _⟩ := y
  rw [ho] at ho'; cases ho'
  rw [hc] at hc'; exact absurd (Value.type.inj hc') (by decide)

section
variable {prog : Program} {w : World} {A : Around} {E : Value → Shared → Prop} {fs : List Env} {G : Heap} {ow : List (Addr × Obj)} {t : Nat} {xs : Addr → Array Value} {v : Addr → Value}

theorem nexts_item (f : Value → Array Value → Sem (ForInStep (Array Value))) (hf : ∀ x r, f x r = (do let u ← holding r.toList (Builtin.SmallTypes.nextOf x); pure (.yield (r.push u)))) :
    ∀ {its : List (Addr × Obj)} {ls : List Addr}, Its its ls t → ∀ (pre : List (Addr × Obj)) (s : Shared) (acc : Array Value) (Q : Array Value → Shared → Prop), Wd fs G (pre ++ (its ++ ow)) s.heap →
    (∀ l ∈ ls, s.heap.IsList l (xs l)) → (∀ l ∈ ls, (xs l)[t]? = some (v l)) →
    (∀ its' h', Its its' ls (t + 1) → its'.map (·.1) = its.map (·.1) → Lf fs G s.heap G (pre ++ (its' ++ ow)) h' → (∀ b, b ∉ its.map (·.1) → h'.get? b = s.heap.get? b) → Q (acc ++ (ls.map v).toArray) { s with heap := h' }) →
    wpAny (model prog w) A (forIn (its.map fun p => Value.ref p.1) acc f) Q E s := by
  intro its ls hI
  induction hI with
  | nil =>
    intro pre s acc Q W _ _ h
    have := h [] s.heap .nil rfl (Lf.refl W) fun _ _ => rfl
    simp only [List.map_nil, List.forIn_nil]
    exact wpAny_pure (by simpa using this)
  | @cons p l its ls hp _ ih =>
    intro pre s acc Q W hl hv h
    simp only [List.map_cons, List.forIn_cons, hf]
    have hit := hp.at (W.own p (by simp))
    have hll := hl l (.head _)
    refine wpAny_bind (wpAny_bind (wpAny_holding (wpAny_nextOf_list_item hit hll (hv l (.head _)) fun h₁ hit₁ hs₁ => wpAny_pure ?_)))
    show wpAny _ _ (forIn _ _ f) _ _ _
    obtain ⟨o', ho', hc', hd'⟩ := hit₁
    have W₁ : Wd fs G (pre ++ p :: (its ++ ow)) s.heap := by simpa using W
    obtain ⟨a, o⟩ := p
    have L₁ := W₁.put hs₁ ho'
    refine ih (pre ++ [(a, o')]) { s with heap := h₁ } _ Q (by simpa using L₁.wd) (fun l' hl' => ?_) (fun l' hl' => hv l' (.tail _ hl')) fun its' h' hi hm hL hk => ?_
    · have x := hl l' (.tail _ hl')
      exact x.extBut hs₁.extBut (isList_ne_iter x hit)
    · have := h ((a, o') :: its') h' (.cons ⟨hc', hd'⟩ hi) (by simp [hm]) (by have := L₁.trans hL; simpa using this) fun b hb => ?_
      · simpa using this
      · simp only [List.map_cons, List.mem_cons, not_or] at hb
        exact (hk b hb.2).trans (hs₁.2 b hb.1)

theorem nexts_end (hh : A.handled = none) (f : Value → Array Value → Sem (ForInStep (Array Value))) (hf : ∀ x r, f x r = (do let u ← holding r.toList (Builtin.SmallTypes.nextOf x); pure (.yield (r.push u)))) :
    ∀ {its : List (Addr × Obj)} {ls : List Addr}, Its its ls t → ∀ (pre : List (Addr × Obj)) (s : Shared) (acc : Array Value) (Q : Array Value → Shared → Prop), Wd fs G (pre ++ (its ++ ow)) s.heap →
    (∀ l ∈ ls, s.heap.IsList l (xs l)) → (∃ l ∈ ls, (xs l)[t]? = none) →
    (∀ h' e, Lf fs G s.heap G ow h' → (∃ o, h'.get? e = some o ∧ o.cls = .type "StopIteration") → E (.ref e) { s with heap := h' }) →
    wpAny (model prog w) A (forIn (its.map fun p => Value.ref p.1) acc f) Q E s := by
  intro its ls hI
  induction hI with
  | nil => rintro pre s acc Q W _ ⟨l, hl, _⟩ h; cases hl
  | @cons p l its ls hp _ ih =>
    intro pre s acc Q W hl hv h
    simp only [List.map_cons, List.forIn_cons, hf]
    have hit := hp.at (W.own p (by simp))
    have hll := hl l (.head _)
    obtain ⟨a, o⟩ := p
    have W₁ : Wd fs G (pre ++ (a, o) :: (its ++ ow)) s.heap := by simpa using W
    cases q : (xs l)[t]? with
    | none =>
      refine wpAny_bind (wpAny_bind (wpAny_holding (wpAny_nextOf_list_end hh hit hll q fun h₁ e hs₁ he => h h₁ e ?_ he)))
      have := W₁.extBut hs₁
      rw [← List.append_assoc] at this
      exact this.right
    | some u =>
      refine wpAny_bind (wpAny_bind (wpAny_holding (wpAny_nextOf_list_item hit hll q fun h₁ hit₁ hs₁ => wpAny_pure ?_)))
      show wpAny _ _ (forIn _ _ f) _ _ _
      obtain ⟨o', ho', hc', hd'⟩ := hit₁
      have L₁ := W₁.put hs₁ ho'
      refine ih (pre ++ [(a, o')]) { s with heap := h₁ } _ Q (by simpa using L₁.wd) (fun l' hl' => ?_) ?_ fun h' e hL he => h h' e (L₁.trans hL) he
      · have x := hl l' (.tail _ hl')
        exact x.extBut hs₁.extBut (isList_ne_iter x hit)
      · obtain ⟨l', hl', hn⟩ := hv
        rcases List.mem_cons.mp hl' with rfl | hl'
        · rw [q] at hn; cases hn
        · exact ⟨l', hl', hn⟩

theorem map_item {s : Shared} {mo T : Addr} {f : Value} {its : List (Addr × Obj)} {ls : List Addr} {Q : Option Value → Shared → Prop} (W : Wd fs G (its ++ ow) s.heap) (hI : Its its ls t)
    (hm : G.get? mo = some (mapObj T f)) (hT : G.get? T = some (tupObj (its.map fun p => Value.ref p.1))) (hl : ∀ l ∈ ls, s.heap.IsList l (xs l)) (hv : ∀ l ∈ ls, (xs l)[t]? = some (v l))
    (h : ∀ its' h', Its its' ls (t + 1) → its'.map (·.1) = its.map (·.1) → Lf fs G s.heap G (its' ++ ow) h' → (∀ b, b ∉ its.map (·.1) → h'.get? b = s.heap.get? b) →
      wpAny (model prog w) A.in1 (call f (ls.map v)) (fun r s' => Q (some r) s') (OwitStop (model prog w) A Q E) { s with heap := h' }) :
    wpAny (model prog w) A (pyNext (.ref mo)) Q E s := by
  have hmo := W.keep _ _ hm
  have hTo := W.keep _ _ hT
  have ht : s.TypeIs (.ref mo) "map" := ⟨_, hmo, rfl⟩
  unfold pyNext
  refine wpAny_bind (wpAny_attempt (wpAny_callSpecial?_slot (name := Str.ofString "__next__") ht slot_map_next (wpAny_call_entry slot_map_next ht entry_map_next ?_ (args_map_next _))))
  show wpAny _ _ (field (.ref mo) 0 >>= _) _ _ s
  refine wpAny_bind (wpAny_field hmo rfl (x := .ref T) rfl ?_)
  show wpAny _ _ (seqItems? (.ref T) >>= _) _ _ s
  refine wpAny_bind (wpAny_seqItems hTo rfl ?_)
  refine wpAny_bind ?_
  rw [← Array.forIn_toList]
  refine nexts_item (t := t) (xs := xs) (v := v) _ (fun _ _ => rfl) hI [] s #[] _ (by simpa using W) hl hv fun its' h' hi hm' hL hk => ?_
  have hmo' := hL.wd.keep _ _ hm
  refine wpAny_bind (wpAny_field hmo' rfl (x := f) rfl ?_)
  simp only [Array.empty_append]
  refine wpAny_bind (wpAny_holding ?_)
  refine wpAny_mono (h its' h' hi hm' (by simpa using hL) hk) (fun r s' hq => wpAny_bind (wpAny_letGo (wpAny_pure ⟨r, rfl, wpAny_pure hq⟩))) fun e s' he => ?_
  exact wpAny_bind (wpAny_mono he (fun b s₂ hb => by
    cases b with
    | true => exact wpAny_pure hb
    | false => exact wpAny_throw hb) fun _ _ z => z)

theorem map_end {s : Shared} {mo T : Addr} {f : Value} {its : List (Addr × Obj)} {ls : List Addr} {Q : Option Value → Shared → Prop} (hh : A.handled = none) (W : Wd fs G (its ++ ow) s.heap) (hI : Its its ls t)
    (hm : G.get? mo = some (mapObj T f)) (hT : G.get? T = some (tupObj (its.map fun p => Value.ref p.1))) (hl : ∀ l ∈ ls, s.heap.IsList l (xs l)) (hv : ∃ l ∈ ls, (xs l)[t]? = none)
    (h : ∀ h', Lf fs G s.heap G ow h' → Q none { s with heap := h' }) :
    wpAny (model prog w) A (pyNext (.ref mo)) Q E s := by
  have hmo := W.keep _ _ hm
  have hTo := W.keep _ _ hT
  have ht : s.TypeIs (.ref mo) "map" := ⟨_, hmo, rfl⟩
  unfold pyNext
  refine wpAny_bind (wpAny_attempt (wpAny_callSpecial?_slot (name := Str.ofString "__next__") ht slot_map_next (wpAny_call_entry slot_map_next ht entry_map_next ?_ (args_map_next _))))
  show wpAny _ _ (field (.ref mo) 0 >>= _) _ _ s
  refine wpAny_bind (wpAny_field hmo rfl (x := .ref T) rfl ?_)
  show wpAny _ _ (seqItems? (.ref T) >>= _) _ _ s
  refine wpAny_bind (wpAny_seqItems hTo rfl ?_)
  refine wpAny_bind ?_
  rw [← Array.forIn_toList]
  refine nexts_end (t := t) (xs := xs) (A := A.in1) hh _ (fun _ _ => rfl) hI [] s #[] _ (by simpa using W) hl hv fun h' e hL he => ?_
  obtain ⟨o, ho, hc⟩ := he
  refine wpAny_bind (wpAny_isInstance (T := "StopIteration") (b := true) ⟨o, ho, hc⟩ isSubtype_stop ?_)
  exact wpAny_pure (h h' hL)
end


/-- an exception on its way: its class, its arguments -/
structure Fly (fs : List Env) (G : Heap) (ow : List (Addr × Obj)) (e : Addr) (cls : Value) (args : List Value) (h : Heap) : Prop where
  ex : ∃ B t, G.StaysIn B ∧ (∀ p ∈ ow, B.get? p.1 = some p.2) ∧ Heap.FlyingW B fs e cls (.ref t) h ∧ h.TupAt t args ∧ B.get? t = none ∧ ∀ e ∈ fs, e.frame ≠ some t

def ReadsP (G : Heap) (v : Value) (d : PyData) : Prop := ∃ as, Reads G v d as
abbrev Rd := ReadsP
def Rds (G : Heap) (vs : List Value) (ds : List PyData) : Prop := ∃ as, ReadsAll G vs ds as
theorem Rd.mono {G G' : Heap} {v : Value} {d : PyData} (x : Rd G v d) (k : G.StaysIn G') : Rd G' v d := let ⟨as, r⟩ := x; ⟨as, Reads.keeps k r⟩
theorem Rds.mono {G G' : Heap} {v : List Value} {d : List PyData} (x : Rds G v d) (k : G.StaysIn G') : Rds G' v d := let ⟨as, r⟩ := x; ⟨as, ReadsAll.keeps k r⟩
theorem Rd.int {G : Heap} (i : Int) (t : Tok) : Rd G (.int i t) (.int i) := ⟨_, .int i t⟩
theorem Rds.nil {G : Heap} : Rds G [] [] := ⟨_, .nil⟩
theorem Rds.cons {G : Heap} {v : Value} {vs : List Value} {d : PyData} {ds : List PyData} (x : Rd G v d) (y : Rds G vs ds) : Rds G (v :: vs) (d :: ds) := let ⟨_, a⟩ := x; let ⟨_, b⟩ := y; ⟨_, .cons a b⟩
theorem Rds.all2 {G : Heap} : ∀ {vs : List Value} {ds : List PyData}, Rds G vs ds ↔ All2 (Rd G) vs ds := by
  intro vs ds
  constructor
  · rintro ⟨as, r⟩
    induction vs generalizing ds as with
    | nil => cases r; exact .nil
    | cons v vs ih =>
      cases r with
      | cons x y => exact .cons ⟨_, x⟩ (ih _ y)
  · intro h
    induction h with
    | nil => exact .nil
    | cons x _ ih => exact Rds.cons x ih
theorem Rds.append {G : Heap} {vs ws : List Value} {ds es : List PyData} (x : Rds G vs ds) (y : Rds G ws es) : Rds G (vs ++ ws) (ds ++ es) := Rds.all2.mpr ((Rds.all2.mp x).append (Rds.all2.mp y))
theorem Rds.length {G : Heap} {vs : List Value} {ds : List PyData} (x : Rds G vs ds) : vs.length = ds.length := (Rds.all2.mp x).length
theorem Rd.list {G : Heap} {a : Addr} {vs : Array Value} {ds : List PyData} (x : G.IsList a vs) (y : Rds G vs.toList ds) : Rd G (.ref a) (.list ds) := by
  obtain ⟨o, ho, hc, n, hd⟩ := x
  obtain ⟨as, r⟩ := y
  exact ⟨_, .list ho hc hd r⟩
theorem Rd.tuple {G : Heap} {a : Addr} {vs : Array Value} {ds : List PyData} {o : Obj} {n : Nat} (ho : G.get? a = some o) (hc : o.cls = .type "tuple") (hd : o.data = .seq vs n) (y : Rds G vs.toList ds) : Rd G (.ref a) (.tuple ds) := by
  obtain ⟨as, r⟩ := y
  exact ⟨_, .tuple ho hc hd r⟩
theorem Rd.tup {G : Heap} {a : Addr} {vs : List Value} {ds : List PyData} (ho : G.get? a = some (tupObj vs)) (y : Rds G vs ds) : Rd G (.ref a) (.tuple ds) := Rd.tuple ho rfl rfl (by simpa [tupObj] using y)
theorem Rd.list_inv {G : Heap} {v : Value} {ds : List PyData} (x : Rd G v (.list ds)) : ∃ a vs, v = .ref a ∧ G.IsList a vs ∧ Rds G vs.toList ds := by
  obtain ⟨as, r⟩ := x
  cases r with
  | list ho hc hd r => exact ⟨_, _, rfl, ⟨_, ho, hc, _, hd⟩, _, r⟩
theorem Rd.tuple_inv {G : Heap} {v : Value} {ds : List PyData} (x : Rd G v (.tuple ds)) : ∃ a o vs n, v = .ref a ∧ G.get? a = some o ∧ o.cls = .type "tuple" ∧ o.data = .seq vs n ∧ Rds G vs.toList ds := by
  obtain ⟨as, r⟩ := x
  cases r with
  | tuple ho hc hd r => exact ⟨_, _, _, _, rfl, ho, hc, hd, _, r⟩
theorem Rd.int_inv {G : Heap} {v : Value} {i : Int} (x : Rd G v (.int i)) : ∃ t, v = .int i t := by
  obtain ⟨as, r⟩ := x
  cases r with
  | int _ t => exact ⟨t, rfl⟩

def lstObj (vs : Array Value) (c : Nat) : Obj := { cls := .type "list", dict := none, data := .seq vs c, slots := #[] }

section
variable {σ : Type}
inductive Run (step : σ → Option PyData → σ → Prop) (rais : σ → Int → σ → Prop) : σ → List PyData → Option Int → σ → Prop
  | stop {a b} : step a none b → Run step rais a [] none b
  | rais {a k b} : rais a k b → Run step rais a [] (some k) b
  | turn {a x b xs r c} : step a (some x) b → Run step rais b xs r c → Run step rais a (x :: xs) r c

/-- an iterator: what its next may give -/
structure Steps (prog : Program) (w : World) (fs : List Env) (S : Heap → Prop) (d u : Nat) (U : Heap → σ → List (Addr × Obj) → Prop) (it : Value) (step : σ → Option PyData → σ → Prop) (rais : σ → Int → σ → Prop) : Prop where
  next : ∀ {a o b}, step a o b → ∀ (A : Around) (G : Heap) (pre ow : List (Addr × Obj)) (s : Shared) (Q : Option Value → Shared → Prop) (E : Value → Shared → Prop), Ar A fs d u → S G → U G a ow → Wd fs G (pre ++ ow) s.heap →
    (∀ r G' h' tk ow', U G' b ow' → Lf fs G s.heap G' (pre ++ ow') h' → S G' → (match o with | none => r = none | some x => ∃ v, r = some v ∧ Rd G' v x) → Q r { s with heap := h', toks := tk }) → wpAny (model prog w) A (pyNext it) Q E s
  rais : ∀ {a k b}, rais a k b → ∀ (A : Around) (G : Heap) (pre ow : List (Addr × Obj)) (s : Shared) (Q : Option Value → Shared → Prop) (E : Value → Shared → Prop), Ar A fs d u → S G → U G a ow → Wd fs G (pre ++ ow) s.heap →
    (∀ e t G' h' tk ow', U G' b ow' → Lf fs G s.heap G' (pre ++ ow') h' → S G' → Fly fs G' (pre ++ ow') e (.type "ValueError") [.int k t] h' → E (.ref e) { s with heap := h', toks := tk }) → wpAny (model prog w) A (pyNext it) Q E s
end

section
variable {σ : Type} {prog : Program} {w : World} {fs : List Env} {S : Heap → Prop} {d u : Nat} {U : Heap → σ → List (Addr × Obj) → Prop} {it : Value} {step : σ → Option PyData → σ → Prop} {rais : σ → Int → σ → Prop}

theorem ext_loop (K : Steps prog w fs S d u U it step rais) {res : Value} {L : Addr} {a : σ} {xs : List PyData} {r : Option Int} {b : σ} (run : Run step rais a xs r b) :
    ∀ (A : Around) (G : Heap) (pre ow : List (Addr × Obj)) (s : Shared) (acc : Array Value) (c : Nat) (ds : List PyData) (R : Result → Shared → Prop), Ar A fs d (u + 1) → S G → U G a ow → Wd fs G ((L, lstObj acc c) :: (pre ++ ow)) s.heap → Rds G acc.toList ds → acc.size + xs.length ≤ 100000 →
    (∀ G' h' tk acc' c' ow', r = none → U G' b ow' → Lf fs G s.heap G' ((L, lstObj acc' c') :: (pre ++ ow')) h' → S G' → Rds G' acc'.toList (ds ++ xs) → R (.ok (.ret res)) { s with heap := h', toks := tk }) →
    (∀ k e t G' h' tk ow', r = some k → U G' b ow' → Lf fs G s.heap G' (pre ++ ow') h' → S G' → Fly fs G' (pre ++ ow') e (.type "ValueError") [.int k t] h' → R (.error (.ref e)) { s with heap := h', toks := tk }) →
    codeAny (model prog w) A (.builtin "list.extend.loop" ⟨[.ref L, it, res], []⟩) R s := by
  induction run with
  | stop hs =>
    intro A G pre ow s acc c ds R hA hSG hU W hacc hz h _
    refine codeAny_builtin F.entry_extend_loop ?_
    rw [Around.under_plainId F.plain_extend_loop _]
    show wpAny _ A.in1 (pyNext it >>= _) _ _ s
    refine wpAny_bind (K.next hs A.in1 G ((L, lstObj acc c) :: pre) ow s _ _ hA.in1 hSG hU W fun r G' h' tk ow' U' l S' hr => ?_)
    subst hr
    exact wpAny_pure (h G' h' tk acc c ow' rfl U' l S' (by simpa using hacc.mono l.gr))
  | rais hs =>
    intro A G pre ow s acc c ds R hA hSG hU W hacc hz _ h
    refine codeAny_builtin F.entry_extend_loop ?_
    rw [Around.under_plainId F.plain_extend_loop _]
    show wpAny _ A.in1 (pyNext it >>= _) _ _ s
    refine wpAny_bind (K.rais hs A.in1 G ((L, lstObj acc c) :: pre) ow s _ _ hA.in1 hSG hU W fun e t G' h' tk ow' U' l S' hr => ?_)
    refine h _ e t G' h' tk ow' rfl U' (Lf.right (a := [(L, lstObj acc c)]) l) S' ?_
    obtain ⟨B, t', h1, h2, h3⟩ := hr.ex
    exact ⟨B, t', h1, fun p hp => h2 p (.tail _ hp), h3⟩
  | @turn a x b xs r c' hs _ ih =>
    intro A G pre ow s acc c ds R hA hSG hU W hacc hz h h2
    refine codeAny_builtin F.entry_extend_loop ?_
    rw [Around.under_plainId F.plain_extend_loop _]
    show wpAny _ A.in1 (pyNext it >>= _) _ _ s
    refine wpAny_bind (K.next hs A.in1 G ((L, lstObj acc c) :: pre) ow s _ _ hA.in1 hSG hU W fun r G' h' tk ow' U' l S' hr => ?_)
    obtain ⟨v, rfl, hv⟩ := hr
    have hL := l.wd.own (L, lstObj acc c) (.head _)
    simp only [List.length_cons] at hz
    have hl : sizeLine = 2 ^ 24 := rfl
    show wpAny _ A.in1 (updateSeq L (·.push v) >>= fun _ => again (.builtin "list.extend.loop" ⟨[.ref L, it, res], []⟩)) _ _ _
    refine wpAny_bind (wpAny_updateSeq (s := { s with heap := h', toks := tk }) hL rfl (wpAny_pure ⟨plainId_quiet F.plain_extend_loop _, ?_⟩) (by omega) (by rw [Array.size_push]; omega))
    have e := Heap.get?_update_self (Obj.mapSeq (·.push v)) hL rfl
    have l' := Wd.put (pre := []) l.wd (Heap.SameBut.update h' L (Obj.mapSeq (·.push v))) e
    have L2 := l.trans l'
    have eo : Obj.mapSeq (·.push v) (lstObj acc c) = lstObj (acc.push v) (if (acc.push v).size == acc.size then c else c + 1) := rfl
    simp only [List.nil_append] at l' L2
    rw [eo] at l' L2
    refine ih A G' pre ow' { s with heap := _, toks := tk } (acc.push v) _ (ds ++ [x]) R hA S' U' l'.wd ?_ (by rw [Array.size_push]; omega) (fun G'' h'' tk' acc' c'' ow'' hr U'' l'' S'' hd => ?_) fun k e t G'' h'' tk' ow'' hr U'' l'' S'' hf => ?_
    · rw [Array.toList_push]
      exact (hacc.mono l.gr).append (Rds.cons hv .nil)
    · exact h G'' h'' tk' acc' c'' ow'' hr U'' (Lf.trans L2 l'') S'' (by simpa using hd)
    · exact h2 k e t G'' h'' tk' ow'' hr U'' ⟨stays_trans L2.gr l''.gr, l''.wd, L2.fk.trans l''.fk⟩ S'' hf
end

section
variable {σ : Type} {prog : Program} {w : World} {fs : List Env} {S : Heap → Prop} {d u : Nat} {U : Heap → σ → List (Addr × Obj) → Prop} {step : σ → Option PyData → σ → Prop} {rais : σ → Int → σ → Prop}

/-- an iterator's own looks: its type, iter of it, no length -/
structure IterIs (prog : Program) (w : World) (fs : List Env) (S : Heap → Prop) (d u : Nat) (mo : Addr) (T : Value) (G : Heap) : Prop where
  ty : ∀ M : Model, Looks M G (typeOf (.ref mo)) T
  nl : (T == .type "list") = false
  nt : (T == .type "tuple") = false
  hint : ∀ M : Model, Looks M G (Builtin.List.listLengthHint (.ref mo)) true
  iter : ∀ (A : Around) (G₁ : Heap) (ow : List (Addr × Obj)) (s : Shared) (Q E : Value → Shared → Prop), Ar A fs d u → S G₁ → G.StaysIn G₁ → Wd fs G₁ ow s.heap →
    (∀ G' h' tk, Lf fs G₁ s.heap G' ow h' → S G' → Q (.ref mo) { s with heap := h', toks := tk }) → wpAny (model prog w) A (pyIter (.ref mo)) Q E s

theorem list_call {mo : Addr} {T : Value} {A : Around} {G : Heap} {s : Shared} {a b : σ} {ow : List (Addr × Obj)} {xs : List PyData} {r : Option Int} {Q E : Value → Shared → Prop}
    (hS : ∀ G G', S G → G.StaysIn G' → S G') (K : Steps prog w fs S d u U (.ref mo) step rais) (I : IterIs prog w fs S d u mo T G) (run : Run step rais a xs r b)
    (hA : Ar A fs d (u + 3)) (hSG : S G) (hU : U G a ow) (hUm : ∀ G G' a ow, U G a ow → G.StaysIn G' → U G' a ow) (W : Wd fs G ow s.heap) (hz : xs.length ≤ 100000) (hmo : ∃ o, G.get? mo = some o)
    (h : ∀ L G' h' tk vs ow', r = none → U G' b ow' → Lf fs G s.heap G' ow' h' → S G' → G'.IsList L vs → Rds G' vs.toList xs → Q (.ref L) { s with heap := h', toks := tk })
    (hE : ∀ k e t G' h' tk ow', r = some k → U G' b ow' → Lf fs G s.heap G' ow' h' → S G' → Fly fs G' ow' e (.type "ValueError") [.int k t] h' → E (.ref e) { s with heap := h', toks := tk }) :
    wpAny (model prog w) A (call (.type "list") [.ref mo]) Q E s := by
  have k0 : s.heap.StaysIn (s.heap.push { cls := .type "list", data := .seq #[] }) := fun _ _ e => Heap.get?_push_of_some _ e
  have e0 : (s.heap.push { cls := .type "list", data := .seq #[] }).get? s.heap.objs.size = some (lstObj #[] 0) := Heap.get?_push_size _ rfl
  refine callType_codes (Q₁ := fun obj s₁ => obj = .ref s.heap.objs.size ∧ s₁ = { s with heap := s.heap.push { cls := .type "list", data := .seq #[] } }) F.called_list (F.typeCall_list_1 _) F.entry_list_init
    (code_list_new _ ⟨rfl, rfl⟩) fun obj s₁ h₁ => ?_
  obtain ⟨rfl, rfl⟩ := h₁
  refine ⟨⟨_, e0, rfl⟩, F.args_list_init_2 _ _, ?_⟩
  have W₀ := W.own_new k0 (size_none _) e0
  have nmo : mo ≠ s.heap.objs.size := by
    obtain ⟨o, ho⟩ := hmo
    intro z
    have := W.keep _ _ ho
    rw [z, size_none] at this; cases this
  generalize hL : s.heap.objs.size = L at *
  generalize hh₀ : s.heap.push { cls := .type "list", data := .seq #[] } = h₀ at *
  show wpAny _ A.in1.in1 (do let old ← Builtin.List.listItems (.ref L); Builtin.List.listUpdate (.ref L) (fun _ => #[]); letGo old.toList.reverse; Builtin.List.listExtendWith (.ref L) (.ref mo) .none) _ _ { s with heap := h₀ }
  refine wpAny_bind ?_
  unfold Builtin.List.listItems
  refine wpAny_bind (wpAny_seqItems (s := { s with heap := h₀ }) e0 rfl (wpAny_pure ?_))
  show wpAny _ A.in1.in1 (updateSeq L (fun _ => #[]) >>= fun _ => letGo (#[] : Array Value).toList.reverse >>= fun _ => Builtin.List.listExtendWith (.ref L) (.ref mo) .none) _ _ { s with heap := h₀ }
  refine wpAny_bind (wpAny_updateSeq (s := { s with heap := h₀ }) e0 rfl ?_)
  refine wpAny_bind (wpAny_letGo ?_)
  have e1 := Heap.get?_update_self (Obj.mapSeq (fun _ => (#[] : Array Value))) e0 rfl
  have l1 := Wd.put (pre := []) W₀ (Heap.SameBut.update h₀ L (Obj.mapSeq (fun _ => (#[] : Array Value)))) e1
  have eo : Obj.mapSeq (fun _ => (#[] : Array Value)) (lstObj #[] 0) = lstObj #[] 0 := rfl
  rw [eo] at l1 e1
  simp only [List.nil_append] at l1
  generalize hh₁ : h₀.update L (Obj.mapSeq (fun _ => (#[] : Array Value))) = h₁ at *
  have hL1 : Lf fs G s.heap G ((L, lstObj #[] 0) :: ow) h₁ := ⟨stays_refl _, l1.wd, FK.trans (FK.keeps k0) l1.fk⟩
  unfold Builtin.List.listExtendWith
  refine wpAny_bind (I.ty _ A.in1.in1 _ _ { s with heap := h₁ } l1.wd.keep ?_)
  have hs : Builtin.List.listSameRef (.ref L) (.ref mo) = false := by simp [Builtin.List.listSameRef, Ne.symm nmo]
  simp only [hs, I.nl, I.nt, Bool.or_false, Bool.false_eq_true, if_false]
  refine wpAny_bind (I.iter A.in1.in1 G _ { s with heap := h₁ } _ _ (hA.in1.in1.less (Nat.le_refl _) (by omega)) hSG (stays_refl _) l1.wd fun G₂ h₂ tk₂ l2 S₂ => ?_)
  refine wpAny_bind (wpAny_holding ?_)
  refine I.hint _ A.in1.in1 _ _ { s with heap := h₂, toks := tk₂ } (stays_trans l2.gr l2.wd.keep) ?_
  show wpAny _ A.in1.in1 (rule "list.extend.makes-room" >>= fun _ => Builtin.List.listTouch (.ref L) >>= fun _ =>
    again (.builtin "list.extend.loop" ⟨[.ref L, .ref mo, .none], []⟩)) _ _ _
  refine wpAny_bind (wpAny_rule ?_)
  refine wpAny_bind ?_
  have e2 := l2.wd.own (L, lstObj #[] 0) (.head _)
  show wpAny _ A.in1.in1 (updateSeq L (·.push .none) >>= fun _ => updateSeq L (·.pop)) _ _ _
  refine wpAny_bind (wpAny_updateSeq (s := { s with heap := h₂, toks := tk₂ }) e2 rfl ?_)
  have e3 := Heap.get?_update_self (Obj.mapSeq (·.push Value.none)) e2 rfl
  have l3 := Wd.put (pre := []) l2.wd (Heap.SameBut.update h₂ L (Obj.mapSeq (·.push Value.none))) e3
  refine wpAny_updateSeq (s := { s with heap := _, toks := tk₂ }) e3 rfl ?_ (by decide) (by decide)
  have e4 := Heap.get?_update_self (Obj.mapSeq (·.pop)) e3 rfl
  have l4 := Wd.put (pre := []) l3.wd (Heap.SameBut.update _ L (Obj.mapSeq (·.pop))) e4
  have eo4 : Obj.mapSeq (·.pop) (Obj.mapSeq (·.push Value.none) (lstObj #[] 0)) = lstObj #[] 2 := rfl
  rw [eo4] at l4 e4
  simp only [List.nil_append] at l4
  have L4 : Lf fs G s.heap G₂ ((L, lstObj #[] 2) :: ow) _ := (hL1.trans l2).trans (l3.trans l4)
  refine wpAny_pure ⟨plainId_quiet F.plain_extend_loop _, ?_⟩
  refine ext_loop K run A.in1 G₂ [] ow { s with heap := _, toks := tk₂ } #[] 2 [] _ (hA.in1.less (Nat.le_refl _) (by omega)) S₂ (hUm _ _ _ _ hU l2.gr) l4.wd Rds.nil (by simpa using hz) (fun G' h' tk acc' c' ow' hr U' l S' hd => ?_) fun k e t G' h' tk ow' hr U' l S' hf => ?_
  · have L5 := L4.trans l
    simp only [List.nil_append] at L5
    obtain ⟨G'', g1, g2, g3⟩ := L5.wd.grow (ow' := ow') (stays_refl _) (fun p hp => .tail _ hp) (L5.wd.nd |> fun n => by
      rw [List.map_cons] at n; exact n.of_cons)
    have nd := L5.wd.nd
    rw [List.map_cons, List.nodup_cons] at nd
    have eL := g3 L (lstObj acc' c') (L5.wd.own _ (.head _)) nd.1 fun e he hf => L5.wd.fd (L, lstObj acc' c') (.head _) e he hf
    exact ⟨rfl, h L G'' h' tk acc' ow' hr (hUm _ _ _ _ U' g1) ⟨stays_trans L5.gr g1, g2, L5.fk⟩ (hS _ _ S' g1) ⟨_, eL, rfl, _, rfl⟩ (by simpa using hd.mono g1)⟩
  · simp only [List.nil_append] at l hf
    exact hE k e t G' h' tk ow' hr U' ⟨stays_trans L4.gr l.gr, l.wd, L4.fk.trans l.fk⟩ S' hf

theorem map_iterIs {mo T : Addr} {f : Value} {G : Heap} (hm : G.get? mo = some (mapObj T f)) : IterIs prog w fs S d u mo (.type "map") G where
  ty := fun M A Q E s k q => wpAny_typeOf (T := "map") ⟨_, k _ _ hm, rfl⟩ q
  nl := by decide
  nt := by decide
  hint := fun M A Q E s k q => by
    have hT : s.TypeIs (.ref mo) "map" := ⟨_, k _ _ hm, rfl⟩
    unfold Builtin.List.listLengthHint
    refine wpAny_bind (wpAny_specialOf hT map_no_len ?_)
    show wpAny M A (specialOf (Value.ref mo) (Str.ofString "__length_hint__") >>= _) _ _ _
    exact wpAny_bind (wpAny_specialOf hT map_no_hint (wpAny_pure q))
  iter := fun A G₁ ow s Q E hA hS k W h => by
    have hT : s.TypeIs (.ref mo) "map" := ⟨_, W.keep _ _ (k _ _ hm), rfl⟩
    refine wpAny_pyIter_slot hT slot_map_iter (wpAny_call_entry slot_map_iter hT entry_map_iter ?_ (args_map_iter _))
    show wpAny _ _ (ret (.ref mo)) _ _ s
    exact wpAny_pure ⟨_, rfl, "map", _, hT, slot_map_next.lookup, h G₁ s.heap s.toks (Lf.refl W) hS⟩
end

theorem initArgs_map_2 (o a b c : Value) : argsOk "object.__init__" ⟨[o, a, b, c], []⟩ := by unfold argsOk; kernel_rfl
theorem initArgs_map_3 (o a b c d : Value) : argsOk "object.__init__" ⟨[o, a, b, c, d], []⟩ := by unfold argsOk; kernel_rfl

theorem map_checks (f : Value) (ls : List Addr) (h1 : ls ≠ []) (h3 : ls.length ≤ 3) :
    checkBuiltinCall "map.__new__" ⟨.type "map" :: f :: ls.map Value.ref, []⟩ = pure () ∧ ∀ o, argsOk "object.__init__" ⟨o :: f :: ls.map Value.ref, []⟩ := by
  match ls, h1, h3 with
  | [a], _, _ => exact ⟨newCall_map_1 _ _, fun o => initArgs_map_1 _ _ _⟩
  | [a, b], _, _ => exact ⟨newCall_map_2 _ _ _, fun o => initArgs_map_2 _ _ _ _⟩
  | [a, b, c], _, _ => exact ⟨newCall_map_3 _ _ _ _, fun o => initArgs_map_3 _ _ _ _ _⟩
  | _ :: _ :: _ :: _ :: _, _, h => exact absurd h (by simp)

section
variable {prog : Program} {w : World} {A : Around} {E : Value → Shared → Prop} {s : Shared} {fs : List Env} {G : Heap} {ow : List (Addr × Obj)}
theorem map_call {f : Value} {ls : List Addr} {Q : Value → Shared → Prop} (hne : ls ≠ []) (hle : ls.length ≤ 3) (W : Wd fs G ow s.heap) (hl : ∀ l ∈ ls, ∃ xs, s.heap.IsList l xs)
    (h : ∀ its G' h' T mo, Its its ls 0 → Lf fs G s.heap G' (its ++ ow) h' → s.heap.StaysIn h' → G'.get? T = some (tupObj (its.map fun p => Value.ref p.1)) → G'.get? mo = some (mapObj T f) → Q (.ref mo) { s with heap := h' }) :
    wpAny (model prog w) A (call (.type "map") (f :: ls.map Value.ref)) Q E s := by
  obtain ⟨c1, c2⟩ := map_checks f ls hne hle
  refine callType_codes (Q₁ := fun obj s₁ => s₁.TypeIs obj "map" ∧ Q obj s₁) called_map (typeCall_map _ _) F.entry_object_init ?_ fun obj s₁ h₁ => ?_
  · refine codeAny_call_builtin called_map.plain entry_map_new (wpAny_of_eq c1 (wpAny_mono (map_new (R := wants (fun obj s₁ => s₁.TypeIs obj "map" ∧ Q obj s₁) E) (E := fun e s' => wants (fun obj s₁ => s₁.TypeIs obj "map" ∧ Q obj s₁) E (.error e) s') hne (Nat.le_trans hle (by decide)) W hl fun its h' h'' T mo hi hk W' hk' hT hmo eT em nT nm => ?_) (fun fin s' q => ?_) fun _ _ z => z))
    · obtain ⟨G', l, g⟩ := W'.lf_grow hk'
      have L : Lf fs G s.heap G' (its ++ ow) h'' := ⟨l.gr, l.wd, (FK.keeps hk).trans l.fk⟩
      exact ⟨⟨_, em, rfl⟩, h its G' h'' T mo hi L (stays_trans hk hk') (g _ _ nT eT) (g _ _ nm em)⟩
    · obtain ⟨v, rfl, hv⟩ := q
      exact hv
  · refine ⟨h₁.1, c2 obj, ?_⟩
    refine wpAny_mono (object_init_meets called_map.init.lookup called_map.made (by decide) prog w A.in1 (wants (fun r s₂ => r = .none ∧ Q obj s₂) E) s₁ ?_) (fun fin s' q => ?_) fun _ _ z => z
    · exact ⟨h₁.1, rfl, h₁.2⟩
    · exact q
end


def e0 : Heap := {}
theorem e0_none (b : Addr) : e0.get? b = none := by
  unfold e0 Heap.get?
  simp
def dumpOf (L : Addr) (h : Heap) : List (Addr × Obj) := (List.range h.objs.size).filterMap fun a => if a = L then none else (h.get? a).map fun o => (a, o)
theorem dump_mem {L b : Addr} {h : Heap} {o : Obj} (e : h.get? b = some o) (n : b ≠ L) : (b, o) ∈ dumpOf L h := by
  unfold dumpOf
  rw [List.mem_filterMap]
  exact ⟨b, List.mem_range.mpr (Heap.lt_size e), by simp [n, e]⟩
theorem dump_news (L : Addr) (h : Heap) : News e0 L h (dumpOf L h) := by
  intro p hp
  unfold dumpOf at hp
  rw [List.mem_filterMap] at hp
  obtain ⟨a, _, q⟩ := hp
  by_cases z : a = L
  · simp [z] at q
  · simp only [z, if_false] at q
    cases e : h.get? a with
    | none => rw [e] at q; cases q
    | some o =>
      rw [e] at q
      cases q
      exact ⟨e, z, e0_none _⟩
theorem dump_fr {L : Addr} {h : Heap} {m : Str → Option Value} (n : h.Ns L m) : Fr e0 L h m := ⟨n, fun b o e => (by rw [e0_none] at e; cases e), Nat.zero_le _⟩

section
variable {X : Ent} {G h h' : Heap} {ow : List (Addr × Obj)} {env : Env} {m m' : Str → Option Value}
theorem At.ext (AT : At X G ow env m h) (hs : Heap.ExtBut env.locals h h') (hn : h'.Ns env.locals m') : At X G ow env m' h' := by
  refine ⟨AT.gr, ⟨fun b o e => hs b o (fun z => by rw [z, AT.nG] at e; cases e) (AT.keep b o e), fun p hp => hs _ _ (AT.nO p hp) (AT.wd.own p hp), AT.wd.ownG, AT.wd.nd, ?_, AT.wd.fd⟩, ?_, hn, AT.fr, AT.nX⟩
  · refine ff_to AT.wd.ff (fun e he L hL => AT.wd.frameG he hL) fun e he L hL o ho => ?_
    by_cases z : L = env.locals
    · subst z
      obtain ⟨o', es, ep, ho', hd, _⟩ := hn
      exact ⟨o', ho', .inr fun vs q => by rw [hd] at q; cases q⟩
    · exact ⟨o, hs _ _ z ho, .inl rfl⟩
  · exact AT.fk.trans fun e he L hL o ho => ⟨o.slots, hs _ _ (fun z => AT.nX e he (z ▸ hL)) ho⟩

theorem At.extG (AT : At X G ow env m h) (hs : Heap.ExtBut env.locals h h') (hn : h'.Ns env.locals m') :
    ∃ G', G.StaysIn G' ∧ At X G' ow env m' h' ∧ ∀ b o, h.get? b = none → h'.get? b = some o → G'.get? b = some o := by
  have A1 := AT.ext hs hn
  obtain ⟨G', a, b, c⟩ := A1.wd.grow (stays_refl _) (fun _ h => h) A1.wd.nd
  refine ⟨G', a, A1.back ⟨a, b, FK.refl _ _⟩, fun x o n e => c x o e (fun mm => ?_) fun en he hf => ?_⟩
  · obtain ⟨p, hp, rfl⟩ := List.mem_map.mp mm
    rw [AT.wd.own p hp] at n; cases n
  · obtain ⟨o', ho', _⟩ := AT.wd.frameIn he hf
    rw [ho'] at n; cases n
theorem At.extO (AT : At X G ow env m h) (hs : Heap.ExtBut env.locals h h') (hn : h'.Ns env.locals m') {a : Addr} {o : Obj} (n : h.get? a = none) (e : h'.get? a = some o) : At X G ((a, o) :: ow) env m' h' := by
  have A1 := AT.ext hs hn
  refine A1.back ⟨stays_refl _, ⟨A1.wd.keep, fun p hp => ?_, fun p hp => ?_, ?_, A1.wd.ff, fun p hp en he hf => ?_⟩, FK.refl _ _⟩
  · rcases List.mem_cons.mp hp with rfl | hp
    · exact e
    · exact A1.wd.own p hp
  · rcases List.mem_cons.mp hp with rfl | hp
    · exact fresh_none AT.keep n
    · exact A1.wd.ownG p hp
  · rw [List.map_cons, List.nodup_cons]
    refine ⟨fun m => ?_, A1.wd.nd⟩
    obtain ⟨p, hp, q⟩ := List.mem_map.mp m
    have := AT.wd.own p hp
    rw [q, n] at this; cases this
  · rcases List.mem_cons.mp hp with rfl | hp
    · obtain ⟨o', ho', _⟩ := AT.wd.frameIn he hf
      rw [n] at ho'; cases ho'
    · exact A1.wd.fd p hp en he hf

/-- over to the library's ledger and back -/
theorem At.led (AT : At X G ow env m h) : Fr e0 env.locals h m ∧ News e0 env.locals h (dumpOf env.locals h) := ⟨dump_fr AT.ns, dump_news _ _⟩
theorem led_back {L : Addr} {news : List (Addr × Obj)} (N : News e0 L h' news) (s : ∀ p ∈ dumpOf L h, p ∈ news) : Heap.ExtBut L h h' := fun _ _ n e => (N _ (s _ (dump_mem e n))).1
end

section
variable {prog : Program} {w : World} {A : Around} {E : Value → Shared → Prop} {s : Shared} {X : Ent} {G : Heap} {ow : List (Addr × Obj)} {env : Env} {m : Str → Option Value} {mg mb : Str → Option Value} {x : Str} {pos : Pos} {v : Value} {Q : Value → Shared → Prop} {M : Model}

theorem w_local (AT : At X G ow env m s.heap) (hv : m x = some v) (h : Q v s) (hk : env.scope.kind = .function := by rfl) (hx : env.kindOf x = some .local := by rfl) (hd : (x == ("__debug__" : Str)) = false := by rfl) :
    wpAny M A (eval (.Name x pos) env) Q E s := wpAny_Name (wpAny_loadName_local hk hx AT.ns hv h) hd
theorem w_global (AT : At X G ow env m s.heap) (S : Sta mg mb G) (hv : mg x = some v) (h : Q v s) (hk : env.scope.kind = .function := by rfl) (hx : env.kindOf x = some .globalImplicit := by rfl) (hg : env.globals = mainGlobals := by rfl) (hd : (x == ("__debug__" : Str)) = false := by rfl) :
    wpAny M A (eval (.Name x pos) env) Q E s := Name_function_global hk hx (loadGlobal_global (by rw [hg]; exact S.g.keeps AT.keep) hv h) hd
theorem w_builtin (AT : At X G ow env m s.heap) (S : Sta mg mb G) (hv : mg x = none) (hb : bootBuiltins x = some v) (h : Q v s) (hn : x ≠ "__name__" := by decide) (hk : env.scope.kind = .function := by rfl) (hx : env.kindOf x = some .globalImplicit := by rfl) (hg : env.globals = mainGlobals := by rfl) (hgb : env.builtins = builtinsNs := by rfl) (hd : (x == ("__debug__" : Str)) = false := by rfl) :
    wpAny M A (eval (.Name x pos) env) Q E s :=
  Name_function_global hk hx (loadGlobal_builtin (by rw [hg]; exact S.g.keeps AT.keep) hv (by rw [hgb]; exact S.b.keeps AT.keep) ((S.bi x hn).trans hb) h) hd
theorem w_free {c : Addr} (hc : env.cells.lookup x = some c) (hi : s.heap.IsCell c (some v)) (h : Q v s) (hk : env.scope.kind = .function := by rfl) (hx : env.kindOf x = some .free := by rfl) (hd : (x == ("__debug__" : Str)) = false := by rfl) (hn : (x == ("__classdict__" : Str)) = false := by rfl) :
    wpAny M A (eval (.Name x pos) env) Q E s := wpAny_Name (wpAny_loadName_free hk hx hc hi h hn) hd
theorem w_cell {c : Addr} (hc : env.cells.lookup x = some c) (hi : s.heap.IsCell c (some v)) (h : Q v s) (hk : env.scope.kind = .function := by rfl) (hx : env.kindOf x = some .cell := by rfl) (hd : (x == ("__debug__" : Str)) = false := by rfl) :
    wpAny M A (eval (.Name x pos) env) Q E s := wpAny_Name (wpAny_loadName_cell hk hx hc hi h) hd

theorem w_store {Q : Unit → Shared → Prop} (AT : At X G ow env m s.heap) (h : ∀ h', At X G ow env (fun y => if y = x then some v else m y) h' → Q () { s with heap := h', toks := s.toks + 1 })
    (hx : env.kindOf x = some .local := by rfl) (hk : env.scope.kind = .function := by rfl) : wpAny M A (storeName env x v) Q E s :=
  wpAny_storeName_local hx AT.ns (fun h' hn hs => h h' (AT.store hn hs)) (by rw [hk]; rfl)

theorem w_callType {T : String} {e : Expr} {rest : List Expr}
    (h : wpAny M A (spliced (backTo pos (starEach (e :: rest) env))) (fun vs s₁ => wpAny M A (call (.type T) vs) Q E s₁) E s)
    (he : starEach (e :: rest) env = (false, eval e env) :: starEach rest env := by rfl) (hplain : (backTo pos (starEach rest env)).any (·.1) = false := by rfl) :
    wpAny M A (callWith pos (.type T) [] (backTo pos (starEach (e :: rest) env)) []) Q E s := PyProof.Rows.callWith_type1 h he hplain
/-- calls -/
theorem w_call {f : Expr} {args : List Expr} (h : wpAny M A (eval f env) (fun fv s₁ => wpAny M A (callWith pos fv [] (backTo pos (starEach args env)) []) Q E s₁) E s)
    (he : eval (.Call f args [] pos) env = (do callWith pos (← eval f env) [] (backTo pos (starEach args env)) (backToKw pos (keywordEach [] env))) := by rfl) :
    wpAny M A (eval (.Call f args [] pos) env) Q E s := by
  rw [he]
  exact wpAny_bind h

theorem keeper_fn {f : Addr} {name qual : Str} {params : Arguments} {body : List Stmt} {scope : Scope} {cl : List (Str × Addr)} (F : FnAt G f name qual params body scope cl) : ∃ k, (k = Keeper.frame ∨ k = Keeper.machine ∨ k = Keeper.boundFrame) ∧ Looks M G (keeperOf (.ref f)) k := by
  obtain ⟨o, pm, doc, an, cdv, ct, ho, hd, _⟩ := F.ex
  refine ⟨.frame, .inl rfl, fun A Q E s k q => ?_⟩
  unfold keeperOf
  refine wpAny_bind (wpAny_load (k _ _ ho) ?_)
  rw [hd]
  exact wpAny_pure q

theorem w_callFn {f : Addr} {name qual : Str} {params : Arguments} {body : List Stmt} {scope : Scope} {cl : List (Str × Addr)} {e : Expr} {rest : List Expr} (F : FnAt G f name qual params body scope cl)
    (h : wpAny M A (spliced (backTo pos (starEach (e :: rest) env))) (fun vs s₁ => G.StaysIn s₁.heap ∧ wpAny M A (call (.ref f) vs) Q E s₁) E s)
    (he : starEach (e :: rest) env = (false, eval e env) :: starEach rest env := by rfl) (hplain : (backTo pos (starEach rest env)).any (·.1) = false := by rfl) :
    wpAny M A (callWith pos (.ref f) [] (backTo pos (starEach (e :: rest) env)) []) Q E s := by
  rw [he] at h ⊢
  refine callWith_of (P := fun h => G.StaysIn h) (by show ((false || (backTo pos (starEach rest env)).any (·.1)) || false) = false; rw [hplain]; rfl) (fun h k => ?_) (evalArgs_plain h)
  obtain ⟨k', a, b⟩ := keeper_fn (M := M) F
  exact ⟨k', a, b.keeps k⟩

theorem w_callTypeStar {T : String} {e : Expr} {p : Pos}
    (h : wpAny M A (eval e env) (fun v s₁ => StarOf M A E v (fun vs s₂ => wpAny M A (call (.type T) vs) Q E s₂) s₁) E s)
    (he : starEach [.Starred e p] env = [(true, eval e env)] := by rfl) :
    wpAny M A (callWith pos (.type T) [] (backTo pos (starEach [.Starred e p] env)) []) Q E s := by
  rw [he]
  refine ks_call (P := fun _ => True) rfl (fun h _ => ⟨.machine, .inr (.inl rfl), Looks.of_pure rfl⟩) (ks_lone ?_)
  refine wpAny_mono h (fun v s₁ h₁ => ?_) fun _ _ z => z
  unfold StarOf at h₁ ⊢
  exact wpAny_mono h₁ (fun b s₂ h₂ => ⟨h₂.1, wpAny_mono h₂.2 (fun vs s₃ h₃ => ⟨trivial, h₃⟩) fun _ _ z => z⟩) fun _ _ z => z

theorem w_starTup {a : Addr} {o : Obj} {T : String} {its : Array Value} {n : Nat} {Q : List Value → Shared → Prop} (hT : T = "list" ∨ T = "tuple") (ho : s.heap.get? a = some o) (hc : o.cls = .type T) (hd : o.data = .seq its n)
    (hz : its.size ≤ sizeLine) (h : ∀ h', s.heap.StaysIn h' → Q its.toList { s with heap := h' }) : StarOf (model prog w) A E (.ref a) Q s := by
  have hT' : s.TypeIs (.ref a) T := ⟨o, ho, hc⟩
  have z : wpAny (model prog w) A (collect (.ref a)) Q E s := wpAny_collect_seq a hT ho hc hd (fun h' hk => h h' hk) hz
  unfold StarOf notIterableAtAll
  rcases hT with rfl | rfl
  · exact wpAny_bind (wpAny_specialOf hT' PySem.F.slot_list_iter.lookup (wpAny_pure ⟨rfl, z⟩))
  · exact wpAny_bind (wpAny_specialOf hT' PySem.F.slot_tuple_iter.lookup (wpAny_pure ⟨rfl, z⟩))
end


theorem sub_ve_stop : isSubtype (.type "ValueError") (.type "StopIteration") = pure false := by rw [isSubtype_type]; kernel_rfl
theorem Fly.cls {fs : List Env} {G h : Heap} {ow : List (Addr × Obj)} {e : Addr} {cls : Value} {args : List Value} (x : Fly fs G ow e cls args h) : ∃ o, h.get? e = some o ∧ o.cls = cls := by
  obtain ⟨B, t, _, _, f, _⟩ := x.ex
  exact f.there
theorem Fly.sub {fs : List Env} {G h : Heap} {ow ow' : List (Addr × Obj)} {e : Addr} {cls : Value} {args : List Value} (x : Fly fs G ow e cls args h) (s : ∀ p ∈ ow', p ∈ ow) : Fly fs G ow' e cls args h := by
  obtain ⟨B, t, a, b, c⟩ := x.ex
  exact ⟨B, t, a, fun p hp => b p (s p hp), c⟩

section
variable {τ : Type} {prog : Program} {w : World} {fs : List Env} {S : Heap → Prop} {d u : Nat}

/-- the user's side of a map: its own ledger, the rows' lengths, a turn of the function, a failing turn -/
structure MapUser (prog : Program) (w : World) (fs : List Env) (S : Heap → Prop) (d u : Nat) (f : Value) (ls : List Addr) (V : Heap → τ → List (Addr × Obj) → Prop) (len : τ → Addr → Nat) (turn : τ → Nat → PyData → τ → Prop) (fail : τ → Nat → Int → τ → Prop) : Prop where
  lists : ∀ {a ow G h pre}, V G a ow → S G → Wd fs G (pre ++ ow) h → ∃ xs : Addr → Array Value, ∀ l ∈ ls, h.IsList l (xs l) ∧ (xs l).size = len a l
  turn : ∀ {a t y b}, turn a t y b → ∀ (A : Around) (G : Heap) (pre ow : List (Addr × Obj)) (s : Shared) (xs : Addr → Array Value) (v : Addr → Value) (Q E : Value → Shared → Prop), Ar A fs d u → S G → V G a ow → Wd fs G (pre ++ ow) s.heap →
    (∀ l ∈ ls, s.heap.IsList l (xs l)) → (∀ l ∈ ls, (xs l)[t]? = some (v l)) →
    (∀ r G' h' tk ow', V G' b ow' → Lf fs G s.heap G' (pre ++ ow') h' → S G' → Rd G' r y → Q r { s with heap := h', toks := tk }) → wpAny (model prog w) A (call f (ls.map v)) Q E s
  fail : ∀ {a t k b}, fail a t k b → ∀ (A : Around) (G : Heap) (pre ow : List (Addr × Obj)) (s : Shared) (xs : Addr → Array Value) (v : Addr → Value) (Q E : Value → Shared → Prop), Ar A fs d u → S G → V G a ow → Wd fs G (pre ++ ow) s.heap →
    (∀ l ∈ ls, s.heap.IsList l (xs l)) → (∀ l ∈ ls, (xs l)[t]? = some (v l)) →
    (∀ e tt G' h' tk ow', V G' b ow' → Lf fs G s.heap G' (pre ++ ow') h' → S G' → Fly fs G' (pre ++ ow') e (.type "ValueError") [.int k tt] h' → E (.ref e) { s with heap := h', toks := tk }) → wpAny (model prog w) A (call f (ls.map v)) Q E s

inductive MStep (ls : List Addr) (len : τ → Addr → Nat) (turn : τ → Nat → PyData → τ → Prop) : Option Nat × τ → Option PyData → Option Nat × τ → Prop
  | stop {t a} : (∃ l ∈ ls, len a l ≤ t) → MStep ls len turn (some t, a) none (none, a)
  | turn {t a y b} : (∀ l ∈ ls, t < len a l) → turn a t y b → MStep ls len turn (some t, a) (some y) (some (t + 1), b)
inductive MFail (ls : List Addr) (len : τ → Addr → Nat) (fail : τ → Nat → Int → τ → Prop) : Option Nat × τ → Int → Option Nat × τ → Prop
  | fail {t a k b} : (∀ l ∈ ls, t < len a l) → fail a t k b → MFail ls len fail (some t, a) k (none, b)
def MU (ids ls : List Addr) (V : Heap → τ → List (Addr × Obj) → Prop) : Heap → Option Nat × τ → List (Addr × Obj) → Prop
  | G, (none, a), ow => V G a ow
  | G, (some t, a), ow => ∃ its ow₂, ow = its ++ ow₂ ∧ Its its ls t ∧ its.map (·.1) = ids ∧ V G a ow₂

theorem mu_mono {τ : Type} {ids ls : List Addr} {V : Heap → τ → List (Addr × Obj) → Prop} (hV : ∀ G G' a ow, V G a ow → G.StaysIn G' → V G' a ow) : ∀ G G' a ow, MU ids ls V G a ow → G.StaysIn G' → MU ids ls V G' a ow
  | _, _, (none, _), _, h, k => hV _ _ _ _ h k
  | _, _, (some _, _), _, ⟨its, ow₂, a, b, c, d⟩, k => ⟨its, ow₂, a, b, c, hV _ _ _ _ d k⟩

theorem its_not_list {h : Heap} {its : List (Addr × Obj)} {ls : List Addr} {t : Nat} (hI : Its its ls t) (ho : ∀ p ∈ its, h.get? p.1 = some p.2) {l : Addr} {xs : Array Value} (x : h.IsList l xs) : l ∉ its.map (·.1) := by
  intro m
  obtain ⟨p, hp, rfl⟩ := List.mem_map.mp m
  have key : ∀ {its : List (Addr × Obj)} {ls : List Addr}, Its its ls t → ∀ p ∈ its, ∃ l, IsIt p.2 l t := by
    intro its ls hI
    induction hI with
    | nil => intro p hp; cases hp
    | cons q _ ih => intro p hp; rcases List.mem_cons.mp hp with rfl | hp; exact ⟨_, q⟩; exact ih p hp
  obtain ⟨l', hl'⟩ := key hI p hp
  exact isList_ne_iter x (hl'.at (ho p hp)) rfl

theorem get_def {xs : Array Value} {t : Nat} (h : t < xs.size) : xs[t]? = some (xs[t]?.getD .none) := by
  rw [Array.getElem?_eq_getElem h]; rfl

theorem map_steps {f : Value} {ls ids : List Addr} {V : Heap → τ → List (Addr × Obj) → Prop} {len : τ → Addr → Nat} {turn : τ → Nat → PyData → τ → Prop} {fail : τ → Nat → Int → τ → Prop} {mo T : Addr}
    (Y : MapUser prog w fs S d u f ls V len turn fail) (hm : ∀ G, S G → G.get? mo = some (mapObj T f)) (hT : ∀ G, S G → G.get? T = some (tupObj (ids.map Value.ref))) :
    Steps prog w fs S d (u + 1) (MU ids ls V) (.ref mo) (MStep ls len turn) (MFail ls len fail) where
  next := by
    intro a o b hst A G pre ow s Q E hA hSG hU W h
    cases hst with
    | @stop t a hx =>
      obtain ⟨its, ow₂, rfl, hI, hids, hV⟩ := hU
      have W' : Wd fs G (its ++ (pre ++ ow₂)) s.heap := W.perm (by
        rw [← List.append_assoc, ← List.append_assoc]
        exact List.Perm.append_right _ List.perm_append_comm)
      obtain ⟨xs, hxs⟩ := Y.lists (pre := pre ++ its) hV hSG (by simpa using W)
      refine map_end hA.hd W' hI (hm G hSG) (by rw [hT G hSG, ← hids, List.map_map]; rfl) (fun l hl => (hxs l hl).1) ?_ fun h' hL => h none G h' s.toks ow₂ hV hL hSG rfl
      obtain ⟨l, hl, hle⟩ := hx
      exact ⟨l, hl, Array.getElem?_eq_none (by rw [(hxs l hl).2]; exact hle)⟩
    | @turn t a y b hlt ht =>
      obtain ⟨its, ow₂, rfl, hI, hids, hV⟩ := hU
      have W' : Wd fs G (its ++ (pre ++ ow₂)) s.heap := W.perm (by
        rw [← List.append_assoc, ← List.append_assoc]
        exact List.Perm.append_right _ List.perm_append_comm)
      obtain ⟨xs, hxs⟩ := Y.lists (pre := pre ++ its) hV hSG (by simpa using W)
      refine map_item (t := t) (v := fun l => ((xs l)[t]?).getD .none) W' hI (hm G hSG) (by rw [hT G hSG, ← hids, List.map_map]; rfl) (fun l hl => (hxs l hl).1) (fun l hl => get_def (by rw [(hxs l hl).2]; exact hlt l hl)) fun its' h' hi hmm hL hk => ?_
      have hl' : ∀ l ∈ ls, h'.IsList l (xs l) := fun l hl => by
        obtain ⟨x, hx, r⟩ := (hxs l hl).1
        exact ⟨x, (hk l (its_not_list hI (fun p hp => W'.own p (List.mem_append_left _ hp)) ⟨x, hx, r⟩)).trans hx, r⟩
      refine Y.turn ht A.in1 G (its' ++ pre) ow₂ { s with heap := h' } xs _ _ _ hA.in1 hSG hV (by simpa using hL.wd) hl' (fun l hl => get_def (by rw [(hxs l hl).2]; exact hlt l hl)) fun r G' h'' tk ow' hV' l S' hr => ?_
      refine h (some r) G' h'' tk (its' ++ ow') ⟨its', ow', rfl, hi, hmm.trans hids, hV'⟩ ?_ S' ⟨r, rfl, hr⟩
      refine (hL.trans l).perm ?_
      rw [← List.append_assoc]
      exact List.Perm.append_right _ List.perm_append_comm
  rais := by
    intro a k b hst A G pre ow s Q E hA hSG hU W h
    cases hst with
    | @fail t a k b hlt ht =>
      obtain ⟨its, ow₂, rfl, hI, hids, hV⟩ := hU
      have W' : Wd fs G (its ++ (pre ++ ow₂)) s.heap := W.perm (by
        rw [← List.append_assoc, ← List.append_assoc]
        exact List.Perm.append_right _ List.perm_append_comm)
      obtain ⟨xs, hxs⟩ := Y.lists (pre := pre ++ its) hV hSG (by simpa using W)
      refine map_item (t := t) (v := fun l => ((xs l)[t]?).getD .none) W' hI (hm G hSG) (by rw [hT G hSG, ← hids, List.map_map]; rfl) (fun l hl => (hxs l hl).1) (fun l hl => get_def (by rw [(hxs l hl).2]; exact hlt l hl)) fun its' h' hi hmm hL hk => ?_
      have hl' : ∀ l ∈ ls, h'.IsList l (xs l) := fun l hl => by
        obtain ⟨x, hx, r⟩ := (hxs l hl).1
        exact ⟨x, (hk l (its_not_list hI (fun p hp => W'.own p (List.mem_append_left _ hp)) ⟨x, hx, r⟩)).trans hx, r⟩
      refine Y.fail ht A.in1 G (its' ++ pre) ow₂ { s with heap := h' } xs _ _ _ hA.in1 hSG hV (by simpa using hL.wd) hl' (fun l hl => get_def (by rw [(hxs l hl).2]; exact hlt l hl)) fun e tt G' h'' tk ow' hV' l S' hf => ?_
      obtain ⟨o, ho, hc⟩ := hf.cls
      unfold OwitStop
      refine wpAny_isInstance (T := "ValueError") (b := false) ⟨o, ho, hc⟩ sub_ve_stop ?_
      show (if false = true then _ else _)
      rw [if_neg Bool.false_ne_true]
      have L2 := hL.trans l
      refine h e tt G' h'' tk ow' hV' ?_ S' (hf.sub fun p hp => ?_)
      · rw [List.append_assoc] at L2
        exact L2.right
      · rcases List.mem_append.mp hp with hp | hp
        · simp [hp]
        · simp [hp]
end


theorem fk_upTo {fs : List Env} {G h h' : Heap} {ow : List (Addr × Obj)} (W : Wd fs G ow h) (k : h.UpToSlots h') : FK fs h h' := fun e he L hL o ho => by
  obtain ⟨o', ho', hd⟩ := W.frameIn he hL
  rw [ho] at ho'; cases ho'
  exact k _ _ ho hd

theorem Fly.wd {fs : List Env} {G h h₀ : Heap} {ow : List (Addr × Obj)} {e : Addr} {cls : Value} {args : List Value} (x : Fly fs G ow e cls args h) (W : Wd fs G ow h₀) : Wd fs G ow h := by
  obtain ⟨B, t, a, b, ⟨k1, _, k2, _⟩, _⟩ := x.ex
  exact ⟨stays_trans a k1, fun p hp => k1 _ _ (b p hp), W.ownG, W.nd, ff_to k2 (fun e he L hL => W.frameG he hL) fun e he L hL o ho => ⟨o, ho, .inl rfl⟩, W.fd⟩

section
variable {prog : Program} {w : World} {A : Around} {E : Value → Shared → Prop} {s : Shared} {fs : List Env} {G : Heap} {ow : List (Addr × Obj)} {env : Env} {e L : Addr} {cls : Value} {args : List Value} {M : Model}

theorem fly_leave {Q : Unit → Shared → Prop} (hfr : A.frames = some (env :: fs)) (hf : env.frame = some L) (W : Wd (env :: fs) G ow s.heap) (x : Fly (env :: fs) G ow e cls args s.heap)
    (h : ∀ h', Fly fs G ow e cls args h' → Wd fs G ow h' → FK fs s.heap h' → Q () { s with heap := h' }) : wpAny M A (leaving env (.ref e)) Q E s := by
  obtain ⟨B, t, a, b, c, d, d2, d3⟩ := x.ex
  have W' : Wd fs G ow s.heap := ⟨W.keep, W.own, W.ownG, W.nd, W.ff.2.2, fun p hp e he => W.fd p hp e (.tail _ he)⟩
  refine wpAny_leaves_onW hfr hf c fun h' k1 k2 => ?_
  have F : Fly fs G ow e cls args h' := ⟨B, t, a, b, k1, d.of_slots k2, d2, fun e he => d3 e (.tail _ he)⟩
  exact h h' F (F.wd W') (fk_upTo W' k2)
end

theorem MapUser.and {τ : Type} {prog : Program} {w : World} {fs : List Env} {S P : Heap → Prop} {d u : Nat} {f : Value} {ls : List Addr} {V : Heap → τ → List (Addr × Obj) → Prop} {len : τ → Addr → Nat} {turn : τ → Nat → PyData → τ → Prop} {fail : τ → Nat → Int → τ → Prop}
    (Y : MapUser prog w fs S d u f ls V len turn fail) (hP : ∀ G G', P G → G.StaysIn G' → P G') : MapUser prog w fs (fun G => S G ∧ P G) d u f ls V len turn fail where
  lists := fun hV hS W => Y.lists hV hS.1 W
  turn := fun ht A G pre ow s xs v Q E hA hS hV W h1 h2 h => Y.turn ht A G pre ow s xs v Q E hA hS.1 hV W h1 h2 fun r G' h' tk ow' hV' l S' hr => h r G' h' tk ow' hV' l ⟨S', hP _ _ hS.2 l.gr⟩ hr
  fail := fun ht A G pre ow s xs v Q E hA hS hV W h1 h2 h => Y.fail ht A G pre ow s xs v Q E hA hS.1 hV W h1 h2 fun e t G' h' tk ow' hV' l S' hr => h e t G' h' tk ow' hV' l ⟨S', hP _ _ hS.2 l.gr⟩ hr

def TupG (G : Heap) (a : Addr) (vs : List Value) : Prop := ∃ o n, G.get? a = some o ∧ o.cls = .type "tuple" ∧ o.data = .seq vs.toArray n
theorem TupG.mono {G G' : Heap} {a : Addr} {vs : List Value} (x : TupG G a vs) (k : G.StaysIn G') : TupG G' a vs := let ⟨o, n, h, r⟩ := x; ⟨o, n, k _ _ h, r⟩
theorem TupG.of {G : Heap} {a : Addr} {vs : List Value} (h : G.get? a = some (tupObj vs)) : TupG G a vs := ⟨_, _, h, rfl, rfl⟩

def fdBody : Stmt → List Stmt
  | .FunctionDef _ _ b .. => b
  | _ => []
def fdScope : Stmt → Scope
  | .FunctionDef _ _ _ _ _ _ sc .. => sc
  | _ => default
def fdParams : Stmt → Arguments
  | .FunctionDef _ a .. => a
  | _ => default
def fdName : Stmt → Str
  | .FunctionDef n .. => n
  | _ => Str.empty


theorem isList_mono {G G' : Heap} {l : Addr} {vs : Array Value} (x : G.IsList l vs) (k : G.StaysIn G') : G'.IsList l vs := let ⟨o, h, r⟩ := x; ⟨o, k _ _ h, r⟩

def upd (m : Str → Option Value) (x : Str) (v : Value) : Str → Option Value := fun y => if y = x then some v else m y
theorem upd_self (m : Str → Option Value) (x : Str) (v : Value) : upd m x v x = some v := if_pos rfl
theorem upd_ne {m : Str → Option Value} {x y : Str} {v : Value} {r : Option Value} (hm : m y = r) (h : y ≠ x := by decide) : upd m x v y = r := (if_neg h).trans hm

section
variable {prog : Program} {w : World} {A : Around} {E : Value → Shared → Prop} {s : Shared} {X : Ent} {G : Heap} {ow : List (Addr × Obj)} {env : Env} {m : Str → Option Value} {x : Str} {pos : Pos} {v : Value}

theorem w_for {px : Pos} {it : Expr} {body : List Stmt} {Q : Flow → Shared → Prop} {l : Addr} {vs : Array Value} (hA : A.handled = none)
    (inv : Nat → Heap → List (Addr × Obj) → (Str → Option Value) → Prop)
    (AT : At X G ow env m s.heap) (hl : G.IsList l vs) (hi : inv 0 G ow m)
    (hbody : ∀ k u G ow m I io (s : Shared) (Qb : Flow → Shared → Prop) (Eb : Value → Shared → Prop), inv k G ow m → vs[k]? = some u → G.IsList l vs → At X G ((I, io) :: ow) env (upd m x u) s.heap →
      (∀ h' tk G' ow' m', G.StaysIn G' → At X G' ((I, io) :: ow') env m' h' → inv (k + 1) G' ow' m' → Qb .next { s with heap := h', toks := tk }) → wpAny (model prog w) A (execs body env) Qb Eb s)
    (done : ∀ h' tk G' ow' m', At X G' ow' env m' h' → inv vs.size G' ow' m' → Q .next { s with heap := h', toks := tk })
    (hev : ∀ (Q : Value → Shared → Prop), Q (.ref l) s → wpAny (model prog w) A (eval it env) Q E s)
    (hx : env.kindOf x = some .local := by rfl) (hk : env.scope.kind = .function := by rfl)
    (hs : ∀ x, foldedSetIterable it env x = pure x := by intro _; rfl) :
    wpAny (model prog w) A (exec (.For (.Name x px) it body [] pos) env) Q E s := by
  refine wpAny_For (hev _ ?_) hs
  have hls := isList_mono hl AT.keep
  refine wpAny_pyIter_list hls ?_
  have k0 : s.heap.StaysIn (s.heap.push { cls := .type "list_iterator", data := .fields #[.ref l, .int 0 0] }) := fun _ _ e => Heap.get?_push_of_some _ e
  have e0 := Heap.get?_push_size s.heap (o := { cls := .type "list_iterator", data := .fields #[.ref l, .int 0 0] }) rfl
  have A0 := AT.own_new k0 (size_none _) e0
  refine codeAny_forLoop (R := fun r s' => match r with | .ok f => Q f s' | .error e => cameBackBy (model prog w) A env E e s')
    (fun n s' => ∃ k h' tk G' ow' m' io, n + k = vs.size ∧ s' = { s with heap := h', toks := tk } ∧ At X G' ((s.heap.objs.size, io) :: ow') env m' h' ∧ G'.IsList l vs ∧ IsIt io l k ∧ inv k G' ow' m') ?_ vs.size
    ⟨0, _, s.toks, G, ow, m, _, rfl, rfl, A0, hl, ⟨rfl, rfl⟩, hi⟩
  rintro n s' ⟨k, h', tk, G', ow', m', io, hn, rfl, A1, hl1, hio, hinv⟩
  have hit := hio.at (A1.wd.own (s.heap.objs.size, io) (.head _))
  have hll := isList_mono hl1 A1.keep
  cases q : vs[k]? with
  | none =>
    have hk : k = vs.size := by
      have := Array.getElem?_eq_none_iff.mp q
      omega
    refine wpAny_pyNext_list_end (s := { s with heap := h', toks := tk }) hA hit hll q fun h₂ hs₂ => ?_
    refine wpAny_execs_nil ?_
    have L := Wd.extBut (pre := []) A1.wd hs₂
    subst hk
    exact done h₂ tk G' ow' m' (A1.back L) hinv
  | some u =>
    refine wpAny_pyNext_list_item (s := { s with heap := h', toks := tk }) hit hll q fun h₂ hit₂ hs₂ => ?_
    obtain ⟨o₂, ho₂, hc₂, hd₂⟩ := hit₂
    have A2 := A1.put (pre := []) hs₂ ho₂
    refine wpAny_assign_Name ?_
    refine w_store (s := { s with heap := h₂, toks := tk }) A2 (fun h₃ A3 => ?_) hx hk
    refine hbody k u G' ow' m' _ o₂ { s with heap := h₃, toks := tk + 1 } _ _ hinv q hl1 A3 fun h₄ tk₄ G₄ ow₄ m₄ le A4 i4 => ?_
    have hlt := (Array.getElem?_eq_some_iff.mp q).1
    exact ⟨n - 1, by omega, k + 1, h₄, tk₄, G₄, ow₄, m₄, o₂, by omega, rfl, A4, isList_mono hl1 le, ⟨hc₂, hd₂⟩, i4⟩
end


section
variable {prog : Program} {w : World} {A : Around} {E : Value → Shared → Prop} {s : Shared} {X : Ent} {G : Heap} {ow : List (Addr × Obj)} {env : Env} {m : Str → Option Value} {x : Str} {pos : Pos} {v : Value} {Q : Value → Shared → Prop}

theorem none_ge {h : Heap} {a : Addr} (e : h.objs.size ≤ a) : h.get? a = none := by
  cases q : h.get? a with
  | none => rfl
  | some o => exact absurd (Heap.lt_size q) (Nat.not_lt.mpr e)

theorem w_newTuple {vs : List Value} (AT : At X G ow env m s.heap) (hz : vs.length ≤ 100000)
    (h : ∀ a G' h', G.StaysIn G' → At X G' ow env m h' → G'.get? a = some (tupObj vs) → Q (.ref a) { s with heap := h' }) : wpAny (model prog w) A (newTuple vs) Q E s := by
  have hl : sizeLine = 16777216 := rfl
  refine wpAny_newTuple ?_ (by omega)
  obtain ⟨G', a, b, c⟩ := AT.grow (h' := s.heap.push { cls := .type "tuple", data := .seq vs.toArray }) fun _ _ e => Heap.get?_push_of_some _ e
  exact h _ G' _ a b (c _ _ (size_none _) (Heap.get?_push_size _ rfl))

theorem w_Tuple {elts : List Expr} {k : Nat} (h : wpAny (model prog w) A (spliced (backTo pos (starEach elts env))) (fun vs s₁ => wpAny (model prog w) A (newTuple vs) Q E s₁) E s) : wpAny (model prog w) A (eval (.Tuple elts k pos) env) Q E s := PyProof.Rows.Tuple_ h
theorem w_List {elts : List Expr} (h : wpAny (model prog w) A (spliced (backTo pos (starEach elts env))) (fun vs s₁ => wpAny (model prog w) A (newList vs) Q E s₁) E s) : wpAny (model prog w) A (eval (.List elts pos) env) Q E s := PyProof.Rows.List_ h

theorem w_newList {vs : List Value} (AT : At X G ow env m s.heap) (hz : vs.length ≤ 100000)
    (h : ∀ a G' h', G.StaysIn G' → At X G' ow env m h' → G'.IsList a vs.toArray → Q (.ref a) { s with heap := h' }) : wpAny (model prog w) A (newList vs) Q E s := by
  have hl : sizeLine = 16777216 := rfl
  refine wpAny_newList ?_ (by omega)
  obtain ⟨G', a, b, c⟩ := AT.grow (h' := s.heap.push { cls := .type "list", data := .seq vs.toArray }) fun _ _ e => Heap.get?_push_of_some _ e
  exact h _ G' _ a b ⟨_, c _ _ (size_none _) (Heap.get?_push_size _ rfl), rfl, _, rfl⟩
theorem w_newListOwn {vs : List Value} (AT : At X G ow env m s.heap) (hz : vs.length ≤ 100000)
    (h : ∀ a h', s.heap.get? a = none → At X G ((a, lstObj vs.toArray 0) :: ow) env m h' → Q (.ref a) { s with heap := h' }) : wpAny (model prog w) A (newList vs) Q E s := by
  have hl : sizeLine = 16777216 := rfl
  refine wpAny_newList ?_ (by omega)
  exact h _ _ (size_none _) (AT.own_new (h' := s.heap.push { cls := .type "list", data := .seq vs.toArray }) (fun _ _ e => Heap.get?_push_of_some _ e) (size_none _) (Heap.get?_push_size _ rfl))

theorem w_addLists {a b : Addr} {xs ys : Array Value} (AT : At X G ow env m s.heap) (ha : s.heap.IsList a xs) (hb : s.heap.IsList b ys) (hz : xs.size + ys.size ≤ 100000)
    (h : ∀ l G' h', G.StaysIn G' → At X G' ow env m h' → G'.IsList l (xs ++ ys) → Q (.ref l) { s with heap := h' }) : wpAny (model prog w) A (binaryOp .Add (.ref a) (.ref b)) Q E s := by
  have hl : sizeLine = 16777216 := rfl
  obtain ⟨F, N⟩ := AT.led
  refine add_arrays F N ha hb (fun h' F' N' => ?_) (by omega)
  obtain ⟨G', a1, b1, c1⟩ := AT.extG (led_back N' fun p hp => .tail _ hp) F'.ns
  have e : (xs.toList ++ ys.toList).toArray = xs ++ ys := by simp
  rw [e] at N'
  exact h _ G' h' a1 b1 ⟨_, c1 _ _ (size_none _) (N' _ (.head _)).1, rfl, 0, rfl⟩

theorem w_sliceFrom {value lo : Expr} {p : Pos} {a : Addr} {xs : Array Value} (hv : wpAny (model prog w) A (eval value env) (fun o s₁ => wpAny (model prog w) A (eval lo env) (fun vl s₂ => ∃ (k : Nat) (t : Tok) (G : Heap) (m : Str → Option Value) (ow : List (Addr × Obj)), o = .ref a ∧ vl = .int (k : Int) t ∧ k ≤ xs.size ∧ s₂.heap.IsList a xs ∧ At X G ow env m s₂.heap ∧
      (∀ l G' h', G.StaysIn G' → At X G' ow env m h' → G'.IsList l (xs.toList.drop k).toArray → Q (.ref l) { s₂ with heap := h' })) E s₁) E s) (hz : xs.size ≤ 100000)
    (ht : ∀ o r, letTemporaryGo value o r = pure () := by intro _ _; rfl) :
    wpAny (model prog w) A (eval (.Subscript value (.Slice (some lo) none none p) pos) env) Q E s := by
  have hl : sizeLine = 16777216 := rfl
  refine wpAny_Subscript_list_slice (wpAny_mono hv (fun o s₁ h₁ => wpAny_mono h₁ (fun vl s₂ h₂ => wpAny_pure ?_) fun _ _ z => z) fun _ _ z => z) ht
  obtain ⟨k, t, G, m, ow, rfl, rfl, hk, hx, AT, h⟩ := h₂
  refine ⟨a, xs, some k, none, rfl, hx, by omega, .int _ _, .none, ?_⟩
  rw [slicePick_from _ _ hk]
  have k1 : s₂.heap.StaysIn ((s₂.heap.push { cls := .type "slice", data := .fields #[.int (k : Int) t, .none, .none] }).push { cls := .type "list", data := .seq (xs.toList.drop k).toArray }) := fun _ _ e => Heap.get?_push_of_some _ (Heap.get?_push_of_some _ e)
  obtain ⟨G', a1, b1, c1⟩ := AT.grow k1
  have e1 := Heap.get?_push_size (s₂.heap.push { cls := .type "slice", data := .fields #[.int (k : Int) t, .none, .none] }) (o := { cls := .type "list", data := .seq (xs.toList.drop k).toArray }) rfl
  rw [Heap.size_push] at e1
  exact h _ G' _ a1 b1 ⟨_, c1 _ _ (none_ge (Nat.le_succ _)) e1, rfl, _, rfl⟩

theorem w_sliceRun {value lo hi : Expr} {p : Pos} {a : Addr} {xs : Array Value} (hv : wpAny (model prog w) A (eval value env) (fun o s₁ => wpAny (model prog w) A (eval lo env) (fun vl s₂ => wpAny (model prog w) A (eval hi env) (fun vu s₃ => ∃ (k j : Nat) (t t' : Tok) (G : Heap) (m : Str → Option Value) (ow : List (Addr × Obj)), o = .ref a ∧ vl = .int (k : Int) t ∧ vu = .int (j : Int) t' ∧ k ≤ j ∧ j ≤ xs.size ∧ s₃.heap.IsList a xs ∧ At X G ow env m s₃.heap ∧
      (∀ l G' h', G.StaysIn G' → At X G' ow env m h' → G'.IsList l ((xs.toList.drop k).take (j - k)).toArray → Q (.ref l) { s₃ with heap := h' })) E s₂) E s₁) E s) (hz : xs.size ≤ 100000)
    (ht : ∀ o r, letTemporaryGo value o r = pure () := by intro _ _; rfl) :
    wpAny (model prog w) A (eval (.Subscript value (.Slice (some lo) (some hi) none p) pos) env) Q E s := by
  have hl : sizeLine = 16777216 := rfl
  refine wpAny_Subscript_list_slice (wpAny_mono hv (fun o s₁ h₁ => wpAny_mono h₁ (fun vl s₂ h₂ => wpAny_mono h₂ (fun vu s₃ h₃ => ?_) fun _ _ z => z) fun _ _ z => z) fun _ _ z => z) ht
  obtain ⟨k, j, t, t', G, m, ow, rfl, rfl, rfl, hk, hj, hx, AT, h⟩ := h₃
  refine ⟨a, xs, some k, some j, rfl, hx, by omega, .int _ _, .int _ _, ?_⟩
  rw [slicePick_run _ _ _ hj hk]
  have k1 : s₃.heap.StaysIn ((s₃.heap.push { cls := .type "slice", data := .fields #[.int (k : Int) t, .int (j : Int) t', .none] }).push { cls := .type "list", data := .seq ((xs.toList.drop k).take (j - k)).toArray }) := fun _ _ e => Heap.get?_push_of_some _ (Heap.get?_push_of_some _ e)
  obtain ⟨G', a1, b1, c1⟩ := AT.grow k1
  have e1 := Heap.get?_push_size (s₃.heap.push { cls := .type "slice", data := .fields #[.int (k : Int) t, .int (j : Int) t', .none] }) (o := { cls := .type "list", data := .seq ((xs.toList.drop k).take (j - k)).toArray }) rfl
  rw [Heap.size_push] at e1
  exact h _ G' _ a1 b1 ⟨_, c1 _ _ (none_ge (Nat.le_succ _)) e1, rfl, _, rfl⟩

/-- xs[::-1] -/
theorem w_sliceRev {value : Expr} {p p1 p2 : Pos} {kk : Nat} {a : Addr} {xs : Array Value} (hv : wpAny (model prog w) A (eval value env) (fun o s₁ => ∃ G m ow, o = .ref a ∧ s₁.heap.IsList a xs ∧ At X G ow env m s₁.heap ∧
      (∀ l G' h' tk, G.StaysIn G' → At X G' ow env m h' → G'.IsList l xs.toList.reverse.toArray → Q (.ref l) { s₁ with heap := h', toks := tk })) E s) (hz : xs.size ≤ 100000)
    (ht : ∀ o r, letTemporaryGo value o r = pure () := by intro _ _; rfl) :
    wpAny (model prog w) A (eval (.Subscript value (.Slice none none (some (.UnaryOp .USub (.Constant (.int 1) kk p1) p2)) p) pos) env) Q E s := by
  have hl : sizeLine = 16777216 := rfl
  refine wpAny_Subscript_Slice_step (T := "list") list_getitem_lookup (wpAny_mono hv (fun o s₁ h₁ => ?_) fun _ _ z => z) ht
  obtain ⟨G, m, ow, rfl, hx, AT, h⟩ := h₁
  refine wpAny_Slice ?_
  refine wpAny_pure (wpAny_pure ?_)
  show wpAny _ _ (eval _ _) _ _ _
  refine wpAny_UnaryOp (wpAny_Constant_int (P.neg_int ?_))
  generalize htk : s₁.toks = tk
  have k0 : s₁.heap.StaysIn (s₁.heap.push { cls := .type "slice", data := .fields #[.none, .none, .int (-1) (tk + 1)] }) := fun _ _ e => Heap.get?_push_of_some _ e
  refine ⟨(isList_mono hx k0).typeIs, ?_⟩
  refine wpAny_getItem_list_slice (s := { s₁ with heap := s₁.heap.push { cls := .type "slice", data := .fields #[.none, .none, .int (-1) (tk + 1)] }, toks := tk + 1 + 1 }) (isList_mono hx k0) (Heap.IsSliceOf.new ..) .none .none (.int _ _) (by decide) ?_ (by omega)
  rw [krv_pick]
  have k1 := stays_trans k0 (fun _ _ e => Heap.get?_push_of_some { cls := .type "list", data := .seq xs.toList.reverse.toArray } e)
  obtain ⟨G', a1, b1, c1⟩ := AT.grow k1
  have e1 := Heap.get?_push_size (s₁.heap.push { cls := .type "slice", data := .fields #[.none, .none, .int (-1) (tk + 1)] }) (o := { cls := .type "list", data := .seq xs.toList.reverse.toArray }) rfl
  refine h _ G' _ _ a1 b1 ⟨_, c1 _ _ (none_ge ?_) e1, rfl, _, rfl⟩
  show s₁.heap.objs.size ≤ (s₁.heap.push _).objs.size
  rw [Heap.size_push]; omega

theorem w_callBuiltin {id : String} {e : Expr} {rest : List Expr}
    (h : wpAny (model prog w) A (spliced (backTo pos (starEach (e :: rest) env))) (fun vs s₁ => wpAny (model prog w) A (call (.builtin id) vs) Q E s₁) E s)
    (he : starEach (e :: rest) env = (false, eval e env) :: starEach rest env := by rfl)
    (hplain : (backTo pos (starEach rest env)).any (·.1) = false := by rfl) :
    wpAny (model prog w) A (callWith pos (.builtin id) [] (backTo pos (starEach (e :: rest) env)) []) Q E s := PyProof.Rows.callWith_builtin1 h he hplain
theorem w_len {a : Addr} {xs : Array Value} (ha : s.heap.IsList a xs) (hz : xs.size ≤ 100000) (h : Q (.int (xs.size : Int) (s.toks + 1)) { s with toks := s.toks + 1 + 1 }) : wpAny (model prog w) A (call (.builtin "len") [.ref a]) Q E s :=
  len_list ha (by omega) h

theorem isTup_of {G : Heap} {a : Addr} {vs : List Value} (x : TupG G a vs) : IsTup G a vs.toArray := let ⟨o, n, h, c, d⟩ := x; ⟨o, h, c, n, d⟩

/-- a, b = a pair -/
theorem w_unpack2 {x y : Str} {px py p : Pos} {k : Nat} {a : Addr} {v1 v2 : Value} {Q : Unit → Shared → Prop} (hA : A.handled = none) (AT : At X G ow env m s.heap) (ht : TupG G a [v1, v2])
    (h : ∀ h', At X G ow env (upd (upd m x v1) y v2) h' → Q () { s with heap := h', toks := s.toks + 1 + 1 })
    (hx : env.kindOf x = some .local := by rfl) (hy : env.kindOf y = some .local := by rfl) (hk : env.scope.kind = .function := by rfl) :
    wpAny (model prog w) A (assign (.Tuple [.Name x px, .Name y py] k p) env (.ref a)) Q E s := by
  have hT : IsTup s.heap a #[v1, v2] := IsTup.keeps (isTup_of ht) AT.keep
  refine assign_Tuple_tuple hA hT rfl rfl fun h' hx' => ?_
  have kk : s.heap.StaysIn h' := fun b o e => hx' b o (Nat.ne_of_lt (Heap.lt_size e)) e
  have A1 := AT.keeps kk
  show wpAny _ _ (assignInOrder [assign (.Name x px) env, assign (.Name y py) env] [v1, v2]) _ _ _
  unfold assignInOrder
  refine wpAny_bind (wpAny_holding (wpAny_assign_Name (w_store (s := { s with heap := h' }) A1 (fun h₂ A2 => ?_) hx hk)))
  first
    | (unfold assignInOrder
       refine wpAny_bind (wpAny_holding (wpAny_assign_Name (w_store (s := { s with heap := h₂, toks := s.toks + 1 }) A2 (fun h₃ A3 => ?_) hy hk)))
       unfold assignInOrder
       exact wpAny_pure (h h₃ A3))
    | (unfold assignInOrder
       exact wpAny_assign_Name (w_store (s := { s with heap := h₂, toks := s.toks + 1 }) A2 (fun h₃ A3 => h h₃ A3) hy hk))
end


theorem cells_addr {cm : Str → Option Value} {cs : List (Str × Addr)} {cells : List (Addr × Obj)} (h : CellsAre cm cs cells) : cells.map (·.1) = cs.map (·.2) := by
  induction h with
  | nil => rfl
  | cons _ _ ih => simp [ih]

theorem Wd.own_many {fs : List Env} {G h h' : Heap} {ow : List (Addr × Obj)} : ∀ {cells : List (Addr × Obj)}, Wd fs G ow h → h.StaysIn h' → (∀ p ∈ cells, h.get? p.1 = none ∧ h'.get? p.1 = some p.2) → (cells.map (·.1)).Nodup → Wd fs G (cells ++ ow) h'
  | [], W, k, _, _ => W.keeps k
  | p :: r, W, k, hc, hn => by
    rw [List.map_cons, List.nodup_cons] at hn
    have W' := Wd.own_many (cells := r) W k (fun q hq => hc q (.tail _ hq)) hn.2
    refine ⟨W'.keep, fun q hq => ?_, fun q hq => ?_, ?_, W'.ff, fun q hq e he hf => ?_⟩
    · rcases List.mem_cons.mp hq with rfl | hq
      · exact (hc _ (.head _)).2
      · exact W'.own q hq
    · rcases List.mem_cons.mp hq with rfl | hq
      · exact fresh_none W.keep (hc _ (.head _)).1
      · exact W'.ownG q hq
    · rw [List.cons_append, List.map_cons, List.nodup_cons]
      refine ⟨fun mm => ?_, W'.nd⟩
      rw [List.map_append] at mm
      rcases List.mem_append.mp mm with mm | mm
      · exact hn.1 mm
      · obtain ⟨q, hq, z⟩ := List.mem_map.mp mm
        have := W.own q hq
        rw [z, (hc p (.head _)).1] at this; cases this
    · rcases List.mem_cons.mp hq with rfl | hq
      · obtain ⟨o', ho', _⟩ := W.frameIn he hf
        rw [(hc _ (.head _)).1] at ho'; cases ho'
      · exact W'.fd q hq e he hf

section
variable {prog : Program} {w : World} {A : Around} {E : Value → Shared → Prop} {s : Shared} {fs : List Env} {G : Heap} {ow : List (Addr × Obj)} {Q : Value → Shared → Prop}
  {f : Addr} {name qual : Str} {params : Arguments} {body : List Stmt} {scope : Scope} {vals : List Value} {binds : List (Str × Value)}

theorem call_fnC (W : Wd fs G ow s.heap) (hA : A.depth < recursionLimit) (lim : G.NoLimit) (F : FnAt G f name qual params body scope [])
    (hb : ∀ doc pm an cdv ct, bindArgs (fnX name qual params body scope [] .none .none doc pm an cdv ct) ⟨vals, []⟩ = pure binds)
    (hkind : (binds.all fun y => scope.names.lookup y.1 == some .local || scope.names.lookup y.1 == some .cell) = true)
    (h : ∀ L cdv h₁ tk cells, L = s.heap.objs.size → s.heap.StaysIn h₁ → (∃ o pm doc an ct, G.get? f = some o ∧ o.data = .func (fnX name qual params body scope [] .none .none doc pm an cdv ct)) → CellsAre (bindC (envX qual scope L f cdv (cellsFrom (L + 1) scope.names [])).kindOf binds fun _ => none) (cellsFrom (L + 1) scope.names []) cells →
      At ⟨G, s.heap, fs⟩ G (cells ++ ow) (envX qual scope L f cdv (cellsFrom (L + 1) scope.names [])) (bindL (envX qual scope L f cdv (cellsFrom (L + 1) scope.names [])).kindOf binds fun _ => none) h₁ →
      wpAny (model prog w) (A.deeper (envX qual scope L f cdv (cellsFrom (L + 1) scope.names []))) (execs body (envX qual scope L f cdv (cellsFrom (L + 1) scope.names [])))
        (fun fl s' => Q (match fl with | .ret v => v | _ => .none) s')
        (Out prog w A (envX qual scope L f cdv (cellsFrom (L + 1) scope.names [])) E) { s with heap := h₁, toks := tk })
    (hnd : ((cellsFrom 0 scope.names []).map (·.1)).Nodup) (hco : scope.isCoroutine = false) (hgen : scope.isGenerator = false) (hk : scope.kind = .function) :
    wpAny (model prog w) A (call (.ref f) vals) Q E s := by
  obtain ⟨o, pm, doc, an, cdv, ct, ho, hd, hcd⟩ := F.ex
  refine wpAny_call (codeAny_call_function hA (W.keep _ _ ho) hd hco hgen rfl (hcd.keeps W.keep) ?_)
  rw [hb doc pm an cdv ct]
  refine wpAny_pure (wpAny_newFunctionEnv_cells hk (kindsX hkind _) fun env' he s' x => ?_)
  subst he
  refine ⟨(lim.keeps W.keep).keeps x.toInCall.keep, codeAny_func ?_⟩
  obtain ⟨h₁, tk, rfl, _⟩ := x.done
  have hk₁ := x.toInCall.keep
  have nL : s.heap.get? s.heap.objs.size = none := size_none _
  obtain ⟨cells, NC, Y⟩ := Cl.news (h₀ := e0) (L := s.heap.objs.size) (Nat.zero_le _) fun n c hm => ⟨x.cell n c (lookup_of_mem_nodup (cellsFrom_names scope.names 0 (s.heap.objs.size + 1) [] [] rfl ▸ hnd) hm), x.above n c hm⟩
  have hap : (cells.map (·.1)).Nodup := by
    rw [cells_addr Y]
    have := x.apart
    unfold List.Nodup
    rw [List.pairwise_map]
    exact this
  have hnew : ∀ p ∈ cells, s.heap.get? p.1 = none ∧ h₁.get? p.1 = some p.2 := fun p hp => by
    refine ⟨?_, (NC p hp).1⟩
    have mm : p.1 ∈ cells.map (·.1) := List.mem_map_of_mem hp
    rw [cells_addr Y] at mm
    obtain ⟨q, hq, z⟩ := List.mem_map.mp mm
    have := x.above q.1 q.2 hq
    rw [← z]
    exact none_ge (Nat.le_of_lt this)
  have W' := W.own_many (h' := h₁) hk₁ hnew hap
  refine h s.heap.objs.size cdv h₁ tk cells rfl hk₁ ⟨o, pm, doc, an, ct, ho, hd⟩ Y ?_
  have nf : ∀ e ∈ fs, e.frame ≠ some s.heap.objs.size := fun e he hf => by
    obtain ⟨o', ho', _⟩ := W.frameIn he hf
    rw [nL] at ho'; cases ho'
  have hns := x.toInCall.ns
  refine ⟨stays_refl _, ⟨W'.keep, W'.own, W'.ownG, W'.nd, ⟨by show scope.kind ≠ .module; rw [hk]; decide, ?_, W'.ff⟩, fun p hp e he hf => ?_⟩, FK.keeps hk₁, hns, rfl, nf⟩
  · obtain ⟨o', es, ep, ho', hd', _⟩ := hns
    exact ⟨_, o', rfl, fresh_none W.keep nL, ho', fun vs q => by rw [hd'] at q; cases q⟩
  · rcases List.mem_cons.mp he with rfl | he
    · have z : s.heap.objs.size = p.1 := Option.some.inj hf
      rcases List.mem_append.mp hp with hp | hp
      · exact (NC p hp).2.1 z.symm
      · have := W.own p hp
        rw [← z, nL] at this; cases this
    · exact W'.fd p hp e he hf
end

theorem All2.drop {α β : Type} {R : α → β → Prop} {l : List α} {r : List β} (h : All2 R l r) : ∀ n, All2 R (l.drop n) (r.drop n) := by
  induction h with
  | nil => intro n; simpa using All2.nil
  | cons x y ih => intro n; cases n with
    | zero => exact .cons x y
    | succ n => exact ih n
theorem All2.take {α β : Type} {R : α → β → Prop} {l : List α} {r : List β} (h : All2 R l r) : ∀ n, All2 R (l.take n) (r.take n) := by
  induction h with
  | nil => intro n; simpa using All2.nil
  | cons x y ih => intro n; cases n with
    | zero => exact .nil
    | succ n => exact .cons x (ih n)
section
variable {prog : Program} {w : World} {A : Around} {E : Value → Shared → Prop} {h : Heap} {s : Shared} {tk : Tok} {X : Ent} {G : Heap} {ow : List (Addr × Obj)} {env : Env} {m : Str → Option Value} {x : Str} {pos : Pos} {v : Value} {Q : Value → Shared → Prop} {M : Model}
theorem w_set {Q : Unit → Shared → Prop} (AT : At X G ow env m s.heap) (h : ∀ h' tk, At X G ow env (upd m x v) h' → Q () { s with heap := h', toks := tk })
    (hx : env.kindOf x = some .local := by rfl) (hk : env.scope.kind = .function := by rfl) : wpAny M A (storeName env x v) Q E s :=
  w_store AT (fun h' A' => h h' _ A') hx hk
theorem w_int {i k pos} {Q : Value → Shared → Prop} (h : ∀ t tk, Q (.int i t) { s with toks := tk }) : wpAny M A (eval (.Constant (.int i) k pos) env) Q E s := wpAny_Constant_int (h _ _)
theorem w_add {a b : Int} {t u : Tok} {Q : Value → Shared → Prop} (h : ∀ t tk, Q (.int (a + b) t) { s with toks := tk }) : wpAny (model prog w) A (binaryOp .Add (.int a t) (.int b u)) Q E s := P.add_int (h _ _)
theorem w_sub {a b : Int} {t u : Tok} {Q : Value → Shared → Prop} (h : ∀ t tk, Q (.int (a - b) t) { s with toks := tk }) : wpAny (model prog w) A (binaryOp .Sub (.int a t) (.int b u)) Q E s := P.sub_int (h _ _)
theorem w_iadd {a b : Int} {t u : Tok} {Q : Value → Shared → Prop} (h : ∀ t tk, Q (.int (a + b) t) { s with toks := tk }) : wpAny (model prog w) A (inplaceOp .Add (.int a t) (.int b u)) Q E s := P.iadd_int (h _ _)
theorem w_isub {a b : Int} {t u : Tok} {Q : Value → Shared → Prop} (h : ∀ t tk, Q (.int (a - b) t) { s with toks := tk }) : wpAny (model prog w) A (inplaceOp .Sub (.int a t) (.int b u)) Q E s := P.isub_int (h _ _)
theorem w_len' {a : Addr} {xs : Array Value} (ha : s.heap.IsList a xs) (hz : xs.size ≤ 100000) (h : ∀ t tk, Q (.int (xs.size : Int) t) { s with toks := tk }) : wpAny (model prog w) A (call (.builtin "len") [.ref a]) Q E s := w_len ha hz (h _ _)
theorem w_tup1 {value slice : Expr} {ta : Addr} {l : List Value} {k : Int} {u : Tok} {x : Value} {Q : Value → Shared → Prop} (ht : TupG G ta l) (kp : G.StaysIn s.heap)
    (hk : ∃ j : Nat, seqIndex? k l.length = some j ∧ l[j]? = some x) (h1 : -2 ^ 63 ≤ k) (h2 : k < 2 ^ 63) (h : Q x s)
    (hs : subscripted slice false (.ref ta) (.int k u) = operate [.ref ta, .int k u] (getItem (.ref ta) (.int k u)) := by with_unfolding_all rfl) :
    wpAny (model prog w) A (subscriptTail value slice (.ref ta) (.int k u)) Q E s := by
  obtain ⟨j, a, b⟩ := hk
  exact item_tupleT (IsTup.keeps (isTup_of ht) kp) h1 h2 a b h hs
end


section
variable {prog : Program} {w : World} {A : Around} {E : Value → Shared → Prop} {s : Shared} {fs : List Env} {G : Heap} {ow : List (Addr × Obj)} {env : Env} {e L : Addr} {cls : Value} {args : List Value} {M : Model}

theorem made_leave {h₁ : Heap} {Q : Unit → Shared → Prop} (hfr : A.frames = some (env :: fs)) (hf : env.frame = some L) (W : Wd (env :: fs) G ow h₁) (hx : Heap.MadeExcOf h₁ s.heap e cls args)
    (h : ∀ h', Fly fs G ow e cls args h' → Wd fs G ow h' → FK fs h₁ h' → Q () { s with heap := h' }) : wpAny M A (leaving env (.ref e)) Q E s := by
  obtain ⟨B, g1, g2, g3⟩ := W.grow (ow' := []) (stays_refl _) (fun _ h => by cases h) (by simp)
  have W1 : Wd fs G ow h₁ := ⟨W.keep, W.own, W.ownG, W.nd, W.ff.2.2, fun p hp e he => W.fd p hp e (.tail _ he)⟩
  obtain ⟨t, he, htn, ht⟩ := hx.there
  have fresh : ∀ b, h₁.get? b = none → B.get? b = none := fun b hb => by
    cases hq : B.get? b with
    | none => rfl
    | some o' => have := g2.keep b o' hq; rw [hb] at this; cases this
  have ntf : ∀ e ∈ fs, e.frame ≠ some t := fun e' he' hf' => by
    obtain ⟨o', ho', _⟩ := W.frameIn (.tail _ he') hf'
    rw [htn] at ho'; cases ho'
  refine wpAny_leaving_firstW (base := B) (a0 := .ref t) hfr (g2.ff.of_keeps fun b o hb _ => ⟨o, hx.keeps b o hb, rfl⟩) hf he (fun b o hb => hx.keeps b o (g2.keep b o hb)) (fresh e hx.new) rfl rfl rfl fun h' hL => ?_
  obtain ⟨k1, ⟨_, _, k2⟩, k3, U⟩ := hL
  have Fl : Fly fs G ow e cls args h' := ⟨B, t, g1, fun p hp => g3 _ _ (W.own p hp) (by simp) (fun en he => W.fd p hp en he), ⟨k1, fresh e hx.new, k2, k3⟩, Heap.TupAt.of_slots ⟨_, _, ht, rfl, rfl⟩ U, fresh t htn, ntf⟩
  have k : FK fs h₁ h' := (FK.keeps hx.keeps).trans (fk_upTo (W1.keeps hx.keeps) U)
  exact h h' Fl (Fl.wd W1) k

theorem next_item {it l : Addr} {i : Nat} {items : Array Value} {x : Value} {Q : Value → Shared → Prop} (hit : s.heap.IsListIter it l i)
    (hl : s.heap.IsList l items) (hx : items[i]? = some x) (h : ∀ h', h'.IsListIter it l (i + 1) → Heap.SameBut it s.heap h' → Q x { s with heap := h' }) :
    wpAny (model prog w) A (call (.builtin "next") [.ref it]) Q E s := by
  refine call_function_entry (by decide +kernel) (by decide +kernel) kdk_entry_next (kdk_args_next _) ?_
  unfold Builtin.«next»
  refine wpAny_bind (m := someArgs "next" 1 2 _) (wpAny_of_eq (a := [Value.ref it]) (by first | rfl | kernel_rfl!) ?_)
  dsimp only
  refine wpAny_bind (wpAny_specialOf (name := Str.ofString "__next__") hit.typeIs slot_listiter_next.lookup ?_)
  refine wpAny_ite_split (fun hab => absurd hab (by decide)) (fun _ => ?_)
  obtain ⟨o, ho, hc, hd⟩ := id hit
  obtain ⟨ol, hol, _, nl, hdl⟩ := hl
  refine wpAny_bind (wpAny_callSpecial?_slot (name := Str.ofString "__next__") hit.typeIs slot_listiter_next
    (wpAny_call_entry slot_listiter_next hit.typeIs entry_listiter_next ?_ (args_listiter_next _)))
  show wpAny _ _ (field (.ref it) 0 >>= _) _ _ s
  refine wpAny_bind (wpAny_field ho hd (x := .ref l) rfl ?_)
  show wpAny _ _ (if (Value.ref l == Value.none) = true then _ else _) _ _ s
  rw [if_neg (show ¬ ((Value.ref l == Value.none) = true) from Bool.false_ne_true)]
  show wpAny _ _ (field (.ref it) 1 >>= _) _ _ s
  refine wpAny_bind (wpAny_field ho hd (x := .int i 0) rfl ?_)
  show wpAny _ _ (seqItems? (.ref l) >>= _) _ _ s
  refine wpAny_bind (wpAny_seqItems hol hdl ?_)
  simp only [Int.toNat_natCast, hx]
  refine wpAny_bind (wpAny_setField ho hd (by simp) (wpAny_pure ⟨x, rfl, wpAny_pure ⟨_, rfl, h _ ?_ (Heap.SameBut.update ..)⟩⟩))
  exact ⟨_, Heap.get?_update_self _ ho (Obj.isFreed_of_fields (Obj.data_mapFields hd _)), (Obj.cls_mapFields ..).trans hc, by
    rw [Obj.data_mapFields hd]; simp [rawInt]⟩

theorem next_end {it l : Addr} {i : Nat} {items : Array Value} {Q : Value → Shared → Prop} (hh : A.handled = none) (hit : s.heap.IsListIter it l i)
    (hl : s.heap.IsList l items) (hx : items[i]? = none) (h : ∀ h₁ h' e o', h₁.get? it = some o' → Heap.SameBut it s.heap h₁ → Heap.MadeExcOf h₁ h' e (.type "StopIteration") [] → E (.ref e) { s with heap := h' }) :
    wpAny (model prog w) A (call (.builtin "next") [.ref it]) Q E s := by
  refine call_function_entry (by decide +kernel) (by decide +kernel) kdk_entry_next (kdk_args_next _) ?_
  unfold Builtin.«next»
  refine wpAny_bind (m := someArgs "next" 1 2 _) (wpAny_of_eq (a := [Value.ref it]) (by first | rfl | kernel_rfl!) ?_)
  dsimp only
  refine wpAny_bind (wpAny_specialOf (name := Str.ofString "__next__") hit.typeIs slot_listiter_next.lookup ?_)
  refine wpAny_ite_split (fun hab => absurd hab (by decide)) (fun _ => ?_)
  obtain ⟨o, ho, hc, hd⟩ := id hit
  obtain ⟨ol, hol, _, nl, hdl⟩ := hl
  refine wpAny_bind (wpAny_callSpecial?_slot (name := Str.ofString "__next__") hit.typeIs slot_listiter_next
    (wpAny_call_entry slot_listiter_next hit.typeIs entry_listiter_next ?_ (args_listiter_next _)))
  show wpAny _ _ (field (.ref it) 0 >>= _) _ _ s
  refine wpAny_bind (wpAny_field ho hd (x := .ref l) rfl ?_)
  show wpAny _ _ (if (Value.ref l == Value.none) = true then _ else _) _ _ s
  rw [if_neg (show ¬ ((Value.ref l == Value.none) = true) from Bool.false_ne_true)]
  show wpAny _ _ (field (.ref it) 1 >>= _) _ _ s
  refine wpAny_bind (wpAny_field ho hd (x := .int i 0) rfl ?_)
  show wpAny _ _ (seqItems? (.ref l) >>= _) _ _ s
  refine wpAny_bind (wpAny_seqItems hol hdl ?_)
  simp only [Int.toNat_natCast, hx]
  refine wpAny_bind (wpAny_rule (wpAny_bind (wpAny_setField ho hd (by simp) ?_)))
  have e1 := Heap.get?_update_self (Obj.mapFields (·.setIfInBounds 0 Value.none)) ho (Obj.isFreed_of_fields (Obj.data_mapFields hd _))
  generalize hh1 : s.heap.update it (Obj.mapFields (·.setIfInBounds 0 Value.none)) = h₁ at *
  show wpAny _ _ (newExc (.type "StopIteration") [] >>= _) _ _ _
  refine wpAny_bind ?_
  simp only [newExc, newTuple]
  refine wpAny_bind (wpAny_newObj_type ?_ (by size_fits))
  refine wpAny_bind (m := firstArgMember _ _) (wpAny_of_eq (a := Value.none) (by first | rfl | (simp only [firstArgMember]; rfl)) ?_)
  refine wpAny_newObj_type ?_ (by size_fits)
  simp only [raiseNew]
  refine wpAny_bind (wpAny_handled ?_)
  have hh9 : A.in1.handled = none := hh
  first | rw [show A.in1.in1.handled = none from hh] | rw [hh9] | rw [hh]
  refine wpAny_bind (wpAny_pure (wpAny_throw ?_))
  refine h h₁ _ _ _ e1 (hh1 ▸ Heap.SameBut.update ..) ⟨fun b o hb => Heap.get?_push_of_some _ (Heap.get?_push_of_some _ hb), ?_, h₁.objs.size, ?_, size_none _, ?_⟩
  · exact none_ge (by show h₁.objs.size ≤ _; simp)
  · exact Heap.get?_push_size _ rfl
  · exact Heap.get?_push_of_some _ (Heap.get?_push_size _ rfl)
end


section
variable {X : Ent} {G h h' : Heap} {pre post ow : List (Addr × Obj)} {env : Env} {m m' : Str → Option Value} {a : Addr} {o o' : Obj}
theorem Wd.extPut {fs : List Env} (W : Wd fs G (pre ++ (a, o) :: post) h) (hs : Heap.ExtBut a h h') (e : h'.get? a = some o') : Wd fs G (pre ++ (a, o') :: post) h' := by
  have L := W.extBut hs
  have nd := W.nd
  have aG : G.get? a = none := W.ownG (a, o) (by simp)
  refine ⟨L.wd.keep, fun p hp => ?_, fun p hp => ?_, ?_, L.wd.ff, fun p hp => ?_⟩
  · rcases List.mem_append.mp hp with hp | hp
    · exact L.wd.own p (List.mem_append_left _ hp)
    · rcases List.mem_cons.mp hp with rfl | hp
      · exact e
      · exact L.wd.own p (List.mem_append_right _ hp)
  · rcases List.mem_append.mp hp with hp | hp
    · exact L.wd.ownG p (List.mem_append_left _ hp)
    · rcases List.mem_cons.mp hp with rfl | hp
      · exact aG
      · exact L.wd.ownG p (List.mem_append_right _ hp)
  · rw [List.map_append, List.map_cons] at nd ⊢
    exact nd
  · rcases List.mem_append.mp hp with hp | hp
    · exact L.wd.fd p (List.mem_append_left _ hp)
    · rcases List.mem_cons.mp hp with rfl | hp
      · exact W.fd (a, o) (by simp)
      · exact L.wd.fd p (List.mem_append_right _ hp)
theorem Wd.extFK {fs : List Env} (W : Wd fs G (pre ++ (a, o) :: post) h) (hs : Heap.ExtBut a h h') : FK fs h h' := (W.extBut hs).fk
/-- an own object turned, things new -/
theorem At.extPut (AT : At X G (pre ++ (a, o) :: post) env m h) (hs : Heap.ExtBut a h h') (e : h'.get? a = some o') : At X G (pre ++ (a, o') :: post) env m h' :=
  AT.back ⟨stays_refl _, AT.wd.extPut hs e, AT.wd.extFK hs⟩
/-- all that is not own and stands is frozen -/
theorem At.all (AT : At X G ow env m h) : ∃ G', G.StaysIn G' ∧ At X G' ow env m h ∧ ∀ b o, h.get? b = some o → b ∉ ow.map (·.1) → b ≠ env.locals → (∀ e ∈ X.fs, e.frame ≠ some b) → G'.get? b = some o := by
  obtain ⟨G', a, b, c⟩ := AT.wd.grow (stays_refl _) (fun _ h => h) AT.wd.nd
  refine ⟨G', a, AT.back ⟨a, b, FK.refl _ _⟩, fun x o n e1 e2 e3 => c x o n e1 fun en he hf => ?_⟩
  rcases List.mem_cons.mp he with rfl | he
  · exact e2 (by rw [AT.fr] at hf; exact (Option.some.inj hf).symm)
  · exact e3 en he hf

theorem At.slots {x : Addr} {ox : Obj} (AT : At X G (pre ++ (x, ox) :: post) env m h) :
    Fr e0 env.locals h m ∧ News e0 env.locals h ((x, ox) :: (dumpOf env.locals h).filter fun p => p.1 ≠ x) := by
  obtain ⟨F, N⟩ := AT.led
  refine ⟨F, fun p hp => ?_⟩
  rcases List.mem_cons.mp hp with rfl | hp
  · exact ⟨AT.wd.own (x, ox) (by simp), AT.nO (x, ox) (by simp), e0_none _⟩
  · exact N p (List.mem_filter.mp hp).1
theorem slots_back {L x : Addr} {ox : Obj} (N : News e0 L h' ((x, ox) :: (dumpOf L h).filter fun p => p.1 ≠ x)) : ∀ b o, b ≠ L → b ≠ x → h.get? b = some o → h'.get? b = some o := fun b o n1 n2 e =>
  (N (b, o) (.tail _ (List.mem_filter.mpr ⟨dump_mem e n1, by simpa using n2⟩))).1

/-- the frame's own names and an own object turned -/
theorem At.twoBut (AT : At X G (pre ++ (a, o) :: post) env m h) (hs : ∀ b x, b ≠ env.locals → b ≠ a → h.get? b = some x → h'.get? b = some x) (e : h'.get? a = some o') (hn : h'.Ns env.locals m') : At X G (pre ++ (a, o') :: post) env m' h' := by
  have aG : G.get? a = none := AT.wd.ownG (a, o) (by simp)
  have af : ∀ en ∈ env :: X.fs, en.frame ≠ some a := AT.wd.fd (a, o) (by simp)
  have nd := AT.wd.nd
  have na : ∀ p ∈ pre ++ post, p.1 ≠ a := fun p hp z => by
    have nd2 := nd
    rw [List.map_append, List.map_cons] at nd2
    have := (List.nodup_cons.mp (List.perm_middle.nodup_iff.mp nd2)).1
    rw [← List.map_append] at this
    exact this (List.mem_map.mpr ⟨p, hp, z⟩)
  refine ⟨AT.gr, ⟨fun b x q => hs b x (fun z => by rw [z, AT.nG] at q; cases q) (fun z => by rw [z, aG] at q; cases q) (AT.keep b x q), fun p hp => ?_, fun p hp => ?_, ?_, ?_, fun p hp => ?_⟩, ?_, hn, AT.fr, AT.nX⟩
  · rcases List.mem_append.mp hp with hp | hp
    · exact hs _ _ (AT.nO p (List.mem_append_left _ hp)) (na p (List.mem_append_left _ hp)) (AT.wd.own p (List.mem_append_left _ hp))
    · rcases List.mem_cons.mp hp with rfl | hp
      · exact e
      · exact hs _ _ (AT.nO p (List.mem_append_right _ (.tail _ hp))) (na p (List.mem_append_right _ hp)) (AT.wd.own p (List.mem_append_right _ (.tail _ hp)))
  · rcases List.mem_append.mp hp with hp | hp
    · exact AT.wd.ownG p (List.mem_append_left _ hp)
    · rcases List.mem_cons.mp hp with rfl | hp
      · exact aG
      · exact AT.wd.ownG p (List.mem_append_right _ (.tail _ hp))
  · rw [List.map_append, List.map_cons] at nd ⊢
    exact nd
  · refine ff_to AT.wd.ff (fun e he L hL => AT.wd.frameG he hL) fun en he L hL x hx => ?_
    by_cases z : L = env.locals
    · subst z
      obtain ⟨o', es, ep, ho', hd, _⟩ := hn
      exact ⟨o', ho', .inr fun vs q => by rw [hd] at q; cases q⟩
    · exact ⟨x, hs _ _ z (fun q => af en he (q ▸ hL)) hx, .inl rfl⟩
  · rcases List.mem_append.mp hp with hp | hp
    · exact AT.wd.fd p (List.mem_append_left _ hp)
    · rcases List.mem_cons.mp hp with rfl | hp
      · exact af
      · exact AT.wd.fd p (List.mem_append_right _ (.tail _ hp))
  · exact AT.fk.trans fun en he L hL x hx => ⟨x.slots, hs _ _ (fun z => AT.nX en he (z ▸ hL)) (fun z => af en (.tail _ he) (z ▸ hL)) hx⟩
end

section
variable {prog : Program} {w : World} {A : Around} {E : Value → Shared → Prop} {s : Shared} {fs : List Env} {G : Heap} {ow : List (Addr × Obj)} {env : Env} {M : Model} {K : Frag} {x C f : Addr} {ox : Obj} {od : Option Obj} {m : Str → Option Value} {X' : Ent}

theorem inst_next {Q : Option Value → Shared → Prop} (X : K.In s.heap) (I : InstAt s.heap x ox C od) (hs : findIn K (.ref C) "__next__" = some (some (.ref f))) (hf : typeIn K (.ref f) = some (.type "function"))
    (h : wpAny M A (call (.ref f) [.ref x]) (fun v s' => Q (some v) s') (OwitStop M A Q E) s) : wpAny M A (pyNext (.ref x)) Q E s := by
  unfold pyNext
  refine wpAny_bind (wpAny_attempt (special_fn (name := "__next__") (args := []) X I hs hf (wpAny_mono h (fun v s' hq => ?_) (fun e s' he => ?_))))
  · exact wpAny_pure hq
  · refine wpAny_bind (wpAny_mono he (fun b s₂ hb => ?_) fun _ _ z => z)
    cases b with
    | true => exact wpAny_pure hb
    | false => exact wpAny_throw hb

theorem inst_iter {Q : Value → Shared → Prop} {g : Value} (X : K.In s.heap) (I : InstAt s.heap x ox C od) (hs : findIn K (.ref C) "__iter__" = some (some (.ref f))) (hf : typeIn K (.ref f) = some (.type "function")) (hn : findIn K (.ref C) "__next__" = some (some g))
    (h : wpAny M A (call (.ref f) [.ref x]) (fun v s' => v = .ref x ∧ K.In s'.heap ∧ InstAt s'.heap x ox C od ∧ Q (.ref x) s') E s) : wpAny M A (pyIter (.ref x)) Q E s := by
  have fin : wpAny M A (call (.ref f) [.ref x] >>= fun v => pure (some v)) (fun r s' => r = some (.ref x) ∧ K.In s'.heap ∧ InstAt s'.heap x ox C od ∧ Q (.ref x) s') E s :=
    wpAny_bind (wpAny_mono h (fun v s' h' => wpAny_pure (by obtain ⟨rfl, r⟩ := h'; exact ⟨rfl, r⟩)) fun _ _ z => z)
  have one : ∀ refuse : Sem Value, wpAny M A (callSpecialIfBoundUnlessNone? (.ref x) "__iter__" refuse) (fun r s' => r = some (.ref x) ∧ K.In s'.heap ∧ InstAt s'.heap x ox C od ∧ Q (.ref x) s') E s := by
    intro refuse
    simp only [callSpecialIfBoundUnlessNone?, bindSpecialIfBound?]
    refine wpAny_holding (wpAny_bind (wpAny_bind (wpAny_bind (I.type.here ((looks_findIn X hs).here ?_)))))
    refine wpAny_bind (wpAny_askSetting (wpAny_ite ?_))
    have fin2 : wpAny M A (if (Value.ref f == Value.none) = true then (refuse >>= fun v => pure (some v)) else (call (.ref f) [.ref x] >>= fun v => pure (some v))) (fun r s' => r = some (.ref x) ∧ K.In s'.heap ∧ InstAt s'.heap x ox C od ∧ Q (.ref x) s') E s := by
      rw [if_neg (show ¬ ((Value.ref f == Value.none) = true) from Bool.false_ne_true)]
      exact fin
    split
    · exact wpAny_bind ((bind_fn X _ hf).here (wpAny_pure (by exact fin2)))
    · exact wpAny_tryCatch (wpAny_bind ((bind_fn X _ hf).here (wpAny_pure (by exact fin2))))
  unfold pyIter
  refine wpAny_bind (wpAny_bind (I.type.here ((looks_findIn X hs).here ?_)))
  show wpAny M A (callSpecialIfBoundUnlessNone? (.ref x) "__iter__" _ >>= _) Q E s
  refine wpAny_bind (wpAny_mono (one _) (fun r s' hr => ?_) fun _ _ z => z)
  obtain ⟨rfl, X₂, I₂, hq⟩ := hr
  exact wpAny_bind (wpAny_bind (I₂.type.here ((looks_findIn X₂ hn).here (wpAny_pure hq))))

theorem inst_make {pos : List Value} {fI : Addr} {Q : Value → Shared → Prop} (W : Wd fs G ow s.heap) (X : K.In s.heap) (hm : makesIn K C = true) (hi : findIn K (.ref C) "__init__" = some (some (.ref fI))) (hf : typeIn K (.ref fI) = some (.type "function"))
    (h : ∀ x dx h', s.heap.StaysIn h' → Wd fs G ((x, instObj C dx) :: (dx, emptyDict) :: ow) h' →
      codeAny (model prog w) (A.under (.builtin "type.__call__" ⟨.ref C :: pos, []⟩)) (.call (.ref fI) ⟨.ref x :: pos, []⟩) (InitBack x fun r s' => match r with | .ok (.ret v) => Q v s' | .ok _ => False | .error e => E e s') { s with heap := h' }) :
    wpAny (model prog w) A (call (.ref C) pos) Q E s := by
  obtain ⟨hh, g, d, t, os⟩ := s
  refine wpAny_call (make_core (makes_of X hm) (looks_findIn X hi) (fun self => bind_fn X self hf) (.inl rfl) (h _ hh.objs.size _ (fun _ _ e => Heap.get?_push_of_some _ (Heap.get?_push_of_some _ e)) ?_))
  have W1 := W.own_new (h' := hh.push emptyDict) (fun _ _ e => Heap.get?_push_of_some _ e) (size_none _) (Heap.get?_push_size _ rfl)
  refine W1.own_new (fun _ _ e => Heap.get?_push_of_some _ e) ?_ ?_
  · exact none_ge (by simp)
  · have := Heap.get?_push_size (hh.push emptyDict) (o := instObj C hh.objs.size) rfl
    rwa [Heap.size_push] at this

theorem inst_set {Q : Unit → Shared → Prop} {name : Str} {p : Addr} {i : Nat} {v : Value} {ox' : Obj} {pre post : List (Addr × Obj)} (AT : At X' G (pre ++ (x, ox) :: post) env m s.heap) (X : K.In s.heap) (I : InstAt s.heap x ox C od)
    (hs : findIn K (.ref C) "__setattr__" = some (some (.builtin "object.__setattr__"))) (hp : plainOver K C = true) (ht : takerIn K C name = some (some (.ref p))) (hT : typeIn K (.ref p) = some (.type "member_descriptor")) (hi : slotIn K p C = some i) (hz : i < 1000)
    (e : { ox with slots := (ox.slots ++ Array.replicate (i + 1 - ox.slots.size) none).setIfInBounds i (some v) } = ox') (hf : ox'.isFreed = false)
    (h : ∀ h' tk, At X' G (pre ++ (x, ox') :: post) env m h' → (∀ b o, b ≠ env.locals → b ≠ x → s.heap.get? b = some o → h'.get? b = some o) → Q () { s with heap := h', toks := tk }) : wpAny (model prog w) A (setAttr (.ref x) name v) Q E s := by
  obtain ⟨F, N⟩ := AT.slots
  refine set_plain X I hs (osa_descr (s := { s with toks := s.toks + 1 }) KF.slot_mset X I hp ht hT (slot_set (s := { s with toks := s.toks + 1 }) (pre := []) F N X I hi hz (fun _ h => by cases h) (fun p hp => by simpa using (List.mem_filter.mp hp).2) e hf fun h' F' N' => ?_))
  have bk := slots_back N'
  exact h h' _ (AT.twoBut bk (N' _ (.head _)).1 F'.ns) bk

theorem inst_get {Q : Value → Shared → Prop} {name : Str} {p : Addr} {i : Nat} {v : Value} {od : Obj} {expr : Bool} (X : K.In s.heap) (I : InstAt s.heap x ox C (some od)) (hg : plainGet K C name = true) (hc : isClsIn K C = true)
    (ha : findIn K (.ref C) name = some (some (.ref p))) (hn : specialIn K (.ref p) "__get__" = some (some (.builtin "member_descriptor.__get__"))) (ht : takesIn K (.ref p) = some true) (hp : slotIn K p C = some i)
    (hv : (ox.slots[i]?).join = some v) (hh : handedIn v = true) (h : ∀ tk, Q v { s with toks := tk }) : wpAny (model prog w) A (getAttr (.ref x) name expr) Q E s :=
  get_bind X I (plainGet_of hg).1 (findObj_data hc ha hn ht) (plainGet_of hg).2 (wpAny_call (slot_get (s := { s with toks := s.toks + 1 }) X I hp hv (handed_on hh (h _))))
end

theorem Ar.tcall {A : Around} {fs : List Env} {d u : Nat} (C : Addr) (pos : List Value) (a : Ar A fs (d + 1) (u + 10)) : Ar (A.under (.builtin "type.__call__" ⟨.ref C :: pos, []⟩)) fs d u := by
  refine ⟨?_, a.hd, ?_, ?_⟩
  · exact a.fr
  · have := a.dp
    show A.depth + 1 + d < recursionLimit
    omega
  · have := a.un
    have e : (A.under (.builtin "type.__call__" ⟨.ref C :: pos, []⟩)).units ≤ A.units + 10 := by
      show A.units + _ ≤ A.units + 10
      exact Nat.add_le_add_left (Nat.le_trans (Nat.le_of_eq (show _ = 1 by first | rfl | kernel_rfl)) (by decide)) _
    omega

section
variable {prog : Program} {w : World} {A : Around} {E : Value → Shared → Prop} {s : Shared} {Q : Value → Shared → Prop} {M : Model}
theorem w_iter {l : Addr} {items : Array Value} (hl : s.heap.IsList l items)
    (h : Q (.ref s.heap.objs.size) { s with heap := s.heap.push { cls := .type "list_iterator", data := .fields #[.ref l, .int 0 0] } }) :
    wpAny (model prog w) A (call (.builtin "iter") [.ref l]) Q E s := by
  refine call_function_entry (by decide +kernel) (by decide +kernel) kdk_entry_iter (kdk_args_iter _) ?_
  unfold Builtin.«iter»
  refine wpAny_bind (m := someArgs "iter" 1 2 _) (wpAny_of_eq (a := [Value.ref l]) (by first | rfl | kernel_rfl!) ?_)
  show wpAny _ _ (pyIter (.ref l) >>= _) _ _ _
  refine wpAny_bind (wpAny_pyIter_list hl ?_)
  exact wpAny_pure ⟨_, rfl, h⟩
theorem w_typeTup {a : Addr} {vs : List Value} (ht : TupG s.heap a vs) (h : Q (.type "tuple") s) : wpAny (model prog w) A (call (.type "type") [.ref a]) Q E s := by
  obtain ⟨o, n, ho, hc, _⟩ := ht
  exact kto_cont ⟨o, ho, hc⟩ (by decide) h
theorem bgKeeper {f : Value} {k : Keeper} {h : Heap} (e : Looks M h (keeperOf f) k) (hk : k = Keeper.frame ∨ k = Keeper.machine ∨ k = Keeper.boundFrame) : ∃ k, (k = Keeper.frame ∨ k = Keeper.machine ∨ k = Keeper.boundFrame) ∧ Looks M h (keeperOf f) k := ⟨k, hk, e⟩
end
section
variable {A : Around} {E : Value → Shared → Prop} {s : Shared} {X : Ent} {G : Heap} {ow : List (Addr × Obj)} {env : Env} {m : Str → Option Value} {x : Str} {v : Value} {M : Model}
theorem w_setS {Q : Unit → Shared → Prop} (AT : At X G ow env m s.heap) (h : ∀ h' tk, At X G ow env (upd m x v) h' → (∀ b, b ≠ env.locals → h'.get? b = s.heap.get? b) → Q () { s with heap := h', toks := tk })
    (hx : env.kindOf x = some .local := by rfl) (hk : env.scope.kind = .function := by rfl) : wpAny M A (storeName env x v) Q E s :=
  wpAny_storeName_local hx AT.ns (fun h' hn hs => h h' _ (AT.store hn hs) hs.2) (by rw [hk]; rfl)
theorem tupG_get {G G' : Heap} {a : Addr} {vs : List Value} (x : TupG G a vs) (e : G'.get? a = G.get? a) : TupG G' a vs := let ⟨o, n, h, r⟩ := x; ⟨o, n, e.trans h, r⟩
theorem isList_get {G G' : Heap} {a : Addr} {vs : Array Value} (x : G.IsList a vs) (e : G'.get? a = G.get? a) : G'.IsList a vs := let ⟨o, h, r⟩ := x; ⟨o, e.trans h, r⟩
end
section
variable {A : Around} {E : Value → Shared → Prop} {s : Shared} {env : Env} {M : Model} {Q : Value → Shared → Prop}
theorem w_attrStar {x name : Str} {xp apos pos p : Pos} {e : Expr}
    (h : wpAny M A (eval (.Name x xp) env) (fun ov s₁ => wpAny M A (getAttr ov name true) (fun f s₂ => wpAny M A (callWith pos f [] (backTo pos (starEach [.Starred e p] env)) []) Q E s₂) E s₁) E s) :
    wpAny M A (eval (.Call (.Attribute (.Name x xp) name apos) [.Starred e p] [] pos) env) Q E s := by
  rw [arm_eval_Call]
  have e1 : attributeBase (.Name x xp) name env (eval (.Name x xp) env) = eval (.Name x xp) env := rfl
  rw [e1]
  refine wpAny_bind (wpAny_mono h (fun ov s₁ h₁ => wpAny_bind (wpAny_standAt ?_)) fun _ _ y => y)
  unfold methodCall
  have e2 : methodCallForm ([Expr.Starred e p].length + ([] : List Keyword).length) (backTo pos (starEach [.Starred e p] env)) (backToKw pos (keywordEach [] env)) = false := rfl
  rw [e2]
  refine wpAny_bind (wpAny_holding ?_)
  show wpAny _ _ (getAttr ov name true >>= fun f => pure (f, ([] : List Value))) _ _ _
  refine wpAny_bind (wpAny_mono h₁ (fun f s₂ h₂ => wpAny_pure ?_) fun _ _ y => y)
  show wpAny _ _ (pure pos >>= fun callPos => callWith callPos f [] (backTo pos (starEach [.Starred e p] env)) (backToKw pos (keywordEach [] env))) _ _ _
  exact wpAny_bind (wpAny_pure h₂)
end


def PlO (vs : Array Value) (o : Obj) : Prop := o.cls = .type "list" ∧ o.dict = none ∧ ∃ n, o.data = .seq vs n
theorem PlO.lst (vs : Array Value) (c : Nat) : PlO vs (lstObj vs c) := ⟨rfl, rfl, c, rfl⟩
theorem PlO.isList {h : Heap} {a : Addr} {o : Obj} {vs : Array Value} (x : PlO vs o) (e : h.get? a = some o) : h.IsList a vs := ⟨o, e, x.1, x.2.2⟩

theorem sel_keep (k n : Nat) : ∀ (l : List Value) (j : Nat), j + l.length = n → ((l.zipIdx j).filterMap fun (x, i) => if Builtin.Bytes.selects k n 1 i then none else some x) = l.take (k - j)
  | [], j, _ => by simp
  | x :: l, j, h => by
    rw [List.zipIdx_cons, List.filterMap_cons]
    have hl : j + 1 + l.length = n := by simp at h; omega
    have ih := sel_keep k n l (j + 1) hl
    by_cases hj : j < k
    · have e : Builtin.Bytes.selects k n 1 j = false := by simp [Builtin.Bytes.selects]; omega
      have e2 : k - j = (k - (j + 1)) + 1 := by omega
      rw [e2, List.take_succ_cons]
      simp only [e, Bool.false_eq_true, if_false]
      rw [ih]
    · have e : Builtin.Bytes.selects k n 1 j = true := by
        have : j < n := by simp at h; omega
        simp [Builtin.Bytes.selects]; omega
      have e2 : k - j = 0 := by omega
      have e3 : k - (j + 1) = 0 := by omega
      rw [e2, List.take_zero]
      simp only [e, if_true]
      rw [ih, e3, List.take_zero]

section
variable {prog : Program} {w : World} {A : Around} {E : Value → Shared → Prop} {s : Shared} {X : Ent} {G : Heap} {pre post : List (Addr × Obj)} {env : Env} {m : Str → Option Value} {a : Addr} {o : Obj} {vs : Array Value} {x : Value}

theorem w_append {Q : Value → Shared → Prop} (AT : At X G (pre ++ (a, o) :: post) env m s.heap) (ho : PlO vs o) (hz : vs.size ≤ 100000)
    (h : ∀ h' o', At X G (pre ++ (a, o') :: post) env m h' → PlO (vs.push x) o' → (∀ b, b ≠ a → h'.get? b = s.heap.get? b) → Q .none { s with heap := h' }) : wpAny (model prog w) A (call (.builtin "list.append") [.ref a, x]) Q E s := by
  have hl : sizeLine = 16777216 := rfl
  obtain ⟨c, d, n, e⟩ := ho
  refine list_append_plainL ⟨o, n, AT.wd.own (a, o) (by simp), c, d, e⟩ (fun h' hp hs => ?_) (by omega)
  obtain ⟨o', n', e1, e2, e3, e4⟩ := hp
  exact h h' o' (AT.put hs e1) ⟨e2, e3, n', e4⟩ hs.2

theorem w_delFrom {Q : Unit → Shared → Prop} {sl : Addr} {k : Nat} {t : Tok} (AT : At X G (pre ++ (a, o) :: post) env m s.heap) (ho : PlO vs o) (hz : vs.size ≤ 100000) (hk : k ≤ vs.size)
    (hs : s.heap.IsSliceOf sl (.int (k : Int) t) .none .none)
    (h : ∀ h' o', At X G (pre ++ (a, o') :: post) env m h' → PlO (vs.toList.take k).toArray o' → (∀ b, b ≠ a → h'.get? b = s.heap.get? b) → Q () { s with heap := h' }) : wpAny (model prog w) A (delItem (.ref a) (.ref sl)) Q E s := by
  have hll : sizeLine = 16777216 := rfl
  obtain ⟨c, d, n, e⟩ := ho
  have eo := AT.wd.own (a, o) (by simp)
  have hl : s.heap.IsList a vs := ⟨o, eo, c, n, e⟩
  obtain ⟨os, hos, hcs, hds⟩ := id hs
  have hTs : s.TypeIs (.ref sl) "slice" := ⟨os, hos, hcs⟩
  unfold delItem
  refine wpAny_holding ?_
  refine wpAny_bind (wpAny_sequenceKey hl.typeIs (by decide) ?_)
  refine wpAny_bind (wpAny_callSpecial?_slot (name := Str.ofString "__delitem__") hl.typeIs F.slot_list_delitem
    (wpAny_call_entry F.slot_list_delitem hl.typeIs F.entry_list_delitem ?_ (F.args_list_delitem_2 _ _)))
  show wpAny _ _ (Builtin.List.listSubscript? (.ref sl) >>= _) _ _ s
  refine wpAny_bind ?_
  unfold Builtin.List.listSubscript?
  refine wpAny_bind (wpAny_specialOf hTs slice_no_index ?_)
  simp only [Option.isNone_none, if_true]
  refine wpAny_pure ?_
  show wpAny _ _ (typeOf (.ref sl) >>= _) _ _ s
  refine wpAny_bind (wpAny_typeOf hTs ?_)
  rw [if_neg (by decide)]
  rw [listSliceParts_eq]
  refine wpAny_bind (wpAny_bind (wpAny_field hos hds (x := .none) rfl (wpAny_bind (wpAny_listPart .none ?_))))
  rw [if_neg (by exact Bool.false_ne_true)]
  refine wpAny_bind (wpAny_field hos hds (x := .int (k : Int) t) rfl (wpAny_bind (wpAny_listPart (.int _ _) ?_)))
  refine wpAny_bind (wpAny_field hos hds (x := .none) rfl (wpAny_bind (wpAny_listPart .none (wpAny_pure ?_))))
  refine wpAny_bind (m := Builtin.List.listItems (.ref a)) ?_
  unfold Builtin.List.listItems
  refine wpAny_bind (wpAny_seqItems eo e (wpAny_pure ?_))
  refine wpAny_bind (wpAny_of_eq (sliceIndices_raw (some (k : Int)) none none vs.size (by simp)) ?_)
  have hb : sliceBounds (some (k : Int)) none none vs.size = ((k : Int), (vs.size : Int), 1) := by
    simp only [sliceBounds, Option.getD_none]
    have h1 : ¬ ((k : Int) < 0) := by omega
    simp only [h1, if_false, show (1 : Int) > 0 by decide, if_true]
    congr 1
    omega
  rw [hb]
  refine wpAny_bind (wpAny_rule ?_)
  have hf : ∀ xs : Array Value, xs.size = vs.size → (xs.toList.zipIdx.filterMap fun (x, i) => if Builtin.Bytes.selects k vs.size 1 i then none else some x).toArray = (xs.toList.take k).toArray := fun xs hx => by
    rw [sel_keep k vs.size xs.toList 0 (by simpa using hx)]
    simp
  show wpAny _ _ (updateSeq a (fun xs => (xs.toList.zipIdx.filterMap fun (x, i) => if Builtin.Bytes.selects k vs.size 1 i then none else some x).toArray) >>= _) _ _ _
  refine wpAny_bind (wpAny_updateSeq eo e ?_ (by omega) (by rw [hf vs rfl]; simp; omega))
  refine wpAny_bind (wpAny_letGo ?_)
  refine wpAny_pure ⟨_, rfl, wpAny_pure ?_⟩
  have hd' : (Obj.mapSeq (fun xs => (xs.toList.zipIdx.filterMap fun (x, i) => if Builtin.Bytes.selects k vs.size 1 i then none else some x).toArray) o).isFreed = false := by
    obtain ⟨c0, d0, dt, sl0⟩ := o
    cases e
    rfl
  have e1 := Heap.get?_update_self (Obj.mapSeq (fun xs => (xs.toList.zipIdx.filterMap fun (x, i) => if Builtin.Bytes.selects k vs.size 1 i then none else some x).toArray)) eo hd'
  refine h _ _ (AT.put (Heap.SameBut.update ..) e1) ?_ (Heap.SameBut.update ..).2
  obtain ⟨c0, d0, dt, sl0⟩ := o
  cases e
  refine ⟨c, d, ?_⟩
  rw [← hf vs rfl]
  exact ⟨_, rfl⟩
end


/-- the state of a table of codes that one nested def or lambda fills -/
def TabSt (pos : Pos) (qual : Str) (G : Heap) (ps : Array Value) : Prop := ps = #[] ∨ ∃ c', ps = #[rawInt pos.line, rawInt pos.col, .ref c'] ∧ G.CodeRec (.ref c') qual
theorem TabSt.mono {pos : Pos} {qual : Str} {G G' : Heap} {ps : Array Value} (h : TabSt pos qual G ps) (k : G.StaysIn G') : TabSt pos qual G' ps := h.imp id fun ⟨c', a, b⟩ => ⟨c', a, b.keeps k⟩
structure Bmn (mg : Str → Option Value) (G : Heap) : Prop where
  ex : ∃ bm ob, mg "__builtins__" = some (.ref bm) ∧ bm ≠ builtinsNs ∧ G.get? bm = some ob ∧ ob.cls = .type "module" ∧ ob.dict = some builtinsNs ∧ ob.data = .plain
theorem Bmn.mono {mg : Str → Option Value} {G G' : Heap} (h : Bmn mg G) (k : G.StaysIn G') : Bmn mg G' := let ⟨bm, ob, a, b, c, d⟩ := h.ex; ⟨bm, ob, a, b, k _ _ c, d⟩

section
variable {X : Ent} {G h : Heap} {ow : List (Addr × Obj)} {env : Env} {m : Str → Option Value}
theorem At.perm {ow' : List (Addr × Obj)} (AT : At X G ow env m h) (p : ow.Perm ow') : At X G ow' env m h := AT.back ⟨stays_refl _, AT.wd.perm p, FK.refl _ _⟩
end

section
variable {M : Model} {A : Around} {E : Value → Shared → Prop} {s : Shared} {X : Ent} {G : Heap} {pre post : List (Addr × Obj)} {env : Env} {m mg mb : Str → Option Value} {c P : Addr} {tab : Obj} {ps : Array Value}
  {name qual : Str} {params : Arguments} {body : List Stmt} {scope : Scope} {pos : Pos} {firstLine : Nat} {clos : List (Str × Addr)}

theorem w_makeFn {Q : Value → Shared → Prop} (AT : At X G (pre ++ (P, tabObj ps) :: post) env m s.heap) (S : Sta mg mb G) (B : Bmn mg G) (C : CodeHd G c P) (ht : TabSt pos qual G ps)
    (hcd : env.code = .ref c) (hge : env.globals = mainGlobals) (hcl : closureFor scope env = pure clos)
    (h : ∀ f G' h' tk ps', G.StaysIn G' → At X G' (pre ++ (P, tabObj ps') :: post) env m h' → TabSt pos qual G' ps' → FnAt G' f name qual params body scope clos → Q (.ref f) { s with heap := h', toks := tk }) :
    wpAny M A (makeFunction name qual params (.stmts body) scope env [] [] [] pos firstLine) Q E s := by
  have hgs := S.g.keeps AT.keep
  have Pn : G.get? P = none := AT.wd.ownG (P, tabObj ps) (by simp)
  have hP := AT.wd.own (P, tabObj ps) (by simp)
  have hgP : mainGlobals ≠ P := fun q => by
    obtain ⟨o, es, ep, e, _⟩ := S.g
    rw [q, Pn] at e; cases e
  obtain ⟨bm, ob, b1, b2, b3, b4, b5, b6⟩ := B.ex
  have hbP : bm ≠ P := fun q => by rw [q, Pn] at b3; cases b3
  have hbG : bm ≠ mainGlobals := fun q => by
    obtain ⟨o, es, ep, e, hd, _⟩ := S.g
    rw [q, e] at b3; cases b3; rw [hd] at b6; cases b6
  have hb : s.heap.BuiltinsAt mg P := ⟨bm, ob, b1, b2, hbG, hbP, AT.keep _ _ b3, b4, b5, b6⟩
  have lts : ∀ p ∈ pre ++ (P, tabObj ps) :: post, p.1 < s.heap.objs.size := fun p hp => Heap.lt_size (AT.wd.own p hp)
  have mapeq : ∀ ps', (pre ++ (P, tabObj ps') :: post).map (·.1) = (pre ++ (P, tabObj ps) :: post).map (·.1) := fun ps' => by simp
  have old : ∀ {b : Addr} ps', s.heap.objs.size ≤ b → b ∉ (pre ++ (P, tabObj ps') :: post).map (·.1) := fun {b} ps' hb mm => by
    rw [mapeq] at mm
    obtain ⟨p, hp, rfl⟩ := List.mem_map.mp mm
    exact absurd (lts p hp) (Nat.not_lt.mpr hb)
  have frn : ∀ {b : Addr}, s.heap.objs.size ≤ b → b ≠ env.locals ∧ ∀ e ∈ X.fs, e.frame ≠ some b := fun {b} hb => by
    refine ⟨fun z => ?_, fun e he hf => ?_⟩
    · obtain ⟨o, _, _, e, _⟩ := AT.ns
      exact absurd (z ▸ Heap.lt_size e) (Nat.not_lt.mpr hb)
    · obtain ⟨o, e1, _⟩ := AT.wd.frameIn (.tail _ he) hf
      exact absurd (Heap.lt_size e1) (Nat.not_lt.mpr hb)
  rcases ht with rfl | ⟨c₀, rfl, hrec⟩
  · refine makeFunction_K hcl hge hgs hcd (C.keeps AT.keep) hP trivial rfl hgP hb fun c' ctv doc h' tk hx hge' hlt hrec htb => ?_
    have e1 := Heap.get?_push_size h' (o := fnMade name qual params body scope clos doc ((mg "__name__").getD .none) c' ctv) rfl
    have A1 := AT.extPut (h' := h'.push (fnMade name qual params body scope clos doc ((mg "__name__").getD .none) c' ctv)) (fun b o n e => Heap.get?_push_of_some _ (hx b o n e)) (Heap.get?_push_of_some _ htb)
    obtain ⟨G', g1, A2, g2⟩ := A1.all
    obtain ⟨c₂, oc, vs, t, z, hoc, hd, hv⟩ := hrec
    cases z
    have hc : G'.CodeRec (.ref c') qual := ⟨c', oc, vs, t, rfl, g2 _ _ (Heap.get?_push_of_some _ hoc) (old _ hge') (frn hge').1 (frn hge').2, hd, hv⟩
    have hsz : s.heap.objs.size ≤ h'.objs.size := Nat.le_of_lt (Nat.lt_of_le_of_lt hge' hlt)
    have hf := g2 _ _ e1 (old _ hsz) (frn hsz).1 (frn hsz).2
    exact h _ G' _ tk _ g1 A2 (.inr ⟨c', rfl, hc⟩) ⟨_, _, _, _, _, _, hf, rfl, hc⟩
  · refine makeFunction_hit (cv := .ref c₀) hcl hge hgs hcd (C.keeps AT.keep) hP trivial (by simp [codeAmong, rawInt]) hb fun ctv doc h' tk hk hsz => ?_
    generalize hfo : ({ cls := .type "function", data := .func (fnX name qual params body scope clos .none .none doc ((mg "__name__").getD .none) none (.ref c₀) ctv) } : Obj) = fo
    have e1 := Heap.get?_push_size h' (o := fo) (by subst hfo; rfl)
    have A1 := AT.keeps (h' := h'.push fo) fun b o e => Heap.get?_push_of_some _ (hk b o e)
    obtain ⟨G', g1, A2, g2⟩ := A1.all
    have hf := g2 _ _ e1 (old _ hsz) (frn hsz).1 (frn hsz).2
    subst hfo
    exact h _ G' _ tk _ g1 A2 (.inr ⟨c₀, rfl, hrec.keeps g1⟩) ⟨_, _, _, _, _, _, hf, rfl, hrec.keeps g1⟩

theorem w_nestDef {Q : Flow → Shared → Prop} (AT : At X G (pre ++ (P, tabObj ps) :: post) env m s.heap) (S : Sta mg mb G) (B : Bmn mg G) (C : CodeHd G c P) (ht : TabSt pos (qualnameIn env name name) G ps)
    (hcd : env.code = .ref c) (hge : env.globals = mainGlobals) (hcl : closureFor scope env = pure clos)
    (h : ∀ f G' h' tk ps', G.StaysIn G' → At X G' (pre ++ (P, tabObj ps') :: post) env (upd m name (.ref f)) h' → TabSt pos (qualnameIn env name name) G' ps' → FnAt G' f name (qualnameIn env name name) params body scope clos → Q .next { s with heap := h', toks := tk })
    (hd0 : params.defaults = [] := by rfl) (hk0 : params.kw_defaults = [] := by rfl) (ha : annTrees params none env = [] := by rfl)
    (hx : env.kindOf name = some .local := by rfl) (hk : env.scope.kind = .function := by rfl) :
    wpAny M A (exec (.FunctionDef name params body [] none [] scope none name pos) env) Q E s := by
  refine nestDef_K hd0 hk0 ha ?_
  refine w_makeFn AT S B C ht hcd hge hcl fun f G' h' tk ps' g1 A1 t1 f1 => ?_
  exact w_set (s := { s with heap := h', toks := tk }) A1 (fun h₂ tk₂ A2 => h f G' h₂ tk₂ ps' g1 A2 t1 f1) hx hk
end


theorem Wd.two {fs : List Env} {G h h' : Heap} {ow : List (Addr × Obj)} {a b : Addr} {o o' p p' : Obj} (W : Wd fs G ((a, o) :: (b, p) :: ow) h) (hs : ∀ c x, c ≠ a → c ≠ b → h.get? c = some x → h'.get? c = some x) (e1 : h'.get? a = some o') (e2 : h'.get? b = some p') :
    Lf fs G h G ((a, o') :: (b, p') :: ow) h' := by
  have aG : G.get? a = none := W.ownG (a, o) (by simp)
  have bG : G.get? b = none := W.ownG (b, p) (by simp)
  have nd := W.nd
  simp only [List.map_cons, List.nodup_cons, List.mem_cons, not_or] at nd
  have na : ∀ q ∈ ow, q.1 ≠ a := fun q hq z => nd.1.2 (List.mem_map.mpr ⟨q, hq, z⟩)
  have nb : ∀ q ∈ ow, q.1 ≠ b := fun q hq z => nd.2.1 (List.mem_map.mpr ⟨q, hq, z⟩)
  refine ⟨stays_refl _, ⟨fun c x q => hs c x (fun z => by rw [z, aG] at q; cases q) (fun z => by rw [z, bG] at q; cases q) (W.keep c x q), fun q hq => ?_, fun q hq => ?_, W.nd, ?_, fun q hq => ?_⟩, ?_⟩
  · rcases List.mem_cons.mp hq with rfl | hq
    · exact e1
    · rcases List.mem_cons.mp hq with rfl | hq
      · exact e2
      · exact hs _ _ (na q hq) (nb q hq) (W.own q (.tail _ (.tail _ hq)))
  · rcases List.mem_cons.mp hq with rfl | hq
    · exact aG
    · rcases List.mem_cons.mp hq with rfl | hq
      · exact bG
      · exact W.ownG q (.tail _ (.tail _ hq))
  · exact ff_to W.ff (fun e he L hL => W.frameG he hL) fun e he L hL x hx => ⟨x, hs _ _ (fun z => W.fd (a, o) (by simp) e he (z ▸ hL)) (fun z => W.fd (b, p) (by simp) e he (z ▸ hL)) hx, .inl rfl⟩
  · rcases List.mem_cons.mp hq with rfl | hq
    · exact W.fd (a, o) (by simp)
    · rcases List.mem_cons.mp hq with rfl | hq
      · exact W.fd (b, p) (by simp)
      · exact W.fd q (.tail _ (.tail _ hq))
  · exact fun e he L hL x hx => ⟨x.slots, hs _ _ (fun z => W.fd (a, o) (by simp) e he (z ▸ hL)) (fun z => W.fd (b, p) (by simp) e he (z ▸ hL)) hx⟩

def enO (I : Addr) (k : Nat) (old : Value) : Obj := { cls := .type "enumerate", dict := none, data := .fields #[.none, .bool false, .ref I, rawInt (k : Int), .none, old], slots := #[] }
section
variable {prog : Program} {w : World} {A : Around} {E : Value → Shared → Prop} {s : Shared} {X : Ent} {G : Heap} {ow : List (Addr × Obj)} {env : Env} {m : Str → Option Value} {x y : Str} {pos : Pos}
theorem w_forEnum {px py pt : Pos} {kk : Nat} {it : Expr} {body : List Stmt} {Q : Flow → Shared → Prop} {l : Addr} {vs : Array Value} (hA : A.handled = none)
    (inv : Nat → Heap → List (Addr × Obj) → (Str → Option Value) → Prop) (hinv : ∀ k G G' ow m, inv k G ow m → G.StaysIn G' → inv k G' ow m)
    (AT : At X G ow env m s.heap) (hl : G.IsList l vs) (hi : inv 0 G ow m)
    (hbody : ∀ k u t G ow m e eo I io (s : Shared) (Qb : Flow → Shared → Prop) (Eb : Value → Shared → Prop), inv k G ow m → vs[k]? = some u → G.IsList l vs → At X G ((e, eo) :: (I, io) :: ow) env (upd (upd m x (.int (k : Int) t)) y u) s.heap →
      (∀ h' tk G' ow' m', G.StaysIn G' → At X G' ((e, eo) :: (I, io) :: ow') env m' h' → inv (k + 1) G' ow' m' → Qb .next { s with heap := h', toks := tk }) → wpAny (model prog w) A (execs body env) Qb Eb s)
    (done : ∀ h' tk G' ow' m', At X G' ow' env m' h' → inv vs.size G' ow' m' → Q .next { s with heap := h', toks := tk })
    (hev : ∀ (Q : Value → Shared → Prop), wpAny (model prog w) A (call (.type "enumerate") [.ref l]) Q E s → wpAny (model prog w) A (eval it env) Q E s)
    (hx : env.kindOf x = some .local := by rfl) (hy : env.kindOf y = some .local := by rfl) (hk : env.scope.kind = .function := by rfl)
    (hs : ∀ x, foldedSetIterable it env x = pure x := by intro _; rfl) :
    wpAny (model prog w) A (exec (.For (.Tuple [.Name x px, .Name y py] kk pt) it body [] pos) env) Q E s := by
  refine wpAny_For (hev _ ?_) hs
  have hls := isList_mono hl AT.keep
  refine call_enumerate_list hls fun h₁ he₁ hit₁ _ k₁ => ?_
  generalize hI : s.heap.objs.size = I at *
  have nI : s.heap.get? I = none := by rw [← hI]; exact size_none _
  have ne : s.heap.get? (I + 1) = none := none_ge (by rw [hI]; exact Nat.le_succ _)
  obtain ⟨io, hio, hioc, hiod⟩ := hit₁
  have W1 : Wd (env :: X.fs) G ((I + 1, enO I 0 .none) :: (I, io) :: ow) h₁ := Wd.own_many (cells := [(I + 1, enO I 0 .none), (I, io)]) AT.wd k₁ (fun p hp => by
    rcases List.mem_cons.mp hp with rfl | hp
    · exact ⟨ne, he₁⟩
    · rcases List.mem_cons.mp hp with rfl | hp
      · exact ⟨nI, hio⟩
      · cases hp) (by simp)
  have A1 := AT.back (⟨stays_refl _, W1, FK.keeps k₁⟩ : Lf (env :: X.fs) G s.heap G ((I + 1, enO I 0 .none) :: (I, io) :: ow) h₁)
  refine wpAny_pyIter_enum (s := { s with heap := h₁ }) he₁ ?_
  refine codeAny_forLoop_any (R := fun r s' => match r with | .ok f => Q f s' | .error e => cameBackBy (model prog w) A env E e s')
    (fun n s' => ∃ k h' tk G' ow' m' io old, n + k = vs.size ∧ s' = { s with heap := h', toks := tk } ∧ At X G' ((I + 1, enO I k old) :: (I, io) :: ow') env m' h' ∧ G'.IsList l vs ∧ IsIt io l k ∧ inv k G' ow' m') ?_ vs.size
    ⟨0, _, s.toks, G, ow, m, io, .none, rfl, rfl, A1, hl, ⟨hioc, hiod⟩, hi⟩
  rintro n s' ⟨k, h', tk, G', ow', m', io, old, hn, rfl, A2, hl2, hio2, hinv2⟩
  have hit := hio2.at (A2.wd.own (I, io) (by simp))
  have hen : IsEnum h' (I + 1) I (k : Int) old := A2.wd.own (I + 1, enO I k old) (by simp)
  have hll := isList_mono hl2 A2.keep
  cases q : vs[k]? with
  | none =>
    have hk : k = vs.size := by
      have := Array.getElem?_eq_none_iff.mp q
      omega
    refine wpAny_pyNext_enum_end (s := { s with heap := h', toks := tk }) hA hen hit hll q fun h₂ hs₂ => ?_
    refine wpAny_execs_nil ?_
    have L := Wd.extBut (pre := [(I + 1, enO I k old)]) A2.wd hs₂
    have L2 : Lf (env :: X.fs) G' h' G' ow' h₂ := ⟨L.gr, L.wd.sub (fun p hp => .tail _ hp) (by have := L.wd.nd; simp at this; exact this.2), L.fk⟩
    subst hk
    exact done h₂ tk G' ow' m' (A2.back L2) hinv2
  | some u =>
    refine wpAny_pyNext_enum_item (s := { s with heap := h', toks := tk }) hen hit hll q (Nat.succ_ne_self I) fun h₂ he₂ hit₂ ht₂ hz₂ hk₂ => ?_
    obtain ⟨io₂, ho₂, hc₂, hd₂⟩ := hit₂
    have A3 := A2.back (A2.wd.two hk₂ he₂ ho₂)
    refine wpAny_letOwnedTupleGo_enum (s := { s with heap := h₂, toks := tk + 1 }) he₂ fun h₃ he₃ hs₃ => ?_
    have A4 := A3.put (pre := []) hs₃ he₃
    obtain ⟨G₅, g5, A5, q5⟩ := A4.all
    have tne : h'.objs.size ≠ I + 1 := Nat.ne_of_gt (Heap.lt_size hen)
    have et := q5 h'.objs.size _ ((hs₃.2 _ tne).trans ht₂) (fun mm => by
      obtain ⟨p, hp, z⟩ := List.mem_map.mp mm
      have hp2 : ∃ o, h'.get? p.1 = some o := by
        rcases List.mem_cons.mp hp with rfl | hp
        · exact ⟨_, hen⟩
        · rcases List.mem_cons.mp hp with rfl | hp
          · exact ⟨_, A2.wd.own (I, io) (by simp)⟩
          · exact ⟨_, A2.wd.own p (by simp [hp])⟩
      obtain ⟨o, ho⟩ := hp2
      exact absurd (z ▸ Heap.lt_size ho) (Nat.lt_irrefl _)) (fun z => by
      obtain ⟨o, _, _, e, _⟩ := A2.ns
      exact absurd (z ▸ Heap.lt_size e) (Nat.lt_irrefl _)) (fun en hen' hf => by
      obtain ⟨o, e1, _⟩ := A2.wd.frameIn (.tail _ hen') hf
      exact absurd (Heap.lt_size e1) (Nat.lt_irrefl _))
    refine w_unpack2 (s := { s with heap := h₃, toks := tk + 1 }) hA A5 (TupG.of (vs := [.int (k : Int) tk, u]) et) (fun h₆ A6 => ?_) hx hy hk
    refine hbody k u _ G₅ ow' m' _ _ _ io₂ { s with heap := h₆, toks := _ } _ _ (hinv _ _ _ _ _ hinv2 g5) q (isList_mono hl2 g5) A6 fun h₇ tk₇ G₇ ow₇ m₇ le A7 i7 => ?_
    have hlt := (Array.getElem?_eq_some_iff.mp q).1
    refine ⟨n - 1, by omega, k + 1, h₇, tk₇, G₇, ow₇, m₇, io₂, u, by omega, rfl, ?_, isList_mono (isList_mono hl2 g5) le, ⟨hc₂, hd₂⟩, i7⟩
    have : enO I (k + 1) u = { cls := .type "enumerate", dict := none, data := .fields #[.none, .bool false, .ref I, rawInt ((k : Int) + 1), .none, u], slots := #[] } := by
      unfold enO
      rfl
    rw [this]
    exact A7
end

section
variable {prog : Program} {w : World} {A : Around} {E : Value → Shared → Prop} {s : Shared} {X : Ent} {G : Heap} {pre post : List (Addr × Obj)} {env : Env} {m : Str → Option Value} {a : Addr} {o : Obj} {vs : Array Value} {x : Value}
theorem setItem_plain {l : Addr} {items : Array Value} {k : Int} {t : Tok} {v : Value} {Q : Unit → Shared → Prop} (hl : PlainL s.heap l items)
    (h0 : 0 ≤ k) (hfit : k < 2 ^ 63) (hn : k < items.size)
    (hQ : ∀ h', PlainL h' l (items.setIfInBounds k.toNat v) → Heap.SameBut l s.heap h' → Q () { s with heap := h' }) :
    wpAny (model prog w) A (setItem (.ref l) (.int k t) v) Q E s := by
  obtain ⟨o, ne, ho, hc, hdn, hd⟩ := id hl
  have hli := hl.isList
  unfold setItem
  try with_reducible refine wpAny_holding ?_
  first | refine wpAny_bind (wpAny_pure ?_) | skip
  refine wpAny_bind (wpAny_sequenceKey hli.typeIs (by decide) ?_)
  refine wpAny_bind (wpAny_callSpecial?_slot (name := Str.ofString "__setitem__") hli.typeIs slot_list_setitem
    (wpAny_call_entry slot_list_setitem hli.typeIs entry_list_setitem ?_ (args_list_setitem _ _ _)))
  show wpAny _ _ (Builtin.List.listSubscript? (.int k t) >>= _) _ _ s
  refine wpAny_bind (wpAny_listSubscript_int (fitsIndex_of h0 hfit) ?_)
  clear hfit
  obtain ⟨j, rfl⟩ := Int.eq_ofNat_of_zero_le h0
  have hj : j < items.size := by omega
  have hx' : items[j]? = some items[j] := Array.getElem?_eq_getElem hj
  show wpAny _ _ ((seqItemAt l j >>= fun r => pure (r.map (j, ·))) >>= _) _ _ s
  refine wpAny_bind (wpAny_bind (wpAny_seqItemAt ho hd (wpAny_pure ?_)))
  rw [hx']
  show wpAny _ _ (setSeqItemAt l j v >>= _) _ _ s
  obtain ⟨n', hd'⟩ := Obj.data_mapSeq hd (·.setIfInBounds j v)
  have hd2 : (Obj.mapSeq (·.setIfInBounds j v) o).dict = none := by
    obtain ⟨c0, d0, dt, sl0⟩ := o
    cases hd
    exact hdn
  have hfin : PlainL (s.heap.update l (Obj.mapSeq (·.setIfInBounds j v))) l (items.setIfInBounds j v) :=
    ⟨_, n', Heap.get?_update_self _ ho (Obj.isFreed_of_seq hd'), (Obj.cls_mapSeq ..).trans hc, hd2, hd'⟩
  refine wpAny_bind (wpAny_setSeqItemAt ho hd ?_)
  first
    | exact wpAny_bind (wpAny_pure (wpAny_pure ⟨.none, rfl, wpAny_pure (hQ _ hfin (Heap.SameBut.update ..))⟩))
    | exact wpAny_pure ⟨.none, rfl, wpAny_pure (hQ _ hfin (Heap.SameBut.update ..))⟩
theorem w_setItem {Q : Unit → Shared → Prop} {k : Nat} {t : Tok} (AT : At X G (pre ++ (a, o) :: post) env m s.heap) (ho : PlO vs o) (hz : vs.size ≤ 100000) (hk : k < vs.size)
    (h : ∀ h' o', At X G (pre ++ (a, o') :: post) env m h' → PlO (vs.setIfInBounds k x) o' → (∀ b, b ≠ a → h'.get? b = s.heap.get? b) → Q () { s with heap := h' }) : wpAny (model prog w) A (setItem (.ref a) (.int (k : Int) t) x) Q E s := by
  obtain ⟨c, d, n, e⟩ := ho
  have eo := AT.wd.own (a, o) (by simp)
  refine setItem_plain ⟨o, n, eo, c, d, e⟩ (by omega) (by omega) (by omega) fun h' hp hs => ?_
  obtain ⟨o', n', e1, e2, e3, e4⟩ := hp
  exact h h' o' (AT.put hs e1) ⟨e2, e3, n', e4⟩ hs.2
end
section
variable {prog : Program} {w : World} {A : Around} {E : Value → Shared → Prop} {s : Shared} {Q : Value → Shared → Prop} {a b : Int} {t u : Tok}
theorem w_mod (hb : b ≠ 0) (h : ∀ t tk, Q (.int (a.fmod b) t) { s with toks := tk }) : wpAny (model prog w) A (binaryOp .Mod (.int a t) (.int b u)) Q E s := mod_int' hb (h _ _)
theorem w_mul (ha : Builtin.Int.intBits a ≤ 64) (h : ∀ t tk, Q (.int (a * b) t) { s with toks := tk }) : wpAny (model prog w) A (binaryOp .Mult (.int a t) (.int b u)) Q E s := P.mul_int (h _ _) (IntMulOk.of_left ha)
theorem w_fdiv (hb : b ≠ 0) (hp : Builtin.divisionGoesByPylong a b = false) (h : ∀ t tk, Q (.int (a.fdiv b) t) { s with toks := tk }) : wpAny (model prog w) A (binaryOp .FloorDiv (.int a t) (.int b u)) Q E s := floordiv_int hb (h _ _) (.inl hp)
theorem fmod_bound (a : Int) {b : Int} (hb : 0 < b) : 0 ≤ a.fmod b ∧ a.fmod b < b := ⟨Int.fmod_nonneg_of_pos a hb, Int.fmod_lt_of_pos a hb⟩
end
theorem All2.set {α β : Type} {R : α → β → Prop} {l : List α} {r : List β} (h : All2 R l r) {a : α} {b : β} (hab : R a b) : ∀ n, All2 R (l.set n a) (r.set n b) := by
  induction h with
  | nil => intro n; simpa using All2.nil
  | cons x y ih => intro n; cases n with
    | zero => exact .cons hab y
    | succ n => exact .cons x (ih n)


/-- an iterator that a comprehension or a loop draws from -/
structure ItSrc (prog : Program) (w : World) (A : Around) (G : Heap) (I : Addr) (St : Nat → Obj → Prop) (n : Nat) (Pv : Nat → Value → Prop) : Prop where
  item : ∀ {k io} {s : Shared} {Q : Option Value → Shared → Prop} {E : Value → Shared → Prop}, k < n → G.StaysIn s.heap → s.heap.get? I = some io → St k io →
    (∀ h' io' v tk, h'.get? I = some io' → St (k + 1) io' → Heap.SameBut I s.heap h' → Pv k v → Q (some v) { s with heap := h', toks := tk }) → wpAny (model prog w) A (pyNext (.ref I)) Q E s
  done : ∀ {io} {s : Shared} {Q : Option Value → Shared → Prop} {E : Value → Shared → Prop}, G.StaysIn s.heap → s.heap.get? I = some io → St n io → (∀ h', Heap.ExtBut I s.heap h' → Q none { s with heap := h' }) → wpAny (model prog w) A (pyNext (.ref I)) Q E s
  self : ∀ {io} {s : Shared} {Q : Value → Shared → Prop} {E : Value → Shared → Prop}, s.heap.get? I = some io → St 0 io → Q (.ref I) s → wpAny (model prog w) A (pyIter (.ref I)) Q E s

def rgO (k n : Nat) : Obj := { cls := .type "range_iterator", dict := none, data := .fields #[rawInt (k : Int), rawInt ((n - k : Nat) : Int), rawInt 1], slots := #[] }
section
variable {prog : Program} {w : World} {A : Around} {E : Value → Shared → Prop} {s : Shared} {X : Ent} {G : Heap} {ow : List (Addr × Obj)} {env : Env} {m : Str → Option Value}

theorem src_list {I l : Addr} {vs : Array Value} (hA : A.handled = none) (hl : G.IsList l vs) : ItSrc prog w A G I (fun k io => IsIt io l k) vs.size (fun k v => vs[k]? = some v) where
  item := fun hk kp he hs h => by
    have hv := Array.getElem?_eq_getElem hk
    refine wpAny_pyNext_list_item (hs.at he) (isList_mono hl kp) hv fun h' hit hsb => ?_
    obtain ⟨o, ho, hc, hd⟩ := hit
    exact h h' o _ _ ho ⟨hc, hd⟩ hsb hv
  done := fun kp he hs h => wpAny_pyNext_list_end hA (hs.at he) (isList_mono hl kp) (Array.getElem?_eq_none (Nat.le_refl _)) h
  self := fun he hs h => wpAny_pyIter_listiter (hs.at he) h

theorem src_range {I : Addr} {n : Nat} (hA : A.handled = none) : ItSrc prog w A G I (fun k io => io = rgO k n) n (fun k v => ∃ t, v = .int (k : Int) t) where
  item := fun {k io s Q E} hk kp he hs h => by
    subst hs
    refine wpAny_pyNext_range_item (x := (k : Int)) (left := ((n - k : Nat) : Int)) (step := 1) he (by omega) fun h' hit hsb => ?_
    refine h h' (rgO (k + 1) n) _ _ ?_ rfl hsb ⟨_, rfl⟩
    have e1 : (k : Int) + 1 = ((k + 1 : Nat) : Int) := by omega
    have e2 : ((n - k : Nat) : Int) - 1 = ((n - (k + 1) : Nat) : Int) := by omega
    rw [e1, e2] at hit
    exact hit
  done := fun {io s Q E} kp he hs h => by
    subst hs
    exact wpAny_pyNext_range_end (x := (n : Int)) (left := ((n - n : Nat) : Int)) (step := 1) hA he (by omega) h
  self := fun {io s Q E} he hs h => by
    subst hs
    exact wpAny_pyIter_rangeiter (x := ((0 : Nat) : Int)) (left := ((n - 0 : Nat) : Int)) (step := 1) he h

theorem comp_core {elt iter : Expr} {x : Str} {px pos : Pos} {scope : Scope} {cl : List (Str × Addr)} {RR : Value → Addr → Result → Shared → Prop} {I : Addr} {io : Obj} {G₁ : Heap} {m₁ : Str → Option Value} {ow₁ : List (Addr × Obj)} {St : Nat → Obj → Prop} {n : Nat} {Pv : Nat → Value → Prop} {ds : List PyData} {inv : Nat → Heap → List (Addr × Obj) → Prop} {s₂ : Shared}
    (AT : At X G₁ ((I, io) :: ow₁) env m₁ s₂.heap) (src : ItSrc prog w A G₁ I St n Pv) (st0 : St 0 io) (hn : n = ds.length) (hnz : n ≤ 100000) (i0 : inv 0 G₁ ow₁)
    (elem : ∀ k v d C oC L ao io G' ow' (s : Shared) (Qe Ee : Value → Shared → Prop), ds[k]? = some d → Pv k v → inv k G' ow' → G₁.StaysIn G' → At X G' ((C, oC) :: (L, ao) :: (I, io) :: ow') env m₁ s.heap → (∃ mC, s.heap.Ns C mC ∧ mC x = some v) →
          (∀ r G'' h' tk ow'', G'.StaysIn G'' → At X G'' ((C, oC) :: (L, ao) :: (I, io) :: ow'') env m₁ h' → inv (k + 1) G'' ow'' → Rd G'' r d → Qe r { s with heap := h', toks := tk }) → wpAny (model prog w) A (eval elt (compEnvC scope cl C env)) Qe Ee s)
    (hRR : ∀ L C oC ao vs G' h' tk ow', At X G' ((C, oC) :: (L, ao) :: ow') env m₁ h' → (∃ mC, h'.Ns C mC) → PlO vs ao → Rds G' vs.toList ds → inv n G' ow' → G₁.StaysIn G' → RR (.ref L) C (.ok .next) { s₂ with heap := h', toks := tk })
    (hkind : scope.kind = .function) (hcell : ∀ y ∈ scope.names, y.2 ≠ .cell) (hx : scope.names.lookup x = some .local) :
    wpAny (model prog w) A (newList []) (fun acc s₃ => wpAny (model prog w) A (newFunctionEnv scope env.globals cl [] env.qual none .none (some env)) (fun cenv s₄ =>
      codeAny (model prog w) A (.compStart (.ListComp elt [⟨.Name x px, iter, [], 0⟩] scope pos) 0 (.ref I) acc { cenv with scope := relabel scope env }) (RR acc cenv.locals) s₄) E s₃) E s₂ := by
  have hsl : sizeLine = 16777216 := rfl
  refine wpAny_newList ?_ (by simp)
  have A₁ := AT.own_new (h' := s₂.heap.push { cls := .type "list", data := .seq ([] : List Value).toArray }) (fun _ _ e => Heap.get?_push_of_some _ e) (size_none _) (Heap.get?_push_size _ rfl)
  generalize hL : s₂.heap.objs.size = L at *
  generalize hh1 : s₂.heap.push { cls := .type "list", data := .seq ([] : List Value).toArray } = h₁' at *
  refine wpAny_newFunctionEnv hcell (by intro y hy; simp at hy) (fun h₃ hns hsb => ?_) hkind
  obtain ⟨oC, es, ep, hoC, hdC, rC⟩ := id hns
  have k₃ : h₁'.StaysIn h₃ := fun b o e => hsb.extBut b o (Nat.ne_of_lt (Heap.lt_size e)) (Heap.get?_push_of_some _ e)
  have A₃ := A₁.own_new k₃ (size_none _) hoC
  show codeAny (model prog w) A (.compStart (.ListComp elt [⟨.Name x px, iter, [], 0⟩] scope pos) 0 (.ref I) (.ref L) (compEnvC scope cl h₁'.objs.size env)) (RR (.ref L) h₁'.objs.size) { s₂ with heap := h₃, toks := s₂.toks + 0 }
  generalize hC : h₁'.objs.size = C at *
  have loop : codeAny (model prog w) A (.compLoop (.ListComp elt [⟨.Name x px, iter, [], 0⟩] scope pos) 0 (.ref I) (.ref L) (compEnvC scope cl C env)) (RR (.ref L) C) { s₂ with heap := h₃, toks := s₂.toks + 0 } := by
    refine codeAny_compLoop_list (fun j s' => ∃ k h' tk G' ow' oC io ao vs, j + k = n ∧ s' = { s₂ with heap := h', toks := tk } ∧ At X G' ((C, oC) :: (L, ao) :: (I, io) :: ow') env m₁ h' ∧ G₁.StaysIn G' ∧ St k io ∧ inv k G' ow' ∧ PlO vs ao ∧ Rds G' vs.toList (ds.take k) ∧ (∃ mC, h'.Ns C mC)) ?_ n
      ⟨0, h₃, _, G₁, ow₁, oC, io, _, #[], rfl, rfl, A₃, stays_refl _, st0, i0, ⟨rfl, rfl, 0, rfl⟩, Rds.nil, _, hns⟩
    rintro j s' ⟨k, h', tk, G', ow', oC, io, ao, vs, hj, rfl, A', g', st', i', hao, hvs, mC, hnC⟩
    have eI := A'.wd.own (I, io) (by simp)
    have vlen : vs.size = min k ds.length := by have := hvs.length; simpa using this
    rcases Nat.lt_or_ge k n with hk | hk
    · refine src.item (s := { s₂ with heap := h', toks := tk }) hk (stays_trans g' A'.keep) eI st' fun h₄ io₄ v tk₄ e₄ st₄ hsb₄ hpv => ?_
      have A₄ := A'.put (pre := [(C, oC), (L, ao)]) hsb₄ e₄
      have nCI : C ≠ I := by have := A'.wd.nd; simp at this; exact this.1.2.1
      have hnC₄ : h₄.Ns C mC := by
        obtain ⟨o, es, ep, a1, r⟩ := hnC
        exact ⟨o, es, ep, (hsb₄.2 _ nCI).trans a1, r⟩
      refine wpAny_assign_Name ?_
      refine wpAny_storeName_local (s := { s₂ with heap := h₄, toks := tk₄ }) (env := compEnvC scope cl C env) (lookup_relabel_local hx) hnC₄ (fun h₅ hn₅ hs₅ => ?_) (by simp [compEnvC, relabel, hkind])
      obtain ⟨oC₅, es₅, ep₅, hoC₅, r₅⟩ := id hn₅
      have A₅ := A₄.put (pre := []) hs₅ hoC₅
      obtain ⟨d, hd⟩ : ∃ d, ds[k]? = some d := ⟨_, List.getElem?_eq_getElem (by omega)⟩
      refine elem k v d C oC₅ L ao io₄ G' ow' { s₂ with heap := h₅, toks := tk₄ + 1 } _ _ hd hpv i' g' A₅ ⟨_, hn₅, by simp⟩ fun r G₆ h₆ tk₆ ow₆ g₆ A₆ i₆ hr => ?_
      refine w_append (s := { s₂ with heap := h₆, toks := tk₆ }) (pre := [(C, oC₅)]) A₆ hao (by omega) fun h₇ ao₇ A₇ hao₇ hb₇ => ?_
      refine ⟨n - (k + 1), by omega, k + 1, h₇, tk₆, G₆, ow₆, oC₅, io₄, ao₇, _, by omega, rfl, A₇, stays_trans g' g₆, st₄, i₆, hao₇, ?_, ?_⟩
      · rw [Array.toList_push, List.take_add_one, hd]
        exact (hvs.mono g₆).append (Rds.cons hr Rds.nil)
      · exact ⟨_, oC₅, es₅, ep₅, A₇.wd.own (C, oC₅) (by simp), r₅⟩
    · have hkn : k = n := by omega
      subst hkn
      refine src.done (s := { s₂ with heap := h', toks := tk }) (stays_trans g' A'.keep) eI st' fun h₄ hx₄ => ?_
      have nCI : C ≠ I := by have := A'.wd.nd; simp at this; exact this.1.2.1
      have A₄ := A'.back (Wd.extBut (pre := [(C, oC), (L, ao)]) A'.wd hx₄)
      rw [hn, List.take_length] at hvs
      refine hRR L C oC ao vs G' h₄ tk ow' A₄ ⟨mC, ?_⟩ hao hvs i' g'
      obtain ⟨o, es, ep, a1, r⟩ := hnC
      exact ⟨o, es, ep, hx₄ _ _ nCI a1, r⟩
  refine codeAny_compStart_list loop ?_
  have eI₃ := A₃.wd.own (I, io) (by simp)
  exact src.self (s := { s₂ with heap := h₃, toks := s₂.toks + 0 }) eI₃ st0 loop

/-- what the iterable of a comprehension leaves, and its element -/
def CompOk (prog : Program) (w : World) (A : Around) (env : Env) (elt : Expr) (x : Str) (scope : Scope) (cl : List (Str × Addr)) (s₂ : Shared) (itv : Value) (Fin : Ent → Heap → List (Addr × Obj) → (Str → Option Value) → Addr → List PyData → Heap → Tok → Prop) : Prop :=
  ∃ (I : Addr) (io : Obj) (X : Ent) (G₁ : Heap) (m₁ : Str → Option Value) (ow₁ : List (Addr × Obj)) (St : Nat → Obj → Prop) (n : Nat) (Pv : Nat → Value → Prop) (ds : List PyData) (inv : Nat → Heap → List (Addr × Obj) → Prop),
    itv = .ref I ∧ At X G₁ ((I, io) :: ow₁) env m₁ s₂.heap ∧ ItSrc prog w A G₁ I St n Pv ∧ St 0 io ∧ n = ds.length ∧ n ≤ 100000 ∧ inv 0 G₁ ow₁ ∧ (∀ k G G' ow, inv k G ow → G.StaysIn G' → inv k G' ow) ∧
    (∀ k v d C oC L ao io G' ow' (s : Shared) (Qe Ee : Value → Shared → Prop), ds[k]? = some d → Pv k v → inv k G' ow' → G₁.StaysIn G' → At X G' ((C, oC) :: (L, ao) :: (I, io) :: ow') env m₁ s.heap → (∃ mC, s.heap.Ns C mC ∧ mC x = some v) →
      (∀ r G'' h' tk ow'', G'.StaysIn G'' → At X G'' ((C, oC) :: (L, ao) :: (I, io) :: ow'') env m₁ h' → inv (k + 1) G'' ow'' → Rd G'' r d → Qe r { s with heap := h', toks := tk }) → wpAny (model prog w) A (eval elt (compEnvC scope cl C env)) Qe Ee s) ∧
    (∀ L G' h' tk ow', inv n G' ow' → G₁.StaysIn G' → Fin X G' ow' m₁ L ds h' tk)

theorem w_comp {elt iter : Expr} {x : Str} {px pos : Pos} {scope : Scope} {cl : List (Str × Addr)} {Q : Value → Shared → Prop}
    (hev : wpAny (model prog w) A (eval iter env) (fun xv s₁ => wpAny (model prog w) A (pyIter xv) (fun itv s₂ =>
      CompOk prog w A env elt x scope cl s₂ itv fun X G' ow' m₁ L ds h' tk => At X G' ow' env m₁ h' → Rd G' (.ref L) (.list ds) → Q (.ref L) { s₂ with heap := h', toks := tk }) E s₁) E s)
    (hclos : closureFor scope env = pure cl := by rfl) (hkind : scope.kind = .function := by rfl) (hnames : ∀ x ∈ scope.names, x.2 = .local → scope.names.lookup x.1 = some .local := by decide +kernel)
    (hcell : ∀ y ∈ scope.names, y.2 ≠ .cell := by decide +kernel) (hx : scope.names.lookup x = some .local := by rfl)
    (hs : ∀ x, foldedSetIterable iter env x = pure x := by intro _; rfl) :
    wpAny (model prog w) A (eval (.ListComp elt [⟨.Name x px, iter, [], 0⟩] scope pos) env) Q E s := by
  rw [eval_ListComp]
  refine wpAny_comprehension_free (use := none) rfl hs hclos hkind hnames ?_
  refine wpAny_mono hev (fun xv s₁ h₁ => wpAny_mono h₁ (fun itv s₂ h₂ => ?_) fun _ _ z => z) fun _ _ z => z
  obtain ⟨I, io, X, G₁, m₁, ow₁, St, n, Pv, ds, inv, rfl, AT, src, st0, hn, hnz, i0, imono, elem, fin⟩ := h₂
  refine comp_core AT src st0 hn hnz i0 elem (fun L C oC ao vs G' h' tk ow' A' hnC hao hvs i' g' => ?_) hkind hcell hx
  obtain ⟨mC, hnC⟩ := hnC
  refine ⟨mC, hnC, fun h₅ hs₅ => ?_⟩
  have A₅ : At X G' ((L, ao) :: ow') env m₁ h₅ := A'.back (Wd.extBut (pre := []) A'.wd (Heap.SameBut.extBut hs₅))
  have nd := A₅.wd.nd
  rw [List.map_cons, List.nodup_cons] at nd
  obtain ⟨G₆, g₆, A₆, q₆⟩ := A₅.freeze (ow' := ow') (fun p hp => .tail _ hp) nd.2
  have eL := q₆ (L, ao) (by simp) nd.1
  exact fin L G₆ h₅ tk ow' (imono _ _ _ _ i' g₆) (stays_trans g' g₆) A₆ (Rd.list (hao.isList eL) (hvs.mono g₆))

/-- y = [elt for x in iter], stored in the comprehension's own end -/
theorem w_compAssign {elt iter : Expr} {x y : Str} {px py pos pos' : Pos} {scope : Scope} {cl : List (Str × Addr)} {Q : Flow → Shared → Prop}
    (hev : wpAny (model prog w) A (eval iter env) (fun xv s₁ => wpAny (model prog w) A (pyIter xv) (fun itv s₂ =>
      CompOk prog w A env elt x scope cl s₂ itv fun X G' ow' m₁ L ds h' tk => At X G' ow' env (upd m₁ y (.ref L)) h' → Rd G' (.ref L) (.list ds) → Q .next { s₂ with heap := h', toks := tk }) E s₁) E s)
    (hsw : swapsWith (.ListComp elt [⟨.Name x px, iter, [], 0⟩] scope pos) (some (.Name y py)) pos'.line env = pure true := by rfl)
    (hclos : closureFor scope env = pure cl := by rfl) (hkind : scope.kind = .function := by rfl) (hnames : ∀ x ∈ scope.names, x.2 = .local → scope.names.lookup x.1 = some .local := by decide +kernel)
    (hcell : ∀ y ∈ scope.names, y.2 ≠ .cell := by decide +kernel) (hx : scope.names.lookup x = some .local := by rfl)
    (hs : ∀ x, foldedSetIterable iter env x = pure x := by intro _; rfl) (hy : env.kindOf y = some .local := by rfl) (hke : env.scope.kind = .function := by rfl) :
    wpAny (model prog w) A (exec (.Assign [.Name y py] (.ListComp elt [⟨.Name x px, iter, [], 0⟩] scope pos) pos') env) Q E s := by
  rw [exec_Assign_Name_used _ _ _ _ hsw]
  refine wpAny_bind (wpAny_standAt (wpAny_bind ?_))
  show wpAny _ A (do let _ ← comprehension (.ListComp elt [⟨.Name x px, iter, [], 0⟩] scope pos) scope env _ (newList []) false (eval iter env) (some (assign (.Name y py) env))) _ _ s
  refine wpAny_bind (wpAny_mono (wpAny_comprehension_free (use := some (assign (.Name y py) env)) (Q := fun _ s' => Q .next s') rfl hs hclos hkind hnames
    (wpAny_mono hev (fun xv s₁ h₁ => wpAny_mono h₁ (fun itv s₂ h₂ => ?_) fun _ _ e => e) fun _ _ e => e)) (fun _ s' hq => wpAny_pure (wpAny_pure hq)) fun _ _ e => e)
  obtain ⟨I, io, X, G₁, m₁, ow₁, St, n, Pv, ds, inv, rfl, AT, src, st0, hn, hnz, i0, imono, elem, fin⟩ := h₂
  refine comp_core (RR := fun acc C => compPost (model prog w) A E (some (assign (.Name y py) env)) (fun _ s' => Q .next s') acc C) AT src st0 hn hnz i0 elem (fun L C oC ao vs G' h' tk ow' A' hnC hao hvs i' g' => ?_) hkind hcell hx
  obtain ⟨mC, hnC⟩ := hnC
  show wpAny _ A (assign (.Name y py) env (.ref L)) _ _ _
  refine wpAny_assign_Name ?_
  refine w_set (s := { s₂ with heap := h', toks := tk }) A' (fun h₃ tk₃ A₃ => ?_) hy hke
  obtain ⟨oq, es, ep, a1, r⟩ := hnC
  have eoc := A'.wd.own (C, oC) (by simp)
  have e0 : oq = oC := by rw [a1] at eoc; exact Option.some.inj eoc
  subst e0
  refine ⟨mC, ⟨oq, es, ep, A₃.wd.own (C, oq) (by simp), r⟩, fun h₅ hs₅ => ?_⟩
  have A₅ : At X G' ((L, ao) :: ow') env (upd m₁ y (.ref L)) h₅ := A₃.back (Wd.extBut (pre := []) A₃.wd (Heap.SameBut.extBut hs₅))
  have nd := A₅.wd.nd
  rw [List.map_cons, List.nodup_cons] at nd
  obtain ⟨G₆, g₆, A₆, q₆⟩ := A₅.freeze (ow' := ow') (fun p hp => .tail _ hp) nd.2
  have eL := q₆ (L, ao) (by simp) nd.1
  exact fin L G₆ h₅ tk₃ ow' (imono _ _ _ _ i' g₆) (stays_trans g' g₆) A₆ (Rd.list (hao.isList eL) (hvs.mono g₆))
end

section
variable {prog : Program} {w : World} {A : Around} {E : Value → Shared → Prop} {s : Shared} {X : Ent} {G : Heap} {ow : List (Addr × Obj)} {env : Env} {m mg mb : Str → Option Value} {x : Str} {pos : Pos} {v : Value} {Q : Value → Shared → Prop} {M : Model}
theorem w_glob (kp : G.StaysIn s.heap) (S : Sta mg mb G) (hv : mg x = some v) (h : Q v s) (hk : env.scope.kind = .function := by rfl) (hx : env.kindOf x = some .globalImplicit := by rfl) (hg : env.globals = mainGlobals := by rfl) (hd : (x == ("__debug__" : Str)) = false := by rfl) :
    wpAny M A (eval (.Name x pos) env) Q E s := Name_function_global hk hx (loadGlobal_global (by rw [hg]; exact S.g.keeps kp) hv h) hd
theorem w_bltn (kp : G.StaysIn s.heap) (S : Sta mg mb G) (hv : mg x = none) (hb : bootBuiltins x = some v) (h : Q v s) (hn : x ≠ "__name__" := by decide) (hk : env.scope.kind = .function := by rfl) (hx : env.kindOf x = some .globalImplicit := by rfl) (hg : env.globals = mainGlobals := by rfl) (hgb : env.builtins = builtinsNs := by rfl) (hd : (x == ("__debug__" : Str)) = false := by rfl) :
    wpAny M A (eval (.Name x pos) env) Q E s :=
  Name_function_global hk hx (loadGlobal_builtin (by rw [hg]; exact S.g.keeps kp) hv (by rw [hgb]; exact S.b.keeps kp) ((S.bi x hn).trans hb) h) hd
theorem w_ns {L : Addr} (n : s.heap.Ns L m) (hL : env.locals = L) (hv : m x = some v) (h : Q v s) (hk : env.scope.kind = .function := by rfl) (hx : env.kindOf x = some .local := by rfl) (hd : (x == ("__debug__" : Str)) = false := by rfl) :
    wpAny M A (eval (.Name x pos) env) Q E s := wpAny_Name (wpAny_loadName_local hk hx (by rw [hL]; exact n) hv h) hd
theorem w_truthyB {b : Bool} {Q : Bool → Shared → Prop} (h : Q b s) : wpAny M A (truthy (.bool b)) Q E s := wpAny_of_eq (a := b) (by rfl) h
end


def stm (i : Nat) : Stmt := PySem.Challenge.pw_kl0054_02.main.body.getD i (.Pass default)
abbrev FnI (G : Heap) (i : Nat) (f : Addr) : Prop := FnAt G f (fdName (stm i)) (fdName (stm i)) (fdParams (stm i)) (fdBody (stm i)) (fdScope (stm i)) []

section
variable {prog : Program} {w : World} {A : Around} {E : Value → Shared → Prop} {s : Shared} {fs : List Env} {G : Heap} {ow : List (Addr × Obj)} {mg mb : Str → Option Value} {Q : Value → Shared → Prop}
theorem mapstar_spec {τ : Type} {Sx : Heap → Prop} {fa ta : Addr} {f : Value} {ls : List Addr} {d u : Nat} {V : Heap → τ → List (Addr × Obj) → Prop} {len : τ → Addr → Nat} {turn : τ → Nat → PyData → τ → Prop} {fail : τ → Nat → Int → τ → Prop} {a b : τ} {xs : List PyData} {r : Option Int}
    (hS : ∀ G G', Sx G → G.StaysIn G' → Sx G') (F : FnI G 1 fa) (S : Sta mg mb G) (n1 : mg "list" = none) (n2 : mg "map" = none) (hA : Ar A fs (d + 1) (u + 10)) (ht : TupG G ta (f :: ls.map Value.ref)) (hne : ls ≠ []) (hle : ls.length ≤ 3)
    (Y : ∀ fs, MapUser prog w fs Sx d u f ls V len turn fail) (run : Run (MStep ls len turn) (MFail ls len fail) (some 0, a) xs r (none, b)) (hz : xs.length ≤ 100000)
    (hSG : Sx G) (hV : V G a ow) (hVm : ∀ G G' a ow, V G a ow → G.StaysIn G' → V G' a ow) (W : Wd fs G ow s.heap)
    (h : ∀ L G' h' tk vs ow', r = none → V G' b ow' → Lf fs G s.heap G' ow' h' → Sx G' → G'.IsList L vs → Rds G' vs.toList xs → Q (.ref L) { s with heap := h', toks := tk })
    (hE : ∀ k e t G' h' tk ow', r = some k → V G' b ow' → Lf fs G s.heap G' ow' h' → Sx G' → Fly fs G' ow' e (.type "ValueError") [.int k t] h' → E (.ref e) { s with heap := h', toks := tk }) :
    wpAny (model prog w) A (call (.ref fa) [.ref ta]) Q E s := by
  refine call_fn (binds := [(Str.ofString "args", .ref ta)]) W (by have := hA.dp; omega) S.lim F (fun _ _ _ _ _ => rfl) rfl (fun L cdv h₁ hL hk AT => ?_) (by decide +kernel) rfl rfl rfl
  refine wpAny_execs_cons ?_
  refine wpAny_Return_some ?_
  refine w_call ?_
  refine w_builtin AT S n1 (by boot_by_name) ?_
  refine w_callType ?_
  refine wpAny_items_cons ?_
  refine w_call ?_
  refine w_builtin AT S n2 (by boot_by_name) ?_
  refine w_callTypeStar ?_
  refine w_local AT rfl ?_
  obtain ⟨o, n, ho, hc, hd⟩ := ht
  refine w_starTup (.inr rfl) (AT.keep _ _ ho) hc hd (by have hz9 : sizeLine = 16777216 := rfl; simp; omega) fun h₂ k₂ => ?_
  have A₂ := AT.keeps k₂
  obtain ⟨ys, hys⟩ := (Y (envX (fdName (stm 1)) (fdScope (stm 1)) L fa cdv [] :: fs)).lists (pre := []) hV hSG A₂.wd
  refine map_call (s := { s with heap := h₂, toks := _ }) hne hle A₂.wd (fun l hl => ⟨_, (hys l hl).1⟩) fun its G₃ h₃ T mo hI l₃ k₃ eT em => ?_
  have A₃ := A₂.back l₃
  refine wpAny_items_nil ?_
  have Y' := (Y (envX (fdName (stm 1)) (fdScope (stm 1)) L fa cdv [] :: fs)).and (P := fun G => G.get? mo = some (mapObj T f) ∧ G.get? T = some (tupObj ((its.map (·.1)).map Value.ref))) fun G G' p k => ⟨k _ _ p.1, k _ _ p.2⟩
  have K := map_steps (ids := its.map (·.1)) Y' (fun G hG => hG.2.1) (fun G hG => hG.2.2)
  have hSG₃ : Sx G₃ ∧ G₃.get? mo = some (mapObj T f) ∧ G₃.get? T = some (tupObj ((its.map (·.1)).map Value.ref)) := ⟨hS _ _ hSG l₃.gr, em, by rw [eT, List.map_map]; rfl⟩
  refine list_call (fun G G' p k => ⟨hS _ _ p.1 k, k _ _ p.2.1, k _ _ p.2.2⟩) K (map_iterIs em) run ((hA.deeper _).less (Nat.le_refl _) (by omega)) hSG₃ ⟨its, ow, rfl, hI, rfl, hVm _ _ _ _ hV l₃.gr⟩ (mu_mono hVm) A₃.wd hz ⟨_, em⟩ ?_ ?_
  · intro Lr G' h' tk vs ow' hr hV' l hS' hl hd'
    have l' := (A₃.back l).lf
    exact h Lr G' h' tk vs ow' hr hV' l' hS'.1 hl hd'
  · intro k e t G' h' tk ow' hr hV' l hS' hf
    have A₄ := A₃.back l
    unfold Out
    refine fly_leave (Around.frames_deeper hA.fr) rfl l.wd hf fun h'' hf' W' fk' => ?_
    exact hE k e t G' h'' tk ow' hr hV' ⟨A₄.lf.gr, W', A₄.lf.fk.trans fk'⟩ hS'.1 hf'
end


section
variable {prog : Program} {w : World} {A : Around} {E : Value → Shared → Prop} {s : Shared} {fs : List Env} {G : Heap} {ow : List (Addr × Obj)} {mg mb : Str → Option Value} {Q : Value → Shared → Prop}

def flatD : List PyData → List PyData
  | [] => []
  | .list ds :: r => ds ++ flatD r
  | _ :: r => flatD r
def isL : PyData → Bool
  | .list _ => true
  | _ => false
theorem flatD_append (a b : List PyData) : flatD (a ++ b) = flatD a ++ flatD b := by
  induction a with
  | nil => rfl
  | cons x a ih => cases x <;> simp [flatD, ih]

theorem All2.get {α β : Type} {R : α → β → Prop} {l : List α} {r : List β} (h : All2 R l r) {k : Nat} {a : α} (e : l[k]? = some a) : ∃ b, r[k]? = some b ∧ R a b := by
  induction h generalizing k with
  | nil => simp at e
  | cons x _ ih =>
    cases k with
    | zero => simp at e; subst e; exact ⟨_, rfl, x⟩
    | succ k => simp at e; obtain ⟨b, h1, h2⟩ := ih e; exact ⟨b, by simpa using h1, h2⟩

theorem join_spec {fa : Addr} {pv : Value} {ps : List PyData} (F : FnI G 10 fa) (S : Sta mg mb G) (hA : Ar A fs 1 10) (W : Wd fs G ow s.heap) (hp : Rd G pv (.list ps)) (hL : ∀ p ∈ ps, isL p = true)
    (hz : (flatD ps).length ≤ 100000)
    (h : ∀ l G' h' tk, Lf fs G s.heap G' ow h' → Rd G' (.ref l) (.list (flatD ps)) → Q (.ref l) { s with heap := h', toks := tk }) :
    wpAny (model prog w) A (call (.ref fa) [pv]) Q E s := by
  obtain ⟨pa, vs, rfl, hl, hr⟩ := hp.list_inv
  refine call_fn (binds := [(Str.ofString "parts", .ref pa)]) W (by have := hA.dp; omega) S.lim F (fun _ _ _ _ _ => rfl) rfl (fun L cdv h₁ hL₁ hk AT => ?_) (by decide +kernel) rfl rfl rfl
  refine wpAny_execs_cons ?_
  refine wpAny_Assign_Name ?_
  refine w_List ?_
  refine wpAny_items_nil ?_
  refine w_newList AT (by simp) fun j G₂ h₂ le₂ A₂ hj => ?_
  refine w_store A₂ fun h₃ A₃ => ?_
  refine wpAny_execs_cons ?_
  refine w_for (A := A.deeper _) hA.hd (fun k G ow' m => ow' = ow ∧ ∃ (a : Addr) (xs : Array Value), m (Str.ofString "joined") = some (.ref a) ∧ G.IsList a xs ∧ Rds G xs.toList (flatD (ps.take k))) A₃ (isList_mono hl le₂) ⟨rfl, j, _, rfl, hj, Rds.nil⟩ ?_ ?_ ?_
  · rintro k u G₄ ow₄ m₄ I io s₄ Qb Eb ⟨rfl, a, xs, hm, ha, hd⟩ hu hl₄ A₄ hb
    have hu' : vs.toList[k]? = some u := by simpa using hu
    obtain ⟨d, hd1, hd2⟩ := (Rds.all2.mp hr).get hu'
    have hdl := hL d (List.mem_of_getElem? hd1)
    cases d with
    | list ds =>
      obtain ⟨b, ys, rfl, hb1, hb2⟩ := (hd2.mono A₄.gr).list_inv
      have et : flatD (ps.take (k + 1)) = flatD (ps.take k) ++ ds := by
        rw [List.take_add_one, hd1, flatD_append]
        simp [flatD]
      have hlen : (flatD (ps.take k)).length + ds.length ≤ 100000 := by
        have h1 : flatD ps = flatD (ps.take (k + 1)) ++ flatD (ps.drop (k + 1)) := by rw [← flatD_append, List.take_append_drop]
        rw [h1, et] at hz
        simp at hz
        omega
      refine wpAny_execs_cons ?_
      refine wpAny_Assign_Name ?_
      refine wpAny_BinOp ?_
      refine w_local A₄ (upd_ne hm) ?_
      refine w_local A₄ (upd_self _ _ _) ?_
      refine w_addLists A₄ (isList_mono ha A₄.keep) (isList_mono hb1 A₄.keep) (by have := hd.length; have := hb2.length; simp at *; omega) fun l G₅ h₅ le₅ A₅ hl₅ => ?_
      refine w_store A₅ fun h₆ A₆ => ?_
      refine wpAny_execs_nil ?_
      refine hb _ _ G₅ _ _ le₅ A₆ ⟨rfl, l, _, upd_self _ _ _, hl₅, ?_⟩
      rw [et, Array.toList_append]
      exact (hd.mono le₅).append (hb2.mono le₅)
    | _ => cases hdl
  · rintro h' tk G' ow' m' A' ⟨rfl, a, xs, hm, ha, hd⟩
    have hlen : vs.size = ps.length := by have := hr.length; simpa using this
    rw [hlen, List.take_length] at hd
    refine wpAny_execs_cons ?_
    refine wpAny_Return_some ?_
    refine w_local (s := { s with heap := h', toks := tk }) A' hm ?_
    exact h a G' h' tk A'.lf (Rd.list ha hd)
  · intro Q' hQ
    refine w_local A₃ rfl hQ
end


def Calls1 (prog : Program) (w : World) (S : Heap → Prop) (f : Value) (d u : Nat) (x y : PyData) : Prop :=
  ∀ (A : Around) (fs : List Env) (G : Heap) (ow : List (Addr × Obj)) (s : Shared) (v : Value) (Q E : Value → Shared → Prop), Ar A fs d u → S G → Wd fs G ow s.heap → Rd G v x →
    (∀ r G' h' tk, Lf fs G s.heap G' ow h' → S G' → Rd G' r y → Q r { s with heap := h', toks := tk }) → wpAny (model prog w) A (call f [v]) Q E s
theorem Calls1.less {prog : Program} {w : World} {S : Heap → Prop} {f : Value} {d u d' u' : Nat} {x y : PyData} (c : Calls1 prog w S f d u x y) (h1 : d ≤ d') (h2 : u ≤ u') : Calls1 prog w S f d' u' x y :=
  fun A fs G ow s v Q E hA => c A fs G ow s v Q E (hA.less h1 h2)

section
variable {prog : Program} {w : World} {A : Around} {E : Value → Shared → Prop} {s : Shared} {fs : List Env} {G : Heap} {ow : List (Addr × Obj)} {mg mb : Str → Option Value} {Q : Value → Shared → Prop}

theorem pure_user {Sx : Heap → Prop} {f : Value} {l : Addr} {vs : Array Value} {ds ys : List PyData} {d u : Nat} {ow₀ : List (Addr × Obj)}
    (hc : All2 (Calls1 prog w Sx f d u) ds ys) (fs : List Env) :
    MapUser (τ := Unit) prog w fs (fun G => Sx G ∧ (G.IsList l vs ∧ Rds G vs.toList ds)) d u f [l] (fun _ _ ow => ow = ow₀) (fun _ _ => ds.length) (fun _ t y _ => ys[t]? = some y) (fun _ _ _ _ => False) where
  lists := by
    intro a ow G h pre hV hS W
    refine ⟨fun _ => vs, fun l' hl' => ?_⟩
    rw [List.mem_singleton.mp hl']
    exact ⟨isList_mono hS.2.1 W.keep, by simpa using hS.2.2.length⟩
  turn := by
    rintro a t y b hy' A G pre ow s xs v Q E hA hS rfl W h1 h2 h
    have e1 := h1 l (.head _)
    have e2 := h2 l (.head _)
    have e3 := isList_mono hS.2.1 W.keep
    have exs : xs l = vs := by
      obtain ⟨o, ho, _, n, hd⟩ := e1
      obtain ⟨o', ho', _, n', hd'⟩ := e3
      rw [ho] at ho'; cases ho'
      rw [hd] at hd'; cases hd'; rfl
    rw [exs] at e2
    obtain ⟨x', hx', hr⟩ := (Rds.all2.mp hS.2.2).get (k := t) (a := v l) (by simpa using e2)
    obtain ⟨y', hy1, hcc⟩ := hc.get hx'
    rw [hy'] at hy1; cases hy1
    refine hcc A fs G (pre ++ ow) s (v l) Q E hA hS.1 W hr fun r G' h' tk l' S' hy => ?_
    exact h r G' h' tk ow rfl l' ⟨S', isList_mono hS.2.1 l'.gr, hS.2.2.mono l'.gr⟩ hy
  fail := by
    intro a t k b hf
    exact hf.elim

theorem pure_run {l : Addr} {ds ys : List PyData} (hlen : ds.length = ys.length) : ∀ (n t : Nat), t + n = ds.length →
    Run (MStep (τ := Unit) [l] (fun _ _ => ds.length) (fun _ t y _ => ys[t]? = some y)) (MFail [l] (fun _ _ => ds.length) (fun _ _ _ _ => False)) (some t, ()) (ys.drop t) none (none, ())
  | 0, t, h => by
    have e : ys.drop t = [] := List.drop_eq_nil_of_le (by omega)
    rw [e]
    exact .stop (.stop ⟨l, .head _, by omega⟩)
  | n + 1, t, h => by
    have ht : t < ds.length := by omega
    have ht' : t < ys.length := by omega
    have e : ys.drop t = ys[t] :: ys.drop (t + 1) := List.drop_eq_getElem_cons ht'
    rw [e]
    refine .turn (.turn (fun _ _ => ht) (List.getElem?_eq_getElem ht')) (pure_run hlen n (t + 1) (by omega))

theorem mapstar_pure {Sx : Heap → Prop} {fa ta l : Addr} {f : Value} {d u : Nat} {ds ys : List PyData} (hS : ∀ G G', Sx G → G.StaysIn G' → Sx G')
    (F : FnI G 1 fa) (S : Sta mg mb G) (n1 : mg "list" = none) (n2 : mg "map" = none) (hA : Ar A fs (d + 1) (u + 10)) (ht : TupG G ta [f, .ref l]) (hl : Rd G (.ref l) (.list ds))
    (hc : All2 (Calls1 prog w Sx f d u) ds ys) (hz : ds.length ≤ 100000) (hSG : Sx G) (W : Wd fs G ow s.heap)
    (h : ∀ L G' h' tk, Lf fs G s.heap G' ow h' → Sx G' → Rd G' (.ref L) (.list ys) → Q (.ref L) { s with heap := h', toks := tk }) :
    wpAny (model prog w) A (call (.ref fa) [.ref ta]) Q E s := by
  obtain ⟨l', vs, e, hl', hr⟩ := hl.list_inv
  cases e
  refine mapstar_spec (τ := Unit) (ls := [l]) (a := ()) (b := ()) (xs := ys) (r := none) (V := fun _ _ ow' => ow' = ow) (Sx := fun G => Sx G ∧ (G.IsList l vs ∧ Rds G vs.toList ds))
    (fun G G' p k => ⟨hS _ _ p.1 k, isList_mono p.2.1 k, p.2.2.mono k⟩) F S n1 n2 hA ht (by simp) (by simp) (fun fs => pure_user hc fs) (by simpa using pure_run hc.length ds.length 0 (by omega)) (by have := hc.length; omega) ⟨hSG, hl', hr⟩ rfl (fun _ _ _ _ h _ => h) W ?_ ?_
  · rintro L G' h' tk vs' ow' _ rfl l' S' hL hd
    exact h L G' h' tk l' S'.1 (Rd.list hL hd)
  · intro k e t G' h' tk ow' hr
    cases hr
end


inductive T where
  | node (l : Int) (ks : List T)
mutual
def nd : T → Nat
  | .node _ ks => nds ks + 1
def nds : List T → Nat
  | [] => 0
  | k :: r => nd k + nds r
end
mutual
def enc : T → PyData
  | .node l ks => .tuple [.int l, .list (encs ks)]
def encs : List T → List PyData
  | [] => []
  | k :: r => enc k :: encs r
end
def rowD (l : Int) (n : Nat) : PyData := .tuple [.int l, .int n]
mutual
def wr : T → List PyData
  | .node l ks => wrs ks ++ [rowD l ks.length]
def wrs : List T → List PyData
  | [] => []
  | k :: r => wr k ++ wrs r
end
mutual
def ft : T → List PyData
  | .node l ks => rowD l ks.length :: fts ks
def fts : List T → List PyData
  | [] => []
  | k :: r => ft k ++ fts r
end
mutual
def tn : T → T
  | .node l ks => .node l (tns ks)
def tns : List T → List T
  | [] => []
  | k :: r => tns r ++ [tn k]
end
theorem encs_eq : ∀ ks, encs ks = ks.map enc
  | [] => by rw [encs]; rfl
  | k :: r => by rw [encs, List.map_cons, encs_eq r]
theorem wrs_eq : ∀ ks, wrs ks = (ks.map wr).flatten
  | [] => by rw [wrs]; rfl
  | k :: r => by rw [wrs, List.map_cons, List.flatten_cons, wrs_eq r]
theorem fts_eq : ∀ ks, fts ks = (ks.map ft).flatten
  | [] => by rw [fts]; rfl
  | k :: r => by rw [fts, List.map_cons, List.flatten_cons, fts_eq r]
theorem tns_eq : ∀ ks, tns ks = ks.reverse.map tn
  | [] => by rw [tns]; rfl
  | k :: r => by rw [tns, tns_eq r, List.reverse_cons, List.map_append]; rfl
mutual
theorem wr_len : ∀ t, (wr t).length = nd t
  | .node l ks => by rw [wr, nd, List.length_append, wrs_len ks]; rfl
theorem wrs_len : ∀ ks, (wrs ks).length = nds ks
  | [] => by rw [wrs, nds]; rfl
  | k :: r => by rw [wrs, nds, List.length_append, wr_len k, wrs_len r]
end
mutual
theorem ft_len : ∀ t, (ft t).length = nd t
  | .node l ks => by rw [ft, nd, List.length_cons, fts_len ks]
theorem fts_len : ∀ ks, (fts ks).length = nds ks
  | [] => by rw [fts, nds]; rfl
  | k :: r => by rw [fts, nds, List.length_append, ft_len k, fts_len r]
end
theorem nds_len : ∀ ks : List T, ks.length ≤ nds ks
  | [] => Nat.zero_le _
  | k :: r => by
    have := nds_len r
    have h : 1 ≤ nd k := by cases k; rw [nd]; omega
    rw [nds, List.length_cons]; omega
theorem nd_le_nds : ∀ {ks : List T} {k : T}, k ∈ ks → nd k ≤ nds ks
  | _ :: r, k, .head _ => by rw [nds]; omega
  | _ :: r, k, .tail _ m => by have := nd_le_nds m; rw [nds]; omega
theorem flatD_wr : ∀ ks : List T, flatD (ks.map fun k => .list (wr k)) = wrs ks
  | [] => by rw [wrs]; rfl
  | k :: r => by rw [wrs, List.map_cons, flatD, flatD_wr r]
theorem flatD_ft : ∀ ks : List T, flatD (ks.map fun k => .list (ft k)) = fts ks
  | [] => by rw [fts]; rfl
  | k :: r => by rw [fts, List.map_cons, flatD, flatD_ft r]

theorem All2.map2 {α β γ : Type} {R : β → γ → Prop} {f : α → β} {g : α → γ} : ∀ {l : List α}, (∀ x ∈ l, R (f x) (g x)) → All2 R (l.map f) (l.map g)
  | [], _ => .nil
  | x :: l, h => .cons (h x (.head _)) (All2.map2 fun y hy => h y (.tail _ hy))

/-- where the text's functions stand -/
structure Adr where
  f1 : Addr
  f5 : Addr
  f7 : Addr
  f8 : Addr
  f9 : Addr
  f10 : Addr
  f11 : Addr
  f12 : Addr
  f13 : Addr
  f14 : Addr
  f15 : Addr
structure Nms (mg : Str → Option Value) (a : Adr) : Prop where
  f1 : mg "mapstar" = some (.ref a.f1)
  f5 : mg "starmapstar" = some (.ref a.f5)
  f7 : mg "_law_draws" = some (.ref a.f7)
  f8 : mg "_law_rows" = some (.ref a.f8)
  f9 : mg "_law_read" = some (.ref a.f9)
  f10 : mg "_law_join" = some (.ref a.f10)
  f11 : mg "_law_write" = some (.ref a.f11)
  f12 : mg "_law_front" = some (.ref a.f12)
  f13 : mg "_law_turn" = some (.ref a.f13)
  f14 : mg "_law_stretch" = some (.ref a.f14)
  list : mg "list" = none
  map : mg "map" = none
  len : mg "len" = none
structure Fns (a : Adr) (G : Heap) : Prop where
  f1 : FnI G 1 a.f1
  f10 : FnI G 10 a.f10
  f11 : FnI G 11 a.f11
  f12 : FnI G 12 a.f12
  f13 : FnI G 13 a.f13
  f14 : FnI G 14 a.f14
theorem Fns.mono {a : Adr} {G G' : Heap} (F : Fns a G) (k : G.StaysIn G') : Fns a G' := ⟨F.f1.mono k, F.f10.mono k, F.f11.mono k, F.f12.mono k, F.f13.mono k, F.f14.mono k⟩
def SF (mg mb : Str → Option Value) (a : Adr) (G : Heap) : Prop := Sta mg mb G ∧ Fns a G
theorem SF.mono {mg mb : Str → Option Value} {a : Adr} : ∀ G G', SF mg mb a G → G.StaysIn G' → SF mg mb a G' := fun _ _ h k => ⟨h.1.mono k, h.2.mono k⟩

section
variable {prog : Program} {w : World} {mg mb : Str → Option Value} {a : Adr}

theorem enc_tup {G : Heap} {v : Value} {l : Int} {ks : List T} (h : Rd G v (enc (.node l ks))) : ∃ ta t kl, v = .ref ta ∧ TupG G ta [.int l t, .ref kl] ∧ Rd G (.ref kl) (.list (ks.map enc)) := by
  rw [enc, encs_eq] at h
  obtain ⟨ta, o, vs, n, rfl, ho, hc, hd, r⟩ := h.tuple_inv
  have r' := Rds.all2.mp r
  obtain ⟨l⟩ := vs
  match l, r' with
  | [v1, v2], .cons x (.cons y .nil) =>
    obtain ⟨t, rfl⟩ := x.int_inv
    obtain ⟨kl, _, rfl, _, _⟩ := y.list_inv
    exact ⟨ta, t, kl, rfl, ⟨o, n, ho, hc, hd⟩, y⟩

theorem write_spec (N : Nms mg a) : ∀ (n : Nat) (t : T), nd t ≤ n → nd t ≤ 1000 → Calls1 prog w (SF mg mb a) (.ref a.f11) (2 * nd t + 3) (20 * nd t + 40) (enc t) (.list (wr t)) := by
  intro n
  induction n with
  | zero => intro t h; exfalso; cases t; rw [nd] at h; omega
  | succ n ih =>
    rintro ⟨l, ks⟩ hn hz
    rw [nd] at hn hz
    intro A fs G ow s v Q E hA hSG W hv h
    obtain ⟨ta, tk, kl, rfl, hT, hK⟩ := enc_tup hv
    have hlen := nds_len ks
    refine call_fn (binds := [(Str.ofString "branch", .ref ta)]) W (by have := hA.dp; omega) hSG.1.lim hSG.2.f11 (fun _ _ _ _ _ => rfl) rfl (fun L cdv h₁ hL₁ hk AT => ?_) (by decide +kernel) rfl rfl rfl
    have hAd := hA.less (d' := 2 * nds ks + 5) (u' := 20 * nds ks + 60) (by rw [nd]; omega) (by rw [nd]; omega)
    have hA' := hAd.deeper (d := 2 * nds ks + 4) (u := 20 * nds ks + 57) (envX (fdName (stm 11)) (fdScope (stm 11)) L a.f11 cdv [])
    refine wpAny_execs_cons ?_
    refine Assign_Tuple ?_
    refine w_local AT rfl ?_
    refine w_unpack2 hA.hd AT hT fun h₂ A₂ => ?_
    refine wpAny_execs_cons ?_
    refine wpAny_Return_some ?_
    refine wpAny_BinOp ?_
    refine w_call ?_
    refine w_global A₂ hSG.1 N.f10 ?_
    refine w_callFn hSG.2.f10 ?_
    refine wpAny_items_cons ?_
    refine w_call ?_
    refine w_global A₂ hSG.1 N.f1 ?_
    refine w_callFn hSG.2.f1 ?_
    refine wpAny_items_cons ?_
    refine w_Tuple ?_
    refine wpAny_items_cons ?_
    refine w_global A₂ hSG.1 N.f11 ?_
    refine wpAny_items_cons ?_
    refine w_local A₂ (upd_self _ _ _) ?_
    refine wpAny_items_nil ?_
    refine w_newTuple A₂ (by simp) fun ta₃ G₃ h₃ le₃ A₃ e₃ => ?_
    have S₃ := SF.mono _ _ hSG le₃
    refine wpAny_items_nil ⟨stays_trans le₃ A₃.keep, ?_⟩
    refine mapstar_pure (ys := ks.map fun k => .list (wr k)) SF.mono S₃.2.f1 S₃.1 N.list N.map (d := 2 * nds ks + 3) (u := 20 * nds ks + 40) (hA'.less (by omega) (by omega)) (TupG.of e₃) (hK.mono le₃) ?_ ?_ S₃ A₃.wd ?_
    · exact All2.map2 fun k hk => (ih k (by have := nd_le_nds hk; omega) (by have := nd_le_nds hk; omega)).less (by have := nd_le_nds hk; omega) (by have := nd_le_nds hk; omega)
    · simp; omega
    · intro l4 G₄ h₄ tk₄ L₄ S₄ r₄
      have A₄ := A₃.back L₄
      refine wpAny_items_nil ⟨stays_trans (stays_trans le₃ L₄.gr) A₄.keep, ?_⟩
      refine join_spec (s := { s with heap := h₄, toks := tk₄ }) S₄.2.f10 S₄.1 (hA'.less (by omega) (by omega)) A₄.wd r₄ (fun p hp => ?_) (by rw [flatD_wr, wrs_len]; omega) fun l5 G₅ h₅ tk₅ L₅ r₅ => ?_
      · obtain ⟨k, _, rfl⟩ := List.mem_map.mp hp
        rfl
      have A₅ := A₄.back L₅
      have S₅ := SF.mono _ _ S₄ L₅.gr
      have le5 := stays_trans (stays_trans le₃ L₄.gr) L₅.gr
      rw [flatD_wr] at r₅
      obtain ⟨_, zs, e5, hz5, rz5⟩ := r₅.list_inv
      cases e5
      refine w_List ?_
      refine wpAny_items_cons ?_
      refine w_Tuple ?_
      refine wpAny_items_cons ?_
      refine w_local (s := { s with heap := h₅, toks := tk₅ }) A₅ (upd_ne (upd_self _ _ _)) ?_
      refine wpAny_items_cons ?_
      refine w_call ?_
      refine w_builtin (s := { s with heap := h₅, toks := tk₅ }) A₅ S₅.1 N.len (by boot_by_name) ?_
      refine w_callBuiltin ?_
      refine wpAny_items_cons ?_
      refine w_local (s := { s with heap := h₅, toks := tk₅ }) A₅ (upd_self _ _ _) ?_
      refine wpAny_items_nil ?_
      obtain ⟨_, ys, ek, hk1, hk2⟩ := (hK.mono le5).list_inv
      cases ek
      have hkl : ys.size = ks.length := by have := hk2.length; simpa using this
      have hzl : zs.size = nds ks := by have := rz5.length; rw [wrs_len] at this; simpa using this
      refine w_len (s := { s with heap := h₅, toks := tk₅ }) (isList_mono hk1 A₅.keep) (by omega) ?_
      refine wpAny_items_nil ?_
      refine w_newTuple (s := { s with heap := h₅, toks := tk₅ + 1 + 1 }) A₅ (by simp) fun ta₆ G₆ h₆ le₆ A₆ e₆ => ?_
      refine wpAny_items_nil ?_
      refine w_newList (s := { s with heap := h₆, toks := tk₅ + 1 + 1 }) A₆ (by simp) fun l₇ G₇ h₇ le₇ A₇ e₇ => ?_
      have g57 := stays_trans le₆ le₇
      refine w_addLists (s := { s with heap := h₇, toks := tk₅ + 1 + 1 }) A₇ (isList_mono (isList_mono hz5 g57) A₇.keep) (isList_mono e₇ A₇.keep) (by simp; omega) fun l₈ G₈ h₈ le₈ A₈ e₈ => ?_
      have g58 := stays_trans g57 le₈
      refine h (.ref l₈) G₈ h₈ _ A₈.lf (SF.mono _ _ S₅ g58) (Rd.list e₈ ?_)
      rw [wr, Array.toList_append]
      refine (rz5.mono g58).append ?_
      refine Rds.cons (Rd.tup ((stays_trans le₇ le₈) _ _ e₆) (Rds.cons (Rd.int _ _) (Rds.cons ?_ Rds.nil))) Rds.nil
      rw [hkl]
      exact Rd.int _ _
end

section
variable {prog : Program} {w : World} {mg mb : Str → Option Value} {a : Adr}

theorem front_spec (N : Nms mg a) : ∀ (n : Nat) (t : T), nd t ≤ n → nd t ≤ 1000 → Calls1 prog w (SF mg mb a) (.ref a.f12) (2 * nd t + 3) (20 * nd t + 40) (enc t) (.list (ft t)) := by
  intro n
  induction n with
  | zero => intro t h; exfalso; cases t; rw [nd] at h; omega
  | succ n ih =>
    rintro ⟨l, ks⟩ hn hz
    rw [nd] at hn hz
    intro A fs G ow s v Q E hA hSG W hv h
    obtain ⟨ta, tk, kl, rfl, hT, hK⟩ := enc_tup hv
    have hlen := nds_len ks
    refine call_fn (binds := [(Str.ofString "branch", .ref ta)]) W (by have := hA.dp; omega) hSG.1.lim hSG.2.f12 (fun _ _ _ _ _ => rfl) rfl (fun L cdv h₁ hL₁ hk AT => ?_) (by decide +kernel) rfl rfl rfl
    have hAd := hA.less (d' := 2 * nds ks + 5) (u' := 20 * nds ks + 60) (by rw [nd]; omega) (by rw [nd]; omega)
    have hA' := hAd.deeper (d := 2 * nds ks + 4) (u := 20 * nds ks + 57) (envX (fdName (stm 12)) (fdScope (stm 12)) L a.f12 cdv [])
    refine wpAny_execs_cons ?_
    refine Assign_Tuple ?_
    refine w_local AT rfl ?_
    refine w_unpack2 hA.hd AT hT fun h₂ A₂ => ?_
    refine wpAny_execs_cons ?_
    refine wpAny_Return_some ?_
    refine wpAny_BinOp ?_
    obtain ⟨_, ys, ek, hk1, hk2⟩ := hK.list_inv
    cases ek
    have hkl : ys.size = ks.length := by have := hk2.length; simpa using this
    refine w_List ?_
    refine wpAny_items_cons ?_
    refine w_Tuple ?_
    refine wpAny_items_cons ?_
    refine w_local (s := { s with heap := h₂, toks := _ }) A₂ (upd_ne (upd_self _ _ _)) ?_
    refine wpAny_items_cons ?_
    refine w_call ?_
    refine w_builtin (s := { s with heap := h₂, toks := _ }) A₂ hSG.1 N.len (by boot_by_name) ?_
    refine w_callBuiltin ?_
    refine wpAny_items_cons ?_
    refine w_local (s := { s with heap := h₂, toks := _ }) A₂ (upd_self _ _ _) ?_
    refine wpAny_items_nil ?_
    refine w_len (s := { s with heap := h₂, toks := _ }) (isList_mono hk1 A₂.keep) (by omega) ?_
    refine wpAny_items_nil ?_
    refine w_newTuple (s := { s with heap := h₂, toks := _ }) A₂ (by simp) fun ta₆ G₆ h₆ le₆ A₆ e₆ => ?_
    refine wpAny_items_nil ?_
    refine w_newList (s := { s with heap := h₆, toks := _ }) A₆ (by simp) fun l₇ G₇ h₇ le₇ A₇ e₇ => ?_
    have g7 := stays_trans le₆ le₇
    have S₇ := SF.mono _ _ hSG g7
    refine w_call ?_
    refine w_global (s := { s with heap := h₇, toks := _ }) A₇ S₇.1 N.f10 ?_
    refine w_callFn S₇.2.f10 ?_
    refine wpAny_items_cons ?_
    refine w_call ?_
    refine w_global (s := { s with heap := h₇, toks := _ }) A₇ S₇.1 N.f1 ?_
    refine w_callFn S₇.2.f1 ?_
    refine wpAny_items_cons ?_
    refine w_Tuple ?_
    refine wpAny_items_cons ?_
    refine w_global (s := { s with heap := h₇, toks := _ }) A₇ S₇.1 N.f12 ?_
    refine wpAny_items_cons ?_
    refine w_local (s := { s with heap := h₇, toks := _ }) A₇ (upd_self _ _ _) ?_
    refine wpAny_items_nil ?_
    refine w_newTuple (s := { s with heap := h₇, toks := _ }) A₇ (by simp) fun ta₃ G₃ h₃ le₃ A₃ e₃ => ?_
    have S₃ := SF.mono _ _ S₇ le₃
    have g3 := stays_trans g7 le₃
    refine wpAny_items_nil ⟨stays_trans le₃ A₃.keep, ?_⟩
    refine mapstar_pure (s := { s with heap := h₃, toks := _ }) (ys := ks.map fun k => .list (ft k)) SF.mono S₃.2.f1 S₃.1 N.list N.map (d := 2 * nds ks + 3) (u := 20 * nds ks + 40) (hA'.less (by omega) (by omega)) (TupG.of e₃) (hK.mono g3) ?_ ?_ S₃ A₃.wd ?_
    · exact All2.map2 fun k hk => (ih k (by have := nd_le_nds hk; omega) (by have := nd_le_nds hk; omega)).less (by have := nd_le_nds hk; omega) (by have := nd_le_nds hk; omega)
    · simp; omega
    · intro l4 G₄ h₄ tk₄ L₄ S₄ r₄
      have A₄ := A₃.back L₄
      refine wpAny_items_nil ⟨stays_trans (stays_trans le₃ L₄.gr) A₄.keep, ?_⟩
      refine join_spec (s := { s with heap := h₄, toks := tk₄ }) S₄.2.f10 S₄.1 (hA'.less (by omega) (by omega)) A₄.wd r₄ (fun p hp => ?_) (by rw [flatD_ft, fts_len]; omega) fun l5 G₅ h₅ tk₅ L₅ r₅ => ?_
      · obtain ⟨k, _, rfl⟩ := List.mem_map.mp hp
        rfl
      have A₅ := A₄.back L₅
      have S₅ := SF.mono _ _ S₄ L₅.gr
      rw [flatD_ft] at r₅
      obtain ⟨_, zs, e5, hz5, rz5⟩ := r₅.list_inv
      cases e5
      have hzl : zs.size = nds ks := by have := rz5.length; rw [fts_len] at this; simpa using this
      have g75 := stays_trans (stays_trans le₃ L₄.gr) L₅.gr
      refine w_addLists (s := { s with heap := h₅, toks := tk₅ }) A₅ (isList_mono (isList_mono e₇ g75) A₅.keep) (isList_mono hz5 A₅.keep) (by simp; omega) fun l₈ G₈ h₈ le₈ A₈ e₈ => ?_
      refine h (.ref l₈) G₈ h₈ _ A₈.lf (SF.mono _ _ S₅ le₈) (Rd.list e₈ ?_)
      rw [ft, Array.toList_append]
      refine Rds.append (ds := [rowD l ks.length]) ?_ (rz5.mono le₈)
      refine Rds.cons (Rd.tup ((stays_trans (stays_trans le₇ g75) le₈) _ _ e₆) (Rds.cons (Rd.int _ _) (Rds.cons ?_ Rds.nil))) Rds.nil
      rw [hkl]
      exact Rd.int _ _

theorem turn_spec (N : Nms mg a) : ∀ (n : Nat) (t : T), nd t ≤ n → nd t ≤ 1000 → Calls1 prog w (SF mg mb a) (.ref a.f13) (2 * nd t + 3) (20 * nd t + 40) (enc t) (enc (tn t)) := by
  intro n
  induction n with
  | zero => intro t h; exfalso; cases t; rw [nd] at h; omega
  | succ n ih =>
    rintro ⟨l, ks⟩ hn hz
    rw [nd] at hn hz
    intro A fs G ow s v Q E hA hSG W hv h
    obtain ⟨ta, tk, kl, rfl, hT, hK⟩ := enc_tup hv
    have hlen := nds_len ks
    refine call_fn (binds := [(Str.ofString "branch", .ref ta)]) W (by have := hA.dp; omega) hSG.1.lim hSG.2.f13 (fun _ _ _ _ _ => rfl) rfl (fun L cdv h₁ hL₁ hk AT => ?_) (by decide +kernel) rfl rfl rfl
    have hAd := hA.less (d' := 2 * nds ks + 5) (u' := 20 * nds ks + 60) (by rw [nd]; omega) (by rw [nd]; omega)
    have hA' := hAd.deeper (d := 2 * nds ks + 4) (u := 20 * nds ks + 57) (envX (fdName (stm 13)) (fdScope (stm 13)) L a.f13 cdv [])
    refine wpAny_execs_cons ?_
    refine Assign_Tuple ?_
    refine w_local AT rfl ?_
    refine w_unpack2 hA.hd AT hT fun h₂ A₂ => ?_
    refine wpAny_execs_cons ?_
    refine wpAny_Return_some ?_
    obtain ⟨_, ys, ek, hk1, hk2⟩ := hK.list_inv
    cases ek
    have hkl : ys.size = ks.length := by have := hk2.length; simpa using this
    refine w_Tuple ?_
    refine wpAny_items_cons ?_
    refine w_local (s := { s with heap := h₂, toks := _ }) A₂ (upd_ne (upd_self _ _ _)) ?_
    refine wpAny_items_cons ?_
    refine w_call ?_
    refine w_global (s := { s with heap := h₂, toks := _ }) A₂ hSG.1 N.f1 ?_
    refine w_callFn hSG.2.f1 ?_
    refine wpAny_items_cons ?_
    refine w_Tuple ?_
    refine wpAny_items_cons ?_
    refine w_global (s := { s with heap := h₂, toks := _ }) A₂ hSG.1 N.f13 ?_
    refine wpAny_items_cons ?_
    refine w_sliceRev (w_local (s := { s with heap := h₂, toks := _ }) A₂ (upd_self _ _ _) ⟨G, _, ow, rfl, isList_mono hk1 A₂.keep, A₂, fun l₃ G₃ h₃ tk₃ le₃ A₃ e₃ => ?_⟩) (by omega)
    refine wpAny_items_nil ?_
    refine w_newTuple (s := { s with heap := h₃, toks := tk₃ }) A₃ (by simp) fun ta₄ G₄ h₄ le₄ A₄ e₄ => ?_
    have g4 := stays_trans le₃ le₄
    have S₄ := SF.mono _ _ hSG g4
    refine wpAny_items_nil ⟨stays_trans g4 A₄.keep, ?_⟩
    have hrev : Rd G₄ (.ref l₃) (.list (ks.reverse.map enc)) := by
      refine Rd.list (isList_mono e₃ le₄) ?_
      have : Rds G ys.toList.reverse (ks.map enc).reverse := Rds.all2.mpr (All2.reverse (Rds.all2.mp hk2))
      rw [List.map_reverse]
      simpa using this.mono g4
    refine mapstar_pure (s := { s with heap := h₄, toks := tk₃ }) (ys := ks.reverse.map fun k => enc (tn k)) SF.mono S₄.2.f1 S₄.1 N.list N.map (d := 2 * nds ks + 3) (u := 20 * nds ks + 40) (hA'.less (by omega) (by omega)) (TupG.of e₄) hrev ?_ ?_ S₄ A₄.wd ?_
    · refine All2.map2 fun k hk => ?_
      have hk := List.mem_reverse.mp hk
      exact (ih k (by have := nd_le_nds hk; omega) (by have := nd_le_nds hk; omega)).less (by have := nd_le_nds hk; omega) (by have := nd_le_nds hk; omega)
    · simp; omega
    · intro l5 G₅ h₅ tk₅ L₅ S₅ r₅
      have A₅ := A₄.back L₅
      refine wpAny_items_nil ?_
      refine w_newTuple (s := { s with heap := h₅, toks := tk₅ }) A₅ (by simp) fun ta₆ G₆ h₆ le₆ A₆ e₆ => ?_
      refine h (.ref ta₆) G₆ h₆ _ A₆.lf (SF.mono _ _ S₅ le₆) ?_
      rw [tn, enc, encs_eq, tns_eq, List.map_map]
      exact Rd.tup e₆ (Rds.cons (Rd.int _ _) (Rds.cons (r₅.mono le₆) Rds.nil))
end


theorem row_tup {G : Heap} {v : Value} {l : Int} {n : Nat} (h : Rd G v (rowD l n)) : ∃ ta t1 t2, v = .ref ta ∧ TupG G ta [.int l t1, .int n t2] := by
  unfold rowD at h
  obtain ⟨ta, o, vs, k, rfl, ho, hc, hd, r⟩ := h.tuple_inv
  have r' := Rds.all2.mp r
  obtain ⟨vs⟩ := vs
  match vs, r' with
  | [v1, v2], .cons x (.cons y .nil) =>
    obtain ⟨t1, rfl⟩ := x.int_inv
    obtain ⟨t2, rfl⟩ := y.int_inv
    exact ⟨ta, t1, t2, rfl, ⟨o, k, ho, hc, hd⟩⟩

def rowsD (rws : List (Int × Nat)) : List PyData := rws.map fun r => rowD r.1 r.2
/-- how far back a need reaches, over the rows before, the nearest first -/
def back : List (Int × Nat) → Nat → Option Nat
  | _, 0 => some 0
  | [], _ + 1 => none
  | r :: rs, n + 1 => (back rs (n + r.2)).map (· + 1)
theorem back_le : ∀ (rs : List (Int × Nat)) (n c : Nat), back rs n = some c → c ≤ rs.length
  | _, 0, c, h => by unfold back at h; cases h; exact Nat.zero_le _
  | [], n + 1, c, h => by unfold back at h; cases h
  | r :: rs, n + 1, c, h => by
    unfold back at h
    cases q : back rs (n + r.2) with
    | none => rw [q] at h; cases h
    | some d => rw [q] at h; cases h; have := back_le rs _ _ q; simp; omega
def stretchOf (ds : List PyData) (e c : Nat) : List PyData := (ds.drop (e - c)).take (c + 1)

section
variable {prog : Program} {w : World} {A : Around} {E : Value → Shared → Prop} {s : Shared} {fs : List Env} {G : Heap} {ow : List (Addr × Obj)} {mg mb : Str → Option Value} {Q : Value → Shared → Prop}
theorem stretch_spec {fa ra : Addr} {rws : List (Int × Nat)} {e c k : Nat} {l : Int} {te : Tok} (F : FnI G 14 fa) (S : Sta mg mb G) (hA : Ar A fs 1 10) (W : Wd fs G ow s.heap) (hr : Rd G (.ref ra) (.list (rowsD rws)))
    (he : rws[e]? = some (l, k)) (hb : back (rws.take e).reverse k = some c) (hz : rws.length ≤ 1000)
    (h : ∀ r G' h' tk, Lf fs G s.heap G' ow h' → Rd G' (.ref r) (.list (stretchOf (rowsD rws) e c)) → Q (.ref r) { s with heap := h', toks := tk }) :
    wpAny (model prog w) A (call (.ref fa) [.ref ra, .int (e : Int) te]) Q E s := by
  obtain ⟨_, vs, e', hl, hd⟩ := hr.list_inv
  cases e'
  have hvl : vs.toList.length = rws.length := by have := hd.length; rw [this]; simp [rowsD]
  have hel : e < rws.length := (List.getElem?_eq_some_iff.mp he).1
  have row : ∀ (i : Nat) (r : Int × Nat), rws[i]? = some r → ∃ v ta t1 t2, vs.toList[i]? = some v ∧ v = .ref ta ∧ TupG G ta [.int r.1 t1, .int r.2 t2] := by
    intro i r hi
    have hlt : i < vs.toList.length := by rw [hvl]; exact (List.getElem?_eq_some_iff.mp hi).1
    obtain ⟨d, hd1, hd2⟩ := (Rds.all2.mp hd).get (List.getElem?_eq_getElem hlt)
    have : (rowsD rws)[i]? = some (rowD r.1 r.2) := by simp [rowsD, hi]
    rw [this] at hd1; cases hd1
    obtain ⟨ta, t1, t2, hv, ht⟩ := row_tup hd2
    exact ⟨_, ta, t1, t2, List.getElem?_eq_getElem hlt, hv, ht⟩
  have hll : ∀ {h : Heap}, G.StaysIn h → h.IsList ra vs.toList.toArray := fun k => by simpa using isList_mono hl k
  have kn : sizeLine = 16777216 := rfl
  refine call_fn (binds := [(Str.ofString "rows", .ref ra), (Str.ofString "end", .int (e : Int) te)]) W (by have := hA.dp; omega) S.lim F (fun _ _ _ _ _ => rfl) rfl (fun L cdv h₁ hL₁ hk AT => ?_) (by decide +kernel) rfl rfl rfl
  refine wpAny_execs_cons ?_
  refine wpAny_Assign_Name ?_
  refine w_local AT rfl ?_
  refine w_set AT fun h₂ _ A₂ => ?_
  refine wpAny_execs_cons ?_
  refine wpAny_Assign_Name ?_
  obtain ⟨v0, ta, t1, t2, hv0, rfl, ht0⟩ := row e _ he
  refine Subscript_ ?_
  refine Subscript_ ?_
  refine w_local (s := { s with heap := h₂, toks := _ }) A₂ rfl ?_
  refine w_local (s := { s with heap := h₂, toks := _ }) A₂ rfl ?_
  refine item_listL (s := { s with heap := h₂, toks := _ }) (hll A₂.keep) (by omega) (by omega) (by simpa using hv0) ?_
  refine w_int fun _ _ => ?_
  refine w_tup1 ht0 A₂.keep ⟨1, rfl, rfl⟩ (by decide) (by decide) ?_
  refine w_set (s := { s with heap := h₂, toks := _ }) A₂ fun h₃ _ A₃ => ?_
  refine wpAny_execs_cons ?_
  refine wpAny_While ?_
  refine codeAny_whileLoop (fun n s' => ∃ (h' : Heap) (tk : Tok) (G' : Heap) (m' : Str → Option Value) (nd c' : Nat) (ts tn : Tok), s' = { s with heap := h', toks := tk } ∧ At ⟨G, s.heap, fs⟩ G' ow _ m' h' ∧
    m' (Str.ofString "start") = some (.int (n : Int) ts) ∧ m' (Str.ofString "need") = some (.int (nd : Int) tn) ∧ m' (Str.ofString "rows") = some (.ref ra) ∧ m' (Str.ofString "end") = some (.int (e : Int) te) ∧ n ≤ e ∧ back (rws.take n).reverse nd = some c' ∧ n - c' = e - c) ?_ e
    ⟨h₃, _, G, _, k, c, te, t2, rfl, A₃, rfl, rfl, rfl, rfl, Nat.le_refl _, hb, rfl⟩
  rintro n s' ⟨h', tk, G', m', need, c', ts, tn, rfl, A', m1, m2, m3, m4, hne, hbk, hfin⟩
  refine wpAny_isTrue_value ?_
  refine w_local (s := { s with heap := h', toks := tk }) A' m2 ?_
  refine P.truthy_int ?_
  cases need with
  | zero =>
    show wpAny _ _ _ _ _ _
    refine wpAny_execs_nil ?_
    refine wpAny_execs_cons ?_
    refine wpAny_Return_some ?_
    unfold back at hbk
    cases hbk
    have hvs : vs.size = rws.length := by simpa using hvl
    refine w_sliceRun (s := { s with heap := h', toks := tk }) (X := ⟨G, s.heap, fs⟩) (a := ra) (xs := vs) ?_ (by omega)
    refine w_local (s := { s with heap := h', toks := tk }) A' m3 ?_
    refine w_local (s := { s with heap := h', toks := tk }) A' m1 ?_
    refine wpAny_BinOp ?_
    refine w_local (s := { s with heap := h', toks := tk }) A' m4 ?_
    refine w_int fun _ _ => ?_
    refine w_add fun _ _ => ?_
    refine ⟨n, e + 1, ts, _, G', m', ow, rfl, rfl, rfl, by omega, by omega, isList_mono (isList_mono hl A'.gr) A'.keep, A', fun l₅ G₅ h₅ le₅ A₅ e₅ => ?_⟩
    refine h l₅ G₅ h₅ _ A₅.lf (Rd.list e₅ ?_)
    have hc := back_le _ _ _ hb
    simp at hc
    have hh : n = e - c := by simpa using hfin
    have e1 : stretchOf (rowsD rws) e c = ((rowsD rws).drop n).take (e + 1 - n) := by
      unfold stretchOf
      rw [hh]
      congr 1
      omega
    rw [e1]
    have := Rds.all2.mp (hd.mono (stays_trans A'.gr le₅))
    exact Rds.all2.mpr (by simpa using All2.take (All2.drop this n) (e + 1 - n))
  | succ need =>
    show wpAny _ _ _ _ _ _
    cases n with
    | zero => simp [back] at hbk
    | succ n =>
      have hn : n < rws.length := by omega
      have et : (rws.take (n + 1)).reverse = rws[n] :: (rws.take n).reverse := by
        rw [List.take_add_one, List.getElem?_eq_getElem hn]
        simp
      rw [et] at hbk
      unfold back at hbk
      cases q : back (rws.take n).reverse (need + rws[n].2) with
      | none => rw [q] at hbk; cases hbk
      | some d =>
        rw [q] at hbk
        cases hbk
        have hfin' : n + 1 - (d + 1) = e - c := hfin
        obtain ⟨v1, ta1, t3, t4, hv1, rfl, ht1⟩ := row n _ (List.getElem?_eq_getElem hn)
        refine wpAny_execs_cons ?_
        refine wpAny_AugAssign_Name ?_
        refine wpAny_loadName_local rfl rfl A'.ns m1 ?_
        refine w_int fun _ _ => ?_
        refine w_isub fun _ _ => ?_
        have ei : ((n + 1 : Nat) : Int) - 1 = (n : Int) := by omega
        rw [ei]
        refine w_store (s := { s with heap := h', toks := _ }) A' fun h₆ A₆ => ?_
        refine wpAny_execs_cons ?_
        refine wpAny_AugAssign_Name ?_
        refine wpAny_loadName_local rfl rfl A₆.ns (upd_ne m2) ?_
        refine wpAny_BinOp ?_
        refine Subscript_ ?_
        refine Subscript_ ?_
        refine w_local (s := { s with heap := h₆, toks := _ }) A₆ (upd_ne m3) ?_
        refine w_local (s := { s with heap := h₆, toks := _ }) A₆ (upd_self _ _ _) ?_
        refine item_listL (s := { s with heap := h₆, toks := _ }) (hll (stays_trans A'.gr A₆.keep)) (by omega) (by omega) (by simpa using hv1) ?_
        refine w_int fun _ _ => ?_
        refine w_tup1 ht1 (stays_trans A'.gr A₆.keep) ⟨1, rfl, rfl⟩ (by decide) (by decide) ?_
        refine w_int fun _ _ => ?_
        refine w_sub fun _ _ => ?_
        refine w_iadd fun _ _ => ?_
        have ej : ((need + 1 : Nat) : Int) + (((rws[n].2 : Nat) : Int) - 1) = ((need + rws[n].2 : Nat) : Int) := by omega
        rw [ej]
        refine w_set (s := { s with heap := h₆, toks := _ }) A₆ fun h₇ _ A₇ => ?_
        refine wpAny_execs_nil ?_
        exact ⟨n, Nat.lt_succ_self _, h₇, _, G', _, need + rws[n].2, d, _, _, rfl, A₇, upd_ne (upd_self _ _ _), upd_self _ _ _, upd_ne (upd_ne m3), upd_ne (upd_ne m4), by omega, q, by omega⟩
end


def clsM (j : Nat) : Stmt := match stm 3 with
  | .ClassDef _ _ _ b .. => b.getD j (.Pass default)
  | _ => .Pass default
abbrev FnM (G : Heap) (j : Nat) (f : Addr) (qual : Str) : Prop := FnAt G f (fdName (clsM j)) qual (fdParams (clsM j)) (fdBody (clsM j)) (fdScope (clsM j)) []

/-- the starmap class: what its looks give -/
structure StarK (K : Frag) (C fI fT fN pI pF : Addr) : Prop where
  made : makesIn K C = true
  init : findIn K (.ref C) "__init__" = some (some (.ref fI))
  initF : typeIn K (.ref fI) = some (.type "function")
  iter : findIn K (.ref C) "__iter__" = some (some (.ref fT))
  iterF : typeIn K (.ref fT) = some (.type "function")
  next : findIn K (.ref C) "__next__" = some (some (.ref fN))
  nextF : typeIn K (.ref fN) = some (.type "function")
  len : findIn K (.ref C) "__len__" = some none
  hint : findIn K (.ref C) "__length_hint__" = some none
  setattr : findIn K (.ref C) "__setattr__" = some (some (.builtin "object.__setattr__"))
  plain : plainOver K C = true
  getp : plainGet K C "_it" = true
  cls : isClsIn K C = true
  keep : keepIn K (.ref C) = true
  itF : findIn K (.ref C) "_it" = some (some (.ref pI))
  itK : takerIn K C "_it" = some (some (.ref pI))
  itT : typeIn K (.ref pI) = some (.type "member_descriptor")
  itG : specialIn K (.ref pI) "__get__" = some (some (.builtin "member_descriptor.__get__"))
  itS : takesIn K (.ref pI) = some true
  itI : slotIn K pI C = some 1
  fnF : findIn K (.ref C) "_func" = some (some (.ref pF))
  fnK : takerIn K C "_func" = some (some (.ref pF))
  fnT : typeIn K (.ref pF) = some (.type "member_descriptor")
  fnG : specialIn K (.ref pF) "__get__" = some (some (.builtin "member_descriptor.__get__"))
  fnS : takesIn K (.ref pF) = some true
  fnI : slotIn K pF C = some 0


def starObj (C dx : Addr) (f : Value) (I : Addr) : Obj := { cls := .ref C, dict := some dx, data := .plain, slots := #[some f, some (.ref I)] }
def SI (G : Heap) (x dx C : Addr) (f : Value) (I : Addr) : Prop := G.get? x = some (starObj C dx f I) ∧ G.get? dx = some emptyDict
theorem SI.mono {G G' : Heap} {x dx C I : Addr} {f : Value} (h : SI G x dx C f I) (k : G.StaysIn G') : SI G' x dx C f I := ⟨k _ _ h.1, k _ _ h.2⟩
theorem SI.inst {G h : Heap} {x dx C I : Addr} {f : Value} (y : SI G x dx C f I) (k : G.StaysIn h) : InstAt h x (starObj C dx f I) C (some emptyDict) := ⟨k _ _ y.1, rfl, rfl, k _ _ y.2⟩

section
variable {τ : Type} {prog : Program} {w : World} {S : Heap → Prop} {d u : Nat}
/-- the user's side of a starmap over one list of tuples -/
structure StarUser (prog : Program) (w : World) (fs : List Env) (S : Heap → Prop) (d u : Nat) (f : Value) (l : Addr) (V : Heap → τ → List (Addr × Obj) → Prop) (len : τ → Nat) (turn : τ → Nat → PyData → τ → Prop) : Prop where
  list : ∀ {a ow G h pre}, V G a ow → S G → Wd fs G (pre ++ ow) h → ∃ xs : Array Value, h.IsList l xs ∧ xs.size = len a ∧ xs.size ≤ 100000 ∧ ∀ (t : Nat) (v : Value), xs[t]? = some v → ∃ ta vs, v = .ref ta ∧ TupG h ta vs ∧ vs.length ≤ 1000
  keeper : ∀ {G h}, S G → G.StaysIn h → ∃ k, (k = Keeper.frame ∨ k = Keeper.machine ∨ k = Keeper.boundFrame) ∧ Looks (model prog w) h (keeperOf f) k
  handed : handedIn f = true
  turn : ∀ {a t y b}, turn a t y b → ∀ (A : Around) (G : Heap) (pre ow : List (Addr × Obj)) (s : Shared) (xs : Array Value) (ta : Addr) (vs : List Value) (Q E : Value → Shared → Prop), Ar A fs d u → S G → V G a ow → Wd fs G (pre ++ ow) s.heap →
    s.heap.IsList l xs → xs[t]? = some (.ref ta) → TupG s.heap ta vs →
    (∀ r G' h' tk ow', V G' b ow' → Lf fs G s.heap G' (pre ++ ow') h' → S G' → Rd G' r y → Q r { s with heap := h', toks := tk }) → wpAny (model prog w) A (call f vs) Q E s

inductive SStep (len : τ → Nat) (turn : τ → Nat → PyData → τ → Prop) : Option Nat × τ → Option PyData → Option Nat × τ → Prop
  | stop {t a} : len a ≤ t → SStep len turn (some t, a) none (none, a)
  | turn {t a y b} : t < len a → turn a t y b → SStep len turn (some t, a) (some y) (some (t + 1), b)
def SU (I l : Addr) (V : Heap → τ → List (Addr × Obj) → Prop) : Heap → Option Nat × τ → List (Addr × Obj) → Prop
  | G, (none, a), ow => V G a ow
  | G, (some t, a), ow => ∃ io ow₂, ow = (I, io) :: ow₂ ∧ IsIt io l t ∧ V G a ow₂
theorem su_mono {I l : Addr} {V : Heap → τ → List (Addr × Obj) → Prop} (hV : ∀ G G' a ow, V G a ow → G.StaysIn G' → V G' a ow) : ∀ G G' a ow, SU I l V G a ow → G.StaysIn G' → SU I l V G' a ow
  | _, _, (none, _), _, h, k => hV _ _ _ _ h k
  | _, _, (some _, _), _, ⟨io, ow₂, a, b, d⟩, k => ⟨io, ow₂, a, b, hV _ _ _ _ d k⟩

/-- what the starmap walk leans on, frozen -/
structure StarS (K : Frag) (mg mb : Str → Option Value) (C fI fT fN x dx : Addr) (f : Value) (I : Addr) (S : Heap → Prop) (G : Heap) : Prop where
  s : S G
  st : Sta mg mb G
  k : K.In G
  i : SI G x dx C f I
  n : FnM G 3 fN (Str.ofString "starmap.__next__")
  t : FnM G 2 fT (Str.ofString "starmap.__iter__")
theorem StarS.mono {K : Frag} {mg mb : Str → Option Value} {C fI fT fN x dx I : Addr} {f : Value} (hS : ∀ G G', S G → G.StaysIn G' → S G') : ∀ G G', StarS K mg mb C fI fT fN x dx f I S G → G.StaysIn G' → StarS K mg mb C fI fT fN x dx f I S G' :=
  fun _ _ h k => ⟨hS _ _ h.s k, h.st.mono k, h.k.keeps k, h.i.mono k, h.n.mono k, h.t.mono k⟩

theorem sub_stop_stop : isSubtype (.type "StopIteration") (.type "StopIteration") = pure true := isSubtype_stop

theorem star_steps {K : Frag} {mg mb : Str → Option Value} {C fI fT fN pI pF x dx I l : Addr} {f : Value} {V : Heap → τ → List (Addr × Obj) → Prop} {len : τ → Nat} {turn : τ → Nat → PyData → τ → Prop} {fs : List Env}
    (KX : StarK K C fI fT fN pI pF) (n1 : mg "next" = none) (n2 : mg "type" = none) (n3 : mg "tuple" = none) (hS : ∀ G G', S G → G.StaysIn G' → S G')
    (Y : ∀ fs, StarUser prog w fs S d u f l V len turn) :
    Steps prog w fs (StarS K mg mb C fI fT fN x dx f I S) (d + 1) (u + 8) (SU I l V) (.ref x) (SStep len turn) (fun _ _ _ => False) where
  rais := by intro a k b h; exact h.elim
  next := by
    intro a o b hst A G pre ow s Q E hA hSG hU W h
    refine inst_next (od := some emptyDict) (hSG.k.keeps W.keep) (hSG.i.inst W.keep) KX.next KX.nextF ?_
    refine call_fn (binds := [(Str.ofString "self", .ref x)]) W (by have := hA.dp; omega) hSG.st.lim hSG.n (fun _ _ _ _ _ => rfl) rfl (fun L cdv h₁ hL hk AT => ?_) (by decide +kernel) rfl rfl rfl
    have hA' := hA.deeper (d := d) (u := u + 5) (envX (Str.ofString "starmap.__next__") (fdScope (clsM 3)) L fN cdv [])
    have kh : A.handled = none := hA.hd
    refine wpAny_execs_cons ?_
    refine wpAny_Assign_Name ?_
    refine w_call ?_
    refine w_builtin AT hSG.st n1 (by boot_by_name) ?_
    refine w_callBuiltin ?_
    refine wpAny_items_cons ?_
    refine Attribute_name ?_
    refine w_local AT rfl ?_
    refine inst_get (hSG.k.keeps AT.keep) (hSG.i.inst AT.keep) KX.getp KX.cls KX.itF KX.itG KX.itS KX.itI rfl rfl fun tk₁ => ?_
    refine wpAny_items_nil ?_
    cases hst with
    | @stop t a hle =>
      obtain ⟨io, ow₂, rfl, hio, hV⟩ := hU
      obtain ⟨xs, hxl, hxs, _, _⟩ := (Y (envX (Str.ofString "starmap.__next__") (fdScope (clsM 3)) L fN cdv [] :: fs)).list (pre := pre ++ [(I, io)]) hV hSG.s (by simpa using AT.wd)
      have hit := hio.at (AT.wd.own (I, io) (by simp))
      refine next_end (s := { s with heap := h₁, toks := tk₁ }) (items := xs) hA'.hd hit hxl (Array.getElem?_eq_none (by omega)) fun h₂ h₃ e o' ho' hsb hmk => ?_
      have A₂ := AT.put hsb ho'
      have W₂ : Wd (envX (Str.ofString "starmap.__next__") (fdScope (clsM 3)) L fN cdv [] :: fs) G (pre ++ ow₂) h₂ := A₂.wd.sub (fun p hp => by
        rcases List.mem_append.mp hp with hp | hp
        · exact List.mem_append_left _ hp
        · exact List.mem_append_right _ (.tail _ hp)) (by
        have nd := A₂.wd.nd
        rw [List.map_append, List.map_cons] at nd
        rw [List.map_append]
        exact (List.nodup_cons.mp (List.perm_middle.nodup_iff.mp nd)).2)
      unfold Out
      refine made_leave (s := { s with heap := h₃, toks := tk₁ }) (Around.frames_deeper hA.fr) rfl W₂ hmk fun h₄ hf W₄ fk₄ => ?_
      unfold OwitStop
      obtain ⟨o, ho, hc⟩ := hf.cls
      refine wpAny_isInstance (T := "StopIteration") (b := true) ⟨o, ho, hc⟩ isSubtype_stop ?_
      show (if true = true then _ else _)
      rw [if_pos rfl]
      refine h none G h₄ tk₁ ow₂ hV ⟨stays_refl _, W₄, ?_⟩ hSG rfl
      exact A₂.fk.trans fk₄
    | @turn t a y b hlt ht =>
      obtain ⟨io, ow₂, rfl, hio, hV⟩ := hU
      obtain ⟨xs, hxl0, hxs, hxz, hxt⟩ := (Y fs).list (pre := pre ++ [(I, io)]) hV hSG.s (by simpa using W)
      have hxl := isList_mono hxl0 hk
      have nL : ∀ b o, s.heap.get? b = some o → b ≠ L := fun b o e z => by rw [z, hL, size_none] at e; cases e
      have lL : l ≠ L := by obtain ⟨o, q, _⟩ := hxl0; exact nL _ _ q
      have hit := hio.at (AT.wd.own (I, io) (by simp))
      obtain ⟨v, hv⟩ : ∃ v, xs[t]? = some v := ⟨_, Array.getElem?_eq_getElem (by omega)⟩
      obtain ⟨ta, vs, rfl, hta0, hvz⟩ := hxt t v hv
      have hta := hta0.mono hk
      have tL : ta ≠ L := by obtain ⟨o, n, q, _⟩ := hta0; exact nL _ _ q
      refine next_item (s := { s with heap := h₁, toks := tk₁ }) hit hxl hv fun h₂ hit₂ hsb => ?_
      obtain ⟨o', ho', hc', hd'⟩ := hit₂
      have A₂ := AT.put hsb ho'
      have hne : l ≠ I := isList_ne_iter hxl hit
      have hxl₂ : h₂.IsList l xs := hxl.extBut hsb.extBut hne
      have htI : ta ≠ I := by
        rintro rfl
        obtain ⟨o1, n1, q1, q2, _⟩ := hta
        obtain ⟨o2, q3, q4, _⟩ := hit
        have q3' : h₁.get? ta = some o2 := q3
        rw [q1] at q3'; cases q3'
        rw [q2] at q4; exact absurd (Value.type.inj q4) (by decide)
      have hta₂ : TupG h₂ ta vs := by
        obtain ⟨o1, n1, q1, q2⟩ := hta
        exact ⟨o1, n1, (hsb.2 _ htI).trans q1, q2⟩
      refine w_setS (s := { s with heap := h₂, toks := tk₁ }) A₂ fun h₃ tk₃ A₃ hb₃ => ?_
      have hxl₃ : h₃.IsList l xs := isList_get hxl₂ (hb₃ _ lL)
      have hta₃ : TupG h₃ ta vs := tupG_get hta₂ (hb₃ _ tL)
      refine wpAny_execs_cons ?_
      refine wpAny_If ?_
      refine wpAny_isTrue_Compare1 ?_
      refine w_call ?_
      refine w_builtin (s := { s with heap := h₃, toks := tk₃ }) A₃ hSG.st n2 (by boot_by_name) ?_
      refine w_callType ?_
      refine wpAny_items_cons ?_
      refine w_local (s := { s with heap := h₃, toks := tk₃ }) A₃ (upd_self _ _ _) ?_
      refine wpAny_items_nil ?_
      refine w_typeTup (s := { s with heap := h₃, toks := tk₃ }) hta₃ ?_
      refine w_builtin (s := { s with heap := h₃, toks := tk₃ }) A₃ hSG.st n3 (by boot_by_name) ?_
      refine wpAny_isNot_plain rfl ?_
      show wpAny _ _ (truthy (.bool false)) _ _ _
      refine wpAny_of_eq (a := false) (by rfl) ?_
      show (if false = true then _ else _)
      rw [if_neg Bool.false_ne_true]
      refine wpAny_execs_nil ?_
      refine wpAny_execs_cons ?_
      refine wpAny_Return_some ?_
      refine w_attrStar ?_
      have X₃ := hSG.k.keeps A₃.keep
      have I₃ := hSG.i.inst A₃.keep
      refine w_local (s := { s with heap := h₃, toks := tk₃ }) A₃ (upd_ne rfl) ?_
      refine inst_get (s := { s with heap := h₃, toks := tk₃ }) X₃ I₃ KX.getp KX.cls KX.fnF KX.fnG KX.fnS KX.fnI rfl (Y fs).handed fun tk₄ => ?_
      refine ks_call (P := fun h => G.StaysIn h) rfl (fun h k => (Y fs).keeper hSG.s k) (ks_lone ?_)
      refine w_local (s := { s with heap := h₃, toks := tk₄ }) A₃ (upd_self _ _ _) ?_
      obtain ⟨o5, n5, ho5, hc5, hd5⟩ := hta₃
      refine w_starTup (s := { s with heap := h₃, toks := tk₄ }) (.inr rfl) ho5 hc5 hd5 (by have hz9 : sizeLine = 16777216 := rfl; simp; omega) fun h₄ k₄ => ?_
      have A₄ := A₃.keeps k₄
      refine ⟨A₄.keep, ?_⟩
      show wpAny _ _ (call f vs) _ _ _
      have W₄ : Wd (envX (Str.ofString "starmap.__next__") (fdScope (clsM 3)) L fN cdv [] :: fs) G ((pre ++ [(I, o')]) ++ ow₂) h₄ := by simpa using A₄.wd
      refine (Y _).turn ht _ G (pre ++ [(I, o')]) ow₂ { s with heap := h₄, toks := tk₄ } xs ta vs _ _ (hA'.less (Nat.le_refl _) (by omega)) hSG.s hV W₄ (isList_mono hxl₃ k₄) hv ⟨o5, n5, k₄ _ _ ho5, hc5, hd5⟩ fun r G' h' tk ow' hV' l' hS' hr => ?_
      have l'' : Lf (envX (Str.ofString "starmap.__next__") (fdScope (clsM 3)) L fN cdv [] :: fs) G h₄ G' (pre ++ (I, o') :: ow') h' := by simpa using l'
      have A₅ := A₄.back l''
      exact h (some r) G' h' tk ((I, o') :: ow') ⟨o', ow', rfl, ⟨hc', hd'⟩, hV'⟩ A₅.lf ((⟨hSG.s, hSG.st, hSG.k, hSG.i, hSG.n, hSG.t⟩ : StarS K mg mb C fI fT fN x dx f I S G).mono hS _ _ l'.gr) ⟨r, rfl, hr⟩
end

section
variable {τ : Type} {prog : Program} {w : World} {S : Heap → Prop} {d u : Nat}

theorem w_callC {M : Model} {A : Around} {E : Value → Shared → Prop} {s : Shared} {env : Env} {pos : Pos} {K : Frag} {Q : Value → Shared → Prop} {f : Value} {e : Expr} {rest : List Expr} (hk : keepIn K f = true)
    (h : wpAny M A (spliced (backTo pos (starEach (e :: rest) env))) (fun vs s₁ => K.In s₁.heap ∧ wpAny M A (call f vs) Q E s₁) E s)
    (he : starEach (e :: rest) env = (false, eval e env) :: starEach rest env := by rfl) (hplain : (backTo pos (starEach rest env)).any (·.1) = false := by rfl) :
    wpAny M A (callWith pos f [] (backTo pos (starEach (e :: rest) env)) []) Q E s := by
  rw [he] at h ⊢
  exact callWith_of (by show ((false || (backTo pos (starEach rest env)).any (·.1)) || false) = false; rw [hplain]; rfl) (keeps_K hk) (evalArgs_plain h)

theorem star_iterIs {K : Frag} {mg mb : Str → Option Value} {C fI fT fN pI pF x dx I : Addr} {f : Value} {fs : List Env} {G : Heap} (KX : StarK K C fI fT fN pI pF) (hG : StarS K mg mb C fI fT fN x dx f I S G) (hS : ∀ G G', S G → G.StaysIn G' → S G') :
    IterIs prog w fs (StarS K mg mb C fI fT fN x dx f I S) (d + 1) (u + 8) x (.ref C) G where
  ty := fun M => (hG.i.inst (stays_refl _)).type
  nl := rfl
  nt := rfl
  hint := fun M A Q E s k q => by
    unfold Builtin.List.listLengthHint
    have I₁ := hG.i.inst k
    have X₁ := hG.k.keeps k
    refine wpAny_bind (wpAny_bind (I₁.type.here ((looks_findIn X₁ KX.len).here ?_)))
    show wpAny M A (specialOf (Value.ref x) (Str.ofString "__length_hint__") >>= _) _ _ _
    exact wpAny_bind (wpAny_bind (I₁.type.here ((looks_findIn X₁ KX.hint).here (wpAny_pure q))))
  iter := fun A G₁ ow s Q E hA hS₁ k W h => by
    refine inst_iter (od := some emptyDict) (hS₁.k.keeps W.keep) (hS₁.i.inst W.keep) KX.iter KX.iterF KX.next ?_
    refine call_fn (binds := [(Str.ofString "self", .ref x)]) W (by have := hA.dp; omega) hS₁.st.lim hS₁.t (fun _ _ _ _ _ => rfl) rfl (fun L cdv h₁ hL hk AT => ?_) (by decide +kernel) rfl rfl rfl
    refine wpAny_execs_cons ?_
    refine wpAny_Return_some ?_
    refine w_local AT rfl ?_
    exact ⟨rfl, hS₁.k.keeps AT.keep, hS₁.i.inst AT.keep, h G₁ h₁ _ AT.lf hS₁⟩

/-- what starmapstar leans on -/
structure StarP (K : Frag) (mg mb : Str → Option Value) (C fI fT fN : Addr) (S : Heap → Prop) (G : Heap) : Prop where
  s : S G
  st : Sta mg mb G
  k : K.In G
  i : FnM G 1 fI (Str.ofString "starmap.__init__")
  n : FnM G 3 fN (Str.ofString "starmap.__next__")
  t : FnM G 2 fT (Str.ofString "starmap.__iter__")

theorem starmapstar_spec {K : Frag} {mg mb : Str → Option Value} {C fI fT fN pI pF fa ta l : Addr} {f : Value} {V : Heap → τ → List (Addr × Obj) → Prop} {len : τ → Nat} {turn : τ → Nat → PyData → τ → Prop} {fs : List Env}
    {A : Around} {G : Heap} {ow : List (Addr × Obj)} {s : Shared} {Q E : Value → Shared → Prop} {a b : τ} {xs : List PyData}
    (KX : StarK K C fI fT fN pI pF) (n0 : mg "list" = none) (n1 : mg "next" = none) (n2 : mg "type" = none) (n3 : mg "tuple" = none) (n4 : mg "starmap" = some (.ref C)) (n5 : mg "iter" = none)
    (hS : ∀ G G', S G → G.StaysIn G' → S G')
    (Y : ∀ fs, StarUser prog w fs S d u f l V len turn) (run : Run (SStep len turn) (fun _ _ _ => False) (some 0, a) xs none (none, b)) (hz : xs.length ≤ 100000)
    (F : FnI G 5 fa) (hA : Ar A fs (d + 4) (u + 40)) (hG : StarP K mg mb C fI fT fN S G) (ht : TupG G ta [f, .ref l]) (hV : V G a ow) (hVm : ∀ G G' a ow, V G a ow → G.StaysIn G' → V G' a ow) (W : Wd fs G ow s.heap)
    (h : ∀ L G' h' tk vs ow', V G' b ow' → Lf fs G s.heap G' ow' h' → S G' → G'.IsList L vs → Rds G' vs.toList xs → Q (.ref L) { s with heap := h', toks := tk }) :
    wpAny (model prog w) A (call (.ref fa) [.ref ta]) Q E s := by
  refine call_fn (binds := [(Str.ofString "args", .ref ta)]) W (by have := hA.dp; omega) hG.st.lim F (fun _ _ _ _ _ => rfl) rfl (fun L cdv h₁ hL hk AT => ?_) (by decide +kernel) rfl rfl rfl
  have hA' := (hA.less (d' := d + 4) (u' := u + 40) (Nat.le_refl _) (Nat.le_refl _)).deeper (d := d + 3) (u := u + 37) (envX (fdName (stm 5)) (fdScope (stm 5)) L fa cdv [])
  refine wpAny_execs_cons ?_
  refine wpAny_Return_some ?_
  refine w_call ?_
  refine w_builtin AT hG.st n0 (by boot_by_name) ?_
  refine w_callType ?_
  refine wpAny_items_cons ?_
  refine w_call ?_
  refine w_global AT hG.st n4 ?_
  refine w_callC (K := K) KX.keep ?_
  refine wpAny_items_cons ?_
  refine Subscript_ ?_
  refine w_local AT rfl ?_
  refine w_int fun _ _ => ?_
  refine w_tup1 ht AT.keep ⟨0, rfl, rfl⟩ (by decide) (by decide) ?_
  refine wpAny_items_cons ?_
  refine Subscript_ ?_
  refine w_local (s := { s with heap := h₁, toks := _ }) AT rfl ?_
  refine w_int fun _ _ => ?_
  refine w_tup1 (s := { s with heap := h₁, toks := _ }) ht AT.keep ⟨1, rfl, rfl⟩ (by decide) (by decide) ?_
  refine wpAny_items_nil ⟨hG.k.keeps AT.keep, ?_⟩
  refine inst_make (s := { s with heap := h₁, toks := _ }) AT.wd (hG.k.keeps AT.keep) KX.made KX.init KX.initF fun x dx h₂ k₂ W₂ => ?_
  have hA₂ := (hA'.less (d' := d + 3) (u' := u + 37) (Nat.le_refl _) (Nat.le_refl _)).tcall (d := d + 2) (u := u + 27) C [f, .ref l]
  refine code_fn (s := { s with heap := h₂, toks := _ }) (binds := [(Str.ofString "self", .ref x), (Str.ofString "function", f), (Str.ofString "iterable", .ref l)]) W₂ (by have := hA₂.dp; omega) hG.st.lim hG.i
    (fun _ _ _ _ _ => BindsTo.of_eq rfl) (fun y hy => of_decide_eq_true (List.all_eq_true.mp (show ([(Str.ofString "self", Value.ref x), (Str.ofString "function", f), (Str.ofString "iterable", Value.ref l)].all fun y => decide ((fdScope (clsM 1)).names.lookup y.1 = some .local)) = true from rfl) y hy)) (fun L₂ cdv₂ h₃ hL₂ hk₃ A₃ => ?_) (by decide +kernel) rfl rfl rfl
  refine wpAny_execs_cons ?_
  refine plainObj_wpAny_Assign_Attribute ?_
  refine w_call ?_
  refine w_builtin (s := { s with heap := h₃, toks := _ }) A₃ hG.st n5 (by boot_by_name) ?_
  refine w_callBuiltin ?_
  refine wpAny_items_cons ?_
  refine w_local (s := { s with heap := h₃, toks := _ }) A₃ rfl ?_
  refine wpAny_items_nil ?_
  obtain ⟨zs, hl₃, hzl, hzz, hzt⟩ := (Y (envX (Str.ofString "starmap.__init__") (fdScope (clsM 1)) L₂ fI cdv₂ [] :: envX (fdName (stm 5)) (fdScope (stm 5)) L fa cdv [] :: fs)).list (pre := [(x, instObj C dx), (dx, emptyDict)]) hV hG.s (by simpa using A₃.wd)
  refine w_iter (s := { s with heap := h₃, toks := _ }) hl₃ ?_
  have k₄ : h₃.StaysIn (h₃.push { cls := .type "list_iterator", data := .fields #[.ref l, .int 0 0] }) := fun _ _ e => Heap.get?_push_of_some _ e
  have A₄ := A₃.own_new k₄ (size_none _) (Heap.get?_push_size h₃ (o := { cls := .type "list_iterator", data := .fields #[.ref l, .int 0 0] }) rfl)
  generalize hI : h₃.objs.size = I at *
  generalize hh₄ : h₃.push { cls := .type "list_iterator", data := .fields #[.ref l, .int 0 0] } = h₄ at *
  refine w_local (s := { s with heap := h₄, toks := _ }) A₄ rfl ?_
  have Ins : ∀ {h : Heap} {ox : Obj}, ox.cls = .ref C → notCls ox = true → ox.dict = some dx → h.get? x = some ox → h.get? dx = some emptyDict → InstAt h x ox C (some emptyDict) := fun c n d e1 e2 => ⟨e1, c, n, by rw [d]; exact e2⟩
  refine inst_set (s := { s with heap := h₄, toks := _ }) (pre := [(I, _)]) (ox' := { cls := .ref C, dict := some dx, data := .plain, slots := #[none, some (.ref I)] }) A₄ (hG.k.keeps A₄.keep) (Ins rfl rfl rfl (A₄.wd.own (x, instObj C dx) (by simp)) (A₄.wd.own (dx, emptyDict) (by simp)))
    KX.setattr KX.plain KX.itK KX.itT KX.itI (by decide) rfl rfl fun h₅ tk₅ A₅ hb₅ => ?_
  refine wpAny_execs_cons ?_
  refine plainObj_wpAny_Assign_Attribute ?_
  refine w_local (s := { s with heap := h₅, toks := tk₅ }) A₅ rfl ?_
  refine w_local (s := { s with heap := h₅, toks := tk₅ }) A₅ rfl ?_
  refine inst_set (s := { s with heap := h₅, toks := tk₅ }) (pre := [(I, _)]) (ox' := starObj C dx f I) A₅ (hG.k.keeps A₅.keep) (Ins rfl rfl rfl (A₅.wd.own (x, _) (by simp)) (A₅.wd.own (dx, emptyDict) (by simp)))
    KX.setattr KX.plain KX.fnK KX.fnT KX.fnI (by decide) rfl rfl fun h₆ tk₆ A₆ hb₆ => ?_
  refine wpAny_execs_nil ?_
  refine ⟨rfl, ?_⟩
  have nd₆ := A₆.wd.nd
  obtain ⟨G₆, g1, l₆, g2⟩ := A₆.leave (ow' := (I, _) :: ow) (fun p hp => by
    rcases List.mem_cons.mp hp with rfl | hp
    · exact .head _
    · exact .tail _ (.tail _ (.tail _ hp))) (by
    simp only [List.cons_append, List.nil_append, List.map_cons, List.nodup_cons, List.mem_cons, not_or] at nd₆ ⊢
    exact ⟨nd₆.1.2.2, nd₆.2.2.2⟩)
  have gx : G₆.get? x = some (starObj C dx f I) := g2 (x, starObj C dx f I) (by simp) (by
    simp only [List.cons_append, List.nil_append, List.map_cons, List.nodup_cons, List.mem_cons, not_or] at nd₆ ⊢
    exact ⟨fun z => nd₆.1.1 z.symm, nd₆.2.1.2⟩)
  have gd : G₆.get? dx = some emptyDict := g2 (dx, _) (by simp) (by
    simp only [List.cons_append, List.nil_append, List.map_cons, List.nodup_cons, List.mem_cons, not_or] at nd₆ ⊢
    exact ⟨fun z => nd₆.1.2.1 z.symm, nd₆.2.2.1⟩)
  have l₇ : Lf (envX (fdName (stm 5)) (fdScope (stm 5)) L fa cdv [] :: fs) G h₁ G₆ ((I, _) :: ow) h₆ := ⟨l₆.gr, l₆.wd, (FK.keeps k₂).trans l₆.fk⟩
  have A₇ := AT.back l₇
  have S₇ : StarS K mg mb C fI fT fN x dx f I S G₆ := ⟨hS _ _ hG.s g1, hG.st.mono g1, hG.k.keeps g1, ⟨gx, gd⟩, hG.n.mono g1, hG.t.mono g1⟩
  refine wpAny_items_nil ?_
  refine list_call (s := { s with heap := h₆, toks := tk₆ }) (StarS.mono hS) (star_steps KX n1 n2 n3 hS Y) (star_iterIs KX S₇ hS) run (hA'.less (by omega) (by omega)) S₇ ⟨_, ow, rfl, ⟨rfl, rfl⟩, hVm _ _ _ _ hV g1⟩ (su_mono hVm) A₇.wd hz ⟨_, gx⟩ ?_ ?_
  · intro Lr G' h' tk vs ow' _ hV' l' S' hl' hd'
    exact h Lr G' h' tk vs ow' hV' (A₇.back l').lf S'.s hl' hd'
  · intro k e t G' h' tk ow' hr
    cases hr
end

def tkS : Stmt := (fdBody (stm 9)).getD 1 (.Pass default)
def tkQ : Str := Str.ofString "_law_read.<locals>._law_take"
abbrev FnT (G : Heap) (f c : Addr) : Prop := FnAt G f (fdName tkS) tkQ (fdParams tkS) (fdBody tkS) (fdScope tkS) [(Str.ofString "pile", c)]
def takeB (p : List T) (l : Int) (k : Nat) : T := .node l (p.drop (p.length - k))
def takeP (p : List T) (l : Int) (k : Nat) : List T := p.take (p.length - k) ++ [takeB p l k]
theorem enc_takeB (p : List T) (l : Int) (k : Nat) : enc (takeB p l k) = .tuple [.int l, .list ((p.map enc).drop (p.length - k))] := by
  unfold takeB
  rw [enc, encs_eq, List.map_drop]

section
variable {prog : Program} {w : World} {mg mb : Str → Option Value}
def PileV (c pl : Addr) (ow₀ : List (Addr × Obj)) (G : Heap) (p : List T) (ow : List (Addr × Obj)) : Prop :=
  ∃ co po vs, ow = (c, co) :: (pl, po) :: ow₀ ∧ co.data = .cell (some (.ref pl)) ∧ PlO vs po ∧ Rds G vs.toList (p.map enc) ∧ p.length ≤ 1000
theorem PileV.mono {c pl : Addr} {ow₀ : List (Addr × Obj)} : ∀ G G' p ow, PileV c pl ow₀ G p ow → G.StaysIn G' → PileV c pl ow₀ G' p ow := fun _ _ _ _ ⟨co, po, vs, a, b, c, d, e⟩ k => ⟨co, po, vs, a, b, c, d.mono k, e⟩
def TakeT (rws : List (Int × Nat)) (p : List T) (t : Nat) (y : PyData) (p' : List T) : Prop :=
  ∃ r : Int × Nat, rws[t]? = some r ∧ r.2 ≤ p.length ∧ p.length < 1000 ∧ y = enc (takeB p r.1 r.2) ∧ p' = takeP p r.1 r.2
structure TakeS (mg mb : Str → Option Value) (ft c l : Addr) (rws : List (Int × Nat)) (G : Heap) : Prop where
  st : Sta mg mb G
  f : FnT G ft c
  r : Rd G (.ref l) (.list (rowsD rws))
theorem TakeS.mono {ft c l : Addr} {rws : List (Int × Nat)} : ∀ G G', TakeS mg mb ft c l rws G → G.StaysIn G' → TakeS mg mb ft c l rws G' := fun _ _ h k => ⟨h.st.mono k, h.f.mono k, h.r.mono k⟩

theorem take_user {ft c pl l : Addr} {rws : List (Int × Nat)} {ow₀ : List (Addr × Obj)} (hln : mg "len" = none) (hz : rws.length ≤ 1000) (fs : List Env) :
    StarUser prog w fs (TakeS mg mb ft c l rws) 2 20 (.ref ft) l (PileV c pl ow₀) (fun _ => rws.length) (TakeT rws) where
  list := by
    intro p ow G h pre hV hS W
    obtain ⟨_, vs, e, hl, hd⟩ := hS.r.list_inv
    cases e
    have hlen : vs.size = rws.length := by have := hd.length; simpa [rowsD] using this
    refine ⟨vs, isList_mono hl W.keep, hlen, by omega, fun t v hv => ?_⟩
    obtain ⟨d, hd1, hd2⟩ := (Rds.all2.mp hd).get (k := t) (a := v) (by simpa using hv)
    have : ∃ r : Int × Nat, d = rowD r.1 r.2 := by
      unfold rowsD at hd1
      rw [List.getElem?_map] at hd1
      cases q : rws[t]? with
      | none => rw [q] at hd1; cases hd1
      | some r => rw [q] at hd1; cases hd1; exact ⟨r, rfl⟩
    obtain ⟨r, rfl⟩ := this
    obtain ⟨ta, t1, t2, rfl, ht⟩ := row_tup hd2
    exact ⟨ta, _, rfl, ht.mono W.keep, by simp⟩
  keeper := by
    intro G h hS k
    obtain ⟨k', a, b⟩ := keeper_fn (M := model prog w) hS.f
    exact ⟨k', a, b.keeps k⟩
  handed := rfl
  turn := by
    rintro p t y p' ⟨r, hr, hk1, hk2, rfl, rfl⟩ A G pre ow s xs ta vs Q E hA hS ⟨co, po, pv, rfl, hco, hpo, hpd, _⟩ W hxl hxt hta h
    obtain ⟨_, vs', e, hl, hd⟩ := hS.r.list_inv
    cases e
    have exs : xs = vs' := by
      obtain ⟨o, ho, _, n, hd⟩ := hxl
      obtain ⟨o', ho', _, n', hd'⟩ := isList_mono hl W.keep
      rw [ho] at ho'; cases ho'
      rw [hd] at hd'; cases hd'; rfl
    subst exs
    obtain ⟨d, hd1, hd2⟩ := (Rds.all2.mp hd).get (k := t) (a := .ref ta) (by simpa using hxt)
    have ed : d = rowD r.1 r.2 := by
      unfold rowsD at hd1
      rw [List.getElem?_map, hr] at hd1
      cases hd1; rfl
    subst ed
    obtain ⟨ta', t1, t2, e, ht⟩ := row_tup hd2
    cases e
    have evs : vs = [.int r.1 t1, .int r.2 t2] := by
      obtain ⟨o, n, ho, _, hd⟩ := hta
      obtain ⟨o', n', ho', _, hd'⟩ := ht.mono W.keep
      rw [ho] at ho'; cases ho'
      rw [hd] at hd'
      have : vs.toArray = [Value.int r.1 t1, .int r.2 t2].toArray := by cases hd'; rfl
      simpa using congrArg Array.toList this
    subst evs
    have hpl : pv.size = p.length := by have := hpd.length; simpa using this
    refine call_fn (binds := [(Str.ofString "label", .int r.1 t1), (Str.ofString "kids", .int r.2 t2)]) W (by have := hA.dp; omega) hS.st.lim hS.f (fun _ _ _ _ _ => rfl) rfl (fun L cdv h₁ hL hk AT => ?_) (by decide +kernel) rfl rfl rfl
    have cel : ∀ {h m G po}, At ⟨G, s.heap, fs⟩ G (pre ++ (c, co) :: (pl, po) :: ow₀) (envX tkQ (fdScope tkS) L ft cdv [(Str.ofString "pile", c)]) m h → h.IsCell c (some (.ref pl)) := fun AT => ⟨co, AT.wd.own (c, co) (by simp), hco⟩
    refine wpAny_execs_cons ?_
    refine wpAny_Assign_Name ?_
    refine wpAny_BinOp ?_
    refine w_call ?_
    refine w_builtin AT hS.st hln (by boot_by_name) ?_
    refine w_callBuiltin ?_
    refine wpAny_items_cons ?_
    refine w_free (c := c) (v := .ref pl) rfl ⟨co, AT.wd.own (c, co) (by simp), hco⟩ ?_
    refine wpAny_items_nil ?_
    refine w_len' (hpo.isList (AT.wd.own (pl, po) (by simp))) (by omega) fun t₂ tk₂ => ?_
    refine w_local (s := { s with heap := h₁, toks := tk₂ }) AT rfl ?_
    refine w_sub fun t₃ tk₃ => ?_
    have ecut : ((pv.size : Nat) : Int) - ((r.2 : Nat) : Int) = ((p.length - r.2 : Nat) : Int) := by omega
    rw [ecut]
    refine w_set (s := { s with heap := h₁, toks := tk₃ }) AT fun h₄ tk₄ A₄ => ?_
    refine wpAny_execs_cons ?_
    refine wpAny_Assign_Name ?_
    refine w_Tuple ?_
    refine wpAny_items_cons ?_
    refine w_local (s := { s with heap := h₄, toks := tk₄ }) A₄ (upd_ne rfl) ?_
    refine wpAny_items_cons ?_
    refine w_sliceFrom (s := { s with heap := h₄, toks := tk₄ }) (X := ⟨G, s.heap, fs⟩) (a := pl) (xs := pv) ?_ (by omega)
    refine w_free (s := { s with heap := h₄, toks := tk₄ }) (c := c) (v := .ref pl) rfl ⟨co, A₄.wd.own (c, co) (by simp), hco⟩ ?_
    refine w_local (s := { s with heap := h₄, toks := tk₄ }) A₄ (upd_self _ _ _) ?_
    refine ⟨p.length - r.2, t₃, G, _, _, rfl, rfl, by omega, hpo.isList (A₄.wd.own (pl, po) (by simp)), A₄, fun l₅ G₅ h₅ le₅ A₅ e₅ => ?_⟩
    refine wpAny_items_nil ?_
    refine w_newTuple (s := { s with heap := h₅, toks := tk₄ }) A₅ (by simp) fun ta₆ G₆ h₆ le₆ A₆ e₆ => ?_
    refine w_set (s := { s with heap := h₆, toks := tk₄ }) A₆ fun h₇ tk₇ A₇ => ?_
    refine wpAny_execs_cons ?_
    refine wpAny_Delete ?_
    refine wpAny_deleteEach_cons ?_
    refine wpAny_delete_Subscript ?_
    refine w_free (s := { s with heap := h₇, toks := tk₇ }) (c := c) (v := .ref pl) rfl ⟨co, A₇.wd.own (c, co) (by simp), hco⟩ ?_
    refine wpAny_Slice ?_
    refine evalPart_some_step ?_
    refine w_local (s := { s with heap := h₇, toks := tk₇ }) A₇ (upd_ne (upd_self _ _ _)) ?_
    refine evalPart_none_step ?_
    refine evalPart_none_step ?_
    have A₈ := A₇.keeps (h' := h₇.push { cls := .type "slice", data := .fields #[.int ((p.length - r.2 : Nat) : Int) t₃, .none, .none] }) fun _ _ e => Heap.get?_push_of_some _ e
    have assoc : pre ++ (c, co) :: (pl, po) :: ow₀ = (pre ++ [(c, co)]) ++ (pl, po) :: ow₀ := by simp
    rw [assoc] at A₈
    refine w_delFrom (s := { s with heap := _, toks := tk₇ }) A₈ hpo (by omega) (k := p.length - r.2) (by omega) (Heap.IsSliceOf.new _ _ _ _) fun h₉ po₉ A₉ hpo₉ hb₉ => ?_
    refine wpAny_deleteEach_nil ?_
    refine wpAny_execs_cons ?_
    refine wpAny_Expr_any ?_
    refine methodCall_KW ?_
    refine w_free (s := { s with heap := h₉, toks := tk₇ }) (c := c) (v := .ref pl) rfl ⟨co, A₉.wd.own (c, co) (by simp), hco⟩ ?_
    refine getMethod_list_append (s := { s with heap := h₉, toks := tk₇ }) (A₉.wd.own (pl, po₉) (by simp)) hpo₉.1 hpo₉.2.1 ?_
    refine callWith_method1 ?_
    refine wpAny_items_cons ?_
    refine w_local (s := { s with heap := h₉, toks := tk₇ }) A₉ (upd_self _ _ _) ?_
    refine wpAny_items_nil ?_
    refine w_append (s := { s with heap := h₉, toks := tk₇ }) A₉ hpo₉ (by simp; omega) fun hₐ poₐ Aₐ hpoₐ hbₐ => ?_
    refine wpAny_execs_cons ?_
    refine wpAny_Return_some ?_
    refine w_local (s := { s with heap := hₐ, toks := tk₇ }) Aₐ (upd_self _ _ _) ?_
    have le6 := stays_trans le₅ le₆
    have hbr : Rd G₆ (.ref ta₆) (enc (takeB p r.1 r.2)) := by
      rw [enc_takeB]
      refine Rd.tup e₆ (Rds.cons (Rd.int _ _) (Rds.cons (Rd.list (isList_mono e₅ le₆) ?_) Rds.nil))
      simpa using Rds.all2.mpr (All2.drop (Rds.all2.mp (hpd.mono le6)) (p.length - r.2))
    refine h (.ref ta₆) G₆ hₐ tk₇ ((c, co) :: (pl, poₐ) :: ow₀) ⟨co, poₐ, _, rfl, hco, hpoₐ, ?_, ?_⟩ ?_ (TakeS.mono _ _ hS le6) hbr
    · unfold takeP
      rw [Array.toList_push, List.map_append]
      refine Rds.append ?_ (Rds.cons hbr Rds.nil)
      rw [List.map_take]
      simpa using Rds.all2.mpr (All2.take (Rds.all2.mp (hpd.mono le6)) (p.length - r.2))
    · unfold takeP
      simp
      omega
    · have := Aₐ.lf
      simpa using this
end

def okR : Nat → List (Int × Nat) → Prop
  | _, [] => True
  | h, r :: rs => r.2 ≤ h ∧ okR (h + 1 - r.2) rs
def brs : List T → List (Int × Nat) → List T
  | _, [] => []
  | p, r :: rs => takeB p r.1 r.2 :: brs (takeP p r.1 r.2) rs
def pileR : List T → List (Int × Nat) → List T
  | p, [] => p
  | p, r :: rs => pileR (takeP p r.1 r.2) rs
theorem takeP_len (p : List T) (l : Int) (k : Nat) (h : k ≤ p.length) : (takeP p l k).length = p.length + 1 - k := by
  unfold takeP
  simp
  omega
theorem brs_len : ∀ (rs : List (Int × Nat)) (p : List T), (brs p rs).length = rs.length
  | [], _ => rfl
  | r :: rs, p => by rw [brs, List.length_cons, List.length_cons, brs_len rs]
theorem read_run {rws : List (Int × Nat)} : ∀ (rs : List (Int × Nat)) (p : List T) (t : Nat), okR p.length rs → rws.drop t = rs → p.length + rs.length ≤ 1000 →
    Run (SStep (fun _ : List T => rws.length) (TakeT rws)) (fun _ _ _ => False) (some t, p) ((brs p rs).map enc) none (none, pileR p rs)
  | [], p, t, _, h, _ => .stop (.stop (by have := congrArg List.length h; simp at this; omega))
  | r :: rs, p, t, hok, h, hz => by
    have hlt : t < rws.length := by have := congrArg List.length h; simp at this; omega
    have e := List.drop_eq_getElem_cons hlt
    rw [e] at h
    cases h
    rw [List.length_cons] at hz
    rw [brs, pileR, List.map_cons]
    refine .turn (.turn hlt ⟨rws[t], List.getElem?_eq_getElem hlt, hok.1, by omega, rfl, rfl⟩) (read_run _ _ _ ?_ rfl ?_)
    · rw [takeP_len _ _ _ hok.1]; exact hok.2
    · rw [takeP_len _ _ _ hok.1]; omega

def posOf : Stmt → Pos
  | .FunctionDef _ _ _ _ _ _ _ _ _ p => p
  | _ => default

section
variable {prog : Program} {w : World} {mg mb : Str → Option Value} {A : Around} {E : Value → Shared → Prop} {s : Shared} {fs : List Env} {G : Heap} {ow : List (Addr × Obj)} {Q : Value → Shared → Prop}

/-- what _law_read leans on -/
structure ReadS (K : Frag) (mg mb : Str → Option Value) (a : Adr) (C fI fT fN cR P : Addr) (G : Heap) : Prop where
  st : Sta mg mb G
  k : K.In G
  f9 : FnI G 9 a.f9
  f5 : FnI G 5 a.f5
  i : FnM G 1 fI (Str.ofString "starmap.__init__")
  n : FnM G 3 fN (Str.ofString "starmap.__next__")
  t : FnM G 2 fT (Str.ofString "starmap.__iter__")
  b : Bmn mg G
  c : CodeHd G cR P
  cd : ∃ o fd, G.get? a.f9 = some o ∧ o.data = .func fd ∧ fd.code = .ref cR
theorem ReadS.mono {K : Frag} {a : Adr} {C fI fT fN cR P : Addr} : ∀ G G', ReadS K mg mb a C fI fT fN cR P G → G.StaysIn G' → ReadS K mg mb a C fI fT fN cR P G' :=
  fun _ _ h k => ⟨h.st.mono k, h.k.keeps k, h.f9.mono k, h.f5.mono k, h.i.mono k, h.n.mono k, h.t.mono k, h.b.mono k, h.c.keeps k, let ⟨o, fd, e, r⟩ := h.cd; ⟨o, fd, k _ _ e, r⟩⟩
structure StarN (mg : Str → Option Value) (C : Addr) : Prop where
  list : mg "list" = none
  next : mg "next" = none
  type : mg "type" = none
  tuple : mg "tuple" = none
  iter : mg "iter" = none
  len : mg "len" = none
  starmap : mg "starmap" = some (.ref C)

theorem read_spec {K : Frag} {a : Adr} {C fI fT fN pI pF cR P la : Addr} {rws : List (Int × Nat)} {ps : Array Value} (KX : StarK K C fI fT fN pI pF) (N : Nms mg a) (N' : StarN mg C)
    (hS : ReadS K mg mb a C fI fT fN cR P G) (hA : Ar A fs 10 100) (hr : Rd G (.ref la) (.list (rowsD rws))) (hok : okR 0 rws) (hz : rws.length ≤ 1000) (ht : TabSt (posOf tkS) tkQ G ps) (W : Wd fs G ((P, tabObj ps) :: ow) s.heap)
    (h : ∀ r G' h' tk ps', Lf fs G s.heap G' ((P, tabObj ps') :: ow) h' → TabSt (posOf tkS) tkQ G' ps' → Rd G' (.ref r) (.tuple [.list ((brs [] rws).map enc), .list ((pileR [] rws).map enc)]) → Q (.ref r) { s with heap := h', toks := tk }) :
    wpAny (model prog w) A (call (.ref a.f9) [.ref la]) Q E s := by
  refine call_fnC (binds := [(Str.ofString "rows", .ref la)]) W (by have := hA.dp; omega) hS.st.lim hS.f9 (fun _ _ _ _ _ => rfl) rfl (fun L cdv h₁ tk₁ cells hL hk hcdv CA AT => ?_) (by decide +kernel) rfl rfl rfl
  obtain ⟨o1, fd, e1, e2, e3⟩ := hS.cd
  obtain ⟨o2, pm, doc, an, ct, e4, e5⟩ := hcdv
  rw [e1] at e4; cases e4
  rw [e2] at e5; cases e5
  have hcd : cdv = .ref cR := e3
  subst hcd
  obtain ⟨co, rfl, hco⟩ := CA.one
  have hA' := hA.deeper (d := 9) (u := 97) (envX (fdName (stm 9)) (fdScope (stm 9)) L a.f9 (.ref cR) (cellsFrom (L + 1) (fdScope (stm 9)).names []))
  refine wpAny_execs_cons ?_
  refine wpAny_Assign_Name ?_
  refine w_List ?_
  refine wpAny_items_nil ?_
  refine w_newListOwn (s := { s with heap := h₁, toks := tk₁ }) AT (by simp) fun pl h₂ nP A₂ => ?_
  have A₂' := A₂.perm (ow' := (L + 1, co) :: (pl, lstObj #[] 0) :: (P, tabObj ps) :: ow) (List.Perm.swap _ _ _)
  refine wpAny_storeName_cell (s := { s with heap := h₂, toks := tk₁ }) (c := L + 1) rfl rfl rfl ⟨co, A₂'.wd.own (L + 1, co) (by simp), hco⟩ fun h₃ hc₃ hs₃ => ?_
  obtain ⟨co', hco1, hco2⟩ := hc₃
  have A₃ := A₂'.put (pre := []) hs₃ hco1
  refine wpAny_execs_cons ?_
  refine w_nestDef (s := { s with heap := h₃, toks := tk₁ }) (c := cR) (pre := [(L + 1, co'), (pl, lstObj #[] 0)]) (clos := [(Str.ofString "pile", L + 1)]) A₃ hS.st hS.b hS.c ht rfl rfl (by rfl) fun ft G₄ h₄ tk₄ ps₄ le₄ A₄ t₄ f₄ => ?_
  have S₄ := ReadS.mono _ _ hS le₄
  refine wpAny_execs_cons ?_
  refine wpAny_Assign_Name ?_
  refine w_call ?_
  refine w_global (s := { s with heap := h₄, toks := tk₄ }) A₄ S₄.st N.f5 ?_
  refine w_callFn S₄.f5 ?_
  refine wpAny_items_cons ?_
  refine w_Tuple ?_
  refine wpAny_items_cons ?_
  refine w_local (s := { s with heap := h₄, toks := tk₄ }) A₄ (upd_self _ _ _) ?_
  refine wpAny_items_cons ?_
  refine w_local (s := { s with heap := h₄, toks := tk₄ }) A₄ (upd_ne rfl) ?_
  refine wpAny_items_nil ?_
  refine w_newTuple (s := { s with heap := h₄, toks := tk₄ }) A₄ (by simp) fun ta G₅ h₅ le₅ A₅ e₅ => ?_
  have g5 := stays_trans le₄ le₅
  have S₅ := ReadS.mono _ _ hS g5
  refine wpAny_items_nil ⟨stays_trans le₅ A₅.keep, ?_⟩
  refine starmapstar_spec (s := { s with heap := h₅, toks := tk₄ }) (S := TakeS mg mb ft (L + 1) la rws) (V := PileV (L + 1) pl ((P, tabObj ps₄) :: ow)) (a := []) (b := pileR [] rws) (xs := (brs [] rws).map enc) KX N'.list N'.next N'.type N'.tuple N'.starmap N'.iter TakeS.mono
    (fun fs => take_user N'.len hz fs) (read_run rws [] 0 hok rfl (by simpa using hz)) (by rw [List.length_map, brs_len]; omega) S₅.f5 (hA'.less (by omega) (by omega)) ⟨⟨S₅.st, f₄.mono le₅, hr.mono g5⟩, S₅.st, S₅.k, S₅.i, S₅.n, S₅.t⟩ (TupG.of e₅)
    ⟨co', lstObj #[] 0, #[], rfl, hco2, PlO.lst _ _, Rds.nil, by simp⟩ PileV.mono A₅.wd fun lb G₆ h₆ tk₆ vs₆ ow₆ hV₆ L₆ hS₆ hl₆ hd₆ => ?_
  have A₆ := A₅.back L₆
  obtain ⟨co₆, po₆, pv₆, rfl, hco₆, hpo₆, hpd₆, _⟩ := hV₆
  refine w_set (s := { s with heap := h₆, toks := tk₆ }) A₆ fun h₇ tk₇ A₇ => ?_
  refine wpAny_execs_cons ?_
  refine wpAny_Return_some ?_
  refine w_Tuple ?_
  refine wpAny_items_cons ?_
  refine w_local (s := { s with heap := h₇, toks := tk₇ }) A₇ (upd_self _ _ _) ?_
  refine wpAny_items_cons ?_
  refine w_cell (s := { s with heap := h₇, toks := tk₇ }) (c := L + 1) rfl ⟨co₆, A₇.wd.own (L + 1, co₆) (by simp), hco₆⟩ ?_
  refine wpAny_items_nil ?_
  refine w_newTuple (s := { s with heap := h₇, toks := tk₇ }) A₇ (by simp) fun ta₈ G₈ h₈ le₈ A₈ e₈ => ?_
  have nd := A₈.wd.nd
  simp only [List.map_cons, List.nodup_cons, List.mem_cons, not_or] at nd
  obtain ⟨G₉, g9, l₉, q9⟩ := A₈.leave (ow' := (P, tabObj ps₄) :: ow) (fun p hp => .tail _ (.tail _ hp)) (by
    simp only [List.map_cons, List.nodup_cons]
    exact nd.2.2)
  have epl := q9 (pl, po₆) (by simp) (by
    simp only [List.map_cons, List.mem_cons, not_or]
    exact nd.2.1)
  have g69 := stays_trans le₈ g9
  have g59 := stays_trans L₆.gr g69
  refine h ta₈ G₉ h₈ _ ps₄ l₉ (t₄.mono (stays_trans le₅ g59)) (Rd.tup (g9 _ _ e₈) (Rds.cons ?_ (Rds.cons ?_ Rds.nil)))
  · exact Rd.list (isList_mono hl₆ g69) (hd₆.mono g69)
  · exact Rd.list (hpo₆.isList epl) (hpd₆.mono g69)
end

section
variable {prog : Program} {w : World} {mg mb : Str → Option Value} {A : Around} {E : Value → Shared → Prop} {s : Shared} {fs : List Env} {G : Heap} {ow : List (Addr × Obj)} {Q : Value → Shared → Prop}

theorem bits_small {a : Int} (h0 : 0 ≤ a) (h : a < 1000) : Builtin.Int.intBits a ≤ 64 := by
  obtain ⟨n, rfl⟩ := Int.eq_ofNat_of_zero_le h0
  have hn : n < 1000 := by omega
  have key : ∀ n : Fin 1000, Builtin.Int.intBits ((n.val : Nat) : Int) ≤ 64 := by decide +kernel
  exact key ⟨n, hn⟩

def DrawInv (dl : Addr) (ow : List (Addr × Obj)) (k : Nat) (G : Heap) (ow' : List (Addr × Obj)) (m : Str → Option Value) : Prop :=
  ∃ (o : Obj) (vs : Array Value) (ds : List Int), ow' = (dl, o) :: ow ∧ m (Str.ofString "draws") = some (.ref dl) ∧ PlO vs o ∧ Rds G vs.toList (ds.map .int) ∧ ds.length = min k 10 ∧ ∀ d ∈ ds, 0 ≤ d ∧ d < 40

theorem draws_spec {fa sa : Addr} {sv : Array Value} (F : FnI G 7 fa) (S : Sta mg mb G) (ne : mg "enumerate" = none) (hA : Ar A fs 2 20) (W : Wd fs G ow s.heap) (hl : G.IsList sa sv) (hi : ∀ (k : Nat) (v : Value), sv[k]? = some v → ∃ i t, v = .int i t) (hz : sv.size ≤ 100000)
    (h : ∀ r G' h' tk (ds : List Int), Lf fs G s.heap G' ow h' → Rd G' (.ref r) (.list (ds.map .int)) → ds.length ≤ 10 → (∀ d ∈ ds, 0 ≤ d ∧ d < 40) → Q (.ref r) { s with heap := h', toks := tk }) :
    wpAny (model prog w) A (call (.ref fa) [.ref sa]) Q E s := by
  refine call_fn (binds := [(Str.ofString "script", .ref sa)]) W (by have := hA.dp; omega) S.lim F (fun _ _ _ _ _ => rfl) rfl (fun L cdv h₁ hL₁ hk AT => ?_) (by decide +kernel) rfl rfl rfl
  refine wpAny_execs_cons ?_
  refine wpAny_Assign_Name ?_
  refine w_List ?_
  refine wpAny_items_nil ?_
  refine w_newListOwn AT (by simp) fun dl h₂ nd A₂ => ?_
  refine w_set A₂ fun h₃ tk₃ A₃ => ?_
  refine wpAny_execs_cons ?_
  refine w_forEnum (s := { s with heap := h₃, toks := tk₃ }) (A := A.deeper _) hA.hd (DrawInv dl ow) ?_ A₃ hl ⟨_, _, [], rfl, upd_self _ _ _, PlO.lst _ _, Rds.nil, rfl, fun d hd => by cases hd⟩ ?_ ?_ ?_
  · rintro k G G' ow' m ⟨o, vs, ds, a, b, c, d, e⟩ kp
    exact ⟨o, vs, ds, a, b, c, d.mono kp, e⟩
  · rintro k u t G₄ ow₄ m₄ e eo I io s₄ Qb Eb ⟨o, vs, ds, rfl, hm, hpo, hd, hlen, hb⟩ hu hl₄ A₄ hbb
    obtain ⟨i, ti, rfl⟩ := hi k u hu
    have hvl : vs.size = ds.length := by have := hd.length; simpa using this
    have S₄ := S.mono A₄.gr
    have reassoc : ∀ o, (e, eo) :: (I, io) :: (dl, o) :: ow = [(e, eo), (I, io)] ++ (dl, o) :: ow := fun _ => rfl
    have kind : ∀ (n : Nat), ∃ r : Nat, ((n : Int)).fmod 10 = (r : Int) ∧ r < 10 := fun n => by
      have := fmod_bound (n : Int) (b := 10) (by decide)
      exact ⟨((n : Int).fmod 10).toNat, by omega, by omega⟩
    refine wpAny_execs_cons ?_
    refine wpAny_If ?_
    refine wpAny_isTrue_Compare1 ?_
    refine w_local A₄ (upd_ne (upd_self _ _ _)) ?_
    refine w_int fun t₅ tk₅ => ?_
    refine P.lt_int ?_
    refine wpAny_of_eq (a := decide ((k : Int) < 10)) (by rfl) ?_
    by_cases hk10 : (k : Int) < 10
    · rw [decide_eq_true hk10]
      show wpAny _ _ _ _ _ _
      refine wpAny_execs_cons ?_
      refine wpAny_Expr_any ?_
      refine methodCall_KW ?_
      refine w_local (s := { s₄ with toks := tk₅ }) A₄ (upd_ne (upd_ne hm)) ?_
      refine getMethod_list_append (s := { s₄ with toks := tk₅ }) (A₄.wd.own (dl, o) (by simp)) hpo.1 hpo.2.1 ?_
      refine callWith_method1 ?_
      refine wpAny_items_cons ?_
      refine wpAny_BinOp ?_
      refine w_local (s := { s₄ with toks := tk₅ }) A₄ (upd_self _ _ _) ?_
      refine w_int fun t₆ tk₆ => ?_
      refine w_mod (by decide) fun t₇ tk₇ => ?_
      refine wpAny_items_nil ?_
      rw [reassoc] at A₄
      refine w_append (s := { s₄ with toks := tk₇ }) A₄ hpo (by omega) fun h₈ o₈ A₈ p₈ _ => ?_
      refine wpAny_execs_nil ?_
      refine wpAny_execs_nil ?_
      have hbd := fmod_bound i (b := 40) (by decide)
      refine hbb h₈ tk₇ G₄ ((dl, o₈) :: ow) _ (stays_refl _) A₈ ⟨o₈, _, ds ++ [i.fmod 40], rfl, upd_ne (upd_ne hm), p₈, ?_, ?_, ?_⟩
      · rw [Array.toList_push, List.map_append]
        exact hd.append (Rds.cons (Rd.int _ _) Rds.nil)
      · simp; omega
      · intro d hd'
        rcases List.mem_append.mp hd' with hd' | hd'
        · exact hb d hd'
        · rw [List.mem_singleton.mp hd']; exact hbd
    · rw [decide_eq_false hk10]
      show wpAny _ _ _ _ _ _
      obtain ⟨r, hr, hr10⟩ := kind k
      have hl10 : ds.length = 10 := by omega
      refine wpAny_execs_cons ?_
      refine wpAny_Assign_Subscript ?_
      refine wpAny_BinOp ?_
      refine wpAny_BinOp ?_
      refine wpAny_BinOp ?_
      refine Subscript_ ?_
      refine w_local (s := { s₄ with toks := tk₅ }) A₄ (upd_ne (upd_ne hm)) ?_
      refine wpAny_BinOp ?_
      refine w_local (s := { s₄ with toks := tk₅ }) A₄ (upd_ne (upd_self _ _ _)) ?_
      refine w_int fun t₆ tk₆ => ?_
      refine w_mod (by decide) fun t₇ tk₇ => ?_
      rw [hr]
      have hrv : r < vs.toList.length := by simp; omega
      obtain ⟨dd, hd1, hd2⟩ := (Rds.all2.mp hd).get (List.getElem?_eq_getElem hrv)
      rw [List.getElem?_map] at hd1
      have hrd : r < ds.length := by omega
      rw [List.getElem?_eq_getElem hrd] at hd1
      cases hd1
      obtain ⟨tt, hv⟩ := hd2.int_inv
      have hbr := hb _ (List.getElem_mem hrd)
      refine item_listL (s := { s₄ with toks := tk₇ }) (l := vs.toList) (by simpa using hpo.isList (A₄.wd.own (dl, o) (by simp))) (by omega) (by omega) (by rw [Int.toNat_natCast, List.getElem?_eq_getElem hrv, hv]) ?_
      refine w_int fun t₈ tk₈ => ?_
      refine w_mul (bits_small hbr.1 (by omega)) fun t₉ tk₉ => ?_
      refine w_local (s := { s₄ with toks := tk₉ }) A₄ (upd_self _ _ _) ?_
      refine w_add fun t₁₀ tk₁₀ => ?_
      refine w_int fun t₁₁ tk₁₁ => ?_
      refine w_mod (by decide) fun t₁₂ tk₁₂ => ?_
      refine w_local (s := { s₄ with toks := tk₁₂ }) A₄ (upd_ne (upd_ne hm)) ?_
      refine wpAny_BinOp ?_
      refine w_local (s := { s₄ with toks := tk₁₂ }) A₄ (upd_ne (upd_self _ _ _)) ?_
      refine w_int fun t₁₃ tk₁₃ => ?_
      refine w_mod (by decide) fun t₁₄ tk₁₄ => ?_
      rw [hr]
      rw [reassoc] at A₄
      refine w_setItem (s := { s₄ with toks := tk₁₄ }) A₄ hpo (by omega) (by omega) fun h₈ o₈ A₈ p₈ _ => ?_
      refine wpAny_execs_nil ?_
      refine wpAny_execs_nil ?_
      have hbd := fmod_bound (ds[r] * 7 + i) (b := 40) (by decide)
      refine hbb h₈ tk₁₄ G₄ ((dl, o₈) :: ow) _ (stays_refl _) A₈ ⟨o₈, _, ds.set r ((ds[r] * 7 + i).fmod 40), rfl, upd_ne (upd_ne hm), p₈, ?_, ?_, ?_⟩
      · rw [Array.toList_setIfInBounds, List.map_set]
        exact Rds.all2.mpr ((Rds.all2.mp hd).set (Rd.int _ _) r)
      · simp; omega
      · intro d hd'
        rcases List.mem_or_eq_of_mem_set hd' with hd' | rfl
        · exact hb d hd'
        · exact hbd
  · rintro h' tk G' ow' m' A' ⟨o, vs, ds, rfl, hm, hpo, hd, hlen, hb⟩
    refine wpAny_execs_cons ?_
    refine wpAny_Return_some ?_
    refine w_local (s := { s with heap := h', toks := tk }) A' hm ?_
    have ndd := A'.wd.nd
    simp only [List.map_cons, List.nodup_cons] at ndd
    obtain ⟨G₉, g9, l₉, q9⟩ := A'.leave (ow' := ow) (fun p hp => .tail _ hp) ndd.2
    refine h dl G₉ h' tk ds l₉ (Rd.list (hpo.isList (q9 (dl, o) (by simp) ndd.1)) (hd.mono g9)) (by omega) hb
  · intro Q' hQ
    refine w_call ?_
    refine w_builtin (s := { s with heap := h₃, toks := tk₃ }) A₃ S ne (by boot_by_name) ?_
    refine w_callType ?_
    refine wpAny_items_cons ?_
    refine w_local (s := { s with heap := h₃, toks := tk₃ }) A₃ (upd_ne rfl) ?_
    exact wpAny_items_nil hQ
end

def kidsOf (h : Nat) (d : Int) : Nat := min (d.fmod 4).toNat h
def rowsOf : Nat → List Int → List (Int × Nat)
  | _, [] => []
  | h, d :: ds => (d.fdiv 4, kidsOf h d) :: rowsOf (h + 1 - kidsOf h d) ds
def heightOf : Nat → List Int → Nat
  | h, [] => h
  | h, d :: ds => heightOf (h + 1 - kidsOf h d) ds
theorem kids_le (h : Nat) (d : Int) : kidsOf h d ≤ h := Nat.min_le_right _ _
theorem okR_rowsOf : ∀ (ds : List Int) (h : Nat), okR h (rowsOf h ds)
  | [], _ => trivial
  | d :: ds, h => ⟨kids_le h d, okR_rowsOf ds _⟩
theorem rowsOf_len : ∀ (ds : List Int) (h : Nat), (rowsOf h ds).length = ds.length
  | [], _ => rfl
  | d :: ds, h => by rw [rowsOf, List.length_cons, List.length_cons, rowsOf_len ds]
theorem rowsOf_append : ∀ (a b : List Int) (h : Nat), rowsOf h (a ++ b) = rowsOf h a ++ rowsOf (heightOf h a) b
  | [], _, _ => rfl
  | d :: a, b, h => by rw [List.cons_append, rowsOf, rowsOf, heightOf, rowsOf_append a b, List.cons_append]
theorem heightOf_append : ∀ (a b : List Int) (h : Nat), heightOf h (a ++ b) = heightOf (heightOf h a) b
  | [], _, _ => rfl
  | d :: a, b, h => by rw [List.cons_append, heightOf, heightOf, heightOf_append a b]

section
variable {prog : Program} {w : World} {mg mb : Str → Option Value} {A : Around} {E : Value → Shared → Prop} {s : Shared} {fs : List Env} {G : Heap} {ow : List (Addr × Obj)} {Q : Value → Shared → Prop}
def RowInv (ns : List Int) (rl : Addr) (ow : List (Addr × Obj)) (k : Nat) (G : Heap) (ow' : List (Addr × Obj)) (m : Str → Option Value) : Prop :=
  ∃ (o : Obj) (vs : Array Value) (t : Tok), ow' = (rl, o) :: ow ∧ m (Str.ofString "rows") = some (.ref rl) ∧ m (Str.ofString "height") = some (.int (heightOf 0 (ns.take k) : Nat) t) ∧ PlO vs o ∧ Rds G vs.toList (rowsD (rowsOf 0 (ns.take k)))

theorem rows_spec {fa da : Addr} {ns : List Int} (F : FnI G 8 fa) (S : Sta mg mb G) (ne : mg "min" = none) (hA : Ar A fs 2 20) (W : Wd fs G ow s.heap) (hd : Rd G (.ref da) (.list (ns.map .int))) (hz : ns.length ≤ 1000)
    (h : ∀ r G' h' tk, Lf fs G s.heap G' ow h' → Rd G' (.ref r) (.list (rowsD (rowsOf 0 ns))) → Q (.ref r) { s with heap := h', toks := tk }) :
    wpAny (model prog w) A (call (.ref fa) [.ref da]) Q E s := by
  obtain ⟨_, dv, e, hl, hr⟩ := hd.list_inv
  cases e
  have hdl : dv.size = ns.length := by have := hr.length; simpa using this
  refine call_fn (binds := [(Str.ofString "draws", .ref da)]) W (by have := hA.dp; omega) S.lim F (fun _ _ _ _ _ => rfl) rfl (fun L cdv h₁ hL₁ hk AT => ?_) (by decide +kernel) rfl rfl rfl
  refine wpAny_execs_cons ?_
  refine wpAny_Assign_Name ?_
  refine w_List ?_
  refine wpAny_items_nil ?_
  refine w_newListOwn AT (by simp) fun rl h₂ nd A₂ => ?_
  refine w_set A₂ fun h₃ tk₃ A₃ => ?_
  refine wpAny_execs_cons ?_
  refine wpAny_Assign_Name ?_
  refine w_int fun t₄ tk₄ => ?_
  refine w_set (s := { s with heap := h₃, toks := tk₄ }) A₃ fun h₅ tk₅ A₅ => ?_
  refine wpAny_execs_cons ?_
  refine w_for (s := { s with heap := h₅, toks := tk₅ }) (A := A.deeper _) hA.hd (RowInv ns rl ow) A₅ hl ⟨_, _, t₄, rfl, upd_ne (upd_self _ _ _), upd_self _ _ _, PlO.lst _ _, Rds.nil⟩ ?_ ?_ ?_
  · rintro k u G₄ ow₄ m₄ I io s₄ Qb Eb ⟨o, vs, th, rfl, hm, hmh, hpo, hrd⟩ hu hl₄ A₄ hbb
    have hu' : dv.toList[k]? = some u := by simpa using hu
    obtain ⟨dd, hd1, hd2⟩ := (Rds.all2.mp hr).get hu'
    rw [List.getElem?_map] at hd1
    cases qn : ns[k]? with
    | none => rw [qn] at hd1; cases hd1
    | some n =>
      rw [qn] at hd1
      cases hd1
      obtain ⟨tn, rfl⟩ := hd2.int_inv
      have S₄ := S.mono A₄.gr
      have hvl : vs.size = (rowsOf 0 (ns.take k)).length := by have := hrd.length; simpa [rowsD] using this
      have hkn : k < ns.length := (List.getElem?_eq_some_iff.mp qn).1
      rw [rowsOf_len, List.length_take] at hvl
      have et : ns.take (k + 1) = ns.take k ++ [n] := by rw [List.take_add_one, qn]; rfl
      have er : rowsOf 0 (ns.take (k + 1)) = rowsOf 0 (ns.take k) ++ [(n.fdiv 4, kidsOf (heightOf 0 (ns.take k)) n)] := by rw [et, rowsOf_append]; rfl
      have eh : heightOf 0 (ns.take (k + 1)) = heightOf 0 (ns.take k) + 1 - kidsOf (heightOf 0 (ns.take k)) n := by rw [et, heightOf_append]; rfl
      generalize hhh : heightOf 0 (ns.take k) = H at *
      have hb4 := fmod_bound n (b := 4) (by decide)
      have hkid : ((kidsOf H n : Nat) : Int) = min (n.fmod 4) (H : Int) := by unfold kidsOf; omega
      refine wpAny_execs_cons ?_
      refine wpAny_Assign_Name ?_
      refine w_call ?_
      refine w_builtin A₄ S₄ ne (by boot_by_name) ?_
      refine w_callBuiltin ?_
      refine wpAny_items_cons ?_
      refine wpAny_BinOp ?_
      refine w_local A₄ (upd_self _ _ _) ?_
      refine w_int fun t₅ tk₅ => ?_
      refine w_mod (by decide) fun t₆ tk₆ => ?_
      refine wpAny_items_cons ?_
      refine w_local (s := { s₄ with toks := tk₆ }) A₄ (upd_ne hmh) ?_
      refine wpAny_items_nil ?_
      refine min_two_ints (s := { s₄ with toks := tk₆ }) hA.hd fun h₇ tk₇ k₇ => ?_
      have emin : ∃ tm, (if (H : Int) < n.fmod 4 then Value.int (H : Int) th else Value.int (n.fmod 4) t₆) = .int ((kidsOf H n : Nat) : Int) tm := by
        by_cases hc : (H : Int) < n.fmod 4
        · exact ⟨th, by rw [if_pos hc, hkid]; congr 1; omega⟩
        · exact ⟨t₆, by rw [if_neg hc, hkid]; congr 1; omega⟩
      obtain ⟨tm, em⟩ := emin
      rw [em]
      have A₇ := A₄.keeps k₇
      refine w_set (s := { s₄ with heap := h₇, toks := tk₇ }) A₇ fun h₈ tk₈ A₈ => ?_
      refine wpAny_execs_cons ?_
      refine wpAny_Expr_any ?_
      refine methodCall_KW ?_
      refine w_local (s := { s₄ with heap := h₈, toks := tk₈ }) A₈ (upd_ne (upd_ne hm)) ?_
      refine getMethod_list_append (s := { s₄ with heap := h₈, toks := tk₈ }) (A₈.wd.own (rl, o) (by simp)) hpo.1 hpo.2.1 ?_
      refine callWith_method1 ?_
      refine wpAny_items_cons ?_
      refine w_Tuple ?_
      refine wpAny_items_cons ?_
      refine wpAny_BinOp ?_
      refine w_local (s := { s₄ with heap := h₈, toks := tk₈ }) A₈ (upd_ne (upd_self _ _ _)) ?_
      refine w_int fun t₉ tk₉ => ?_
      refine w_fdiv (by decide) (PyProof.noPylong_small (by decide)) fun t₁₀ tk₁₀ => ?_
      refine wpAny_items_cons ?_
      refine w_local (s := { s₄ with heap := h₈, toks := tk₁₀ }) A₈ (upd_self _ _ _) ?_
      refine wpAny_items_nil ?_
      refine w_newTuple (s := { s₄ with heap := h₈, toks := tk₁₀ }) A₈ (by simp) fun ta G₁₁ h₁₁ le₁₁ A₁₁ e₁₁ => ?_
      refine wpAny_items_nil ?_
      have reassoc : (I, io) :: (rl, o) :: ow = [(I, io)] ++ (rl, o) :: ow := rfl
      rw [reassoc] at A₁₁
      refine w_append (s := { s₄ with heap := h₁₁, toks := tk₁₀ }) A₁₁ hpo (by omega) fun h₁₂ o₁₂ A₁₂ p₁₂ _ => ?_
      refine wpAny_execs_cons ?_
      refine wpAny_AugAssign_Name ?_
      refine wpAny_loadName_local rfl rfl A₁₂.ns (upd_ne (upd_ne hmh)) ?_
      refine wpAny_BinOp ?_
      refine w_int fun t₁₃ tk₁₃ => ?_
      refine w_local (s := { s₄ with heap := h₁₂, toks := tk₁₃ }) A₁₂ (upd_self _ _ _) ?_
      refine w_sub fun t₁₄ tk₁₄ => ?_
      refine w_iadd fun t₁₅ tk₁₅ => ?_
      have hkl := kids_le H n
      have eH : (H : Int) + (1 - ((kidsOf H n : Nat) : Int)) = ((H + 1 - kidsOf H n : Nat) : Int) := by omega
      rw [eH]
      refine w_set (s := { s₄ with heap := h₁₂, toks := tk₁₅ }) A₁₂ fun h₁₆ tk₁₆ A₁₆ => ?_
      refine wpAny_execs_nil ?_
      refine hbb h₁₆ tk₁₆ G₁₁ ((rl, o₁₂) :: ow) _ le₁₁ A₁₆ ⟨o₁₂, _, t₁₅, rfl, upd_ne (upd_ne (upd_ne hm)), by rw [eh]; exact upd_self _ _ _, p₁₂, ?_⟩
      rw [er, Array.toList_push]
      unfold rowsD at hrd ⊢
      rw [List.map_append]
      exact (hrd.mono le₁₁).append (Rds.cons (Rd.tup e₁₁ (Rds.cons (Rd.int _ _) (Rds.cons (Rd.int _ _) Rds.nil))) Rds.nil)
  · rintro h' tk G' ow' m' A' ⟨o, vs, th, rfl, hm, hmh, hpo, hrd⟩
    rw [hdl, List.take_length] at hrd
    refine wpAny_execs_cons ?_
    refine wpAny_Return_some ?_
    refine w_local (s := { s with heap := h', toks := tk }) A' hm ?_
    have ndd := A'.wd.nd
    simp only [List.map_cons, List.nodup_cons] at ndd
    obtain ⟨G₉, g9, l₉, q9⟩ := A'.leave (ow' := ow) (fun p hp => .tail _ hp) ndd.2
    refine h rl G₉ h' tk l₉ (Rd.list (hpo.isList (q9 (rl, o) (by simp) ndd.1)) (hrd.mono g9))
  · intro Q' hQ
    refine w_local (s := { s with heap := h₅, toks := tk₅ }) A₅ (upd_ne (upd_ne rfl)) hQ
end

mutual
def rt : T → List (Int × Nat)
  | .node l ks => rts ks ++ [(l, ks.length)]
def rts : List T → List (Int × Nat)
  | [] => []
  | k :: r => rt k ++ rts r
end
theorem rowsD_append (a b : List (Int × Nat)) : rowsD (a ++ b) = rowsD a ++ rowsD b := List.map_append
mutual
theorem wr_rt : ∀ t, wr t = rowsD (rt t)
  | .node l ks => by rw [wr, rt, rowsD_append, wrs_rts ks]; rfl
theorem wrs_rts : ∀ ks, wrs ks = rowsD (rts ks)
  | [] => by rw [wrs, rts]; rfl
  | k :: r => by rw [wrs, rts, rowsD_append, wr_rt k, wrs_rts r]
end
theorem rts_append : ∀ a b : List T, rts (a ++ b) = rts a ++ rts b
  | [], b => by rw [rts]; rfl
  | k :: r, b => by rw [List.cons_append, rts, rts, rts_append r b, List.append_assoc]
theorem rts_len (ks : List T) : (rts ks).length = nds ks := by
  have := congrArg List.length (wrs_rts ks)
  rw [wrs_len] at this
  simpa [rowsD] using this.symm
theorem rt_len (t : T) : (rt t).length = nd t := by
  have := congrArg List.length (wr_rt t)
  rw [wr_len] at this
  simpa [rowsD] using this.symm

theorem takeP_append (p ks : List T) (l : Int) : takeP (p ++ ks) l ks.length = p ++ [.node l ks] := by
  unfold takeP takeB
  have e : (p ++ ks).length - ks.length = p.length := by simp
  rw [e, List.take_left, List.drop_left]
mutual
theorem pile_rt : ∀ (t : T) (p : List T) (rest : List (Int × Nat)), pileR p (rt t ++ rest) = pileR (p ++ [t]) rest
  | .node l ks, p, rest => by
    rw [rt, List.append_assoc, pile_rts ks, List.singleton_append, pileR, takeP_append]
theorem pile_rts : ∀ (ks p : List T) (rest : List (Int × Nat)), pileR p (rts ks ++ rest) = pileR (p ++ ks) rest
  | [], p, rest => by rw [rts]; simp
  | k :: r, p, rest => by rw [rts, List.append_assoc, pile_rt k, pile_rts r]; simp
end
mutual
theorem ok_rt : ∀ (t : T) (h : Nat) (rest : List (Int × Nat)), okR (h + 1) rest → okR h (rt t ++ rest)
  | .node l ks, h, rest, hr => by
    rw [rt, List.append_assoc]
    refine ok_rts ks h _ ⟨?_, ?_⟩
    · show ks.length ≤ h + ks.length
      omega
    · show okR (h + ks.length + 1 - ks.length) rest
      have e : h + ks.length + 1 - ks.length = h + 1 := by omega
      rw [e]; exact hr
theorem ok_rts : ∀ (ks : List T) (h : Nat) (rest : List (Int × Nat)), okR (h + ks.length) rest → okR h (rts ks ++ rest)
  | [], h, rest, hr => by rw [rts]; simpa using hr
  | k :: r, h, rest, hr => by
    rw [rts, List.append_assoc]
    refine ok_rt k h _ (ok_rts r (h + 1) rest ?_)
    rw [List.length_cons] at hr
    have e : h + 1 + r.length = h + (r.length + 1) := by omega
    rw [e]; exact hr
end
theorem pile_forest (ks : List T) : pileR [] (rts ks) = ks := by
  have := pile_rts ks [] []
  rw [List.append_nil, List.nil_append] at this
  exact this
theorem ok_forest (ks : List T) : okR 0 (rts ks) := by
  have := ok_rts ks 0 [] trivial
  rwa [List.append_nil] at this
theorem rts_one (t : T) : rts [t] = rt t := by rw [rts, rts, List.append_nil]

theorem rt_takeB (p : List T) (l : Int) (k : Nat) (hk : k ≤ p.length) : rt (takeB p l k) = rts (p.drop (p.length - k)) ++ [(l, k)] := by
  unfold takeB
  rw [rt]
  have e : (p.drop (p.length - k)).length = k := by simp; omega
  rw [e]
theorem rts_takeP (p : List T) (l : Int) (k : Nat) (hk : k ≤ p.length) : rts (takeP p l k) = rts p ++ [(l, k)] := by
  unfold takeP
  rw [rts_append, rts_one, rt_takeB p l k hk, ← List.append_assoc, ← rts_append, List.take_append_drop]
theorem rts_pile : ∀ (rs : List (Int × Nat)) (p : List T), okR p.length rs → rts (pileR p rs) = rts p ++ rs
  | [], p, _ => by rw [pileR, List.append_nil]
  | r :: rs, p, h => by
    rw [pileR, rts_pile rs _ (by rw [takeP_len _ _ _ h.1]; exact h.2), rts_takeP p r.1 r.2 h.1, List.append_assoc]
    rfl

mutual
theorem back_rt : ∀ (t : T) (rest : List (Int × Nat)) (m : Nat), back ((rt t).reverse ++ rest) (m + 1) = (back rest m).map (· + (rt t).length)
  | .node l ks, rest, m => by
    rw [rt, List.reverse_append, List.reverse_singleton, List.singleton_append, List.cons_append, back]
    show (back ((rts ks).reverse ++ rest) (m + ks.length)).map (· + 1) = _
    rw [Nat.add_comm m ks.length, back_rts ks rest m, List.length_append]
    cases back rest m <;> simp [Nat.add_assoc]
theorem back_rts : ∀ (ks : List T) (rest : List (Int × Nat)) (m : Nat), back ((rts ks).reverse ++ rest) (ks.length + m) = (back rest m).map (· + (rts ks).length)
  | [], rest, m => by rw [rts]; simp
  | k :: r, rest, m => by
    rw [rts, List.reverse_append, List.append_assoc, List.length_cons]
    have e : r.length + 1 + m = r.length + (m + 1) := by omega
    rw [e, back_rts r _ (m + 1), back_rt k rest m, List.length_append]
    cases back rest m <;> simp [Nat.add_assoc, Nat.add_comm]
end

theorem stretch_pure : ∀ (rs : List (Int × Nat)) (p : List T), okR p.length rs → ∀ (j : Nat) (r : Int × Nat), rs[j]? = some r →
    ∃ c t, (brs p rs)[j]? = some t ∧ back (((rts p ++ rs).take ((rts p).length + j)).reverse) r.2 = some c ∧ stretchOf (rowsD (rts p ++ rs)) ((rts p).length + j) c = wr t ∧ nd t ≤ (rts p).length + j + 1
  | [], p, _, j, r, h => by simp at h
  | r :: rs, p, hok, 0, r', h => by
    simp at h
    subst h
    refine ⟨(rts (p.drop (p.length - r.2))).length, takeB p r.1 r.2, by rw [brs]; rfl, ?_, ?_, ?_⟩
    · rw [Nat.add_zero, List.take_left]
      have e : rts p = rts (p.take (p.length - r.2)) ++ rts (p.drop (p.length - r.2)) := by rw [← rts_append, List.take_append_drop]
      rw [e, List.reverse_append]
      have hl : (p.drop (p.length - r.2)).length = r.2 := by have := hok.1; simp; omega
      have := back_rts (p.drop (p.length - r.2)) (rts (p.take (p.length - r.2))).reverse 0
      rw [hl, Nat.add_zero] at this
      rw [this, back]
      simp
    · rw [wr_rt, rt_takeB p r.1 r.2 hok.1]
      unfold stretchOf
      show List.take _ (List.drop ((rts p).length - _) _) = _
      have e : rts p = rts (p.take (p.length - r.2)) ++ rts (p.drop (p.length - r.2)) := by rw [← rts_append, List.take_append_drop]
      have e2 : (rts p).length - (rts (p.drop (p.length - r.2))).length = (rts (p.take (p.length - r.2))).length := by rw [e, List.length_append]; omega
      rw [e2]
      unfold rowsD
      rw [← List.map_drop, ← List.map_take, e, List.append_assoc, List.drop_left]
      have e3 : rts (p.drop (p.length - r.2)) ++ r :: rs = (rts (p.drop (p.length - r.2)) ++ [r]) ++ rs := by simp
      rw [e3, List.take_left' (by simp)]
    · rw [← rt_len, rt_takeB p r.1 r.2 hok.1, List.length_append]
      have e : rts p = rts (p.take (p.length - r.2)) ++ rts (p.drop (p.length - r.2)) := by rw [← rts_append, List.take_append_drop]
      rw [e, List.length_append]
      simp
  | r :: rs, p, hok, j + 1, r', h => by
    have h' : rs[j]? = some r' := by simpa using h
    obtain ⟨c, t, a1, a2, a3, a4⟩ := stretch_pure rs (takeP p r.1 r.2) (by rw [takeP_len _ _ _ hok.1]; exact hok.2) j r' h'
    have e := rts_takeP p r.1 r.2 hok.1
    have e1 : rts (takeP p r.1 r.2) ++ rs = rts p ++ r :: rs := by rw [e, List.append_assoc]; rfl
    have e2 : (rts (takeP p r.1 r.2)).length + j = (rts p).length + (j + 1) := by rw [e]; simp; omega
    rw [e1, e2] at a2 a3
    rw [e2] at a4
    exact ⟨c, t, by rw [brs]; simpa using a1, a2, a3, a4⟩

mutual
theorem tn_tn : ∀ t, tn (tn t) = t
  | .node l ks => by rw [tn, tn, tns_tns ks]
theorem tns_tns : ∀ ks, tns (tns ks) = ks
  | [] => by rw [tns, tns]
  | k :: r => by
    have h1 := tns_tns r
    rw [tns_eq (tns r)] at h1
    rw [tns, tns_eq (tns r ++ [tn k]), List.reverse_append, List.map_append, h1]
    simp [tn_tn k]
end
theorem wrs_append (a b : List T) : wrs (a ++ b) = wrs a ++ wrs b := by rw [wrs_rts, wrs_rts, wrs_rts, rts_append, rowsD_append]
theorem tns_len (ks : List T) : (tns ks).length = ks.length := by rw [tns_eq]; simp
theorem wrs_one (t : T) : wrs [t] = wr t := by rw [wrs, wrs, List.append_nil]
mutual
theorem wr_tn : ∀ t, wr (tn t) = (ft t).reverse
  | .node l ks => by rw [tn, wr, ft, tns_len, wrs_tns ks]; simp
theorem wrs_tns : ∀ ks, wrs (tns ks) = (fts ks).reverse
  | [] => by rw [tns, wrs, fts]; rfl
  | k :: r => by rw [tns, wrs_append, wrs_one, fts, wrs_tns r, wr_tn k, List.reverse_append]
end
theorem nd_tn (t : T) : nd (tn t) = nd t := by rw [← wr_len, wr_tn, List.length_reverse, ft_len]
theorem nds_tns (ks : List T) : nds (tns ks) = nds ks := by rw [← wrs_len, wrs_tns, List.length_reverse, fts_len]

mutual
theorem lay_enc : ∀ t, PyData.canLay0 (enc t) = true
  | .node l ks => by rw [enc]; simp [PyData.canLay0, PyData.canLayAll0, lay_encs ks]
theorem lay_encs : ∀ ks, PyData.canLayAll0 (encs ks) = true
  | [] => by rw [encs, PyData.canLayAll0]
  | k :: r => by rw [encs, PyData.canLayAll0, lay_enc k, lay_encs r]; rfl
end
mutual
theorem dep_enc : ∀ t, PyData.depth (enc t) ≤ 2 * nd t
  | .node l ks => by
    have := dep_encs ks
    rw [enc, nd]
    simp only [PyData.depth, PyData.depthAll]
    omega
theorem dep_encs : ∀ ks, PyData.depthAll (encs ks) ≤ 2 * nds ks
  | [] => by rw [encs, PyData.depthAll]; omega
  | k :: r => by
    have h1 := dep_enc k
    have h2 := dep_encs r
    rw [encs, PyData.depthAll, nds]
    omega
end
theorem lay_rows : ∀ rs, PyData.canLayAll0 (rowsD rs) = true
  | [] => by simp [rowsD, PyData.canLayAll0]
  | r :: rs => by
    have := lay_rows rs
    unfold rowsD at this ⊢
    rw [List.map_cons, PyData.canLayAll0, this]
    simp [rowD, PyData.canLay0, PyData.canLayAll0]
theorem dep_rows : ∀ rs, PyData.depthAll (rowsD rs) ≤ 1
  | [] => by simp [rowsD, PyData.depthAll]
  | r :: rs => by
    have := dep_rows rs
    have e : rowsD (r :: rs) = rowD r.1 r.2 :: rowsD rs := rfl
    have e2 : PyData.depth (rowD r.1 r.2) ≤ 1 := by simp [rowD, PyData.depth, PyData.depthAll]
    rw [e, PyData.depthAll]
    omega
theorem lay_wrs : ∀ ks : List T, PyData.canLayAll0 (ks.map fun k => .list (wr k)) = true
  | [] => by rw [List.map_nil, PyData.canLayAll0]
  | k :: r => by rw [List.map_cons, PyData.canLayAll0, lay_wrs r, wr_rt]; simp [PyData.canLay0, lay_rows]
theorem dep_wrs : ∀ ks : List T, PyData.depthAll (ks.map fun k => .list (wr k)) ≤ 2
  | [] => by rw [List.map_nil, PyData.depthAll]; omega
  | k :: r => by
    have h1 := dep_wrs r
    have h2 := dep_rows (rt k)
    rw [List.map_cons, PyData.depthAll, wr_rt]
    simp only [PyData.depth]
    omega
theorem lay_list {xs : List PyData} (h : PyData.canLayAll0 xs = true) : PyData.canLay0 (.list xs) = true := by simpa [PyData.canLay0] using h
theorem dep_list {xs : List PyData} {n : Nat} (h : PyData.depthAll xs ≤ n) : PyData.depth (.list xs) ≤ n + 1 := by simp only [PyData.depth]; omega

section
variable {prog : Program} {w : World} {A : Around} {E : Value → Shared → Prop} {s : Shared} {G : Heap} {Q : Value → Shared → Prop}
theorem w_ne {a b : Value} {d : PyData} {n : Nat} (ra : Rd G a d) (rb : Rd G b d) (k : G.StaysIn s.heap) (hl : d.canLay0 = true) (hd : d.depth ≤ n) (hu : A.units + n < cLine) (h : Q (.bool false) s) :
    wpAny (model prog w) A (compareOp .NotEq a b) Q E s := by
  obtain ⟨as, ra⟩ := ra.mono k
  obtain ⟨bs, rb⟩ := rb.mono k
  refine SeqAt.compareNe_reads ra rb hl hl (by omega) ?_
  rw [SeqAt.eqv_refl d hl]
  exact h
theorem w_eq {a b : Value} {d : PyData} {n : Nat} (ra : Rd G a d) (rb : Rd G b d) (k : G.StaysIn s.heap) (hl : d.canLay0 = true) (hd : d.depth ≤ n) (hu : A.units + n < cLine) (h : Q (.bool true) s) :
    wpAny (model prog w) A (compareOp .Eq a b) Q E s := by
  obtain ⟨as, ra⟩ := ra.mono k
  obtain ⟨bs, rb⟩ := rb.mono k
  refine SeqAt.compareEq_reads ra rb hl hl (by omega) ?_
  rw [SeqAt.eqv_refl d hl]
  exact h
end

section
variable {prog : Program} {w : World} {mg mb : Str → Option Value} {A : Around} {E : Value → Shared → Prop} {s : Shared} {X : Ent} {G : Heap}
/-- all that law 2's law leans on -/
structure LawS (K : Frag) (mg mb : Str → Option Value) (a : Adr) (C fI fT fN cR P : Addr) (G : Heap) : Prop where
  r : ReadS K mg mb a C fI fT fN cR P G
  f : Fns a G
  f7 : FnI G 7 a.f7
  f8 : FnI G 8 a.f8
theorem LawS.mono {K : Frag} {a : Adr} {C fI fT fN cR P : Addr} : ∀ G G', LawS K mg mb a C fI fT fN cR P G → G.StaysIn G' → LawS K mg mb a C fI fT fN cR P G' :=
  fun _ _ h k => ⟨ReadS.mono _ _ h.r k, h.f.mono k, h.f7.mono k, h.f8.mono k⟩
structure LawN (mg : Str → Option Value) : Prop where
  enum : mg "enumerate" = none
  min : mg "min" = none
  range : mg "range" = none

abbrev lawE (L fa : Addr) (cdv : Value) : Env := envX (fdName (stm 15)) (fdScope (stm 15)) L fa cdv (cellsFrom (L + 1) (fdScope (stm 15)).names [])
def rowsL (ds : List Int) : List (Int × Nat) := rowsOf 0 (ds ++ [0, 4, 2])
theorem rowsL_len (ds : List Int) : (rowsL ds).length = ds.length + 3 := by unfold rowsL; rw [rowsOf_len]; simp
theorem rowsL_ok (ds : List Int) : okR 0 (rowsL ds) := okR_rowsOf _ _

theorem law_rows {K : Frag} {a : Adr} {C fI fT fN cR P L fa sa : Addr} {cdv : Value} {co : Obj} {tab : Obj} {m : Str → Option Value} {sv : Array Value} {Q : Flow → Shared → Prop}
    (N : Nms mg a) (NL : LawN mg) (hG : LawS K mg mb a C fI fT fN cR P G) (hA : Ar A (lawE L fa cdv :: X.fs) 100 2000) (AT : At X G ((L + 1, co) :: (P, tab) :: []) (lawE L fa cdv) m s.heap) (hco : ∃ v, co.data = .cell v)
    (hm : m (Str.ofString "script") = some (.ref sa)) (hl : G.IsList sa sv) (hi : ∀ (k : Nat) (v : Value), sv[k]? = some v → ∃ i t, v = .int i t) (hz : sv.size ≤ 100000)
    (h : ∀ (ds : List Int) ra co' G' h' tk, ds.length ≤ 10 → G.StaysIn G' → At X G' ((L + 1, co') :: (P, tab) :: []) (lawE L fa cdv) m h' → co'.data = .cell (some (.ref ra)) → Rd G' (.ref ra) (.list (rowsD (rowsL ds))) → Q .next { s with heap := h', toks := tk }) :
    wpAny (model prog w) A (exec ((fdBody (stm 15)).getD 0 (.Pass default)) (lawE L fa cdv)) Q E s := by
  refine wpAny_Assign_Name ?_
  refine w_call ?_
  refine w_global AT hG.r.st N.f8 ?_
  refine w_callFn hG.f8 ?_
  refine wpAny_items_cons ?_
  refine wpAny_BinOp ?_
  refine w_call ?_
  refine w_global AT hG.r.st N.f7 ?_
  refine w_callFn hG.f7 ?_
  refine wpAny_items_cons ?_
  refine w_local AT hm ?_
  refine wpAny_items_nil ⟨AT.keep, ?_⟩
  refine draws_spec hG.f7 hG.r.st NL.enum (hA.less (by omega) (by omega)) AT.wd hl hi hz fun d1 G₁ h₁ tk₁ ds L₁ r₁ hdl hdb => ?_
  have A₁ := AT.back L₁
  refine w_List ?_
  refine wpAny_items_cons ?_
  refine w_int fun t₂ tk₂ => ?_
  refine wpAny_items_cons ?_
  refine w_int fun t₃ tk₃ => ?_
  refine wpAny_items_cons ?_
  refine w_int fun t₄ tk₄ => ?_
  refine wpAny_items_nil ?_
  refine w_newList (s := { s with heap := h₁, toks := tk₄ }) A₁ (by simp) fun l5 G₅ h₅ le₅ A₅ e₅ => ?_
  obtain ⟨_, vs1, e1, hl1, hr1⟩ := r₁.list_inv
  cases e1
  have hsz : vs1.size = ds.length := by have := hr1.length; simpa using this
  refine w_addLists (s := { s with heap := h₅, toks := tk₄ }) A₅ (isList_mono (isList_mono hl1 le₅) A₅.keep) (isList_mono e₅ A₅.keep) (by simp; omega) fun l6 G₆ h₆ le₆ A₆ e₆ => ?_
  have g6 := stays_trans (stays_trans L₁.gr le₅) le₆
  have S₆ := LawS.mono _ _ hG g6
  refine wpAny_items_nil ⟨stays_trans g6 A₆.keep, ?_⟩
  refine rows_spec (s := { s with heap := h₆, toks := tk₄ }) (ns := ds ++ [0, 4, 2]) S₆.f8 S₆.r.st NL.min (hA.less (by omega) (by omega)) A₆.wd (Rd.list e₆ ?_) (by simp; omega) fun ra G₇ h₇ tk₇ L₇ r₇ => ?_
  · rw [Array.toList_append, List.map_append]
    refine (hr1.mono (stays_trans le₅ le₆)).append ?_
    exact Rds.cons (Rd.int _ _) (Rds.cons (Rd.int _ _) (Rds.cons (Rd.int _ _) Rds.nil))
  have A₇ := A₆.back L₇
  obtain ⟨v0, hv0⟩ := hco
  refine wpAny_storeName_cell (s := { s with heap := h₇, toks := tk₇ }) (c := L + 1) rfl rfl rfl ⟨co, A₇.wd.own (L + 1, co) (by simp), hv0⟩ fun h₈ hc₈ hs₈ => ?_
  obtain ⟨co', hco1, hco2⟩ := hc₈
  have A₈ := A₇.put (pre := []) hs₈ hco1
  exact h ds ra co' G₇ h₈ tk₇ hdl (stays_trans g6 L₇.gr) A₈ hco2 r₇

theorem law_read1 {K : Frag} {a : Adr} {C fI fT fN pI pF cR P L fa ra : Addr} {cdv : Value} {co : Obj} {ps : Array Value} {m : Str → Option Value} {rws : List (Int × Nat)} {Q : Flow → Shared → Prop}
    (KX : StarK K C fI fT fN pI pF) (N : Nms mg a) (N' : StarN mg C) (hG : LawS K mg mb a C fI fT fN cR P G) (hA : Ar A (lawE L fa cdv :: X.fs) 100 2000) (AT : At X G ((L + 1, co) :: (P, tabObj ps) :: []) (lawE L fa cdv) m s.heap) (hco : co.data = .cell (some (.ref ra)))
    (hr : Rd G (.ref ra) (.list (rowsD rws))) (hok : okR 0 rws) (hz : rws.length ≤ 1000) (ht : TabSt (posOf tkS) tkQ G ps)
    (h : ∀ ps' v1 v2 G' h' tk, G.StaysIn G' → At X G' ((L + 1, co) :: (P, tabObj ps') :: []) (lawE L fa cdv) (upd (upd m (Str.ofString "branches") v1) (Str.ofString "forest") v2) h' → TabSt (posOf tkS) tkQ G' ps' →
      Rd G' v1 (.list ((brs [] rws).map enc)) → Rd G' v2 (.list ((pileR [] rws).map enc)) → Q .next { s with heap := h', toks := tk }) :
    wpAny (model prog w) A (exec ((fdBody (stm 15)).getD 1 (.Pass default)) (lawE L fa cdv)) Q E s := by
  refine Assign_Tuple ?_
  refine w_call ?_
  refine w_global AT hG.r.st N.f9 ?_
  refine w_callFn hG.r.f9 ?_
  refine wpAny_items_cons ?_
  refine w_cell (c := L + 1) rfl ⟨co, AT.wd.own (L + 1, co) (by simp), hco⟩ ?_
  refine wpAny_items_nil ⟨AT.keep, ?_⟩
  have pm : ∀ p, List.Perm ((L + 1, co) :: (P, tabObj p) :: []) ((P, tabObj p) :: (L + 1, co) :: []) := fun p => List.Perm.swap _ _ _
  refine read_spec KX N N' hG.r (hA.less (by omega) (by omega)) hr hok hz ht (AT.perm (pm ps)).wd fun r G₁ h₁ tk₁ ps₁ L₁ t₁ r₁ => ?_
  have A₁ := ((AT.perm (pm ps)).back L₁).perm (pm ps₁).symm
  obtain ⟨ta, o, vs, n, e, ho, hc, hd, hrs⟩ := r₁.tuple_inv
  cases e
  have r' := Rds.all2.mp hrs
  obtain ⟨vs⟩ := vs
  match vs, r', hd with
  | [v1, v2], .cons x (.cons y .nil), hd =>
    refine w_unpack2 (s := { s with heap := h₁, toks := tk₁ }) hA.hd A₁ ⟨o, n, ho, hc, hd⟩ fun h₂ A₂ => ?_
    exact h ps₁ v1 v2 G₁ h₂ _ L₁.gr A₂ t₁ x y

theorem law_want {K : Frag} {a : Adr} {C fI fT fN cR P L fa ra : Addr} {cdv : Value} {co : Obj} {tab : Obj} {m : Str → Option Value} {rws : List (Int × Nat)} {Q : Flow → Shared → Prop}
    (N : Nms mg a) (NL : LawN mg) (hG : LawS K mg mb a C fI fT fN cR P G) (hA : Ar A (lawE L fa cdv :: X.fs) 100 2000) (AT : At X G ((L + 1, co) :: (P, tab) :: []) (lawE L fa cdv) m s.heap) (hco : co.data = .cell (some (.ref ra)))
    (hr : Rd G (.ref ra) (.list (rowsD rws))) (hok : okR 0 rws) (hz : rws.length ≤ 1000)
    (h : ∀ v1 G' h' tk, G.StaysIn G' → At X G' ((L + 1, co) :: (P, tab) :: []) (lawE L fa cdv) (upd m (Str.ofString "want") v1) h' → Rd G' v1 (.list ((brs [] rws).map fun t => .list (wr t))) → Q .next { s with heap := h', toks := tk }) :
    wpAny (model prog w) A (exec ((fdBody (stm 15)).getD 2 (.Pass default)) (lawE L fa cdv)) Q E s := by
  obtain ⟨_, rv, e, hl, hd⟩ := hr.list_inv
  cases e
  have hrl : rv.size = rws.length := by have := hd.length; simpa [rowsD] using this
  refine w_compAssign (cl := [(Str.ofString "rows", L + 1)]) ?_
  refine w_call ?_
  refine w_builtin AT hG.r.st NL.range (by boot_by_name) ?_
  refine w_callType ?_
  refine wpAny_items_cons ?_
  refine w_call ?_
  refine w_builtin AT hG.r.st N.len (by boot_by_name) ?_
  refine w_callBuiltin ?_
  refine wpAny_items_cons ?_
  refine w_cell (c := L + 1) rfl ⟨co, AT.wd.own (L + 1, co) (by simp), hco⟩ ?_
  refine wpAny_items_nil ?_
  refine w_len' (isList_mono hl AT.keep) (by omega) fun t₁ tk₁ => ?_
  refine wpAny_items_nil ?_
  refine call_range_1 (s := { s with toks := tk₁ }) ?_
  have hsm : Builtin.Range.small 0 (rv.size : Int) 1 = true := small_one (by decide) (by decide) (by omega) (by omega)
  refine wpAny_pyIter_range (s := { s with heap := _, toks := _ }) (IsRange.new _ _ _ _ _ _ _) hsm ?_
  have A₁ := AT.keeps (h' := s.heap.push { cls := .type "range", data := .fields #[.int 0 tk₁, .int (rv.size : Int) t₁, .int 1 (tk₁ + 1)] }) fun _ _ e => Heap.get?_push_of_some _ e
  generalize s.heap.push { cls := .type "range", data := .fields #[.int 0 tk₁, .int (rv.size : Int) t₁, .int 1 (tk₁ + 1)] } = h₁ at *
  have ers : Builtin.Range.rangeSize 0 (rv.size : Int) 1 = (rv.size : Int) := by
    rw [rangeSize_one]
    split <;> omega
  rw [ers]
  have A₂ := A₁.own_new (h' := h₁.push (rgO 0 rv.size)) (fun _ _ e => Heap.get?_push_of_some _ e) (size_none _) (Heap.get?_push_size _ rfl)
  refine ⟨h₁.objs.size, rgO 0 rv.size, X, G, m, (L + 1, co) :: (P, tab) :: [], fun k io => io = rgO k rv.size, rv.size, fun k v => ∃ t, v = .int (k : Int) t, (brs [] rws).map fun t => .list (wr t), fun _ _ ow => ow = (L + 1, co) :: (P, tab) :: [],
    rfl, A₂, src_range hA.hd, rfl, by rw [List.length_map, brs_len, hrl], by omega, rfl, fun _ _ _ _ h _ => h, ?_, ?_⟩
  · rintro k v d C' oC L' ao io G' ow' s' Qe Ee hdk ⟨t, rfl⟩ rfl g' A' ⟨mC, hnC, hmC⟩ hk
    rw [List.getElem?_map] at hdk
    have hlt : k < rws.length := by
      rcases Nat.lt_or_ge k rws.length with hh | hh
      · exact hh
      · rw [List.getElem?_eq_none (by rw [brs_len]; exact hh)] at hdk; cases hdk
    obtain ⟨c, t', b1, b2, b3, b4⟩ := stretch_pure rws [] hok k _ (List.getElem?_eq_getElem hlt)
    rw [b1] at hdk
    cases hdk
    have er : rts [] = [] := by rw [rts]
    rw [er] at b2 b3 b4
    simp only [List.nil_append, List.length_nil, Nat.zero_add] at b2 b3 b4
    have S' := LawS.mono _ _ hG g'
    refine w_call ?_
    refine w_glob (G := G') A'.keep S'.r.st N.f14 ?_
    refine w_callFn S'.f.f14 ?_
    refine wpAny_items_cons ?_
    refine w_cell (c := L + 1) rfl ⟨co, A'.wd.own (L + 1, co) (by simp), hco⟩ ?_
    refine wpAny_items_cons ?_
    refine w_ns hnC rfl hmC ?_
    refine wpAny_items_nil ⟨A'.keep, ?_⟩
    refine stretch_spec S'.f.f14 S'.r.st (hA.less (by omega) (by omega)) A'.wd (hr.mono g') (l := rws[k].1) (k := rws[k].2) (List.getElem?_eq_getElem hlt) b2 hz fun r G₂ h₂ tk₂ L₂ r₂ => ?_
    rw [b3] at r₂
    exact hk (.ref r) G₂ h₂ tk₂ _ L₂.gr (A'.back L₂) rfl r₂
  · rintro L' G' h' tk ow' rfl g' A' hr'
    exact h (.ref L') G' h' tk g' A' hr'
end


theorem dep_all : ∀ (l : List T) (k : Nat), (∀ t ∈ l, nd t ≤ k) → PyData.depthAll (l.map enc) ≤ 2 * k
  | [], k, _ => by rw [List.map_nil, PyData.depthAll]; omega
  | t :: l, k, h => by
    have h1 := dep_all l k fun x hx => h x (.tail _ hx)
    have h2 := dep_enc t
    have h3 := h t (.head _)
    rw [List.map_cons, PyData.depthAll]
    omega
theorem lay_all (l : List T) : PyData.canLayAll0 (l.map enc) = true := by rw [← encs_eq]; exact lay_encs l
theorem flat_one : ∀ l : List T, flatD (l.map fun t => .list [enc t]) = l.map enc
  | [] => rfl
  | t :: l => by rw [List.map_cons, flatD, flat_one l]; rfl
theorem brs_nd {rws : List (Int × Nat)} (hok : okR 0 rws) : ∀ t ∈ brs [] rws, nd t ≤ rws.length := fun t ht => by
  obtain ⟨j, hj, e⟩ := List.getElem_of_mem ht
  rw [brs_len] at hj
  obtain ⟨c, t', b1, _, _, b4⟩ := stretch_pure rws [] hok j _ (List.getElem?_eq_getElem hj)
  rw [List.getElem?_eq_getElem (by rw [brs_len]; exact hj), e] at b1
  cases b1
  have er : rts [] = [] := by rw [rts]
  rw [er] at b4
  simp at b4
  omega
theorem pile_rows {rws : List (Int × Nat)} (hok : okR 0 rws) : rts (pileR [] rws) = rws := by
  rw [rts_pile rws [] hok, rts]; rfl
theorem pile_nds {rws : List (Int × Nat)} (hok : okR 0 rws) : nds (pileR [] rws) = rws.length := by rw [← rts_len, pile_rows hok]

section
variable {prog : Program} {w : World} {mg mb : Str → Option Value} {A : Around} {E : Value → Shared → Prop} {s : Shared} {X : Ent} {G : Heap} {ow : List (Addr × Obj)} {env : Env} {m : Str → Option Value}
  {K : Frag} {a : Adr} {C fI fT fN pI pF cR P L fa : Addr} {cdv : Value} {co : Obj} {ps : Array Value} {rws : List (Int × Nat)}

theorem SF.ofLaw (hG : LawS K mg mb a C fI fT fN cR P G) : SF mg mb a G := ⟨hG.r.st, hG.f⟩

/-- mapstar((f, arg)) -/
theorem law_mapcall {fx : Str} {f : Addr} {argE : Expr} {p1 p2 p3 pos : Pos} {kk : Nat} {ds ys : List PyData} {Q : Value → Shared → Prop} (N : Nms mg a) (hG : LawS K mg mb a C fI fT fN cR P G) (hA : Ar A (env :: X.fs) 100 2000)
    (AT : At X G ow env m s.heap) (hfx : mg fx = some (.ref f))
    (harg : ∀ Q', (∀ G₁ h₁ tk₁ l, G.StaysIn G₁ → At X G₁ ow env m h₁ → Rd G₁ (.ref l) (.list ds) → Q' (.ref l) { s with heap := h₁, toks := tk₁ }) → wpAny (model prog w) A (eval argE env) Q' E s)
    (hc : All2 (Calls1 prog w (SF mg mb a) (.ref f) 60 900) ds ys) (hz : ds.length ≤ 1000)
    (h : ∀ l G' h' tk, G.StaysIn G' → At X G' ow env m h' → Rd G' (.ref l) (.list ys) → Q (.ref l) { s with heap := h', toks := tk })
    (hk : env.scope.kind = .function := by rfl) (hx : env.kindOf (Str.ofString "mapstar") = some .globalImplicit := by rfl) (hx2 : env.kindOf fx = some .globalImplicit := by rfl) (hg : env.globals = mainGlobals := by rfl) (hd : (fx == ("__debug__" : Str)) = false := by rfl)
    (hse1 : starEach [.Tuple [.Name fx p2, argE] kk p3] env = [(false, eval (.Tuple [.Name fx p2, argE] kk p3) env)] := by rfl) (hse2 : starEach [.Name fx p2, argE] env = [(false, eval (.Name fx p2) env), (false, eval argE env)] := by rfl) (e2 : starEach [argE] env = [(false, eval argE env)] := by rfl) :
    wpAny (model prog w) A (eval (.Call (.Name (Str.ofString "mapstar") p1) [.Tuple [.Name fx p2, argE] kk p3] [] pos) env) Q E s := by
  refine w_call ?_
  refine w_global AT hG.r.st N.f1 ?_ hk hx hg
  refine w_callFn hG.f.f1 ?_ (by rw [hse1]; rfl) (by rfl)
  refine wpAny_items_cons ?_ (by rw [hse1]; rfl)
  refine w_Tuple ?_
  refine wpAny_items_cons ?_ (by rw [hse2, e2])
  refine w_global AT hG.r.st hfx ?_ hk hx2 hg hd
  refine wpAny_items_cons ?_ (by rw [e2]; rfl)
  refine harg _ fun G₁ h₁ tk₁ l g1 A₁ r₁ => ?_
  refine wpAny_items_nil ?_
  refine w_newTuple (s := { s with heap := h₁, toks := tk₁ }) A₁ (by simp) fun ta G₂ h₂ le₂ A₂ e₂ => ?_
  have g2 := stays_trans g1 le₂
  have S₂ := LawS.mono _ _ hG g2
  refine wpAny_items_nil ⟨stays_trans g2 A₂.keep, ?_⟩
  refine mapstar_pure (s := { s with heap := h₂, toks := tk₁ }) SF.mono S₂.f.f1 S₂.r.st N.list N.map (hA.less (by omega) (by omega)) (TupG.of e₂) (r₁.mono le₂) hc (by omega) (SF.ofLaw S₂) A₂.wd fun l' G₃ h₃ tk₃ L₃ S₃ r₃ => ?_
  exact h l' G₃ h₃ tk₃ (stays_trans g2 L₃.gr) (A₂.back L₃) r₃

/-- _law_join(arg) -/
theorem law_joincall {argE : Expr} {p1 pos : Pos} {qs : List PyData} {Q : Value → Shared → Prop} (N : Nms mg a) (hG : LawS K mg mb a C fI fT fN cR P G) (hA : Ar A (env :: X.fs) 100 2000)
    (AT : At X G ow env m s.heap) (Mx : Heap → List (Addr × Obj) → Prop)
    (harg : ∀ Q', (∀ G₁ h₁ tk₁ l ow', G.StaysIn G₁ → At X G₁ ow' env m h₁ → Mx G₁ ow' → Rd G₁ (.ref l) (.list qs) → Q' (.ref l) { s with heap := h₁, toks := tk₁ }) → wpAny (model prog w) A (eval argE env) Q' E s)
    (hM : ∀ G G' ow, Mx G ow → G.StaysIn G' → Mx G' ow) (hL : ∀ p ∈ qs, isL p = true) (hz : (flatD qs).length ≤ 100000)
    (h : ∀ l G' h' tk ow', G.StaysIn G' → At X G' ow' env m h' → Mx G' ow' → Rd G' (.ref l) (.list (flatD qs)) → Q (.ref l) { s with heap := h', toks := tk })
    (hk : env.scope.kind = .function := by rfl) (hx : env.kindOf (Str.ofString "_law_join") = some .globalImplicit := by rfl) (hg : env.globals = mainGlobals := by rfl) (e2 : starEach [argE] env = [(false, eval argE env)] := by rfl) :
    wpAny (model prog w) A (eval (.Call (.Name (Str.ofString "_law_join") p1) [argE] [] pos) env) Q E s := by
  refine w_call ?_
  refine w_global AT hG.r.st N.f10 ?_ hk hx hg
  refine w_callFn hG.f.f10 ?_ (by rw [e2]; rfl) (by rfl)
  refine wpAny_items_cons ?_ (by rw [e2]; rfl)
  refine harg _ fun G₁ h₁ tk₁ l ow' g1 A₁ m₁ r₁ => ?_
  have S₁ := LawS.mono _ _ hG g1
  refine wpAny_items_nil ⟨stays_trans g1 A₁.keep, ?_⟩
  refine join_spec (s := { s with heap := h₁, toks := tk₁ }) S₁.f.f10 S₁.r.st (hA.less (by omega) (by omega)) A₁.wd r₁ hL hz fun l' G₂ h₂ tk₂ L₂ r₂ => ?_
  exact h l' G₂ h₂ tk₂ ow' (stays_trans g1 L₂.gr) (A₁.back L₂) (hM _ _ _ m₁ L₂.gr) r₂

def LwM (L : Addr) (co : Obj) (P : Addr) (G : Heap) (ow : List (Addr × Obj)) : Prop := ∃ ps, ow = (L + 1, co) :: (P, tabObj ps) :: [] ∧ TabSt (posOf tkS) tkQ G ps
theorem LwM.mono {L : Addr} {co : Obj} {P : Addr} : ∀ G G' ow, LwM L co P G ow → G.StaysIn G' → LwM L co P G' ow := fun _ _ _ ⟨ps, a, b⟩ k => ⟨ps, a, b.mono k⟩

theorem law_s3 {v1 v2 : Value} {B : List T} {Q : Flow → Shared → Prop} (KX : StarK K C fI fT fN pI pF) (N : Nms mg a) (N' : StarN mg C) (hG : LawS K mg mb a C fI fT fN cR P G) (hA : Ar A (lawE L fa cdv :: X.fs) 100 2000)
    (AT : At X G ow (lawE L fa cdv) m s.heap) (hM : LwM L co P G ow)
    (hb : m (Str.ofString "branches") = some v1) (hw : m (Str.ofString "want") = some v2) (r1 : Rd G v1 (.list (B.map enc))) (r2 : Rd G v2 (.list (B.map fun t => .list (wr t)))) (hnd : ∀ t ∈ B, nd t ≤ 20) (hbl : B.length ≤ 20)
    (h : ∀ G' h' tk ow', G.StaysIn G' → At X G' ow' (lawE L fa cdv) m h' → LwM L co P G' ow' → Q .next { s with heap := h', toks := tk }) :
    wpAny (model prog w) A (exec ((fdBody (stm 15)).getD 3 (.Pass default)) (lawE L fa cdv)) Q E s := by
  refine wpAny_If ?_
  refine wpAny_isTrue_Compare1 ?_
  refine w_local AT hb ?_
  refine law_joincall N hG hA AT (LwM L co P) (qs := B.map fun t => .list [enc t]) ?_ LwM.mono (fun p hp => by obtain ⟨t, _, rfl⟩ := List.mem_map.mp hp; rfl) (by rw [flat_one, List.length_map]; omega) ?_
  · intro Q' hQ'
    obtain ⟨la, vs, rfl, hl, hd⟩ := r2.list_inv
    have hvl : vs.size = B.length := by have := hd.length; simpa using this
    refine w_comp (cl := []) ?_
    refine w_local AT hw ?_
    refine wpAny_pyIter_list (isList_mono hl AT.keep) ?_
    have A₂ := AT.own_new (h' := s.heap.push { cls := .type "list_iterator", data := .fields #[.ref la, .int 0 0] }) (fun _ _ e => Heap.get?_push_of_some _ e) (size_none _) (Heap.get?_push_size _ rfl)
    refine ⟨s.heap.objs.size, _, X, G, m, ow, fun k io => IsIt io la k, vs.size, fun k v => vs[k]? = some v, B.map fun t => .list [enc t], fun _ G ow => LwM L co P G ow,
      rfl, A₂, src_list hA.hd hl, ⟨rfl, rfl⟩, by rw [List.length_map]; exact hvl, by omega, hM, fun _ => LwM.mono, ?_, ?_⟩
    · rintro k v d C' oC L' ao io G' ow' s' Qe Ee hdk hvk ⟨ps', rfl, tb⟩ g' A' ⟨mC, hnC, hmC⟩ hk
      rw [List.getElem?_map] at hdk
      cases qt : B[k]? with
      | none => rw [qt] at hdk; cases hdk
      | some t =>
        rw [qt] at hdk
        cases hdk
        have htB := List.mem_of_getElem? qt
        obtain ⟨d', hd1, hd2⟩ := (Rds.all2.mp hd).get (k := k) (a := v) (by simpa using hvk)
        rw [List.getElem?_map, qt] at hd1
        cases hd1
        have hd2 : Rd G v (.list (wr t)) := hd2
        rw [wr_rt] at hd2
        obtain ⟨lv, _, rfl, _, _⟩ := hd2.list_inv
        have S' := LawS.mono _ _ hG g'
        refine Subscript_ ?_
        refine w_call ?_
        refine w_glob (G := G') A'.keep S'.r.st N.f9 ?_
        refine w_callFn S'.r.f9 ?_
        refine wpAny_items_cons ?_
        refine w_ns hnC rfl hmC ?_
        refine wpAny_items_nil ⟨A'.keep, ?_⟩
        have pm : ∀ p, List.Perm ((C', oC) :: (L', ao) :: (s.heap.objs.size, io) :: (L + 1, co) :: (P, tabObj p) :: []) ((P, tabObj p) :: (C', oC) :: (L', ao) :: (s.heap.objs.size, io) :: (L + 1, co) :: []) := fun p =>
          List.perm_append_comm (l₁ := [(C', oC), (L', ao), (s.heap.objs.size, io), (L + 1, co)]) (l₂ := [(P, tabObj p)])
        have hrl : (rt t).length ≤ 1000 := by rw [rt_len]; have := hnd t htB; omega
        have hokt : okR 0 (rt t) := by rw [← rts_one]; exact ok_forest [t]
        refine read_spec KX N N' S'.r (hA.less (by omega) (by omega)) (hd2.mono g') hokt hrl tb (A'.perm (pm ps')).wd fun r G₃ h₃ tk₃ ps₃ L₃ t₃ r₃ => ?_
        have A₃ := ((A'.perm (pm ps')).back L₃).perm (pm ps₃).symm
        have epr : pileR [] (rt t) = [t] := by rw [← rts_one]; exact pile_forest [t]
        rw [epr] at r₃
        obtain ⟨ta, o, ws, n, e, ho, hc, hdd, hrs⟩ := r₃.tuple_inv
        cases e
        have r' := Rds.all2.mp hrs
        obtain ⟨ws⟩ := ws
        match ws, r', hdd with
        | [w1, w2], .cons x (.cons y .nil), hdd =>
          refine w_int fun t₄ tk₄ => ?_
          refine w_tup1 (s := { s' with heap := h₃, toks := tk₄ }) (l := [w1, w2]) ⟨o, n, ho, hc, hdd⟩ A₃.keep ⟨1, rfl, rfl⟩ (by decide) (by decide) ?_
          exact hk w2 G₃ h₃ tk₄ _ L₃.gr A₃ ⟨ps₃, rfl, t₃⟩ y
    · rintro l' G' h' tk ow' m' g' A' hr'
      exact hQ' G' h' tk l' ow' g' A' m' hr'
  · intro l G' h' tk ow' g' A' m' hr'
    rw [flat_one] at hr'
    have hu := hA.un
    refine w_ne (s := { s with heap := h', toks := tk }) (r1.mono g') hr' A'.keep (lay_list (lay_all B)) (dep_list (dep_all B 20 hnd)) (by omega) ?_
    refine w_truthyB ?_
    show (if false = true then _ else _)
    rw [if_neg Bool.false_ne_true]
    refine wpAny_execs_nil ?_
    exact h G' h' tk ow' g' A' m'
end

section
variable {prog : Program} {w : World} {mg mb : Str → Option Value} {A : Around} {E : Value → Shared → Prop} {s : Shared} {X : Ent} {G : Heap} {ow : List (Addr × Obj)} {env : Env} {m : Str → Option Value}
  {K : Frag} {a : Adr} {C fI fT fN pI pF cR P L fa : Addr} {cdv : Value} {co : Obj}

theorem write_all (N : Nms mg a) {B : List T} (hnd : ∀ t ∈ B, nd t ≤ 20) : All2 (Calls1 prog w (SF mg mb a) (.ref a.f11) 60 900) (B.map enc) (B.map fun t => .list (wr t)) :=
  All2.map2 fun t ht => (write_spec N (nd t) t (Nat.le_refl _) (by have := hnd t ht; omega)).less (by have := hnd t ht; omega) (by have := hnd t ht; omega)
theorem front_all (N : Nms mg a) {B : List T} (hnd : ∀ t ∈ B, nd t ≤ 20) : All2 (Calls1 prog w (SF mg mb a) (.ref a.f12) 60 900) (B.map enc) (B.map fun t => .list (ft t)) :=
  All2.map2 fun t ht => (front_spec N (nd t) t (Nat.le_refl _) (by have := hnd t ht; omega)).less (by have := hnd t ht; omega) (by have := hnd t ht; omega)
theorem turn_all (N : Nms mg a) {B : List T} (hnd : ∀ t ∈ B, nd t ≤ 20) : All2 (Calls1 prog w (SF mg mb a) (.ref a.f13) 60 900) (B.map enc) (B.map fun t => enc (tn t)) :=
  All2.map2 fun t ht => (turn_spec N (nd t) t (Nat.le_refl _) (by have := hnd t ht; omega)).less (by have := hnd t ht; omega) (by have := hnd t ht; omega)
theorem rev_rd {l : Addr} {vs : Array Value} {ds : List PyData} {l' : Addr} {G G' : Heap} (hd : Rds G vs.toList ds) (k : G.StaysIn G') (e : G'.IsList l' vs.toList.reverse.toArray) : Rd G' (.ref l') (.list ds.reverse) :=
  Rd.list e (by simpa using (Rds.all2.mpr (All2.reverse (Rds.all2.mp hd))).mono k)
theorem turned_map (B : List T) : (B.map enc).reverse = B.reverse.map enc := by rw [List.map_reverse]
theorem turned_data (B : List T) : (B.reverse.map fun t => enc (tn t)) = (tns B).map enc := by rw [tns_eq, List.map_map]; rfl

theorem law_s4 {v1 : Value} {B : List T} {Q : Flow → Shared → Prop} (N : Nms mg a) (hG : LawS K mg mb a C fI fT fN cR P G) (hA : Ar A (lawE L fa cdv :: X.fs) 100 2000)
    (AT : At X G ow (lawE L fa cdv) m s.heap) (hb : m (Str.ofString "branches") = some v1) (r1 : Rd G v1 (.list (B.map enc))) (hnd : ∀ t ∈ B, nd t ≤ 20) (hbl : B.length ≤ 20)
    (h : ∀ v G' h' tk, G.StaysIn G' → At X G' ow (lawE L fa cdv) (upd m (Str.ofString "written") v) h' → Rd G' v (.list (B.map fun t => .list (wr t))) → Q .next { s with heap := h', toks := tk }) :
    wpAny (model prog w) A (exec ((fdBody (stm 15)).getD 4 (.Pass default)) (lawE L fa cdv)) Q E s := by
  refine wpAny_Assign_Name ?_
  refine law_mapcall N hG hA AT N.f11 (ds := B.map enc) ?_ (write_all N hnd) (by rw [List.length_map]; omega) ?_
  · intro Q' hQ'
    obtain ⟨la, vs, rfl, hl, hd⟩ := r1.list_inv
    refine w_local AT hb ?_
    exact hQ' G s.heap s.toks la (stays_refl _) AT r1
  · intro l G' h' tk g' A' r'
    refine w_set (s := { s with heap := h', toks := tk }) A' fun h₂ tk₂ A₂ => ?_
    exact h (.ref l) G' h₂ tk₂ g' A₂ r'

theorem law_s5 {v1 v2 v3 : Value} {ra : Addr} {B F : List T} {Q : Flow → Shared → Prop} (N : Nms mg a) (hG : LawS K mg mb a C fI fT fN cR P G) (hA : Ar A (lawE L fa cdv :: X.fs) 100 2000)
    (AT : At X G ow (lawE L fa cdv) m s.heap) (hM : LwM L co P G ow) (hco : co.data = .cell (some (.ref ra))) (hw : m (Str.ofString "want") = some v1) (hwr : m (Str.ofString "written") = some v2) (hf : m (Str.ofString "forest") = some v3)
    (r1 : Rd G v1 (.list (B.map fun t => .list (wr t)))) (r2 : Rd G v2 (.list (B.map fun t => .list (wr t)))) (r3 : Rd G v3 (.list (F.map enc))) (r4 : Rd G (.ref ra) (.list (wrs F))) (hnd : ∀ t ∈ F, nd t ≤ 20) (hbl : F.length ≤ 20) (hns : nds F ≤ 20)
    (h : ∀ G' h' tk, G.StaysIn G' → At X G' ow (lawE L fa cdv) m h' → Q .next { s with heap := h', toks := tk }) :
    wpAny (model prog w) A (exec ((fdBody (stm 15)).getD 5 (.Pass default)) (lawE L fa cdv)) Q E s := by
  have hu := hA.un
  refine wpAny_If ?_
  refine isTrue_or ?_
  refine wpAny_isTrue_Compare1 ?_
  refine w_local AT hwr ?_
  refine w_local AT hw ?_
  refine w_ne r2 r1 AT.keep (lay_list (lay_wrs B)) (dep_list (dep_wrs B)) (by omega) ?_
  refine w_truthyB ?_
  show (if false = true then _ else _)
  rw [if_neg Bool.false_ne_true]
  refine isTrue_or ?_
  refine wpAny_isTrue_Compare1 ?_
  refine law_joincall N hG hA AT (fun _ ow' => ow' = ow) (qs := F.map fun t => .list (wr t)) ?_ (fun _ _ _ h _ => h) (fun p hp => by obtain ⟨t, _, rfl⟩ := List.mem_map.mp hp; rfl) (by rw [flatD_wr, wrs_len]; omega) ?_
  · intro Q' hQ'
    refine law_mapcall N hG hA AT N.f11 (ds := F.map enc) ?_ (write_all N hnd) (by rw [List.length_map]; omega) ?_
    · intro Q'' hQ''
      obtain ⟨la, vs, rfl, hl, hd⟩ := r3.list_inv
      refine w_local AT hf ?_
      exact hQ'' G s.heap s.toks la (stays_refl _) AT r3
    · intro l G' h' tk g' A' r'
      exact hQ' G' h' tk l ow g' A' rfl r'
  · rintro l G' h' tk ow' g' A' rfl r'
    rw [flatD_wr] at r'
    obtain ⟨ps, eo, _⟩ := hM
    subst eo
    refine w_cell (s := { s with heap := h', toks := tk }) (c := L + 1) rfl ⟨co, A'.wd.own (L + 1, co) (by simp), hco⟩ ?_
    refine w_ne (s := { s with heap := h', toks := tk }) r' (r4.mono g') A'.keep (by rw [wrs_rts]; exact lay_list (lay_rows _)) (by rw [wrs_rts]; exact dep_list (dep_rows _)) (by omega) ?_
    refine w_truthyB ?_
    show (if false = true then _ else _)
    rw [if_neg Bool.false_ne_true]
    refine isTrue_or_nil ?_
    show (if false = true then _ else _)
    rw [if_neg Bool.false_ne_true]
    refine wpAny_execs_nil ?_
    exact h G' h' tk g' A'

theorem law_s6 {v3 : Value} {F : List T} {Q : Flow → Shared → Prop} (N : Nms mg a) (hG : LawS K mg mb a C fI fT fN cR P G) (hA : Ar A (lawE L fa cdv :: X.fs) 100 2000)
    (AT : At X G ow (lawE L fa cdv) m s.heap) (hf : m (Str.ofString "forest") = some v3) (r3 : Rd G v3 (.list (F.map enc))) (hnd : ∀ t ∈ F, nd t ≤ 20) (hbl : F.length ≤ 20)
    (h : ∀ v G' h' tk, G.StaysIn G' → At X G' ow (lawE L fa cdv) (upd m (Str.ofString "turned") v) h' → Rd G' v (.list ((tns F).map enc)) → Q .next { s with heap := h', toks := tk }) :
    wpAny (model prog w) A (exec ((fdBody (stm 15)).getD 6 (.Pass default)) (lawE L fa cdv)) Q E s := by
  refine wpAny_Assign_Name ?_
  obtain ⟨la, vs, rfl, hl, hd⟩ := r3.list_inv
  have hvl : vs.size = F.length := by have := hd.length; simpa using this
  refine law_mapcall N hG hA AT N.f13 (ds := F.reverse.map enc) ?_ (turn_all N (B := F.reverse) fun t ht => hnd t (List.mem_reverse.mp ht)) (by rw [List.length_map, List.length_reverse]; omega) ?_
  · intro Q' hQ'
    refine w_sliceRev (w_local AT hf ⟨G, _, ow, rfl, isList_mono hl AT.keep, AT, fun l₃ G₃ h₃ tk₃ le₃ A₃ e₃ => ?_⟩) (by omega)
    refine hQ' G₃ h₃ tk₃ l₃ le₃ A₃ ?_
    rw [← turned_map]
    exact rev_rd (l := la) hd le₃ e₃
  · intro l G' h' tk g' A' r'
    rw [turned_data] at r'
    refine w_set (s := { s with heap := h', toks := tk }) A' fun h₂ tk₂ A₂ => ?_
    exact h (.ref l) G' h₂ tk₂ g' A₂ r'

theorem law_s7 {v3 v4 : Value} {F : List T} {Q : Flow → Shared → Prop} (N : Nms mg a) (hG : LawS K mg mb a C fI fT fN cR P G) (hA : Ar A (lawE L fa cdv :: X.fs) 100 2000)
    (AT : At X G ow (lawE L fa cdv) m s.heap) (hf : m (Str.ofString "forest") = some v3) (ht : m (Str.ofString "turned") = some v4) (r3 : Rd G v3 (.list (F.map enc))) (r4 : Rd G v4 (.list ((tns F).map enc))) (hnd : ∀ t ∈ F, nd t ≤ 20) (hnt : ∀ t ∈ tns F, nd t ≤ 20) (hbl : F.length ≤ 20)
    (h : ∀ G' h' tk, G.StaysIn G' → At X G' ow (lawE L fa cdv) m h' → Q .next { s with heap := h', toks := tk }) :
    wpAny (model prog w) A (exec ((fdBody (stm 15)).getD 7 (.Pass default)) (lawE L fa cdv)) Q E s := by
  have hu := hA.un
  refine wpAny_If ?_
  refine wpAny_isTrue_Compare1 ?_
  obtain ⟨la, vs, rfl, hl, hd⟩ := r4.list_inv
  have hvl : vs.size = F.length := by have := hd.length; rw [List.length_map, tns_len] at this; simpa using this
  refine law_mapcall N hG hA AT N.f13 (ds := (tns F).reverse.map enc) ?_ (turn_all N (B := (tns F).reverse) fun t ht => hnt t (List.mem_reverse.mp ht)) (by rw [List.length_map, List.length_reverse, tns_len]; omega) ?_
  · intro Q' hQ'
    refine w_sliceRev (w_local AT ht ⟨G, _, ow, rfl, isList_mono hl AT.keep, AT, fun l₃ G₃ h₃ tk₃ le₃ A₃ e₃ => ?_⟩) (by omega)
    refine hQ' G₃ h₃ tk₃ l₃ le₃ A₃ ?_
    rw [← turned_map]
    exact rev_rd (l := la) hd le₃ e₃
  · intro l G' h' tk g' A' r'
    rw [turned_data, tns_tns] at r'
    refine w_local (s := { s with heap := h', toks := tk }) A' hf ?_
    refine w_ne (s := { s with heap := h', toks := tk }) r' (r3.mono g') A'.keep (lay_list (lay_all F)) (dep_list (dep_all F 20 hnd)) (by omega) ?_
    refine w_truthyB ?_
    show (if false = true then _ else _)
    rw [if_neg Bool.false_ne_true]
    refine wpAny_execs_nil ?_
    exact h G' h' tk g' A'

theorem law_s8 {v4 : Value} {F : List T} {Q : Flow → Shared → Prop} (N : Nms mg a) (hG : LawS K mg mb a C fI fT fN cR P G) (hA : Ar A (lawE L fa cdv :: X.fs) 100 2000)
    (AT : At X G ow (lawE L fa cdv) m s.heap) (ht : m (Str.ofString "turned") = some v4) (r4 : Rd G v4 (.list (F.map enc))) (hnd : ∀ t ∈ F, nd t ≤ 20) (hbl : F.length ≤ 20) (hns : nds F ≤ 20)
    (h : ∀ v G' h' tk, G.StaysIn G' → At X G' ow (lawE L fa cdv) (upd m (Str.ofString "behind") v) h' → Rd G' v (.list (wrs F)) → Q .next { s with heap := h', toks := tk }) :
    wpAny (model prog w) A (exec ((fdBody (stm 15)).getD 8 (.Pass default)) (lawE L fa cdv)) Q E s := by
  refine wpAny_Assign_Name ?_
  refine law_joincall N hG hA AT (fun _ ow' => ow' = ow) (qs := F.map fun t => .list (wr t)) ?_ (fun _ _ _ h _ => h) (fun p hp => by obtain ⟨t, _, rfl⟩ := List.mem_map.mp hp; rfl) (by rw [flatD_wr, wrs_len]; omega) ?_
  · intro Q' hQ'
    refine law_mapcall N hG hA AT N.f11 (ds := F.map enc) ?_ (write_all N hnd) (by rw [List.length_map]; omega) ?_
    · intro Q'' hQ''
      obtain ⟨la, vs, rfl, hl, hd⟩ := r4.list_inv
      refine w_local AT ht ?_
      exact hQ'' G s.heap s.toks la (stays_refl _) AT r4
    · intro l G' h' tk g' A' r'
      exact hQ' G' h' tk l ow g' A' rfl r'
  · rintro l G' h' tk ow' g' A' rfl r'
    rw [flatD_wr] at r'
    refine w_set (s := { s with heap := h', toks := tk }) A' fun h₂ tk₂ A₂ => ?_
    exact h (.ref l) G' h₂ tk₂ g' A₂ r'

theorem law_s9 {v3 : Value} {F : List T} {Q : Flow → Shared → Prop} (N : Nms mg a) (hG : LawS K mg mb a C fI fT fN cR P G) (hA : Ar A (lawE L fa cdv :: X.fs) 100 2000)
    (AT : At X G ow (lawE L fa cdv) m s.heap) (ht : m (Str.ofString "forest") = some v3) (r3 : Rd G v3 (.list (F.map enc))) (hnd : ∀ t ∈ F, nd t ≤ 20) (hbl : F.length ≤ 20) (hns : nds F ≤ 20)
    (h : ∀ v G' h' tk, G.StaysIn G' → At X G' ow (lawE L fa cdv) (upd m (Str.ofString "fronts") v) h' → Rd G' v (.list (fts F)) → Q .next { s with heap := h', toks := tk }) :
    wpAny (model prog w) A (exec ((fdBody (stm 15)).getD 9 (.Pass default)) (lawE L fa cdv)) Q E s := by
  refine wpAny_Assign_Name ?_
  refine law_joincall N hG hA AT (fun _ ow' => ow' = ow) (qs := F.map fun t => .list (ft t)) ?_ (fun _ _ _ h _ => h) (fun p hp => by obtain ⟨t, _, rfl⟩ := List.mem_map.mp hp; rfl) (by rw [flatD_ft, fts_len]; omega) ?_
  · intro Q' hQ'
    refine law_mapcall N hG hA AT N.f12 (ds := F.map enc) ?_ (front_all N hnd) (by rw [List.length_map]; omega) ?_
    · intro Q'' hQ''
      obtain ⟨la, vs, rfl, hl, hd⟩ := r3.list_inv
      refine w_local AT ht ?_
      exact hQ'' G s.heap s.toks la (stays_refl _) AT r3
    · intro l G' h' tk g' A' r'
      exact hQ' G' h' tk l ow g' A' rfl r'
  · rintro l G' h' tk ow' g' A' rfl r'
    rw [flatD_ft] at r'
    refine w_set (s := { s with heap := h', toks := tk }) A' fun h₂ tk₂ A₂ => ?_
    exact h (.ref l) G' h₂ tk₂ g' A₂ r'

theorem law_s10 {v4 v5 v6 : Value} {F : List T} {Q : Flow → Shared → Prop} (KX : StarK K C fI fT fN pI pF) (N : Nms mg a) (N' : StarN mg C) (hG : LawS K mg mb a C fI fT fN cR P G) (hA : Ar A (lawE L fa cdv :: X.fs) 100 2000)
    (AT : At X G ow (lawE L fa cdv) m s.heap) (hM : LwM L co P G ow) (ht : m (Str.ofString "turned") = some v4) (hb : m (Str.ofString "behind") = some v5) (hf : m (Str.ofString "fronts") = some v6)
    (r4 : Rd G v4 (.list ((tns F).map enc))) (r5 : Rd G v5 (.list (wrs (tns F)))) (r6 : Rd G v6 (.list (fts F))) (hnt : ∀ t ∈ tns F, nd t ≤ 20) (hns : nds F ≤ 20)
    (h : ∀ G' h' tk ow', G.StaysIn G' → At X G' ow' (lawE L fa cdv) m h' → LwM L co P G' ow' → Q (.ret (.bool true)) { s with heap := h', toks := tk }) :
    wpAny (model prog w) A (exec ((fdBody (stm 15)).getD 10 (.Pass default)) (lawE L fa cdv)) Q E s := by
  have hu := hA.un
  refine wpAny_Return_some ?_
  refine BoolOp_and ?_
  refine wpAny_Compare1 ?_
  refine Subscript_ ?_
  refine w_call ?_
  refine w_global AT hG.r.st N.f9 ?_
  refine w_callFn hG.r.f9 ?_
  refine wpAny_items_cons ?_
  refine w_local AT hb ?_
  refine wpAny_items_nil ⟨AT.keep, ?_⟩
  rw [wrs_rts] at r5
  obtain ⟨lb, vb, rfl, hlb, hdb⟩ := r5.list_inv
  obtain ⟨ps, rfl, tb⟩ := hM
  have pm : ∀ p, List.Perm ((L + 1, co) :: (P, tabObj p) :: []) ((P, tabObj p) :: (L + 1, co) :: []) := fun p => List.Perm.swap _ _ _
  refine read_spec KX N N' hG.r (hA.less (by omega) (by omega)) r5 (ok_forest _) (by rw [rts_len, nds_tns]; omega) tb (AT.perm (pm ps)).wd fun r G₃ h₃ tk₃ ps₃ L₃ t₃ r₃ => ?_
  have A₃ := ((AT.perm (pm ps)).back L₃).perm (pm ps₃).symm
  rw [pile_forest] at r₃
  obtain ⟨ta, o, ws, n, e, ho, hc, hdd, hrs⟩ := r₃.tuple_inv
  cases e
  have r' := Rds.all2.mp hrs
  obtain ⟨ws⟩ := ws
  match ws, r', hdd with
  | [w1, w2], .cons x (.cons y .nil), hdd =>
    refine w_int fun t₄ tk₄ => ?_
    refine w_tup1 (s := { s with heap := h₃, toks := tk₄ }) (l := [w1, w2]) ⟨o, n, ho, hc, hdd⟩ A₃.keep ⟨1, rfl, rfl⟩ (by decide) (by decide) ?_
    refine w_local (s := { s with heap := h₃, toks := tk₄ }) A₃ ht ?_
    refine w_eq (s := { s with heap := h₃, toks := tk₄ }) y (r4.mono L₃.gr) A₃.keep (lay_list (lay_all _)) (dep_list (dep_all _ 20 hnt)) (by omega) ?_
    refine w_truthyB ?_
    show (if true = true then _ else _)
    rw [if_pos rfl]
    refine BoolOp_one ?_
    refine wpAny_Compare1 ?_
    refine w_local (s := { s with heap := h₃, toks := tk₄ }) A₃ hb ?_
    obtain ⟨lf, vf, rfl, hlf, hdf⟩ := r6.list_inv
    have hvl : vf.size = nds F := by have := hdf.length; rw [fts_len] at this; simpa using this
    refine w_sliceRev (w_local (s := { s with heap := h₃, toks := tk₄ }) A₃ hf ⟨G₃, _, _, rfl, isList_mono (isList_mono hlf L₃.gr) A₃.keep, A₃, fun l₅ G₅ h₅ tk₅ le₅ A₅ e₅ => ?_⟩) (by omega)
    have r7 := rev_rd (l := lf) hdf (stays_trans L₃.gr le₅) e₅
    rw [← wrs_tns, wrs_rts] at r7
    refine w_eq (s := { s with heap := h₅, toks := tk₅ }) (r5.mono (stays_trans L₃.gr le₅)) r7 A₅.keep (lay_list (lay_rows _)) (dep_list (dep_rows _)) (by omega) ?_
    exact h G₅ h₅ tk₅ _ (stays_trans L₃.gr le₅) A₅ ⟨ps₃, rfl, t₃.mono le₅⟩
end

section
variable {prog : Program} {w : World} {mg mb : Str → Option Value} {A : Around} {E : Value → Shared → Prop} {s : Shared} {X : Ent} {G : Heap} {m : Str → Option Value}
  {K : Frag} {a : Adr} {C fI fT fN pI pF cR P L fa sa : Addr} {cdv : Value} {co : Obj}

theorem law_walk {sv : Array Value} {Q : Flow → Shared → Prop} (KX : StarK K C fI fT fN pI pF) (N : Nms mg a) (N' : StarN mg C) (NL : LawN mg) (hG : LawS K mg mb a C fI fT fN cR P G) (hA : Ar A (lawE L fa cdv :: X.fs) 100 2000)
    (AT : At X G ((L + 1, co) :: (P, tabObj #[]) :: []) (lawE L fa cdv) m s.heap) (hco : ∃ v, co.data = .cell v)
    (hm : m (Str.ofString "script") = some (.ref sa)) (hl : G.IsList sa sv) (hi : ∀ (k : Nat) (v : Value), sv[k]? = some v → ∃ i t, v = .int i t) (hz : sv.size ≤ 100000)
    (h : ∀ G' h' tk m' co' ps, At X G' ((L + 1, co') :: (P, tabObj ps) :: []) (lawE L fa cdv) m' h' → Q (.ret (.bool true)) { s with heap := h', toks := tk }) :
    wpAny (model prog w) A (execs (fdBody (stm 15)) (lawE L fa cdv)) Q E s := by
  refine wpAny_execs_cons ?_
  refine law_rows N NL hG hA AT hco hm hl hi hz fun ds ra co₁ G₁ h₁ tk₁ hds g₁ A₁ hco₁ r₁ => ?_
  have S₁ := LawS.mono _ _ hG g₁
  have hrl : (rowsL ds).length ≤ 13 := by rw [rowsL_len]; omega
  have hok := rowsL_ok ds
  have ndP : nds (pileR [] (rowsL ds)) ≤ 13 := by rw [pile_nds hok]; exact hrl
  have hB : ∀ t ∈ brs [] (rowsL ds), nd t ≤ 20 := fun t ht => by have := brs_nd hok t ht; omega
  have hBl : (brs [] (rowsL ds)).length ≤ 20 := by rw [brs_len]; omega
  have hF : ∀ t ∈ pileR [] (rowsL ds), nd t ≤ 20 := fun t ht => by have := nd_le_nds ht; omega
  have hFl : (pileR [] (rowsL ds)).length ≤ 20 := by have := nds_len (pileR [] (rowsL ds)); omega
  have ndT : nds (tns (pileR [] (rowsL ds))) ≤ 13 := by rw [nds_tns]; exact ndP
  have hT : ∀ t ∈ tns (pileR [] (rowsL ds)), nd t ≤ 20 := fun t ht => by have := nd_le_nds ht; omega
  have hTl : (tns (pileR [] (rowsL ds))).length ≤ 20 := by rw [tns_len]; exact hFl
  refine wpAny_execs_cons ?_
  refine law_read1 (s := { s with heap := h₁, toks := tk₁ }) KX N N' S₁ hA A₁ hco₁ r₁ hok (by omega) (.inl rfl) fun ps₂ v1 v2 G₂ h₂ tk₂ g₂ A₂ t₂ rb rf => ?_
  have S₂ := LawS.mono _ _ S₁ g₂
  refine wpAny_execs_cons ?_
  refine law_want (s := { s with heap := h₂, toks := tk₂ }) N NL S₂ hA A₂ hco₁ (r₁.mono g₂) hok (by omega) fun v3 G₃ h₃ tk₃ g₃ A₃ rw₃ => ?_
  have S₃ := LawS.mono _ _ S₂ g₃
  refine wpAny_execs_cons ?_
  refine law_s3 (s := { s with heap := h₃, toks := tk₃ }) (v1 := v1) (v2 := v3) (B := brs [] (rowsL ds)) (co := co₁) KX N N' S₃ hA A₃ ⟨ps₂, rfl, t₂.mono g₃⟩ (upd_ne (upd_ne (upd_self _ _ _))) (upd_self _ _ _) (rb.mono g₃) rw₃ hB hBl fun G₄ h₄ tk₄ ow₄ g₄ A₄ m₄ => ?_
  have S₄ := LawS.mono _ _ S₃ g₄
  have g24 := stays_trans g₃ g₄
  refine wpAny_execs_cons ?_
  refine law_s4 (s := { s with heap := h₄, toks := tk₄ }) (v1 := v1) (B := brs [] (rowsL ds)) N S₄ hA A₄ (upd_ne (upd_ne (upd_self _ _ _))) (rb.mono g24) hB hBl fun v5 G₅ h₅ tk₅ g₅ A₅ rw₅ => ?_
  have S₅ := LawS.mono _ _ S₄ g₅
  have g25 := stays_trans g24 g₅
  have g15 := stays_trans g₂ g25
  refine wpAny_execs_cons ?_
  refine law_s5 (s := { s with heap := h₅, toks := tk₅ }) (v1 := v3) (v2 := v5) (v3 := v2) (B := brs [] (rowsL ds)) (F := pileR [] (rowsL ds)) (co := co₁) N S₅ hA A₅ (LwM.mono _ _ _ m₄ g₅) hco₁ (upd_ne (upd_self _ _ _)) (upd_self _ _ _) (upd_ne (upd_ne (upd_self _ _ _)))
    (rw₃.mono (stays_trans g₄ g₅)) rw₅ (rf.mono g25) (by rw [wrs_rts, pile_rows hok]; exact r₁.mono g15) hF hFl (by omega) fun G₆ h₆ tk₆ g₆ A₆ => ?_
  have S₆ := LawS.mono _ _ S₅ g₆
  have g26 := stays_trans g25 g₆
  refine wpAny_execs_cons ?_
  refine law_s6 (s := { s with heap := h₆, toks := tk₆ }) (v3 := v2) (F := pileR [] (rowsL ds)) N S₆ hA A₆ (upd_ne (upd_ne (upd_self _ _ _))) (rf.mono g26) hF hFl fun v7 G₇ h₇ tk₇ g₇ A₇ r₇ => ?_
  have S₇ := LawS.mono _ _ S₆ g₇
  have g27 := stays_trans g26 g₇
  refine wpAny_execs_cons ?_
  refine law_s7 (s := { s with heap := h₇, toks := tk₇ }) (v3 := v2) (v4 := v7) (F := pileR [] (rowsL ds)) N S₇ hA A₇ (upd_ne (upd_ne (upd_ne (upd_self _ _ _)))) (upd_self _ _ _) (rf.mono g27) r₇ hF hT hFl fun G₈ h₈ tk₈ g₈ A₈ => ?_
  have S₈ := LawS.mono _ _ S₇ g₈
  have g28 := stays_trans g27 g₈
  refine wpAny_execs_cons ?_
  refine law_s8 (s := { s with heap := h₈, toks := tk₈ }) (v4 := v7) (F := tns (pileR [] (rowsL ds))) N S₈ hA A₈ (upd_self _ _ _) (r₇.mono g₈) hT hTl (by omega) fun v9 G₉ h₉ tk₉ g₉ A₉ r₉ => ?_
  have S₉ := LawS.mono _ _ S₈ g₉
  have g29 := stays_trans g28 g₉
  refine wpAny_execs_cons ?_
  refine law_s9 (s := { s with heap := h₉, toks := tk₉ }) (v3 := v2) (F := pileR [] (rowsL ds)) N S₉ hA A₉ (upd_ne (upd_ne (upd_ne (upd_ne (upd_self _ _ _))))) (rf.mono g29) hF hFl (by omega) fun vA GA hA' tkA gA AA rA => ?_
  have SA := LawS.mono _ _ S₉ gA
  refine wpAny_execs_cons ?_
  refine law_s10 (s := { s with heap := hA', toks := tkA }) (v4 := v7) (v5 := v9) (v6 := vA) (F := pileR [] (rowsL ds)) (co := co₁) KX N N' SA hA AA (LwM.mono _ _ _ m₄ (stays_trans (stays_trans (stays_trans (stays_trans (stays_trans g₅ g₆) g₇) g₈) g₉) gA)) (upd_ne (upd_ne (upd_self _ _ _))) (upd_ne (upd_self _ _ _)) (upd_self _ _ _)
    (r₇.mono (stays_trans (stays_trans g₈ g₉) gA)) (r₉.mono gA) rA hT (by omega) fun GB hB tkB owB gB AB mB => ?_
  obtain ⟨ps, rfl, _⟩ := mB
  exact h GB hB tkB _ co₁ ps AB
end


def FnK (K : Frag) (f : Addr) (st : Stmt) (qual : Str) : Prop :=
  ∃ oc od sl pm doc an cdv ct, K.lookup f = some ⟨oc, od, .func (fnX (fdName st) qual (fdParams st) (fdBody st) (fdScope st) [] .none .none doc pm an cdv ct), sl⟩ ∧ codeIn K cdv qual = true
theorem FnK.at {K : Frag} {G : Heap} {f : Addr} {st : Stmt} {qual : Str} (F : FnK K f st qual) (X : K.In G) : FnAt G f (fdName st) qual (fdParams st) (fdBody st) (fdScope st) [] := by
  obtain ⟨oc, od, sl, pm, doc, an, cdv, ct, e, hc⟩ := F
  exact ⟨⟨_, pm, doc, an, cdv, ct, X _ _ e, rfl, codeRec_of X hc⟩⟩
def nmK (K : Frag) (x : Str) (f : Addr) : Prop := nsIn K mainGlobals x = some (some (.ref f))
def noK (K : Frag) (x : Str) : Prop := nsIn K mainGlobals x = some none

structure KFacts (K : Frag) : Prop where
  star : StarK K 54 36 43 50 56 55
  n1 : nmK K "mapstar" 21
  n3 : nmK K "starmap" 54
  n5 : nmK K "starmapstar" 65
  n7 : nmK K "_law_draws" 72
  n8 : nmK K "_law_rows" 79
  n9 : nmK K "_law_read" 86
  n10 : nmK K "_law_join" 93
  n11 : nmK K "_law_write" 100
  n12 : nmK K "_law_front" 107
  n13 : nmK K "_law_turn" 114
  n14 : nmK K "_law_stretch" 121
  o1 : noK K "list"
  o2 : noK K "map"
  o3 : noK K "len"
  o4 : noK K "next"
  o5 : noK K "type"
  o6 : noK K "tuple"
  o7 : noK K "iter"
  o8 : noK K "enumerate"
  o9 : noK K "min"
  o10 : noK K "range"
  f1 : FnK K 21 (stm 1) (fdName (stm 1))
  f5 : FnK K 65 (stm 5) (fdName (stm 5))
  f7 : FnK K 72 (stm 7) (fdName (stm 7))
  f8 : FnK K 79 (stm 8) (fdName (stm 8))
  f9 : FnK K 86 (stm 9) (fdName (stm 9))
  f10 : FnK K 93 (stm 10) (fdName (stm 10))
  f11 : FnK K 100 (stm 11) (fdName (stm 11))
  f12 : FnK K 107 (stm 12) (fdName (stm 12))
  f13 : FnK K 114 (stm 13) (fdName (stm 13))
  f14 : FnK K 121 (stm 14) (fdName (stm 14))
  i : FnK K 36 (clsM 1) (Str.ofString "starmap.__init__")
  t : FnK K 43 (clsM 2) (Str.ofString "starmap.__iter__")
  n : FnK K 50 (clsM 3) (Str.ofString "starmap.__next__")
  cd : ∃ oc od sl fd, K.lookup 86 = some ⟨oc, od, .func fd, sl⟩ ∧ fd.code = .ref 85

def adr2 : Adr := ⟨21, 65, 72, 79, 86, 93, 100, 107, 114, 121, 126⟩

theorem finish2 {prog : Program} {w : World} {K : Frag} {G h₁ : Heap} {p : Program} {loose : List Str} {mean : ExcName → Option Value} {mg mb m : Str → Option Value} {L fa sa : Addr} {cdv : Value} {co : Obj} {vs : List Value} {ns : List Int}
    {gens : Array GenState} {drawn : Drawn} {tk : Nat} {os : OsState} {Q : Flow → Shared → Prop} {E : Value → Shared → Prop}
    (X' : K.In G) (T' : Top p loose mean mg mb G) (F' : Fr G L h₁ m) (N' : News G L h₁ [(L + 1, co), (81, tabObj #[])]) (l0 : 81 < L) (lifted : G.IsList sa vs.toArray) (hI : IntsAre vs ns) (hlen : ns.length ≤ 63) (cH : CodeHd G 85 81) (KF : KFacts K)
    (hco : ∃ v, co.data = .cell v) (hm : m (Str.ofString "script") = some (.ref sa))
    (h : ∀ h' tk' m', Fr G L h' m' → GrownAt 81 h' → Q (.ret (.bool true)) ⟨h', gens, drawn, tk', os⟩) :
    wpAny (model prog w) (callerA.deeper (lawE L fa cdv)) (execs (fdBody (stm 15)) (lawE L fa cdv)) Q E ⟨h₁, gens, drawn, tk, os⟩ := by
  have nm : ∀ {x f}, nmK K x f → mg x = some (.ref f) := fun e => mg_of X' T'.g e
  have no : ∀ {x}, noK K x → mg x = none := fun e => ns_none_of X' T'.g e
  have GL : G.get? L = none := Heap.get?_none_of_le F'.above
  have ne81 : L + 1 ≠ 81 := Nat.ne_of_gt (Nat.lt_succ_of_lt l0)
  have AT : At ⟨G, h₁, []⟩ G ((L + 1, co) :: (81, tabObj #[]) :: []) (lawE L fa cdv) m h₁ := by
    obtain ⟨o, es, ep, ho, hd, r⟩ := id F'.ns
    refine ⟨stays_refl _, ⟨F'.keep, fun q hq => (N' q hq).1, fun q hq => (N' q hq).2.2, by simpa using ne81, ⟨by show ScopeKind.function ≠ ScopeKind.module; decide, ⟨L, o, rfl, GL, ho, fun vs q => by rw [hd] at q; cases q⟩, trivial⟩, fun q hq e he hf => ?_⟩, (fun e he => by cases he), F'.ns, rfl, (fun e he => by cases he)⟩
    rw [List.mem_singleton.mp he] at hf
    exact (N' q hq).2.1 (Option.some.inj hf).symm
  have S : Sta mg mb G := ⟨T'.g, T'.b, T'.nolimit, T'.builtins⟩
  have hints : ∀ (k : Nat) (v : Value), vs.toArray[k]? = some v → ∃ i t, v = .int i t := by
    clear lifted
    induction hI with
    | nil => intro k v e; simp at e
    | cons n t _ ih =>
      intro k v e
      cases k with
      | zero => simp at e; exact ⟨n, t, e.symm⟩
      | succ k => exact ih (by simpa using hlen |> Nat.le_of_succ_le) k v (by simpa using e)
  have hvl : vs.length = ns.length := hI.length
  refine law_walk (K := K) (a := adr2) (m := m) KF.star ⟨nm KF.n1, nm KF.n5, nm KF.n7, nm KF.n8, nm KF.n9, nm KF.n10, nm KF.n11, nm KF.n12, nm KF.n13, nm KF.n14, no KF.o1, no KF.o2, no KF.o3⟩
    ⟨no KF.o1, no KF.o4, no KF.o5, no KF.o6, no KF.o7, no KF.o3, nm KF.n3⟩ ⟨no KF.o8, no KF.o9, no KF.o10⟩
    ⟨⟨S, X', KF.f9.at X', KF.f5.at X', KF.i.at X', KF.n.at X', KF.t.at X', ⟨T'.bmain⟩, cH, ?_⟩, ⟨KF.f1.at X', KF.f10.at X', KF.f11.at X', KF.f12.at X', KF.f13.at X', KF.f14.at X'⟩, KF.f7.at X', KF.f8.at X'⟩
    ⟨Around.frames_deeper (by rfl), rfl, ?_, ?_⟩ AT hco hm lifted hints (by simp; omega) ?_
  · obtain ⟨oc, od, sl, fd, e, hc⟩ := KF.cd
    exact ⟨_, fd, X' _ _ e, rfl, hc⟩
  · show 1 + claimMargin + 1 + 100 < recursionLimit
    decide
  · show 4 + 3 + 2000 < cLine
    decide
  · intro G' h' tk' m' co' ps A'
    exact h h' tk' m' ⟨A'.ns, stays_trans A'.gr A'.keep, F'.above⟩ ⟨ps, A'.wd.own (81, tabObj ps) (by simp)⟩

end Mine
open Mine
set_option maxHeartbeats 16000000 in
theorem PySem.Challenge.cw_kl0054_02_holds : PySem.Challenge.rw_kl0054_02.Holds := by
  w_on
  o_law
  k_head
  (case hw => w_witness2)
  w_strict (
    k_go0
    rename Frag.In _ (ghostOf _ _) => X'
    rename Top _ _ _ _ _ (ghostOf _ _) => T'
    rename Fr (ghostOf _ _) _ _ _ => F'
    rename News (ghostOf _ _) _ _ _ => N'
    rename IntsAre _ _ => hI
    rename ¬ (_ < _) => hc
    rename _ = Data.cell _ => hco
    rename 81 < _ => l0
    refine finish2 X' T' F' N' l0 lifted hI (by omega) codeHd ?kf ⟨_, hco⟩ (by rfl) fun h' tk' m' F'' g'' => ?_
    case kf =>
      constructor
      case star => constructor <;> kernel_rfl
      case cd => exact ⟨_, _, _, _, rfl, rfl⟩
      case f1 => exact ⟨_, _, _, _, _, _, _, _, rfl, by kernel_rfl⟩
      case f5 => exact ⟨_, _, _, _, _, _, _, _, rfl, by kernel_rfl⟩
      case f7 => exact ⟨_, _, _, _, _, _, _, _, rfl, by kernel_rfl⟩
      case f8 => exact ⟨_, _, _, _, _, _, _, _, rfl, by kernel_rfl⟩
      case f9 => exact ⟨_, _, _, _, _, _, _, _, rfl, by kernel_rfl⟩
      case f10 => exact ⟨_, _, _, _, _, _, _, _, rfl, by kernel_rfl⟩
      case f11 => exact ⟨_, _, _, _, _, _, _, _, rfl, by kernel_rfl⟩
      case f12 => exact ⟨_, _, _, _, _, _, _, _, rfl, by kernel_rfl⟩
      case f13 => exact ⟨_, _, _, _, _, _, _, _, rfl, by kernel_rfl⟩
      case f14 => exact ⟨_, _, _, _, _, _, _, _, rfl, by kernel_rfl⟩
      case i => exact ⟨_, _, _, _, _, _, _, _, rfl, by kernel_rfl⟩
      case t => exact ⟨_, _, _, _, _, _, _, _, rfl, by kernel_rfl⟩
      case n => exact ⟨_, _, _, _, _, _, _, _, rfl, by kernel_rfl⟩
      all_goals (first | (unfold nmK; kernel_rfl) | (unfold noK; kernel_rfl))
    refine ⟨?_, g'', trivial⟩
    wrow_close)

