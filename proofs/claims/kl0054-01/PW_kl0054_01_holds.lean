import PyProof.Rows.All
import Wide.All
import OpenK.AllK
import Wide.FinOn
import Lean
import PySem.Challenge.RW_kl0054_01
set_option Elab.async false
set_option maxRecDepth 100000
open PySem PySem.W PySem.Spec PySem.Calls PyProof.Rows
namespace Mine

/-- the frames keep all but their slots -/
def FK (fs : List Env) (h h' : Heap) : Prop := ∀ e ∈ fs, ∀ L, e.frame = some L → ∀ o, h.get? L = some o → ∃ sl, h'.get? L = some { o with slots := sl }
theorem FK.refl (fs : List Env) (h : Heap) : FK fs h h := fun _ _ _ _ o e => ⟨o.slots, e⟩
theorem FK.trans {fs : List Env} {h₁ h₂ h₃ : Heap} (x : FK fs h₁ h₂) (y : FK fs h₂ h₃) : FK fs h₁ h₃ := fun e he L hL o ho => by
  obtain ⟨s1, h1⟩ := x e he L hL o ho
  obtain ⟨s2, h2⟩ := y e he L hL _ h1
  exact ⟨s2, h2⟩
theorem FK.keeps {fs : List Env} {h h' : Heap} (k : h.StaysIn h') : FK fs h h' := fun _ _ _ _ o e => ⟨o.slots, k _ _ e⟩
theorem FK.mono {fs gs : List Env} {h h' : Heap} (x : FK fs h h') (s : ∀ e ∈ gs, e ∈ fs) : FK gs h h' := fun e he => x e (s e he)

theorem stays_refl (h : Heap) : h.StaysIn h := fun _ _ e => e
theorem stays_trans {a b c : Heap} (x : a.StaysIn b) (y : b.StaysIn c) : a.StaysIn c := fun _ _ e => y _ _ (x _ _ e)
theorem fresh_none {G h : Heap} (k : G.StaysIn h) {a : Addr} (e : h.get? a = none) : G.get? a = none := by
  cases q : G.get? a with
  | none => rfl
  | some o => have := k a o q; rw [e] at this; cases this
theorem size_none (h : Heap) : h.get? h.objs.size = none := by
  cases q : h.get? h.objs.size with
  | none => rfl
  | some o => exact absurd (Heap.lt_size q) (Nat.lt_irrefl _)

theorem ff_mem {h G : Heap} {fs : List Env} (F : h.FunFrames G fs) : ∀ e ∈ fs, ∃ L o, e.frame = some L ∧ G.get? L = none ∧ h.get? L = some o ∧ ∀ vs, o.data ≠ .fields vs := by
  induction fs with
  | nil => exact fun e he => absurd he List.not_mem_nil
  | cons a l ih =>
    obtain ⟨_, f, r⟩ := F
    intro e he
    rcases List.mem_cons.mp he with rfl | he
    · exact f
    · exact ih r e he
theorem ff_to {h h' G G' : Heap} : ∀ {fs : List Env}, h.FunFrames G fs → (∀ e ∈ fs, ∀ L, e.frame = some L → G'.get? L = none) → (∀ e ∈ fs, ∀ L, e.frame = some L → ∀ o, h.get? L = some o → ∃ o', h'.get? L = some o' ∧ (o'.data = o.data ∨ ∀ vs, o'.data ≠ .fields vs)) → h'.FunFrames G' fs
  | [], _, _, _ => trivial
  | e :: fs, ⟨k, ⟨L, o, a, _, c, d⟩, r⟩, hn, hk => ⟨k, by
      obtain ⟨o', h1, h2⟩ := hk e (.head _) L a o c
      exact ⟨L, o', a, hn e (.head _) L a, h1, fun vs q => by
        rcases h2 with h2 | h2
        · exact d vs (h2 ▸ q)
        · exact h2 vs q⟩, ff_to r (fun e he => hn e (.tail _ he)) fun e he => hk e (.tail _ he)⟩

structure Wd (fs : List Env) (G : Heap) (ow : List (Addr × Obj)) (h : Heap) : Prop where
  keep : G.StaysIn h
  own : ∀ p ∈ ow, h.get? p.1 = some p.2
  ownG : ∀ p ∈ ow, G.get? p.1 = none
  nd : (ow.map (·.1)).Nodup
  ff : h.FunFrames G fs
  fd : ∀ p ∈ ow, ∀ e ∈ fs, e.frame ≠ some p.1

structure Lf (fs : List Env) (G h G' : Heap) (ow' : List (Addr × Obj)) (h' : Heap) : Prop where
  gr : G.StaysIn G'
  wd : Wd fs G' ow' h'
  fk : FK fs h h'

theorem Lf.refl {fs : List Env} {G h : Heap} {ow : List (Addr × Obj)} (W : Wd fs G ow h) : Lf fs G h G ow h := ⟨stays_refl _, W, FK.refl _ _⟩
theorem Lf.trans {fs : List Env} {G h G₁ h₁ G₂ h₂ : Heap} {ow₁ ow₂ : List (Addr × Obj)} (x : Lf fs G h G₁ ow₁ h₁) (y : Lf fs G₁ h₁ G₂ ow₂ h₂) : Lf fs G h G₂ ow₂ h₂ :=
  ⟨stays_trans x.gr y.gr, y.wd, x.fk.trans y.fk⟩

theorem Wd.keeps {fs : List Env} {G h h' : Heap} {ow : List (Addr × Obj)} (W : Wd fs G ow h) (k : h.StaysIn h') : Wd fs G ow h' :=
  ⟨stays_trans W.keep k, fun p hp => k _ _ (W.own p hp), W.ownG, W.nd, ff_to W.ff (fun e he L hL => by
    obtain ⟨L', o, a, b, _⟩ := ff_mem W.ff e he
    rw [hL] at a; cases a; exact b) fun e he L hL o ho => ⟨o, k _ _ ho, .inl rfl⟩, W.fd⟩

theorem Wd.frameG {fs : List Env} {G h : Heap} {ow : List (Addr × Obj)} (W : Wd fs G ow h) {e : Env} (he : e ∈ fs) {L : Addr} (hL : e.frame = some L) : G.get? L = none := by
  obtain ⟨L', o, a, b, _⟩ := ff_mem W.ff e he
  rw [hL] at a; cases a; exact b
theorem Wd.frameIn {fs : List Env} {G h : Heap} {ow : List (Addr × Obj)} (W : Wd fs G ow h) {e : Env} (he : e ∈ fs) {L : Addr} (hL : e.frame = some L) : ∃ o, h.get? L = some o ∧ ∀ vs, o.data ≠ .fields vs := by
  obtain ⟨L', o, a, _, c, d⟩ := ff_mem W.ff e he
  rw [hL] at a; cases a; exact ⟨o, c, d⟩

/-- all that is new, or let go of, is frozen -/
theorem Wd.grow {fs : List Env} {G h h' : Heap} {ow ow' : List (Addr × Obj)} (W : Wd fs G ow h) (k : h.StaysIn h') (hs : ∀ p ∈ ow', p ∈ ow) (hn : (ow'.map (·.1)).Nodup) :
    ∃ G', G.StaysIn G' ∧ Wd fs G' ow' h' ∧ (∀ b o, h'.get? b = some o → b ∉ ow'.map (·.1) → (∀ e ∈ fs, e.frame ≠ some b) → G'.get? b = some o) := by
  have W' := W.keeps k
  have key : ∀ b o, h'.get? b = some o → b ∉ ow'.map (·.1) → (∀ e ∈ fs, e.frame ≠ some b) → (hideAll h' (ow'.map (·.1) ++ fs.filterMap (·.frame))).get? b = some o := fun b o e n1 n2 =>
    hideAll_get _ e fun m => by
      rcases List.mem_append.mp m with m | m
      · exact n1 m
      · obtain ⟨env, he, hf⟩ := List.mem_filterMap.mp m
        exact n2 env he hf
  have gr : G.StaysIn (hideAll h' (ow'.map (·.1) ++ fs.filterMap (·.frame))) := fun b o e => key b o (W'.keep b o e) (fun m => by
      obtain ⟨p, hp, rfl⟩ := List.mem_map.mp m
      rw [W.ownG p (hs p hp)] at e; cases e) fun env he hf => by
      rw [W.frameG he hf] at e; cases e
  refine ⟨_, gr, ⟨fun b o e => of_hideAll _ e, fun p hp => W'.own p (hs p hp), fun p hp => hideAll_none _ (List.mem_append_left _ (List.mem_map_of_mem hp)), hn, ?_, fun p hp => W.fd p (hs p hp)⟩, key⟩
  exact ff_to W'.ff (fun e he L hL => hideAll_none _ (List.mem_append_right _ (List.mem_filterMap.mpr ⟨e, he, hL⟩))) fun e he L hL o ho => ⟨o, ho, .inl rfl⟩

theorem Wd.lf_grow {fs : List Env} {G h h' : Heap} {ow : List (Addr × Obj)} (W : Wd fs G ow h) (k : h.StaysIn h') :
    ∃ G', Lf fs G h G' ow h' ∧ ∀ b o, h.get? b = none → h'.get? b = some o → G'.get? b = some o := by
  obtain ⟨G', a, b, c⟩ := W.grow k (fun _ h => h) W.nd
  refine ⟨G', ⟨a, b, FK.keeps k⟩, fun x o n e => c x o e (fun m => ?_) fun env he hf => ?_⟩
  · obtain ⟨p, hp, rfl⟩ := List.mem_map.mp m
    rw [W.own p hp] at n; cases n
  · obtain ⟨o', ho', _⟩ := W.frameIn he hf
    rw [ho'] at n; cases n

theorem Wd.own_new {fs : List Env} {G h h' : Heap} {ow : List (Addr × Obj)} (W : Wd fs G ow h) (k : h.StaysIn h') {a : Addr} {o : Obj} (n : h.get? a = none) (e : h'.get? a = some o) : Wd fs G ((a, o) :: ow) h' := by
  have W' := W.keeps k
  refine ⟨W'.keep, fun p hp => ?_, fun p hp => ?_, ?_, W'.ff, fun p hp env he hf => ?_⟩
  · rcases List.mem_cons.mp hp with rfl | hp
    · exact e
    · exact W'.own p hp
  · rcases List.mem_cons.mp hp with rfl | hp
    · exact fresh_none W.keep n
    · exact W.ownG p hp
  · rw [List.map_cons, List.nodup_cons]
    refine ⟨fun m => ?_, W.nd⟩
    obtain ⟨p, hp, q⟩ := List.mem_map.mp m
    have := W.own p hp
    rw [q, n] at this; cases this
  · rcases List.mem_cons.mp hp with rfl | hp
    · obtain ⟨o', ho', _⟩ := W.frameIn he hf
      rw [n] at ho'; cases ho'
    · exact W.fd p hp env he hf

/-- an own object turned -/
theorem Wd.put {fs : List Env} {G h h' : Heap} {pre post : List (Addr × Obj)} {a : Addr} {o o' : Obj} (W : Wd fs G (pre ++ (a, o) :: post) h) (hs : Heap.SameBut a h h') (e : h'.get? a = some o') :
    Lf fs G h G (pre ++ (a, o') :: post) h' := by
  have nd := W.nd
  rw [List.map_append, List.map_cons, List.nodup_append] at nd
  obtain ⟨_, n2, n3⟩ := nd
  rw [List.nodup_cons] at n2
  have aG : G.get? a = none := W.ownG (a, o) (by simp)
  have af : ∀ env ∈ fs, env.frame ≠ some a := W.fd (a, o) (by simp)
  have kk : ∀ b, b ≠ a → h'.get? b = h.get? b := hs.2
  refine ⟨stays_refl _, ⟨fun b x q => (kk b fun z => by rw [z, aG] at q; cases q).trans (W.keep b x q), fun p hp => ?_, fun p hp => ?_, ?_, ?_, fun p hp => ?_⟩, ?_⟩
  · rcases List.mem_append.mp hp with hp | hp
    · exact (kk p.1 fun z => n3 _ (List.mem_map_of_mem hp) _ (.head _) z).trans (W.own p (List.mem_append_left _ hp))
    · rcases List.mem_cons.mp hp with rfl | hp
      · exact e
      · exact (kk p.1 fun z => n2.1 (List.mem_map.mpr ⟨p, hp, z⟩)).trans (W.own p (List.mem_append_right _ (.tail _ hp)))
  · rcases List.mem_append.mp hp with hp | hp
    · exact W.ownG p (List.mem_append_left _ hp)
    · rcases List.mem_cons.mp hp with rfl | hp
      · exact aG
      · exact W.ownG p (List.mem_append_right _ (.tail _ hp))
  · have := W.nd
    rw [List.map_append, List.map_cons] at this ⊢
    exact this
  · exact ff_to W.ff (fun e he L hL => W.frameG he hL) fun e he L hL o ho => ⟨o, (kk L fun z => af e he (z ▸ hL)).trans ho, .inl rfl⟩
  · rcases List.mem_append.mp hp with hp | hp
    · exact W.fd p (List.mem_append_left _ hp)
    · rcases List.mem_cons.mp hp with rfl | hp
      · exact af
      · exact W.fd p (List.mem_append_right _ (.tail _ hp))
  · exact fun e he L hL o ho => ⟨o.slots, (kk L fun z => af e he (z ▸ hL)).trans ho⟩

structure Ent where
  G : Heap
  h : Heap
  fs : List Env

structure At (X : Ent) (G : Heap) (ow : List (Addr × Obj)) (env : Env) (m : Str → Option Value) (h : Heap) : Prop where
  gr : X.G.StaysIn G
  wd : Wd (env :: X.fs) G ow h
  fk : FK X.fs X.h h
  ns : h.Ns env.locals m
  fr : env.frame = some env.locals
  nX : ∀ e ∈ X.fs, e.frame ≠ some env.locals

section
variable {X : Ent} {G G' h h' : Heap} {ow ow' : List (Addr × Obj)} {env : Env} {m m' : Str → Option Value}
theorem At.nG (AT : At X G ow env m h) : G.get? env.locals = none := AT.wd.frameG (.head _) AT.fr
theorem At.nO (AT : At X G ow env m h) : ∀ p ∈ ow, p.1 ≠ env.locals := fun p hp z => AT.wd.fd p hp env (.head _) (z ▸ AT.fr)
theorem At.keep (AT : At X G ow env m h) : G.StaysIn h := AT.wd.keep

theorem ns_slots {h h' : Heap} {L : Addr} {m : Str → Option Value} (n : h.Ns L m) (k : ∀ o, h.get? L = some o → ∃ sl, h'.get? L = some { o with slots := sl }) : h'.Ns L m := by
  obtain ⟨o, es, ep, ho, hd, r⟩ := n
  obtain ⟨sl, e⟩ := k o ho
  exact ⟨_, es, ep, e, hd, r⟩

theorem At.back (AT : At X G ow env m h) (l : Lf (env :: X.fs) G h G' ow' h') : At X G' ow' env m h' :=
  ⟨stays_trans AT.gr l.gr, l.wd, AT.fk.trans (l.fk.mono fun _ he => .tail _ he), ns_slots AT.ns fun o e => l.fk env (.head _) env.locals AT.fr o e, AT.fr, AT.nX⟩

theorem At.keeps (AT : At X G ow env m h) (k : h.StaysIn h') : At X G ow env m h' := AT.back ⟨stays_refl _, AT.wd.keeps k, FK.keeps k⟩

theorem At.grow (AT : At X G ow env m h) (k : h.StaysIn h') : ∃ G', G.StaysIn G' ∧ At X G' ow env m h' ∧ ∀ b o, h.get? b = none → h'.get? b = some o → G'.get? b = some o := by
  obtain ⟨G', l, q⟩ := AT.wd.lf_grow k
  exact ⟨G', l.gr, AT.back l, q⟩
theorem At.own_new (AT : At X G ow env m h) (k : h.StaysIn h') {a : Addr} {o : Obj} (n : h.get? a = none) (e : h'.get? a = some o) : At X G ((a, o) :: ow) env m h' :=
  AT.back ⟨stays_refl _, AT.wd.own_new k n e, FK.keeps k⟩
theorem At.put {pre post : List (Addr × Obj)} {a : Addr} {o o' : Obj} (AT : At X G (pre ++ (a, o) :: post) env m h) (hs : Heap.SameBut a h h') (e : h'.get? a = some o') : At X G (pre ++ (a, o') :: post) env m h' :=
  AT.back (AT.wd.put hs e)

theorem At.store (AT : At X G ow env m h) (hn : h'.Ns env.locals m') (hs : Heap.SameBut env.locals h h') : At X G ow env m' h' := by
  have kk : ∀ b, b ≠ env.locals → h'.get? b = h.get? b := hs.2
  refine ⟨AT.gr, ⟨fun b o e => (kk b fun z => by rw [z, AT.nG] at e; cases e).trans (AT.keep b o e), fun p hp => (kk _ (AT.nO p hp)).trans (AT.wd.own p hp), AT.wd.ownG, AT.wd.nd, ?_, AT.wd.fd⟩, ?_, hn, AT.fr, AT.nX⟩
  · refine ff_to AT.wd.ff (fun e he L hL => AT.wd.frameG he hL) fun e he L hL o ho => ?_
    by_cases z : L = env.locals
    · subst z
      obtain ⟨o', es, ep, ho', hd, _⟩ := hn
      exact ⟨o', ho', .inr fun vs q => by rw [hd] at q; cases q⟩
    · exact ⟨o, (kk L z).trans ho, .inl rfl⟩
  · exact AT.fk.trans fun e he L hL o ho => ⟨o.slots, (kk L fun z => AT.nX e he (z ▸ hL)).trans ho⟩

theorem At.lf (AT : At X G ow env m h) : Lf X.fs X.G X.h G ow h :=
  ⟨AT.gr, ⟨AT.keep, AT.wd.own, AT.wd.ownG, AT.wd.nd, AT.wd.ff.2.2, fun p hp e he => AT.wd.fd p hp e (.tail _ he)⟩, AT.fk⟩

/-- the frame is left; some of what was own is let go of -/
theorem At.leave (AT : At X G ow env m h) (hs : ∀ p ∈ ow', p ∈ ow) (hn : (ow'.map (·.1)).Nodup) :
    ∃ G', G.StaysIn G' ∧ Lf X.fs X.G X.h G' ow' h ∧ ∀ p ∈ ow, p.1 ∉ ow'.map (·.1) → G'.get? p.1 = some p.2 := by
  obtain ⟨G', a, b, c⟩ := AT.lf.wd.grow (fun _ _ e => e) hs hn
  exact ⟨G', a, ⟨stays_trans AT.gr a, b, AT.fk⟩, fun p hp n => c _ _ (AT.wd.own p hp) n fun e he => AT.wd.fd p hp e (.tail _ he)⟩
/-- some of what was own is let go of, in the frame -/
theorem At.freeze (AT : At X G ow env m h) (hs : ∀ p ∈ ow', p ∈ ow) (hn : (ow'.map (·.1)).Nodup) :
    ∃ G', G.StaysIn G' ∧ At X G' ow' env m h ∧ ∀ p ∈ ow, p.1 ∉ ow'.map (·.1) → G'.get? p.1 = some p.2 := by
  obtain ⟨G', a, b, c⟩ := AT.wd.grow (fun _ _ e => e) hs hn
  exact ⟨G', a, AT.back ⟨a, b, FK.refl _ _⟩, fun p hp n => c _ _ (AT.wd.own p hp) n fun e he => AT.wd.fd p hp e he⟩
end

/-- the stack around, with the room that is left -/
structure Ar (A : Around) (fs : List Env) (d u : Nat) : Prop where
  fr : A.frames = some fs
  hd : A.handled = none
  dp : A.depth + d < recursionLimit
  un : A.units + u < cLine
theorem Ar.less {A : Around} {fs : List Env} {d u d' u' : Nat} (a : Ar A fs d u) (h1 : d' ≤ d) (h2 : u' ≤ u) : Ar A fs d' u' := ⟨a.fr, a.hd, by have := a.dp; omega, by have := a.un; omega⟩
theorem Ar.in1 {A : Around} {fs : List Env} {d u : Nat} (a : Ar A fs d (u + 1)) : Ar A.in1 fs d u := ⟨a.fr, a.hd, a.dp, by have := a.un; show A.units + 1 + u < cLine; omega⟩
theorem Ar.deeper {A : Around} {fs : List Env} {d u : Nat} (env : Env) (a : Ar A fs (d + 1) (u + 3)) : Ar (A.deeper env) (env :: fs) d u :=
  ⟨Around.frames_deeper a.fr, a.hd, by have := a.dp; show A.depth + 1 + d < recursionLimit; omega, by have := a.un; show A.units + 3 + u < cLine; omega⟩

/-- the names of the top and of the built-ins -/
structure Sta (mg mb : Str → Option Value) (G : Heap) : Prop where
  g : G.Ns mainGlobals mg
  b : G.Ns builtinsNs mb
  lim : G.NoLimit
  bi : ∀ x : Str, x ≠ "__name__" → mb x = bootBuiltins x
theorem Sta.mono {mg mb : Str → Option Value} {G G' : Heap} (S : Sta mg mb G) (k : G.StaysIn G') : Sta mg mb G' := ⟨S.g.keeps k, S.b.keeps k, S.lim.keeps k, S.bi⟩

structure FnAt (G : Heap) (f : Addr) (name qual : Str) (params : Arguments) (body : List Stmt) (scope : Scope) (cl : List (Str × Addr)) : Prop where
  ex : ∃ o pm doc an cdv ct, G.get? f = some o ∧ o.data = .func (fnX name qual params body scope cl .none .none doc pm an cdv ct) ∧ G.CodeRec cdv qual
theorem FnAt.mono {G G' : Heap} {f : Addr} {name qual : Str} {params : Arguments} {body : List Stmt} {scope : Scope} {cl : List (Str × Addr)} (F : FnAt G f name qual params body scope cl) (k : G.StaysIn G') : FnAt G' f name qual params body scope cl :=
  let ⟨o, pm, doc, an, cdv, ct, a, b, c⟩ := F.ex; ⟨o, pm, doc, an, cdv, ct, k _ _ a, b, c.keeps k⟩

section
variable {prog : Program} {w : World} {A : Around} {E : Value → Shared → Prop} {s : Shared} {fs : List Env} {G : Heap} {ow : List (Addr × Obj)} {Q : Value → Shared → Prop}
  {f : Addr} {name qual : Str} {params : Arguments} {body : List Stmt} {scope : Scope} {cl : List (Str × Addr)} {vals : List Value} {binds : List (Str × Value)}

/-- what a frame's raise does on its way out -/
def Out (prog : Program) (w : World) (A : Around) (env : Env) (E : Value → Shared → Prop) (e : Value) (s' : Shared) : Prop :=
  wpAny (model prog w) (A.deeper env) (leaving env e) (fun _ s'' => E e s'') (fun e' s'' => E e' s'') s'

theorem code_fn {R : Result → Shared → Prop} (W : Wd fs G ow s.heap) (hA : A.depth < recursionLimit) (lim : G.NoLimit) (F : FnAt G f name qual params body scope cl)
    (hb : ∀ doc pm an cdv ct, BindsTo s (fnX name qual params body scope cl .none .none doc pm an cdv ct) ⟨vals, []⟩ binds)
    (hloc : ∀ y ∈ binds, scope.names.lookup y.1 = some .local)
    (h : ∀ L cdv h₁, L = s.heap.objs.size → s.heap.StaysIn h₁ → At ⟨G, s.heap, fs⟩ G ow (envX qual scope L f cdv cl) (fun y => binds.reverse.lookup y) h₁ →
      wpAny (model prog w) (A.deeper (envX qual scope L f cdv cl)) (execs body (envX qual scope L f cdv cl))
        (fun fl s' => R (.ok (.ret (match fl with | .ret v => v | _ => .none))) s')
        (Out prog w A (envX qual scope L f cdv cl) (fun e s' => R (.error e) s')) { s with heap := h₁, toks := s.toks + binds.length })
    (hcell : ∀ x ∈ scope.names, x.2 ≠ .cell) (hco : scope.isCoroutine = false) (hgen : scope.isGenerator = false) (hk : scope.kind = .function) :
    codeAny (model prog w) A (.call (.ref f) ⟨vals, []⟩) R s := by
  obtain ⟨o, pm, doc, an, cdv, ct, ho, hd, hcd⟩ := F.ex
  refine codeAny_call_def (fd := fnX name qual params body scope cl .none .none doc pm an cdv ct) (body := body) (binds := binds) hA (W.keep _ _ ho) hd (lim.keeps W.keep) (hcd.keeps W.keep) rfl (hb _ _ _ _ _) hcell hloc (fun h₁ hns hk₁ => ?_) hco hgen hk
  refine h s.heap.objs.size cdv h₁ rfl hk₁ ?_
  have W' := W.keeps (h' := h₁) hk₁
  have nL : s.heap.get? s.heap.objs.size = none := size_none _
  have nf : ∀ e ∈ fs, e.frame ≠ some s.heap.objs.size := fun e he hf => by
    obtain ⟨o', ho', _⟩ := W.frameIn he hf
    rw [nL] at ho'; cases ho'
  refine ⟨stays_refl _, ⟨W'.keep, W'.own, W'.ownG, W'.nd, ⟨by show scope.kind ≠ .module; rw [hk]; decide, ?_, W'.ff⟩, fun p hp e he hf => ?_⟩, FK.keeps hk₁, hns, rfl, nf⟩
  · obtain ⟨o', es, ep, ho', hd', _⟩ := hns
    exact ⟨_, o', rfl, fresh_none W.keep nL, ho', fun vs q => by rw [hd'] at q; cases q⟩
  · rcases List.mem_cons.mp he with rfl | he
    · have : s.heap.objs.size = p.1 := Option.some.inj hf
      have := W.own p hp
      rw [← ‹s.heap.objs.size = p.1›, nL] at this; cases this
    · exact W.fd p hp e he hf

theorem call_fn (W : Wd fs G ow s.heap) (hA : A.depth < recursionLimit) (lim : G.NoLimit) (F : FnAt G f name qual params body scope cl)
    (hb : ∀ doc pm an cdv ct, bindArgs (fnX name qual params body scope cl .none .none doc pm an cdv ct) ⟨vals, []⟩ = pure binds)
    (hloc : (binds.all fun y => decide (scope.names.lookup y.1 = some .local)) = true)
    (h : ∀ L cdv h₁, L = s.heap.objs.size → s.heap.StaysIn h₁ → At ⟨G, s.heap, fs⟩ G ow (envX qual scope L f cdv cl) (fun y => binds.reverse.lookup y) h₁ →
      wpAny (model prog w) (A.deeper (envX qual scope L f cdv cl)) (execs body (envX qual scope L f cdv cl))
        (fun fl s' => Q (match fl with | .ret v => v | _ => .none) s')
        (Out prog w A (envX qual scope L f cdv cl) E) { s with heap := h₁, toks := s.toks + binds.length })
    (hcell : ∀ x ∈ scope.names, x.2 ≠ .cell) (hco : scope.isCoroutine = false) (hgen : scope.isGenerator = false) (hk : scope.kind = .function) :
    wpAny (model prog w) A (call (.ref f) vals) Q E s :=
  wpAny_call (code_fn W hA lim F (fun _ _ _ _ _ => BindsTo.of_eq (hb _ _ _ _ _)) (fun y hy => of_decide_eq_true (List.all_eq_true.mp hloc y hy)) h hcell hco hgen hk)
end

theorem mine_mro_map : mroOf (.type "map") = pure [.type "map", .type "object"] := by rw [mroOf_type]; kernel_rfl
theorem mine_lookup_map_new : typeLookup (.type "map") "__new__" = pure (some (.builtin "map.__new__")) := by rw [typeLookup_type, builtinLookup_eq_fast]; kernel_rfl
theorem slot_map_init : Slot "map" "__init__" "object.__init__" :=
  .of (owner := "object") (n := "__init__") (by rw [typeLookup_type, builtinLookup_eq_fast]; kernel_rfl) (by decide +kernel) (by decide +kernel) (by decide +kernel)
    (by first | exact .inl (by decide +kernel) | exact .inr (by decide +kernel)) (by rw [isSubtype_type]; kernel_rfl)
theorem slot_map_iter : Slot "map" "__iter__" "map.__iter__" :=
  .of (owner := "map") (n := "__iter__") (by rw [typeLookup_type, builtinLookup_eq_fast]; kernel_rfl) (by decide +kernel) (by decide +kernel) (by decide +kernel)
    (by first | exact .inl (by decide +kernel) | exact .inr (by decide +kernel)) (by rw [isSubtype_type]; kernel_rfl)
theorem slot_map_next : Slot "map" "__next__" "map.__next__" :=
  .of (owner := "map") (n := "__next__") (by rw [typeLookup_type, builtinLookup_eq_fast]; kernel_rfl) (by decide +kernel) (by decide +kernel) (by decide +kernel)
    (by first | exact .inl (by decide +kernel) | exact .inr (by decide +kernel)) (by rw [isSubtype_type]; kernel_rfl)
theorem entry_map_new : entryFor table "map.__new__" = some Builtin.«map.__new__» := entryFor_of_tree (by kernel_rfl)
theorem entry_map_next : entryFor table "map.__next__" = some Builtin.«map.__next__» := entryFor_of_tree (by kernel_rfl)
theorem entry_map_iter : entryFor table "map.__iter__" = some Builtin.«dict_keyiterator.__iter__» :=
  entryFor_alias (id' := "dict_keyiterator.__iter__") (by kernel_rfl) rfl (by decide +kernel) (by kernel_rfl)
theorem args_map_iter (a : Value) : argsOk "map.__iter__" ⟨[a], []⟩ := by unfold argsOk; kernel_rfl
theorem args_map_next (a : Value) : argsOk "map.__next__" ⟨[a], []⟩ := by unfold argsOk; kernel_rfl
theorem map_no_len : typeLookup (.type "map") "__len__" = pure none := by rw [typeLookup_type, builtinLookup_eq_fast]; kernel_rfl
theorem map_no_hint : typeLookup (.type "map") "__length_hint__" = pure none := by rw [typeLookup_type, builtinLookup_eq_fast]; kernel_rfl
theorem called_map : TypeCalled "map" "map.__new__" "object.__init__" :=
  ⟨by decide +kernel, by decide +kernel, ⟨_, _, mine_mro_map⟩, madeBy_type mine_mro_map mine_lookup_map_new (by decide +kernel), by decide +kernel, by rw [isSubtype_type]; kernel_rfl, slot_map_init⟩
theorem typeCall_map (a : Value) (b : List Value) : checkTypeCall "map" ⟨a :: b, []⟩ = pure () := by kernel_rfl
theorem newCall_map_1 (a b : Value) : checkBuiltinCall "map.__new__" ⟨[.type "map", a, b], []⟩ = pure () := by kernel_rfl
theorem newCall_map_2 (a b c : Value) : checkBuiltinCall "map.__new__" ⟨[.type "map", a, b, c], []⟩ = pure () := by kernel_rfl
theorem newCall_map_3 (a b c d : Value) : checkBuiltinCall "map.__new__" ⟨[.type "map", a, b, c, d], []⟩ = pure () := by kernel_rfl
theorem initArgs_map_1 (o a b : Value) : argsOk "object.__init__" ⟨[o, a, b], []⟩ := by unfold argsOk; kernel_rfl


inductive All2 {α β : Type} (R : α → β → Prop) : List α → List β → Prop
  | nil : All2 R [] []
  | cons {a b l r} : R a b → All2 R l r → All2 R (a :: l) (b :: r)
theorem All2.length {α β : Type} {R : α → β → Prop} {l : List α} {r : List β} (h : All2 R l r) : l.length = r.length := by
  induction h with
  | nil => rfl
  | cons _ _ ih => simp [ih]
theorem All2.append {α β : Type} {R : α → β → Prop} {l l' : List α} {r r' : List β} (h : All2 R l r) (k : All2 R l' r') : All2 R (l ++ l') (r ++ r') := by
  induction h with
  | nil => exact k
  | cons x _ ih => exact .cons x ih

theorem All2.reverse {α β : Type} {R : α → β → Prop} {l : List α} {r : List β} (h : All2 R l r) : All2 R l.reverse r.reverse := by
  induction h with
  | nil => exact .nil
  | cons x _ ih => rw [List.reverse_cons, List.reverse_cons]; exact ih.append (.cons x .nil)

theorem Wd.sub {fs : List Env} {G h : Heap} {ow ow' : List (Addr × Obj)} (W : Wd fs G ow h) (hs : ∀ p ∈ ow', p ∈ ow) (hn : (ow'.map (·.1)).Nodup) : Wd fs G ow' h :=
  ⟨W.keep, fun p hp => W.own p (hs p hp), fun p hp => W.ownG p (hs p hp), hn, W.ff, fun p hp => W.fd p (hs p hp)⟩
theorem Wd.perm {fs : List Env} {G h : Heap} {ow ow' : List (Addr × Obj)} (W : Wd fs G ow h) (p : ow.Perm ow') : Wd fs G ow' h :=
  W.sub (fun _ hp => p.mem_iff.mpr hp) ((p.map _).nodup_iff.mp W.nd)
theorem Wd.right {fs : List Env} {G h : Heap} {a b : List (Addr × Obj)} (W : Wd fs G (a ++ b) h) : Wd fs G b h := by
  refine W.sub (fun _ hp => List.mem_append_right _ hp) ?_
  have := W.nd
  rw [List.map_append, List.nodup_append] at this
  exact this.2.1
theorem Lf.right {fs : List Env} {G h G' h' : Heap} {a b : List (Addr × Obj)} (l : Lf fs G h G' (a ++ b) h') : Lf fs G h G' b h' := ⟨l.gr, l.wd.right, l.fk⟩
theorem Lf.perm {fs : List Env} {G h G' h' : Heap} {a b : List (Addr × Obj)} (l : Lf fs G h G' a h') (p : a.Perm b) : Lf fs G h G' b h' := ⟨l.gr, l.wd.perm p, l.fk⟩

def IsIt (o : Obj) (l : Addr) (t : Nat) : Prop := o.cls = .type "list_iterator" ∧ o.data = .fields #[.ref l, .int t 0]
def Its (its : List (Addr × Obj)) (ls : List Addr) (t : Nat) : Prop := All2 (fun p l => IsIt p.2 l t) its ls
theorem IsIt.at {h : Heap} {a l : Addr} {o : Obj} {t : Nat} (x : IsIt o l t) (e : h.get? a = some o) : h.IsListIter a l t := ⟨o, e, x.1, x.2⟩

section
variable {prog : Program} {w : World} {A : Around} {E : Value → Shared → Prop} {s : Shared} {fs : List Env} {G : Heap} {ow : List (Addr × Obj)}

theorem iterAll_go (f : Value → Array Value → Sem (ForInStep (Array Value))) (hf : ∀ x r, f x r = (do let v ← holding r.toList (pyIter x); pure (.yield (r.push v)))) :
    ∀ (ls : List Addr) (ow : List (Addr × Obj)) (s : Shared) (acc : Array Value) (Q : Array Value → Shared → Prop), Wd fs G ow s.heap → (∀ l ∈ ls, ∃ xs, s.heap.IsList l xs) →
    (∀ its h', Its its ls 0 → s.heap.StaysIn h' → Wd fs G (its ++ ow) h' → Q (acc ++ (its.map fun p => Value.ref p.1).toArray) { s with heap := h' }) →
    wpAny (model prog w) A (forIn (ls.map Value.ref) acc f) Q E s
  | [], ow, s, acc, Q, W, _, h => by
    have := h [] s.heap .nil (stays_refl _) W
    simp only [List.map_nil, List.forIn_nil]
    exact wpAny_pure (by simpa using this)
  | l :: ls, ow, s, acc, Q, W, hl, h => by
    simp only [List.map_cons, List.forIn_cons, hf]
    obtain ⟨xs, hx⟩ := hl l (.head _)
    refine wpAny_bind (wpAny_bind (wpAny_holding (wpAny_pyIter_list hx (wpAny_pure ?_))))
    show wpAny _ _ (forIn _ _ f) _ _ _
    have k : s.heap.StaysIn (s.heap.push { cls := .type "list_iterator", data := .fields #[.ref l, .int 0 0] }) := fun _ _ e => Heap.get?_push_of_some _ e
    have e := Heap.get?_push_size s.heap (o := { cls := .type "list_iterator", data := .fields #[.ref l, .int 0 0] }) rfl
    have W₁ := W.own_new k (size_none _) e
    refine iterAll_go f hf ls _ { s with heap := _ } _ Q W₁ (fun l' hl' => ?_) fun its h' hi hk W' => ?_
    · obtain ⟨ys, hy⟩ := hl l' (.tail _ hl')
      exact ⟨ys, hy.push _⟩
    · have := h ((s.heap.objs.size, { cls := .type "list_iterator", data := .fields #[.ref l, .int 0 0] }) :: its) h' (.cons ⟨rfl, rfl⟩ hi) (stays_trans k hk) (W'.perm (by simpa using List.perm_middle))
      simpa using this

theorem iterAll_wd {ls : List Addr} {Q : List Value → Shared → Prop} (W : Wd fs G ow s.heap) (hl : ∀ l ∈ ls, ∃ xs, s.heap.IsList l xs)
    (h : ∀ its h', Its its ls 0 → s.heap.StaysIn h' → Wd fs G (its ++ ow) h' → Q (its.map fun p => Value.ref p.1) { s with heap := h' }) :
    wpAny (model prog w) A (Builtin.SmallTypes.iterAll (ls.map Value.ref)) Q E s := by
  unfold Builtin.SmallTypes.iterAll
  refine wpAny_bind (iterAll_go _ (fun _ _ => rfl) ls ow s #[] _ W hl fun its h' hi hk W' => wpAny_pure ?_)
  simpa using h its h' hi hk W'

theorem sub_map : isSubtype (.type "map") (.type "map") = pure true := by rw [isSubtype_type]; kernel_rfl

def mapObj (T : Addr) (f : Value) : Obj := { cls := .type "map", data := .fields #[.ref T, f] }
def tupObj (vs : List Value) : Obj := { cls := .type "tuple", data := .seq vs.toArray }

theorem map_new {f : Value} {ls : List Addr} {R : Result → Shared → Prop} (hne : ls ≠ []) (hle : ls.length ≤ 1000) (W : Wd fs G ow s.heap) (hl : ∀ l ∈ ls, ∃ xs, s.heap.IsList l xs)
    (h : ∀ its h' h'' T mo, Its its ls 0 → s.heap.StaysIn h' → Wd fs G (its ++ ow) h' → h'.StaysIn h'' → T = h'.objs.size → mo = T + 1 → h''.get? T = some (tupObj (its.map fun p => Value.ref p.1)) → h''.get? mo = some (mapObj T f) → h'.get? T = none → h'.get? mo = none →
      R (.ok (.ret (.ref mo))) { s with heap := h'' }) :
    wpAny (model prog w) A (Builtin.«map.__new__» ⟨.type "map" :: f :: ls.map Value.ref, []⟩) (fun fin s' => ∃ v, fin = .done (.ret v) ∧ R (.ok (.ret v)) s') E s := by
  obtain ⟨hp, g, d, tk, os⟩ := s
  have hsub := sub_map
  have hlen : ¬ ((f :: ls.map Value.ref).length < 2) := by
    cases ls with
    | nil => exact absurd rfl hne
    | cons a r => simp
  have hd : (f :: ls.map Value.ref).drop 1 = ls.map Value.ref := rfl
  have hh : (f :: ls.map Value.ref).headD .none = f := rfl
  unfold Builtin.«map.__new__»
  have hnew : Builtin.SmallTypes.newClass "map" ⟨.type "map" :: f :: ls.map Value.ref, []⟩ = pure (.type "map", f :: ls.map Value.ref) := by
    simp only [Builtin.SmallTypes.newClass, isType, hsub]; rfl
  rw [hnew]
  refine wpAny_bind (wpAny_pure ?_)
  refine wpAny_bind (wpAny_pure ?_)
  simp only [hlen, if_false, hd, hh]
  refine wpAny_bind ?_
  refine iterAll_wd (s := ⟨hp, g, d, tk, os⟩) W hl fun its h' hi hk W' => ?_
  have hil : its.length = ls.length := hi.length
  refine wpAny_bind (wpAny_newTuple ?_ (by rw [List.length_map, hil]; exact Nat.le_trans hle (by decide)))
  unfold Builtin.SmallTypes.newRecord
  refine wpAny_bind (wpAny_newObj_type (wpAny_pure ⟨_, rfl, ?_⟩) (by size_fits))
  have hz : (h'.push (tupObj (its.map fun p => Value.ref p.1))).objs.size = h'.objs.size + 1 := Heap.size_push ..
  have e1 := Heap.get?_push_size h' (o := tupObj (its.map fun p => Value.ref p.1)) rfl
  have e2 := Heap.get?_push_size (h'.push (tupObj (its.map fun p => Value.ref p.1))) (o := mapObj h'.objs.size f) rfl
  rw [hz] at e2
  exact hz ▸ h its h' _ _ _ hi hk W' (fun b o e => Heap.get?_push_of_some _ (Heap.get?_push_of_some _ e)) rfl rfl (Heap.get?_push_of_some _ e1) e2 (size_none _) (by
    cases q : h'.get? (h'.objs.size + 1) with
    | none => rfl
    | some o => exact absurd (Heap.lt_size q) (Nat.not_lt.mpr (Nat.le_succ _)))
end


theorem Wd.extBut {fs : List Env} {G h h' : Heap} {pre post : List (Addr × Obj)} {a : Addr} {o : Obj} (W : Wd fs G (pre ++ (a, o) :: post) h) (hs : Heap.ExtBut a h h') : Lf fs G h G (pre ++ post) h' := by
  have aG : G.get? a = none := W.ownG (a, o) (by simp)
  have af : ∀ env ∈ fs, env.frame ≠ some a := W.fd (a, o) (by simp)
  have nd := W.nd
  rw [List.map_append, List.map_cons] at nd
  have nd' : ((pre ++ post).map (·.1)).Nodup := by
    rw [List.map_append]
    exact (List.perm_middle.nodup_iff.mp nd).of_cons
  have na : ∀ p ∈ pre ++ post, p.1 ≠ a := fun p hp z => by
    have := (List.nodup_cons.mp (List.perm_middle.nodup_iff.mp nd)).1
    rw [← List.map_append] at this
    exact this (List.mem_map.mpr ⟨p, hp, z⟩)
  have sub : ∀ p ∈ pre ++ post, p ∈ pre ++ (a, o) :: post := fun p hp => by
    rcases List.mem_append.mp hp with hp | hp
    · exact List.mem_append_left _ hp
    · exact List.mem_append_right _ (.tail _ hp)
  refine ⟨stays_refl _, ⟨fun b x q => hs b x (fun z => by rw [z, aG] at q; cases q) (W.keep b x q), fun p hp => hs _ _ (na p hp) (W.own p (sub p hp)), fun p hp => W.ownG p (sub p hp), nd', ?_, fun p hp => W.fd p (sub p hp)⟩, ?_⟩
  · exact ff_to W.ff (fun e he L hL => W.frameG he hL) fun e he L hL x hx => ⟨x, hs _ _ (fun z => af e he (z ▸ hL)) hx, .inl rfl⟩
  · exact fun e he L hL x hx => ⟨x.slots, hs _ _ (fun z => af e he (z ▸ hL)) hx⟩

theorem isList_ne_iter {h : Heap} {l i l' : Addr} {xs : Array Value} {t : Nat} (x : h.IsList l xs) (y : h.IsListIter i l' t) : l ≠ i := by
  rintro rfl
  obtain ⟨o, ho, hc, _⟩ := x
  obtain ⟨o', ho', hc', _⟩ := y
  rw [ho] at ho'; cases ho'
  rw [hc] at hc'; exact absurd (Value.type.inj hc') (by decide)

section
variable {prog : Program} {w : World} {A : Around} {E : Value → Shared → Prop} {fs : List Env} {G : Heap} {ow : List (Addr × Obj)} {t : Nat} {xs : Addr → Array Value} {v : Addr → Value}

theorem nexts_item (f : Value → Array Value → Sem (ForInStep (Array Value))) (hf : ∀ x r, f x r = (do let u ← holding r.toList (Builtin.SmallTypes.nextOf x); pure (.yield (r.push u)))) :
    ∀ {its : List (Addr × Obj)} {ls : List Addr}, Its its ls t → ∀ (pre : List (Addr × Obj)) (s : Shared) (acc : Array Value) (Q : Array Value → Shared → Prop), Wd fs G (pre ++ (its ++ ow)) s.heap →
    (∀ l ∈ ls, s.heap.IsList l (xs l)) → (∀ l ∈ ls, (xs l)[t]? = some (v l)) →
    (∀ its' h', Its its' ls (t + 1) → its'.map (·.1) = its.map (·.1) → Lf fs G s.heap G (pre ++ (its' ++ ow)) h' → (∀ b, b ∉ its.map (·.1) → h'.get? b = s.heap.get? b) → Q (acc ++ (ls.map v).toArray) { s with heap := h' }) →
    wpAny (model prog w) A (forIn (its.map fun p => Value.ref p.1) acc f) Q E s := by
  intro its ls hI
  induction hI with
  | nil =>
    intro pre s acc Q W _ _ h
    have := h [] s.heap .nil rfl (Lf.refl W) fun _ _ => rfl
    simp only [List.map_nil, List.forIn_nil]
    exact wpAny_pure (by simpa using this)
  | @cons p l its ls hp _ ih =>
    intro pre s acc Q W hl hv h
    simp only [List.map_cons, List.forIn_cons, hf]
    have hit := hp.at (W.own p (by simp))
    have hll := hl l (.head _)
    refine wpAny_bind (wpAny_bind (wpAny_holding (wpAny_nextOf_list_item hit hll (hv l (.head _)) fun h₁ hit₁ hs₁ => wpAny_pure ?_)))
    show wpAny _ _ (forIn _ _ f) _ _ _
    obtain ⟨o', ho', hc', hd'⟩ := hit₁
    have W₁ : Wd fs G (pre ++ p :: (its ++ ow)) s.heap := by simpa using W
    obtain ⟨a, o⟩ := p
    have L₁ := W₁.put hs₁ ho'
    refine ih (pre ++ [(a, o')]) { s with heap := h₁ } _ Q (by simpa using L₁.wd) (fun l' hl' => ?_) (fun l' hl' => hv l' (.tail _ hl')) fun its' h' hi hm hL hk => ?_
    · have x := hl l' (.tail _ hl')
      exact x.extBut hs₁.extBut (isList_ne_iter x hit)
    · have := h ((a, o') :: its') h' (.cons ⟨hc', hd'⟩ hi) (by simp [hm]) (by have := L₁.trans hL; simpa using this) fun b hb => ?_
      · simpa using this
      · simp only [List.map_cons, List.mem_cons, not_or] at hb
        exact (hk b hb.2).trans (hs₁.2 b hb.1)

theorem nexts_end (hh : A.handled = none) (f : Value → Array Value → Sem (ForInStep (Array Value))) (hf : ∀ x r, f x r = (do let u ← holding r.toList (Builtin.SmallTypes.nextOf x); pure (.yield (r.push u)))) :
    ∀ {its : List (Addr × Obj)} {ls : List Addr}, Its its ls t → ∀ (pre : List (Addr × Obj)) (s : Shared) (acc : Array Value) (Q : Array Value → Shared → Prop), Wd fs G (pre ++ (its ++ ow)) s.heap →
    (∀ l ∈ ls, s.heap.IsList l (xs l)) → (∃ l ∈ ls, (xs l)[t]? = none) →
    (∀ h' e, Lf fs G s.heap G ow h' → (∃ o, h'.get? e = some o ∧ o.cls = .type "StopIteration") → E (.ref e) { s with heap := h' }) →
    wpAny (model prog w) A (forIn (its.map fun p => Value.ref p.1) acc f) Q E s := by
  intro its ls hI
  induction hI with
  | nil => rintro pre s acc Q W _ ⟨l, hl, _⟩ h; cases hl
  | @cons p l its ls hp _ ih =>
    intro pre s acc Q W hl hv h
    simp only [List.map_cons, List.forIn_cons, hf]
    have hit := hp.at (W.own p (by simp))
    have hll := hl l (.head _)
    obtain ⟨a, o⟩ := p
    have W₁ : Wd fs G (pre ++ (a, o) :: (its ++ ow)) s.heap := by simpa using W
    cases q : (xs l)[t]? with
    | none =>
      refine wpAny_bind (wpAny_bind (wpAny_holding (wpAny_nextOf_list_end hh hit hll q fun h₁ e hs₁ he => h h₁ e ?_ he)))
      have := W₁.extBut hs₁
      rw [← List.append_assoc] at this
      exact this.right
    | some u =>
      refine wpAny_bind (wpAny_bind (wpAny_holding (wpAny_nextOf_list_item hit hll q fun h₁ hit₁ hs₁ => wpAny_pure ?_)))
      show wpAny _ _ (forIn _ _ f) _ _ _
      obtain ⟨o', ho', hc', hd'⟩ := hit₁
      have L₁ := W₁.put hs₁ ho'
      refine ih (pre ++ [(a, o')]) { s with heap := h₁ } _ Q (by simpa using L₁.wd) (fun l' hl' => ?_) ?_ fun h' e hL he => h h' e (L₁.trans hL) he
      · have x := hl l' (.tail _ hl')
        exact x.extBut hs₁.extBut (isList_ne_iter x hit)
      · obtain ⟨l', hl', hn⟩ := hv
        rcases List.mem_cons.mp hl' with rfl | hl'
        · rw [q] at hn; cases hn
        · exact ⟨l', hl', hn⟩

theorem map_item {s : Shared} {mo T : Addr} {f : Value} {its : List (Addr × Obj)} {ls : List Addr} {Q : Option Value → Shared → Prop} (W : Wd fs G (its ++ ow) s.heap) (hI : Its its ls t)
    (hm : G.get? mo = some (mapObj T f)) (hT : G.get? T = some (tupObj (its.map fun p => Value.ref p.1))) (hl : ∀ l ∈ ls, s.heap.IsList l (xs l)) (hv : ∀ l ∈ ls, (xs l)[t]? = some (v l))
    (h : ∀ its' h', Its its' ls (t + 1) → its'.map (·.1) = its.map (·.1) → Lf fs G s.heap G (its' ++ ow) h' → (∀ b, b ∉ its.map (·.1) → h'.get? b = s.heap.get? b) →
      wpAny (model prog w) A.in1 (call f (ls.map v)) (fun r s' => Q (some r) s') (OwitStop (model prog w) A Q E) { s with heap := h' }) :
    wpAny (model prog w) A (pyNext (.ref mo)) Q E s := by
  have hmo := W.keep _ _ hm
  have hTo := W.keep _ _ hT
  have ht : s.TypeIs (.ref mo) "map" := ⟨_, hmo, rfl⟩
  unfold pyNext
  refine wpAny_bind (wpAny_attempt (wpAny_callSpecial?_slot (name := Str.ofString "__next__") ht slot_map_next (wpAny_call_entry slot_map_next ht entry_map_next ?_ (args_map_next _))))
  show wpAny _ _ (field (.ref mo) 0 >>= _) _ _ s
  refine wpAny_bind (wpAny_field hmo rfl (x := .ref T) rfl ?_)
  show wpAny _ _ (seqItems? (.ref T) >>= _) _ _ s
  refine wpAny_bind (wpAny_seqItems hTo rfl ?_)
  refine wpAny_bind ?_
  rw [← Array.forIn_toList]
  refine nexts_item (t := t) (xs := xs) (v := v) _ (fun _ _ => rfl) hI [] s #[] _ (by simpa using W) hl hv fun its' h' hi hm' hL hk => ?_
  have hmo' := hL.wd.keep _ _ hm
  refine wpAny_bind (wpAny_field hmo' rfl (x := f) rfl ?_)
  simp only [Array.empty_append]
  refine wpAny_bind (wpAny_holding ?_)
  refine wpAny_mono (h its' h' hi hm' (by simpa using hL) hk) (fun r s' hq => wpAny_bind (wpAny_letGo (wpAny_pure ⟨r, rfl, wpAny_pure hq⟩))) fun e s' he => ?_
  exact wpAny_bind (wpAny_mono he (fun b s₂ hb => by
    cases b with
    | true => exact wpAny_pure hb
    | false => exact wpAny_throw hb) fun _ _ z => z)

theorem map_end {s : Shared} {mo T : Addr} {f : Value} {its : List (Addr × Obj)} {ls : List Addr} {Q : Option Value → Shared → Prop} (hh : A.handled = none) (W : Wd fs G (its ++ ow) s.heap) (hI : Its its ls t)
    (hm : G.get? mo = some (mapObj T f)) (hT : G.get? T = some (tupObj (its.map fun p => Value.ref p.1))) (hl : ∀ l ∈ ls, s.heap.IsList l (xs l)) (hv : ∃ l ∈ ls, (xs l)[t]? = none)
    (h : ∀ h', Lf fs G s.heap G ow h' → Q none { s with heap := h' }) :
    wpAny (model prog w) A (pyNext (.ref mo)) Q E s := by
  have hmo := W.keep _ _ hm
  have hTo := W.keep _ _ hT
  have ht : s.TypeIs (.ref mo) "map" := ⟨_, hmo, rfl⟩
  unfold pyNext
  refine wpAny_bind (wpAny_attempt (wpAny_callSpecial?_slot (name := Str.ofString "__next__") ht slot_map_next (wpAny_call_entry slot_map_next ht entry_map_next ?_ (args_map_next _))))
  show wpAny _ _ (field (.ref mo) 0 >>= _) _ _ s
  refine wpAny_bind (wpAny_field hmo rfl (x := .ref T) rfl ?_)
  show wpAny _ _ (seqItems? (.ref T) >>= _) _ _ s
  refine wpAny_bind (wpAny_seqItems hTo rfl ?_)
  refine wpAny_bind ?_
  rw [← Array.forIn_toList]
  refine nexts_end (t := t) (xs := xs) (A := A.in1) hh _ (fun _ _ => rfl) hI [] s #[] _ (by simpa using W) hl hv fun h' e hL he => ?_
  obtain ⟨o, ho, hc⟩ := he
  refine wpAny_bind (wpAny_isInstance (T := "StopIteration") (b := true) ⟨o, ho, hc⟩ isSubtype_stop ?_)
  exact wpAny_pure (h h' hL)
end


/-- an exception on its way: its class, its arguments -/
structure Fly (fs : List Env) (G : Heap) (ow : List (Addr × Obj)) (e : Addr) (cls : Value) (args : List Value) (h : Heap) : Prop where
  ex : ∃ B t, G.StaysIn B ∧ (∀ p ∈ ow, B.get? p.1 = some p.2) ∧ Heap.FlyingW B fs e cls (.ref t) h ∧ h.TupAt t args ∧ B.get? t = none ∧ ∀ e ∈ fs, e.frame ≠ some t

def ReadsP (G : Heap) (v : Value) (d : PyData) : Prop := ∃ as, Reads G v d as
abbrev Rd := ReadsP
def Rds (G : Heap) (vs : List Value) (ds : List PyData) : Prop := ∃ as, ReadsAll G vs ds as
theorem Rd.mono {G G' : Heap} {v : Value} {d : PyData} (x : Rd G v d) (k : G.StaysIn G') : Rd G' v d := let ⟨as, r⟩ := x; ⟨as, Reads.keeps k r⟩
theorem Rds.mono {G G' : Heap} {v : List Value} {d : List PyData} (x : Rds G v d) (k : G.StaysIn G') : Rds G' v d := let ⟨as, r⟩ := x; ⟨as, ReadsAll.keeps k r⟩
theorem Rd.int {G : Heap} (i : Int) (t : Tok) : Rd G (.int i t) (.int i) := ⟨_, .int i t⟩
theorem Rds.nil {G : Heap} : Rds G [] [] := ⟨_, .nil⟩
theorem Rds.cons {G : Heap} {v : Value} {vs : List Value} {d : PyData} {ds : List PyData} (x : Rd G v d) (y : Rds G vs ds) : Rds G (v :: vs) (d :: ds) := let ⟨_, a⟩ := x; let ⟨_, b⟩ := y; ⟨_, .cons a b⟩
theorem Rds.all2 {G : Heap} : ∀ {vs : List Value} {ds : List PyData}, Rds G vs ds ↔ All2 (Rd G) vs ds := by
  intro vs ds
  constructor
  · rintro ⟨as, r⟩
    induction vs generalizing ds as with
    | nil => cases r; exact .nil
    | cons v vs ih =>
      cases r with
      | cons x y => exact .cons ⟨_, x⟩ (ih _ y)
  · intro h
    induction h with
    | nil => exact .nil
    | cons x _ ih => exact Rds.cons x ih
theorem Rds.append {G : Heap} {vs ws : List Value} {ds es : List PyData} (x : Rds G vs ds) (y : Rds G ws es) : Rds G (vs ++ ws) (ds ++ es) := Rds.all2.mpr ((Rds.all2.mp x).append (Rds.all2.mp y))
theorem Rds.length {G : Heap} {vs : List Value} {ds : List PyData} (x : Rds G vs ds) : vs.length = ds.length := (Rds.all2.mp x).length
theorem Rd.list {G : Heap} {a : Addr} {vs : Array Value} {ds : List PyData} (x : G.IsList a vs) (y : Rds G vs.toList ds) : Rd G (.ref a) (.list ds) := by
  obtain ⟨o, ho, hc, n, hd⟩ := x
  obtain ⟨as, r⟩ := y
  exact ⟨_, .list ho hc hd r⟩
theorem Rd.tuple {G : Heap} {a : Addr} {vs : Array Value} {ds : List PyData} {o : Obj} {n : Nat} (ho : G.get? a = some o) (hc : o.cls = .type "tuple") (hd : o.data = .seq vs n) (y : Rds G vs.toList ds) : Rd G (.ref a) (.tuple ds) := by
  obtain ⟨as, r⟩ := y
  exact ⟨_, .tuple ho hc hd r⟩
theorem Rd.tup {G : Heap} {a : Addr} {vs : List Value} {ds : List PyData} (ho : G.get? a = some (tupObj vs)) (y : Rds G vs ds) : Rd G (.ref a) (.tuple ds) := Rd.tuple ho rfl rfl (by simpa [tupObj] using y)
theorem Rd.list_inv {G : Heap} {v : Value} {ds : List PyData} (x : Rd G v (.list ds)) : ∃ a vs, v = .ref a ∧ G.IsList a vs ∧ Rds G vs.toList ds := by
  obtain ⟨as, r⟩ := x
  cases r with
  | list ho hc hd r => exact ⟨_, _, rfl, ⟨_, ho, hc, _, hd⟩, _, r⟩
theorem Rd.tuple_inv {G : Heap} {v : Value} {ds : List PyData} (x : Rd G v (.tuple ds)) : ∃ a o vs n, v = .ref a ∧ G.get? a = some o ∧ o.cls = .type "tuple" ∧ o.data = .seq vs n ∧ Rds G vs.toList ds := by
  obtain ⟨as, r⟩ := x
  cases r with
  | tuple ho hc hd r => exact ⟨_, _, _, _, rfl, ho, hc, hd, _, r⟩
theorem Rd.int_inv {G : Heap} {v : Value} {i : Int} (x : Rd G v (.int i)) : ∃ t, v = .int i t := by
  obtain ⟨as, r⟩ := x
  cases r with
  | int _ t => exact ⟨t, rfl⟩

def lstObj (vs : Array Value) (c : Nat) : Obj := { cls := .type "list", dict := none, data := .seq vs c, slots := #[] }

section
variable {σ : Type}
inductive Run (step : σ → Option PyData → σ → Prop) (rais : σ → Int → σ → Prop) : σ → List PyData → Option Int → σ → Prop
  | stop {a b} : step a none b → Run step rais a [] none b
  | rais {a k b} : rais a k b → Run step rais a [] (some k) b
  | turn {a x b xs r c} : step a (some x) b → Run step rais b xs r c → Run step rais a (x :: xs) r c

/-- an iterator: what its next may give -/
structure Steps (prog : Program) (w : World) (fs : List Env) (S : Heap → Prop) (d u : Nat) (U : Heap → σ → List (Addr × Obj) → Prop) (it : Value) (step : σ → Option PyData → σ → Prop) (rais : σ → Int → σ → Prop) : Prop where
  next : ∀ {a o b}, step a o b → ∀ (A : Around) (G : Heap) (pre ow : List (Addr × Obj)) (s : Shared) (Q : Option Value → Shared → Prop) (E : Value → Shared → Prop), Ar A fs d u → S G → U G a ow → Wd fs G (pre ++ ow) s.heap →
    (∀ r G' h' tk ow', U G' b ow' → Lf fs G s.heap G' (pre ++ ow') h' → S G' → (match o with | none => r = none | some x => ∃ v, r = some v ∧ Rd G' v x) → Q r { s with heap := h', toks := tk }) → wpAny (model prog w) A (pyNext it) Q E s
  rais : ∀ {a k b}, rais a k b → ∀ (A : Around) (G : Heap) (pre ow : List (Addr × Obj)) (s : Shared) (Q : Option Value → Shared → Prop) (E : Value → Shared → Prop), Ar A fs d u → S G → U G a ow → Wd fs G (pre ++ ow) s.heap →
    (∀ e t G' h' tk ow', U G' b ow' → Lf fs G s.heap G' (pre ++ ow') h' → S G' → Fly fs G' (pre ++ ow') e (.type "ValueError") [.int k t] h' → E (.ref e) { s with heap := h', toks := tk }) → wpAny (model prog w) A (pyNext it) Q E s
end

section
variable {σ : Type} {prog : Program} {w : World} {fs : List Env} {S : Heap → Prop} {d u : Nat} {U : Heap → σ → List (Addr × Obj) → Prop} {it : Value} {step : σ → Option PyData → σ → Prop} {rais : σ → Int → σ → Prop}

theorem ext_loop (K : Steps prog w fs S d u U it step rais) {res : Value} {L : Addr} {a : σ} {xs : List PyData} {r : Option Int} {b : σ} (run : Run step rais a xs r b) :
    ∀ (A : Around) (G : Heap) (pre ow : List (Addr × Obj)) (s : Shared) (acc : Array Value) (c : Nat) (ds : List PyData) (R : Result → Shared → Prop), Ar A fs d (u + 1) → S G → U G a ow → Wd fs G ((L, lstObj acc c) :: (pre ++ ow)) s.heap → Rds G acc.toList ds → acc.size + xs.length ≤ 100000 →
    (∀ G' h' tk acc' c' ow', r = none → U G' b ow' → Lf fs G s.heap G' ((L, lstObj acc' c') :: (pre ++ ow')) h' → S G' → Rds G' acc'.toList (ds ++ xs) → R (.ok (.ret res)) { s with heap := h', toks := tk }) →
    (∀ k e t G' h' tk ow', r = some k → U G' b ow' → Lf fs G s.heap G' (pre ++ ow') h' → S G' → Fly fs G' (pre ++ ow') e (.type "ValueError") [.int k t] h' → R (.error (.ref e)) { s with heap := h', toks := tk }) →
    codeAny (model prog w) A (.builtin "list.extend.loop" ⟨[.ref L, it, res], []⟩) R s := by
  induction run with
  | stop hs =>
    intro A G pre ow s acc c ds R hA hSG hU W hacc hz h _
    refine codeAny_builtin F.entry_extend_loop ?_
    rw [Around.under_plainId F.plain_extend_loop _]
    show wpAny _ A.in1 (pyNext it >>= _) _ _ s
    refine wpAny_bind (K.next hs A.in1 G ((L, lstObj acc c) :: pre) ow s _ _ hA.in1 hSG hU W fun r G' h' tk ow' U' l S' hr => ?_)
    subst hr
    exact wpAny_pure (h G' h' tk acc c ow' rfl U' l S' (by simpa using hacc.mono l.gr))
  | rais hs =>
    intro A G pre ow s acc c ds R hA hSG hU W hacc hz _ h
    refine codeAny_builtin F.entry_extend_loop ?_
    rw [Around.under_plainId F.plain_extend_loop _]
    show wpAny _ A.in1 (pyNext it >>= _) _ _ s
    refine wpAny_bind (K.rais hs A.in1 G ((L, lstObj acc c) :: pre) ow s _ _ hA.in1 hSG hU W fun e t G' h' tk ow' U' l S' hr => ?_)
    refine h _ e t G' h' tk ow' rfl U' (Lf.right (a := [(L, lstObj acc c)]) l) S' ?_
    obtain ⟨B, t', h1, h2, h3⟩ := hr.ex
    exact ⟨B, t', h1, fun p hp => h2 p (.tail _ hp), h3⟩
  | @turn a x b xs r c' hs _ ih =>
    intro A G pre ow s acc c ds R hA hSG hU W hacc hz h h2
    refine codeAny_builtin F.entry_extend_loop ?_
    rw [Around.under_plainId F.plain_extend_loop _]
    show wpAny _ A.in1 (pyNext it >>= _) _ _ s
    refine wpAny_bind (K.next hs A.in1 G ((L, lstObj acc c) :: pre) ow s _ _ hA.in1 hSG hU W fun r G' h' tk ow' U' l S' hr => ?_)
    obtain ⟨v, rfl, hv⟩ := hr
    have hL := l.wd.own (L, lstObj acc c) (.head _)
    simp only [List.length_cons] at hz
    have hl : sizeLine = 2 ^ 24 := rfl
    show wpAny _ A.in1 (updateSeq L (·.push v) >>= fun _ => again (.builtin "list.extend.loop" ⟨[.ref L, it, res], []⟩)) _ _ _
    refine wpAny_bind (wpAny_updateSeq (s := { s with heap := h', toks := tk }) hL rfl (wpAny_pure ⟨plainId_quiet F.plain_extend_loop _, ?_⟩) (by omega) (by rw [Array.size_push]; omega))
    have e := Heap.get?_update_self (Obj.mapSeq (·.push v)) hL rfl
    have l' := Wd.put (pre := []) l.wd (Heap.SameBut.update h' L (Obj.mapSeq (·.push v))) e
    have L2 := l.trans l'
    have eo : Obj.mapSeq (·.push v) (lstObj acc c) = lstObj (acc.push v) (if (acc.push v).size == acc.size then c else c + 1) := rfl
    simp only [List.nil_append] at l' L2
    rw [eo] at l' L2
    refine ih A G' pre ow' { s with heap := _, toks := tk } (acc.push v) _ (ds ++ [x]) R hA S' U' l'.wd ?_ (by rw [Array.size_push]; omega) (fun G'' h'' tk' acc' c'' ow'' hr U'' l'' S'' hd => ?_) fun k e t G'' h'' tk' ow'' hr U'' l'' S'' hf => ?_
    · rw [Array.toList_push]
      exact (hacc.mono l.gr).append (Rds.cons hv .nil)
    · exact h G'' h'' tk' acc' c'' ow'' hr U'' (Lf.trans L2 l'') S'' (by simpa using hd)
    · exact h2 k e t G'' h'' tk' ow'' hr U'' ⟨stays_trans L2.gr l''.gr, l''.wd, L2.fk.trans l''.fk⟩ S'' hf
end

section
variable {σ : Type} {prog : Program} {w : World} {fs : List Env} {S : Heap → Prop} {d u : Nat} {U : Heap → σ → List (Addr × Obj) → Prop} {step : σ → Option PyData → σ → Prop} {rais : σ → Int → σ → Prop}

/-- an iterator's own looks: its type, iter of it, no length -/
structure IterIs (prog : Program) (w : World) (fs : List Env) (S : Heap → Prop) (d u : Nat) (mo : Addr) (T : Value) (G : Heap) : Prop where
  ty : ∀ M : Model, Looks M G (typeOf (.ref mo)) T
  nl : (T == .type "list") = false
  nt : (T == .type "tuple") = false
  hint : ∀ M : Model, Looks M G (Builtin.List.listLengthHint (.ref mo)) true
  iter : ∀ (A : Around) (G₁ : Heap) (ow : List (Addr × Obj)) (s : Shared) (Q E : Value → Shared → Prop), Ar A fs d u → S G₁ → G.StaysIn G₁ → Wd fs G₁ ow s.heap →
    (∀ G' h' tk, Lf fs G₁ s.heap G' ow h' → S G' → Q (.ref mo) { s with heap := h', toks := tk }) → wpAny (model prog w) A (pyIter (.ref mo)) Q E s

theorem list_call {mo : Addr} {T : Value} {A : Around} {G : Heap} {s : Shared} {a b : σ} {ow : List (Addr × Obj)} {xs : List PyData} {r : Option Int} {Q E : Value → Shared → Prop}
    (hS : ∀ G G', S G → G.StaysIn G' → S G') (K : Steps prog w fs S d u U (.ref mo) step rais) (I : IterIs prog w fs S d u mo T G) (run : Run step rais a xs r b)
    (hA : Ar A fs d (u + 3)) (hSG : S G) (hU : U G a ow) (hUm : ∀ G G' a ow, U G a ow → G.StaysIn G' → U G' a ow) (W : Wd fs G ow s.heap) (hz : xs.length ≤ 100000) (hmo : ∃ o, G.get? mo = some o)
    (h : ∀ L G' h' tk vs ow', r = none → U G' b ow' → Lf fs G s.heap G' ow' h' → S G' → G'.IsList L vs → Rds G' vs.toList xs → Q (.ref L) { s with heap := h', toks := tk })
    (hE : ∀ k e t G' h' tk ow', r = some k → U G' b ow' → Lf fs G s.heap G' ow' h' → S G' → Fly fs G' ow' e (.type "ValueError") [.int k t] h' → E (.ref e) { s with heap := h', toks := tk }) :
    wpAny (model prog w) A (call (.type "list") [.ref mo]) Q E s := by
  have k0 : s.heap.StaysIn (s.heap.push { cls := .type "list", data := .seq #[] }) := fun _ _ e => Heap.get?_push_of_some _ e
  have e0 : (s.heap.push { cls := .type "list", data := .seq #[] }).get? s.heap.objs.size = some (lstObj #[] 0) := Heap.get?_push_size _ rfl
  refine callType_codes (Q₁ := fun obj s₁ => obj = .ref s.heap.objs.size ∧ s₁ = { s with heap := s.heap.push { cls := .type "list", data := .seq #[] } }) F.called_list (F.typeCall_list_1 _) F.entry_list_init
    (code_list_new _ ⟨rfl, rfl⟩) fun obj s₁ h₁ => ?_
  obtain ⟨rfl, rfl⟩ := h₁
  refine ⟨⟨_, e0, rfl⟩, F.args_list_init_2 _ _, ?_⟩
  have W₀ := W.own_new k0 (size_none _) e0
  have nmo : mo ≠ s.heap.objs.size := by
    obtain ⟨o, ho⟩ := hmo
    intro z
    have := W.keep _ _ ho
    rw [z, size_none] at this; cases this
  generalize hL : s.heap.objs.size = L at *
  generalize hh₀ : s.heap.push { cls := .type "list", data := .seq #[] } = h₀ at *
  show wpAny _ A.in1.in1 (do let old ← Builtin.List.listItems (.ref L); Builtin.List.listUpdate (.ref L) (fun _ => #[]); letGo old.toList.reverse; Builtin.List.listExtendWith (.ref L) (.ref mo) .none) _ _ { s with heap := h₀ }
  refine wpAny_bind ?_
  unfold Builtin.List.listItems
  refine wpAny_bind (wpAny_seqItems (s := { s with heap := h₀ }) e0 rfl (wpAny_pure ?_))
  show wpAny _ A.in1.in1 (updateSeq L (fun _ => #[]) >>= fun _ => letGo (#[] : Array Value).toList.reverse >>= fun _ => Builtin.List.listExtendWith (.ref L) (.ref mo) .none) _ _ { s with heap := h₀ }
  refine wpAny_bind (wpAny_updateSeq (s := { s with heap := h₀ }) e0 rfl ?_)
  refine wpAny_bind (wpAny_letGo ?_)
  have e1 := Heap.get?_update_self (Obj.mapSeq (fun _ => (#[] : Array Value))) e0 rfl
  have l1 := Wd.put (pre := []) W₀ (Heap.SameBut.update h₀ L (Obj.mapSeq (fun _ => (#[] : Array Value)))) e1
  have eo : Obj.mapSeq (fun _ => (#[] : Array Value)) (lstObj #[] 0) = lstObj #[] 0 := rfl
  rw [eo] at l1 e1
  simp only [List.nil_append] at l1
  generalize hh₁ : h₀.update L (Obj.mapSeq (fun _ => (#[] : Array Value))) = h₁ at *
  have hL1 : Lf fs G s.heap G ((L, lstObj #[] 0) :: ow) h₁ := ⟨stays_refl _, l1.wd, FK.trans (FK.keeps k0) l1.fk⟩
  unfold Builtin.List.listExtendWith
  refine wpAny_bind (I.ty _ A.in1.in1 _ _ { s with heap := h₁ } l1.wd.keep ?_)
  have hs : Builtin.List.listSameRef (.ref L) (.ref mo) = false := by simp [Builtin.List.listSameRef, Ne.symm nmo]
  simp only [hs, I.nl, I.nt, Bool.or_false, Bool.false_eq_true, if_false]
  refine wpAny_bind (I.iter A.in1.in1 G _ { s with heap := h₁ } _ _ (hA.in1.in1.less (Nat.le_refl _) (by omega)) hSG (stays_refl _) l1.wd fun G₂ h₂ tk₂ l2 S₂ => ?_)
  refine wpAny_bind (wpAny_holding ?_)
  refine I.hint _ A.in1.in1 _ _ { s with heap := h₂, toks := tk₂ } (stays_trans l2.gr l2.wd.keep) ?_
  show wpAny _ A.in1.in1 (rule "list.extend.makes-room" >>= fun _ => Builtin.List.listTouch (.ref L) >>= fun _ =>
    again (.builtin "list.extend.loop" ⟨[.ref L, .ref mo, .none], []⟩)) _ _ _
  refine wpAny_bind (wpAny_rule ?_)
  refine wpAny_bind ?_
  have e2 := l2.wd.own (L, lstObj #[] 0) (.head _)
  show wpAny _ A.in1.in1 (updateSeq L (·.push .none) >>= fun _ => updateSeq L (·.pop)) _ _ _
  refine wpAny_bind (wpAny_updateSeq (s := { s with heap := h₂, toks := tk₂ }) e2 rfl ?_)
  have e3 := Heap.get?_update_self (Obj.mapSeq (·.push Value.none)) e2 rfl
  have l3 := Wd.put (pre := []) l2.wd (Heap.SameBut.update h₂ L (Obj.mapSeq (·.push Value.none))) e3
  refine wpAny_updateSeq (s := { s with heap := _, toks := tk₂ }) e3 rfl ?_ (by decide) (by decide)
  have e4 := Heap.get?_update_self (Obj.mapSeq (·.pop)) e3 rfl
  have l4 := Wd.put (pre := []) l3.wd (Heap.SameBut.update _ L (Obj.mapSeq (·.pop))) e4
  have eo4 : Obj.mapSeq (·.pop) (Obj.mapSeq (·.push Value.none) (lstObj #[] 0)) = lstObj #[] 2 := rfl
  rw [eo4] at l4 e4
  simp only [List.nil_append] at l4
  have L4 : Lf fs G s.heap G₂ ((L, lstObj #[] 2) :: ow) _ := (hL1.trans l2).trans (l3.trans l4)
  refine wpAny_pure ⟨plainId_quiet F.plain_extend_loop _, ?_⟩
  refine ext_loop K run A.in1 G₂ [] ow { s with heap := _, toks := tk₂ } #[] 2 [] _ (hA.in1.less (Nat.le_refl _) (by omega)) S₂ (hUm _ _ _ _ hU l2.gr) l4.wd Rds.nil (by simpa using hz) (fun G' h' tk acc' c' ow' hr U' l S' hd => ?_) fun k e t G' h' tk ow' hr U' l S' hf => ?_
  · have L5 := L4.trans l
    simp only [List.nil_append] at L5
    obtain ⟨G'', g1, g2, g3⟩ := L5.wd.grow (ow' := ow') (stays_refl _) (fun p hp => .tail _ hp) (L5.wd.nd |> fun n => by
      rw [List.map_cons] at n; exact n.of_cons)
    have nd := L5.wd.nd
    rw [List.map_cons, List.nodup_cons] at nd
    have eL := g3 L (lstObj acc' c') (L5.wd.own _ (.head _)) nd.1 fun e he hf => L5.wd.fd (L, lstObj acc' c') (.head _) e he hf
    exact ⟨rfl, h L G'' h' tk acc' ow' hr (hUm _ _ _ _ U' g1) ⟨stays_trans L5.gr g1, g2, L5.fk⟩ (hS _ _ S' g1) ⟨_, eL, rfl, _, rfl⟩ (by simpa using hd.mono g1)⟩
  · simp only [List.nil_append] at l hf
    exact hE k e t G' h' tk ow' hr U' ⟨stays_trans L4.gr l.gr, l.wd, L4.fk.trans l.fk⟩ S' hf

theorem map_iterIs {mo T : Addr} {f : Value} {G : Heap} (hm : G.get? mo = some (mapObj T f)) : IterIs prog w fs S d u mo (.type "map") G where
  ty := fun M A Q E s k q => wpAny_typeOf (T := "map") ⟨_, k _ _ hm, rfl⟩ q
  nl := by decide
  nt := by decide
  hint := fun M A Q E s k q => by
    have hT : s.TypeIs (.ref mo) "map" := ⟨_, k _ _ hm, rfl⟩
    unfold Builtin.List.listLengthHint
    refine wpAny_bind (wpAny_specialOf hT map_no_len ?_)
    show wpAny M A (specialOf (Value.ref mo) (Str.ofString "__length_hint__") >>= _) _ _ _
    exact wpAny_bind (wpAny_specialOf hT map_no_hint (wpAny_pure q))
  iter := fun A G₁ ow s Q E hA hS k W h => by
    have hT : s.TypeIs (.ref mo) "map" := ⟨_, W.keep _ _ (k _ _ hm), rfl⟩
    refine wpAny_pyIter_slot hT slot_map_iter (wpAny_call_entry slot_map_iter hT entry_map_iter ?_ (args_map_iter _))
    show wpAny _ _ (ret (.ref mo)) _ _ s
    exact wpAny_pure ⟨_, rfl, "map", _, hT, slot_map_next.lookup, h G₁ s.heap s.toks (Lf.refl W) hS⟩
end

theorem initArgs_map_2 (o a b c : Value) : argsOk "object.__init__" ⟨[o, a, b, c], []⟩ := by unfold argsOk; kernel_rfl
theorem initArgs_map_3 (o a b c d : Value) : argsOk "object.__init__" ⟨[o, a, b, c, d], []⟩ := by unfold argsOk; kernel_rfl

theorem map_checks (f : Value) (ls : List Addr) (h1 : ls ≠ []) (h3 : ls.length ≤ 3) :
    checkBuiltinCall "map.__new__" ⟨.type "map" :: f :: ls.map Value.ref, []⟩ = pure () ∧ ∀ o, argsOk "object.__init__" ⟨o :: f :: ls.map Value.ref, []⟩ := by
  match ls, h1, h3 with
  | [a], _, _ => exact ⟨newCall_map_1 _ _, fun o => initArgs_map_1 _ _ _⟩
  | [a, b], _, _ => exact ⟨newCall_map_2 _ _ _, fun o => initArgs_map_2 _ _ _ _⟩
  | [a, b, c], _, _ => exact ⟨newCall_map_3 _ _ _ _, fun o => initArgs_map_3 _ _ _ _ _⟩
  | _ :: _ :: _ :: _ :: _, _, h => exact absurd h (by simp)

section
variable {prog : Program} {w : World} {A : Around} {E : Value → Shared → Prop} {s : Shared} {fs : List Env} {G : Heap} {ow : List (Addr × Obj)}
theorem map_call {f : Value} {ls : List Addr} {Q : Value → Shared → Prop} (hne : ls ≠ []) (hle : ls.length ≤ 3) (W : Wd fs G ow s.heap) (hl : ∀ l ∈ ls, ∃ xs, s.heap.IsList l xs)
    (h : ∀ its G' h' T mo, Its its ls 0 → Lf fs G s.heap G' (its ++ ow) h' → s.heap.StaysIn h' → G'.get? T = some (tupObj (its.map fun p => Value.ref p.1)) → G'.get? mo = some (mapObj T f) → Q (.ref mo) { s with heap := h' }) :
    wpAny (model prog w) A (call (.type "map") (f :: ls.map Value.ref)) Q E s := by
  obtain ⟨c1, c2⟩ := map_checks f ls hne hle
  refine callType_codes (Q₁ := fun obj s₁ => s₁.TypeIs obj "map" ∧ Q obj s₁) called_map (typeCall_map _ _) F.entry_object_init ?_ fun obj s₁ h₁ => ?_
  · refine codeAny_call_builtin called_map.plain entry_map_new (wpAny_of_eq c1 (wpAny_mono (map_new (R := wants (fun obj s₁ => s₁.TypeIs obj "map" ∧ Q obj s₁) E) (E := fun e s' => wants (fun obj s₁ => s₁.TypeIs obj "map" ∧ Q obj s₁) E (.error e) s') hne (Nat.le_trans hle (by decide)) W hl fun its h' h'' T mo hi hk W' hk' hT hmo eT em nT nm => ?_) (fun fin s' q => ?_) fun _ _ z => z))
    · obtain ⟨G', l, g⟩ := W'.lf_grow hk'
      have L : Lf fs G s.heap G' (its ++ ow) h'' := ⟨l.gr, l.wd, (FK.keeps hk).trans l.fk⟩
      exact ⟨⟨_, em, rfl⟩, h its G' h'' T mo hi L (stays_trans hk hk') (g _ _ nT eT) (g _ _ nm em)⟩
    · obtain ⟨v, rfl, hv⟩ := q
      exact hv
  · refine ⟨h₁.1, c2 obj, ?_⟩
    refine wpAny_mono (object_init_meets called_map.init.lookup called_map.made (by decide) prog w A.in1 (wants (fun r s₂ => r = .none ∧ Q obj s₂) E) s₁ ?_) (fun fin s' q => ?_) fun _ _ z => z
    · exact ⟨h₁.1, rfl, h₁.2⟩
    · exact q
end


def e0 : Heap := {}
theorem e0_none (b : Addr) : e0.get? b = none := by
  unfold e0 Heap.get?
  simp
def dumpOf (L : Addr) (h : Heap) : List (Addr × Obj) := (List.range h.objs.size).filterMap fun a => if a = L then none else (h.get? a).map fun o => (a, o)
theorem dump_mem {L b : Addr} {h : Heap} {o : Obj} (e : h.get? b = some o) (n : b ≠ L) : (b, o) ∈ dumpOf L h := by
  unfold dumpOf
  rw [List.mem_filterMap]
  exact ⟨b, List.mem_range.mpr (Heap.lt_size e), by simp [n, e]⟩
theorem dump_news (L : Addr) (h : Heap) : News e0 L h (dumpOf L h) := by
  intro p hp
  unfold dumpOf at hp
  rw [List.mem_filterMap] at hp
  obtain ⟨a, _, q⟩ := hp
  by_cases z : a = L
  · simp [z] at q
  · simp only [z, if_false] at q
    cases e : h.get? a with
    | none => rw [e] at q; cases q
    | some o =>
      rw [e] at q
      cases q
      exact ⟨e, z, e0_none _⟩
theorem dump_fr {L : Addr} {h : Heap} {m : Str → Option Value} (n : h.Ns L m) : Fr e0 L h m := ⟨n, fun b o e => (by rw [e0_none] at e; cases e), Nat.zero_le _⟩

section
variable {X : Ent} {G h h' : Heap} {ow : List (Addr × Obj)} {env : Env} {m m' : Str → Option Value}
theorem At.ext (AT : At X G ow env m h) (hs : Heap.ExtBut env.locals h h') (hn : h'.Ns env.locals m') : At X G ow env m' h' := by
  refine ⟨AT.gr, ⟨fun b o e => hs b o (fun z => by rw [z, AT.nG] at e; cases e) (AT.keep b o e), fun p hp => hs _ _ (AT.nO p hp) (AT.wd.own p hp), AT.wd.ownG, AT.wd.nd, ?_, AT.wd.fd⟩, ?_, hn, AT.fr, AT.nX⟩
  · refine ff_to AT.wd.ff (fun e he L hL => AT.wd.frameG he hL) fun e he L hL o ho => ?_
    by_cases z : L = env.locals
    · subst z
      obtain ⟨o', es, ep, ho', hd, _⟩ := hn
      exact ⟨o', ho', .inr fun vs q => by rw [hd] at q; cases q⟩
    · exact ⟨o, hs _ _ z ho, .inl rfl⟩
  · exact AT.fk.trans fun e he L hL o ho => ⟨o.slots, hs _ _ (fun z => AT.nX e he (z ▸ hL)) ho⟩

theorem At.extG (AT : At X G ow env m h) (hs : Heap.ExtBut env.locals h h') (hn : h'.Ns env.locals m') :
    ∃ G', G.StaysIn G' ∧ At X G' ow env m' h' ∧ ∀ b o, h.get? b = none → h'.get? b = some o → G'.get? b = some o := by
  have A1 := AT.ext hs hn
  obtain ⟨G', a, b, c⟩ := A1.wd.grow (stays_refl _) (fun _ h => h) A1.wd.nd
  refine ⟨G', a, A1.back ⟨a, b, FK.refl _ _⟩, fun x o n e => c x o e (fun mm => ?_) fun en he hf => ?_⟩
  · obtain ⟨p, hp, rfl⟩ := List.mem_map.mp mm
    rw [AT.wd.own p hp] at n; cases n
  · obtain ⟨o', ho', _⟩ := AT.wd.frameIn he hf
    rw [ho'] at n; cases n
theorem At.led (AT : At X G ow env m h) : Fr e0 env.locals h m ∧ News e0 env.locals h (dumpOf env.locals h) := ⟨dump_fr AT.ns, dump_news _ _⟩
theorem led_back {L : Addr} {news : List (Addr × Obj)} (N : News e0 L h' news) (s : ∀ p ∈ dumpOf L h, p ∈ news) : Heap.ExtBut L h h' := fun _ _ n e => (N _ (s _ (dump_mem e n))).1
end

section
variable {prog : Program} {w : World} {A : Around} {E : Value → Shared → Prop} {s : Shared} {X : Ent} {G : Heap} {ow : List (Addr × Obj)} {env : Env} {m : Str → Option Value} {mg mb : Str → Option Value} {x : Str} {pos : Pos} {v : Value} {Q : Value → Shared → Prop} {M : Model}

theorem w_local (AT : At X G ow env m s.heap) (hv : m x = some v) (h : Q v s) (hk : env.scope.kind = .function := by rfl) (hx : env.kindOf x = some .local := by rfl) (hd : (x == ("__debug__" : Str)) = false := by rfl) :
    wpAny M A (eval (.Name x pos) env) Q E s := wpAny_Name (wpAny_loadName_local hk hx AT.ns hv h) hd
theorem w_global (AT : At X G ow env m s.heap) (S : Sta mg mb G) (hv : mg x = some v) (h : Q v s) (hk : env.scope.kind = .function := by rfl) (hx : env.kindOf x = some .globalImplicit := by rfl) (hg : env.globals = mainGlobals := by rfl) (hd : (x == ("__debug__" : Str)) = false := by rfl) :
    wpAny M A (eval (.Name x pos) env) Q E s := Name_function_global hk hx (loadGlobal_global (by rw [hg]; exact S.g.keeps AT.keep) hv h) hd
theorem w_builtin (AT : At X G ow env m s.heap) (S : Sta mg mb G) (hv : mg x = none) (hb : bootBuiltins x = some v) (h : Q v s) (hn : x ≠ "__name__" := by decide) (hk : env.scope.kind = .function := by rfl) (hx : env.kindOf x = some .globalImplicit := by rfl) (hg : env.globals = mainGlobals := by rfl) (hgb : env.builtins = builtinsNs := by rfl) (hd : (x == ("__debug__" : Str)) = false := by rfl) :
    wpAny M A (eval (.Name x pos) env) Q E s :=
  Name_function_global hk hx (loadGlobal_builtin (by rw [hg]; exact S.g.keeps AT.keep) hv (by rw [hgb]; exact S.b.keeps AT.keep) ((S.bi x hn).trans hb) h) hd
theorem w_free {c : Addr} (hc : env.cells.lookup x = some c) (hi : s.heap.IsCell c (some v)) (h : Q v s) (hk : env.scope.kind = .function := by rfl) (hx : env.kindOf x = some .free := by rfl) (hd : (x == ("__debug__" : Str)) = false := by rfl) (hn : (x == ("__classdict__" : Str)) = false := by rfl) :
    wpAny M A (eval (.Name x pos) env) Q E s := wpAny_Name (wpAny_loadName_free hk hx hc hi h hn) hd
theorem w_cell {c : Addr} (hc : env.cells.lookup x = some c) (hi : s.heap.IsCell c (some v)) (h : Q v s) (hk : env.scope.kind = .function := by rfl) (hx : env.kindOf x = some .cell := by rfl) (hd : (x == ("__debug__" : Str)) = false := by rfl) :
    wpAny M A (eval (.Name x pos) env) Q E s := wpAny_Name (wpAny_loadName_cell hk hx hc hi h) hd

theorem w_store {Q : Unit → Shared → Prop} (AT : At X G ow env m s.heap) (h : ∀ h', At X G ow env (fun y => if y = x then some v else m y) h' → Q () { s with heap := h', toks := s.toks + 1 })
    (hx : env.kindOf x = some .local := by rfl) (hk : env.scope.kind = .function := by rfl) : wpAny M A (storeName env x v) Q E s :=
  wpAny_storeName_local hx AT.ns (fun h' hn hs => h h' (AT.store hn hs)) (by rw [hk]; rfl)

theorem w_callType {T : String} {e : Expr} {rest : List Expr}
    (h : wpAny M A (spliced (backTo pos (starEach (e :: rest) env))) (fun vs s₁ => wpAny M A (call (.type T) vs) Q E s₁) E s)
    (he : starEach (e :: rest) env = (false, eval e env) :: starEach rest env := by rfl) (hplain : (backTo pos (starEach rest env)).any (·.1) = false := by rfl) :
    wpAny M A (callWith pos (.type T) [] (backTo pos (starEach (e :: rest) env)) []) Q E s := PyProof.Rows.callWith_type1 h he hplain
/-- calls -/
theorem w_call {f : Expr} {args : List Expr} (h : wpAny M A (eval f env) (fun fv s₁ => wpAny M A (callWith pos fv [] (backTo pos (starEach args env)) []) Q E s₁) E s)
    (he : eval (.Call f args [] pos) env = (do callWith pos (← eval f env) [] (backTo pos (starEach args env)) (backToKw pos (keywordEach [] env))) := by rfl) :
    wpAny M A (eval (.Call f args [] pos) env) Q E s := by
  rw [he]
  exact wpAny_bind h

theorem keeper_fn {f : Addr} {name qual : Str} {params : Arguments} {body : List Stmt} {scope : Scope} {cl : List (Str × Addr)} (F : FnAt G f name qual params body scope cl) : ∃ k, (k = Keeper.frame ∨ k = Keeper.machine ∨ k = Keeper.boundFrame) ∧ Looks M G (keeperOf (.ref f)) k := by
  obtain ⟨o, pm, doc, an, cdv, ct, ho, hd, _⟩ := F.ex
  refine ⟨.frame, .inl rfl, fun A Q E s k q => ?_⟩
  unfold keeperOf
  refine wpAny_bind (wpAny_load (k _ _ ho) ?_)
  rw [hd]
  exact wpAny_pure q

theorem w_callFn {f : Addr} {name qual : Str} {params : Arguments} {body : List Stmt} {scope : Scope} {cl : List (Str × Addr)} {e : Expr} {rest : List Expr} (F : FnAt G f name qual params body scope cl)
    (h : wpAny M A (spliced (backTo pos (starEach (e :: rest) env))) (fun vs s₁ => G.StaysIn s₁.heap ∧ wpAny M A (call (.ref f) vs) Q E s₁) E s)
    (he : starEach (e :: rest) env = (false, eval e env) :: starEach rest env := by rfl) (hplain : (backTo pos (starEach rest env)).any (·.1) = false := by rfl) :
    wpAny M A (callWith pos (.ref f) [] (backTo pos (starEach (e :: rest) env)) []) Q E s := by
  rw [he] at h ⊢
  refine callWith_of (P := fun h => G.StaysIn h) (by show ((false || (backTo pos (starEach rest env)).any (·.1)) || false) = false; rw [hplain]; rfl) (fun h k => ?_) (evalArgs_plain h)
  obtain ⟨k', a, b⟩ := keeper_fn (M := M) F
  exact ⟨k', a, b.keeps k⟩

theorem w_callTypeStar {T : String} {e : Expr} {p : Pos}
    (h : wpAny M A (eval e env) (fun v s₁ => StarOf M A E v (fun vs s₂ => wpAny M A (call (.type T) vs) Q E s₂) s₁) E s)
    (he : starEach [.Starred e p] env = [(true, eval e env)] := by rfl) :
    wpAny M A (callWith pos (.type T) [] (backTo pos (starEach [.Starred e p] env)) []) Q E s := by
  rw [he]
  refine ks_call (P := fun _ => True) rfl (fun h _ => ⟨.machine, .inr (.inl rfl), Looks.of_pure rfl⟩) (ks_lone ?_)
  refine wpAny_mono h (fun v s₁ h₁ => ?_) fun _ _ z => z
  unfold StarOf at h₁ ⊢
  exact wpAny_mono h₁ (fun b s₂ h₂ => ⟨h₂.1, wpAny_mono h₂.2 (fun vs s₃ h₃ => ⟨trivial, h₃⟩) fun _ _ z => z⟩) fun _ _ z => z

theorem w_starTup {a : Addr} {o : Obj} {T : String} {its : Array Value} {n : Nat} {Q : List Value → Shared → Prop} (hT : T = "list" ∨ T = "tuple") (ho : s.heap.get? a = some o) (hc : o.cls = .type T) (hd : o.data = .seq its n)
    (hz : its.size ≤ sizeLine) (h : ∀ h', s.heap.StaysIn h' → Q its.toList { s with heap := h' }) : StarOf (model prog w) A E (.ref a) Q s := by
  have hT' : s.TypeIs (.ref a) T := ⟨o, ho, hc⟩
  have z : wpAny (model prog w) A (collect (.ref a)) Q E s := wpAny_collect_seq a hT ho hc hd (fun h' hk => h h' hk) hz
  unfold StarOf notIterableAtAll
  rcases hT with rfl | rfl
  · exact wpAny_bind (wpAny_specialOf hT' PySem.F.slot_list_iter.lookup (wpAny_pure ⟨rfl, z⟩))
  · exact wpAny_bind (wpAny_specialOf hT' PySem.F.slot_tuple_iter.lookup (wpAny_pure ⟨rfl, z⟩))
end


theorem sub_ve_stop : isSubtype (.type "ValueError") (.type "StopIteration") = pure false := by rw [isSubtype_type]; kernel_rfl
theorem Fly.cls {fs : List Env} {G h : Heap} {ow : List (Addr × Obj)} {e : Addr} {cls : Value} {args : List Value} (x : Fly fs G ow e cls args h) : ∃ o, h.get? e = some o ∧ o.cls = cls := by
  obtain ⟨B, t, _, _, f, _⟩ := x.ex
  exact f.there
theorem Fly.sub {fs : List Env} {G h : Heap} {ow ow' : List (Addr × Obj)} {e : Addr} {cls : Value} {args : List Value} (x : Fly fs G ow e cls args h) (s : ∀ p ∈ ow', p ∈ ow) : Fly fs G ow' e cls args h := by
  obtain ⟨B, t, a, b, c⟩ := x.ex
  exact ⟨B, t, a, fun p hp => b p (s p hp), c⟩

section
variable {τ : Type} {prog : Program} {w : World} {fs : List Env} {S : Heap → Prop} {d u : Nat}

/-- the user's side of a map: its own ledger, the rows' lengths, a turn of the function, a failing turn -/
structure MapUser (prog : Program) (w : World) (fs : List Env) (S : Heap → Prop) (d u : Nat) (f : Value) (ls : List Addr) (V : Heap → τ → List (Addr × Obj) → Prop) (len : τ → Addr → Nat) (turn : τ → Nat → PyData → τ → Prop) (fail : τ → Nat → Int → τ → Prop) : Prop where
  lists : ∀ {a ow G h pre}, V G a ow → S G → Wd fs G (pre ++ ow) h → ∃ xs : Addr → Array Value, ∀ l ∈ ls, h.IsList l (xs l) ∧ (xs l).size = len a l
  turn : ∀ {a t y b}, turn a t y b → ∀ (A : Around) (G : Heap) (pre ow : List (Addr × Obj)) (s : Shared) (xs : Addr → Array Value) (v : Addr → Value) (Q E : Value → Shared → Prop), Ar A fs d u → S G → V G a ow → Wd fs G (pre ++ ow) s.heap →
    (∀ l ∈ ls, s.heap.IsList l (xs l)) → (∀ l ∈ ls, (xs l)[t]? = some (v l)) →
    (∀ r G' h' tk ow', V G' b ow' → Lf fs G s.heap G' (pre ++ ow') h' → S G' → Rd G' r y → Q r { s with heap := h', toks := tk }) → wpAny (model prog w) A (call f (ls.map v)) Q E s
  fail : ∀ {a t k b}, fail a t k b → ∀ (A : Around) (G : Heap) (pre ow : List (Addr × Obj)) (s : Shared) (xs : Addr → Array Value) (v : Addr → Value) (Q E : Value → Shared → Prop), Ar A fs d u → S G → V G a ow → Wd fs G (pre ++ ow) s.heap →
    (∀ l ∈ ls, s.heap.IsList l (xs l)) → (∀ l ∈ ls, (xs l)[t]? = some (v l)) →
    (∀ e tt G' h' tk ow', V G' b ow' → Lf fs G s.heap G' (pre ++ ow') h' → S G' → Fly fs G' (pre ++ ow') e (.type "ValueError") [.int k tt] h' → E (.ref e) { s with heap := h', toks := tk }) → wpAny (model prog w) A (call f (ls.map v)) Q E s

inductive MStep (ls : List Addr) (len : τ → Addr → Nat) (turn : τ → Nat → PyData → τ → Prop) : Option Nat × τ → Option PyData → Option Nat × τ → Prop
  | stop {t a} : (∃ l ∈ ls, len a l ≤ t) → MStep ls len turn (some t, a) none (none, a)
  | turn {t a y b} : (∀ l ∈ ls, t < len a l) → turn a t y b → MStep ls len turn (some t, a) (some y) (some (t + 1), b)
inductive MFail (ls : List Addr) (len : τ → Addr → Nat) (fail : τ → Nat → Int → τ → Prop) : Option Nat × τ → Int → Option Nat × τ → Prop
  | fail {t a k b} : (∀ l ∈ ls, t < len a l) → fail a t k b → MFail ls len fail (some t, a) k (none, b)
def MU (ids ls : List Addr) (V : Heap → τ → List (Addr × Obj) → Prop) : Heap → Option Nat × τ → List (Addr × Obj) → Prop
  | G, (none, a), ow => V G a ow
  | G, (some t, a), ow => ∃ its ow₂, ow = its ++ ow₂ ∧ Its its ls t ∧ its.map (·.1) = ids ∧ V G a ow₂

theorem mu_mono {τ : Type} {ids ls : List Addr} {V : Heap → τ → List (Addr × Obj) → Prop} (hV : ∀ G G' a ow, V G a ow → G.StaysIn G' → V G' a ow) : ∀ G G' a ow, MU ids ls V G a ow → G.StaysIn G' → MU ids ls V G' a ow
  | _, _, (none, _), _, h, k => hV _ _ _ _ h k
  | _, _, (some _, _), _, ⟨its, ow₂, a, b, c, d⟩, k => ⟨its, ow₂, a, b, c, hV _ _ _ _ d k⟩

theorem its_not_list {h : Heap} {its : List (Addr × Obj)} {ls : List Addr} {t : Nat} (hI : Its its ls t) (ho : ∀ p ∈ its, h.get? p.1 = some p.2) {l : Addr} {xs : Array Value} (x : h.IsList l xs) : l ∉ its.map (·.1) := by
  intro m
  obtain ⟨p, hp, rfl⟩ := List.mem_map.mp m
  have key : ∀ {its : List (Addr × Obj)} {ls : List Addr}, Its its ls t → ∀ p ∈ its, ∃ l, IsIt p.2 l t := by
    intro its ls hI
    induction hI with
    | nil => intro p hp; cases hp
    | cons q _ ih => intro p hp; rcases List.mem_cons.mp hp with rfl | hp; exact ⟨_, q⟩; exact ih p hp
  obtain ⟨l', hl'⟩ := key hI p hp
  exact isList_ne_iter x (hl'.at (ho p hp)) rfl

theorem get_def {xs : Array Value} {t : Nat} (h : t < xs.size) : xs[t]? = some (xs[t]?.getD .none) := by
  rw [Array.getElem?_eq_getElem h]; rfl

theorem map_steps {f : Value} {ls ids : List Addr} {V : Heap → τ → List (Addr × Obj) → Prop} {len : τ → Addr → Nat} {turn : τ → Nat → PyData → τ → Prop} {fail : τ → Nat → Int → τ → Prop} {mo T : Addr}
    (Y : MapUser prog w fs S d u f ls V len turn fail) (hm : ∀ G, S G → G.get? mo = some (mapObj T f)) (hT : ∀ G, S G → G.get? T = some (tupObj (ids.map Value.ref))) :
    Steps prog w fs S d (u + 1) (MU ids ls V) (.ref mo) (MStep ls len turn) (MFail ls len fail) where
  next := by
    intro a o b hst A G pre ow s Q E hA hSG hU W h
    cases hst with
    | @stop t a hx =>
      obtain ⟨its, ow₂, rfl, hI, hids, hV⟩ := hU
      have W' : Wd fs G (its ++ (pre ++ ow₂)) s.heap := W.perm (by
        rw [← List.append_assoc, ← List.append_assoc]
        exact List.Perm.append_right _ List.perm_append_comm)
      obtain ⟨xs, hxs⟩ := Y.lists (pre := pre ++ its) hV hSG (by simpa using W)
      refine map_end hA.hd W' hI (hm G hSG) (by rw [hT G hSG, ← hids, List.map_map]; rfl) (fun l hl => (hxs l hl).1) ?_ fun h' hL => h none G h' s.toks ow₂ hV hL hSG rfl
      obtain ⟨l, hl, hle⟩ := hx
      exact ⟨l, hl, Array.getElem?_eq_none (by rw [(hxs l hl).2]; exact hle)⟩
    | @turn t a y b hlt ht =>
      obtain ⟨its, ow₂, rfl, hI, hids, hV⟩ := hU
      have W' : Wd fs G (its ++ (pre ++ ow₂)) s.heap := W.perm (by
        rw [← List.append_assoc, ← List.append_assoc]
        exact List.Perm.append_right _ List.perm_append_comm)
      obtain ⟨xs, hxs⟩ := Y.lists (pre := pre ++ its) hV hSG (by simpa using W)
      refine map_item (t := t) (v := fun l => ((xs l)[t]?).getD .none) W' hI (hm G hSG) (by rw [hT G hSG, ← hids, List.map_map]; rfl) (fun l hl => (hxs l hl).1) (fun l hl => get_def (by rw [(hxs l hl).2]; exact hlt l hl)) fun its' h' hi hmm hL hk => ?_
      have hl' : ∀ l ∈ ls, h'.IsList l (xs l) := fun l hl => by
        obtain ⟨x, hx, r⟩ := (hxs l hl).1
        exact ⟨x, (hk l (its_not_list hI (fun p hp => W'.own p (List.mem_append_left _ hp)) ⟨x, hx, r⟩)).trans hx, r⟩
      refine Y.turn ht A.in1 G (its' ++ pre) ow₂ { s with heap := h' } xs _ _ _ hA.in1 hSG hV (by simpa using hL.wd) hl' (fun l hl => get_def (by rw [(hxs l hl).2]; exact hlt l hl)) fun r G' h'' tk ow' hV' l S' hr => ?_
      refine h (some r) G' h'' tk (its' ++ ow') ⟨its', ow', rfl, hi, hmm.trans hids, hV'⟩ ?_ S' ⟨r, rfl, hr⟩
      refine (hL.trans l).perm ?_
      rw [← List.append_assoc]
      exact List.Perm.append_right _ List.perm_append_comm
  rais := by
    intro a k b hst A G pre ow s Q E hA hSG hU W h
    cases hst with
    | @fail t a k b hlt ht =>
      obtain ⟨its, ow₂, rfl, hI, hids, hV⟩ := hU
      have W' : Wd fs G (its ++ (pre ++ ow₂)) s.heap := W.perm (by
        rw [← List.append_assoc, ← List.append_assoc]
        exact List.Perm.append_right _ List.perm_append_comm)
      obtain ⟨xs, hxs⟩ := Y.lists (pre := pre ++ its) hV hSG (by simpa using W)
      refine map_item (t := t) (v := fun l => ((xs l)[t]?).getD .none) W' hI (hm G hSG) (by rw [hT G hSG, ← hids, List.map_map]; rfl) (fun l hl => (hxs l hl).1) (fun l hl => get_def (by rw [(hxs l hl).2]; exact hlt l hl)) fun its' h' hi hmm hL hk => ?_
      have hl' : ∀ l ∈ ls, h'.IsList l (xs l) := fun l hl => by
        obtain ⟨x, hx, r⟩ := (hxs l hl).1
        exact ⟨x, (hk l (its_not_list hI (fun p hp => W'.own p (List.mem_append_left _ hp)) ⟨x, hx, r⟩)).trans hx, r⟩
      refine Y.fail ht A.in1 G (its' ++ pre) ow₂ { s with heap := h' } xs _ _ _ hA.in1 hSG hV (by simpa using hL.wd) hl' (fun l hl => get_def (by rw [(hxs l hl).2]; exact hlt l hl)) fun e tt G' h'' tk ow' hV' l S' hf => ?_
      obtain ⟨o, ho, hc⟩ := hf.cls
      unfold OwitStop
      refine wpAny_isInstance (T := "ValueError") (b := false) ⟨o, ho, hc⟩ sub_ve_stop ?_
      show (if false = true then _ else _)
      rw [if_neg Bool.false_ne_true]
      have L2 := hL.trans l
      refine h e tt G' h'' tk ow' hV' ?_ S' (hf.sub fun p hp => ?_)
      · rw [List.append_assoc] at L2
        exact L2.right
      · rcases List.mem_append.mp hp with hp | hp
        · simp [hp]
        · simp [hp]
end


theorem fk_upTo {fs : List Env} {G h h' : Heap} {ow : List (Addr × Obj)} (W : Wd fs G ow h) (k : h.UpToSlots h') : FK fs h h' := fun e he L hL o ho => by
  obtain ⟨o', ho', hd⟩ := W.frameIn he hL
  rw [ho] at ho'; cases ho'
  exact k _ _ ho hd

theorem Fly.wd {fs : List Env} {G h h₀ : Heap} {ow : List (Addr × Obj)} {e : Addr} {cls : Value} {args : List Value} (x : Fly fs G ow e cls args h) (W : Wd fs G ow h₀) : Wd fs G ow h := by
  obtain ⟨B, t, a, b, ⟨k1, _, k2, _⟩, _⟩ := x.ex
  exact ⟨stays_trans a k1, fun p hp => k1 _ _ (b p hp), W.ownG, W.nd, ff_to k2 (fun e he L hL => W.frameG he hL) fun e he L hL o ho => ⟨o, ho, .inl rfl⟩, W.fd⟩

section
variable {prog : Program} {w : World} {A : Around} {E : Value → Shared → Prop} {s : Shared} {fs : List Env} {G : Heap} {ow : List (Addr × Obj)} {env : Env} {e L : Addr} {cls : Value} {args : List Value} {M : Model}

theorem fly_leave {Q : Unit → Shared → Prop} (hfr : A.frames = some (env :: fs)) (hf : env.frame = some L) (W : Wd (env :: fs) G ow s.heap) (x : Fly (env :: fs) G ow e cls args s.heap)
    (h : ∀ h', Fly fs G ow e cls args h' → Wd fs G ow h' → FK fs s.heap h' → Q () { s with heap := h' }) : wpAny M A (leaving env (.ref e)) Q E s := by
  obtain ⟨B, t, a, b, c, d, d2, d3⟩ := x.ex
  have W' : Wd fs G ow s.heap := ⟨W.keep, W.own, W.ownG, W.nd, W.ff.2.2, fun p hp e he => W.fd p hp e (.tail _ he)⟩
  refine wpAny_leaves_onW hfr hf c fun h' k1 k2 => ?_
  have F : Fly fs G ow e cls args h' := ⟨B, t, a, b, k1, d.of_slots k2, d2, fun e he => d3 e (.tail _ he)⟩
  exact h h' F (F.wd W') (fk_upTo W' k2)
end

theorem MapUser.and {τ : Type} {prog : Program} {w : World} {fs : List Env} {S P : Heap → Prop} {d u : Nat} {f : Value} {ls : List Addr} {V : Heap → τ → List (Addr × Obj) → Prop} {len : τ → Addr → Nat} {turn : τ → Nat → PyData → τ → Prop} {fail : τ → Nat → Int → τ → Prop}
    (Y : MapUser prog w fs S d u f ls V len turn fail) (hP : ∀ G G', P G → G.StaysIn G' → P G') : MapUser prog w fs (fun G => S G ∧ P G) d u f ls V len turn fail where
  lists := fun hV hS W => Y.lists hV hS.1 W
  turn := fun ht A G pre ow s xs v Q E hA hS hV W h1 h2 h => Y.turn ht A G pre ow s xs v Q E hA hS.1 hV W h1 h2 fun r G' h' tk ow' hV' l S' hr => h r G' h' tk ow' hV' l ⟨S', hP _ _ hS.2 l.gr⟩ hr
  fail := fun ht A G pre ow s xs v Q E hA hS hV W h1 h2 h => Y.fail ht A G pre ow s xs v Q E hA hS.1 hV W h1 h2 fun e t G' h' tk ow' hV' l S' hr => h e t G' h' tk ow' hV' l ⟨S', hP _ _ hS.2 l.gr⟩ hr

def TupG (G : Heap) (a : Addr) (vs : List Value) : Prop := ∃ o n, G.get? a = some o ∧ o.cls = .type "tuple" ∧ o.data = .seq vs.toArray n
theorem TupG.mono {G G' : Heap} {a : Addr} {vs : List Value} (x : TupG G a vs) (k : G.StaysIn G') : TupG G' a vs := let ⟨o, n, h, r⟩ := x; ⟨o, n, k _ _ h, r⟩
theorem TupG.of {G : Heap} {a : Addr} {vs : List Value} (h : G.get? a = some (tupObj vs)) : TupG G a vs := ⟨_, _, h, rfl, rfl⟩

def fdBody : Stmt → List Stmt
  | .FunctionDef _ _ b .. => b
  | _ => []
def fdScope : Stmt → Scope
  | .FunctionDef _ _ _ _ _ _ sc .. => sc
  | _ => default
def fdParams : Stmt → Arguments
  | .FunctionDef _ a .. => a
  | _ => default
def fdName : Stmt → Str
  | .FunctionDef n .. => n
  | _ => Str.empty


theorem isList_mono {G G' : Heap} {l : Addr} {vs : Array Value} (x : G.IsList l vs) (k : G.StaysIn G') : G'.IsList l vs := let ⟨o, h, r⟩ := x; ⟨o, k _ _ h, r⟩

def upd (m : Str → Option Value) (x : Str) (v : Value) : Str → Option Value := fun y => if y = x then some v else m y
theorem upd_self (m : Str → Option Value) (x : Str) (v : Value) : upd m x v x = some v := if_pos rfl
theorem upd_ne {m : Str → Option Value} {x y : Str} {v : Value} {r : Option Value} (hm : m y = r) (h : y ≠ x := by decide) : upd m x v y = r := (if_neg h).trans hm

section
variable {prog : Program} {w : World} {A : Around} {E : Value → Shared → Prop} {s : Shared} {X : Ent} {G : Heap} {ow : List (Addr × Obj)} {env : Env} {m : Str → Option Value} {x : Str} {pos : Pos} {v : Value}

end


section
variable {prog : Program} {w : World} {A : Around} {E : Value → Shared → Prop} {s : Shared} {X : Ent} {G : Heap} {ow : List (Addr × Obj)} {env : Env} {m : Str → Option Value} {x : Str} {pos : Pos} {v : Value} {Q : Value → Shared → Prop}

theorem none_ge {h : Heap} {a : Addr} (e : h.objs.size ≤ a) : h.get? a = none := by
  cases q : h.get? a with
  | none => rfl
  | some o => exact absurd (Heap.lt_size q) (Nat.not_lt.mpr e)

theorem w_newTuple {vs : List Value} (AT : At X G ow env m s.heap) (hz : vs.length ≤ 100000)
    (h : ∀ a G' h', G.StaysIn G' → At X G' ow env m h' → G'.get? a = some (tupObj vs) → Q (.ref a) { s with heap := h' }) : wpAny (model prog w) A (newTuple vs) Q E s := by
  have hl : sizeLine = 16777216 := rfl
  refine wpAny_newTuple ?_ (by omega)
  obtain ⟨G', a, b, c⟩ := AT.grow (h' := s.heap.push { cls := .type "tuple", data := .seq vs.toArray }) fun _ _ e => Heap.get?_push_of_some _ e
  exact h _ G' _ a b (c _ _ (size_none _) (Heap.get?_push_size _ rfl))

theorem w_Tuple {elts : List Expr} {k : Nat} (h : wpAny (model prog w) A (spliced (backTo pos (starEach elts env))) (fun vs s₁ => wpAny (model prog w) A (newTuple vs) Q E s₁) E s) : wpAny (model prog w) A (eval (.Tuple elts k pos) env) Q E s := PyProof.Rows.Tuple_ h
theorem w_List {elts : List Expr} (h : wpAny (model prog w) A (spliced (backTo pos (starEach elts env))) (fun vs s₁ => wpAny (model prog w) A (newList vs) Q E s₁) E s) : wpAny (model prog w) A (eval (.List elts pos) env) Q E s := PyProof.Rows.List_ h

theorem w_newList {vs : List Value} (AT : At X G ow env m s.heap) (hz : vs.length ≤ 100000)
    (h : ∀ a G' h', G.StaysIn G' → At X G' ow env m h' → G'.IsList a vs.toArray → Q (.ref a) { s with heap := h' }) : wpAny (model prog w) A (newList vs) Q E s := by
  have hl : sizeLine = 16777216 := rfl
  refine wpAny_newList ?_ (by omega)
  obtain ⟨G', a, b, c⟩ := AT.grow (h' := s.heap.push { cls := .type "list", data := .seq vs.toArray }) fun _ _ e => Heap.get?_push_of_some _ e
  exact h _ G' _ a b ⟨_, c _ _ (size_none _) (Heap.get?_push_size _ rfl), rfl, _, rfl⟩
theorem w_newListOwn {vs : List Value} (AT : At X G ow env m s.heap) (hz : vs.length ≤ 100000)
    (h : ∀ a h', s.heap.get? a = none → At X G ((a, lstObj vs.toArray 0) :: ow) env m h' → Q (.ref a) { s with heap := h' }) : wpAny (model prog w) A (newList vs) Q E s := by
  have hl : sizeLine = 16777216 := rfl
  refine wpAny_newList ?_ (by omega)
  exact h _ _ (size_none _) (AT.own_new (h' := s.heap.push { cls := .type "list", data := .seq vs.toArray }) (fun _ _ e => Heap.get?_push_of_some _ e) (size_none _) (Heap.get?_push_size _ rfl))

theorem w_addLists {a b : Addr} {xs ys : Array Value} (AT : At X G ow env m s.heap) (ha : s.heap.IsList a xs) (hb : s.heap.IsList b ys) (hz : xs.size + ys.size ≤ 100000)
    (h : ∀ l G' h', G.StaysIn G' → At X G' ow env m h' → G'.IsList l (xs ++ ys) → Q (.ref l) { s with heap := h' }) : wpAny (model prog w) A (binaryOp .Add (.ref a) (.ref b)) Q E s := by
  have hl : sizeLine = 16777216 := rfl
  obtain ⟨F, N⟩ := AT.led
  refine add_arrays F N ha hb (fun h' F' N' => ?_) (by omega)
  obtain ⟨G', a1, b1, c1⟩ := AT.extG (led_back N' fun p hp => .tail _ hp) F'.ns
  have e : (xs.toList ++ ys.toList).toArray = xs ++ ys := by simp
  rw [e] at N'
  exact h _ G' h' a1 b1 ⟨_, c1 _ _ (size_none _) (N' _ (.head _)).1, rfl, 0, rfl⟩

theorem w_sliceRev {value : Expr} {p p1 p2 : Pos} {kk : Nat} {a : Addr} {xs : Array Value} (hv : wpAny (model prog w) A (eval value env) (fun o s₁ => ∃ G m ow, o = .ref a ∧ s₁.heap.IsList a xs ∧ At X G ow env m s₁.heap ∧
      (∀ l G' h' tk, G.StaysIn G' → At X G' ow env m h' → G'.IsList l xs.toList.reverse.toArray → Q (.ref l) { s₁ with heap := h', toks := tk })) E s) (hz : xs.size ≤ 100000)
    (ht : ∀ o r, letTemporaryGo value o r = pure () := by intro _ _; rfl) :
    wpAny (model prog w) A (eval (.Subscript value (.Slice none none (some (.UnaryOp .USub (.Constant (.int 1) kk p1) p2)) p) pos) env) Q E s := by
  have hl : sizeLine = 16777216 := rfl
  refine wpAny_Subscript_Slice_step (T := "list") list_getitem_lookup (wpAny_mono hv (fun o s₁ h₁ => ?_) fun _ _ z => z) ht
  obtain ⟨G, m, ow, rfl, hx, AT, h⟩ := h₁
  refine wpAny_Slice ?_
  refine wpAny_pure (wpAny_pure ?_)
  show wpAny _ _ (eval _ _) _ _ _
  refine wpAny_UnaryOp (wpAny_Constant_int (P.neg_int ?_))
  generalize htk : s₁.toks = tk
  have k0 : s₁.heap.StaysIn (s₁.heap.push { cls := .type "slice", data := .fields #[.none, .none, .int (-1) (tk + 1)] }) := fun _ _ e => Heap.get?_push_of_some _ e
  refine ⟨(isList_mono hx k0).typeIs, ?_⟩
  refine wpAny_getItem_list_slice (s := { s₁ with heap := s₁.heap.push { cls := .type "slice", data := .fields #[.none, .none, .int (-1) (tk + 1)] }, toks := tk + 1 + 1 }) (isList_mono hx k0) (Heap.IsSliceOf.new ..) .none .none (.int _ _) (by decide) ?_ (by omega)
  rw [krv_pick]
  have k1 := stays_trans k0 (fun _ _ e => Heap.get?_push_of_some { cls := .type "list", data := .seq xs.toList.reverse.toArray } e)
  obtain ⟨G', a1, b1, c1⟩ := AT.grow k1
  have e1 := Heap.get?_push_size (s₁.heap.push { cls := .type "slice", data := .fields #[.none, .none, .int (-1) (tk + 1)] }) (o := { cls := .type "list", data := .seq xs.toList.reverse.toArray }) rfl
  refine h _ G' _ _ a1 b1 ⟨_, c1 _ _ (none_ge ?_) e1, rfl, _, rfl⟩
  show s₁.heap.objs.size ≤ (s₁.heap.push _).objs.size
  rw [Heap.size_push]; omega

theorem w_callBuiltin {id : String} {e : Expr} {rest : List Expr}
    (h : wpAny (model prog w) A (spliced (backTo pos (starEach (e :: rest) env))) (fun vs s₁ => wpAny (model prog w) A (call (.builtin id) vs) Q E s₁) E s)
    (he : starEach (e :: rest) env = (false, eval e env) :: starEach rest env := by rfl)
    (hplain : (backTo pos (starEach rest env)).any (·.1) = false := by rfl) :
    wpAny (model prog w) A (callWith pos (.builtin id) [] (backTo pos (starEach (e :: rest) env)) []) Q E s := PyProof.Rows.callWith_builtin1 h he hplain
theorem w_len {a : Addr} {xs : Array Value} (ha : s.heap.IsList a xs) (hz : xs.size ≤ 100000) (h : Q (.int (xs.size : Int) (s.toks + 1)) { s with toks := s.toks + 1 + 1 }) : wpAny (model prog w) A (call (.builtin "len") [.ref a]) Q E s :=
  len_list ha (by omega) h

theorem isTup_of {G : Heap} {a : Addr} {vs : List Value} (x : TupG G a vs) : IsTup G a vs.toArray := let ⟨o, n, h, c, d⟩ := x; ⟨o, h, c, n, d⟩

/-- a, b = a pair -/
theorem w_unpack2 {x y : Str} {px py p : Pos} {k : Nat} {a : Addr} {v1 v2 : Value} {Q : Unit → Shared → Prop} (hA : A.handled = none) (AT : At X G ow env m s.heap) (ht : TupG G a [v1, v2])
    (h : ∀ h', At X G ow env (upd (upd m x v1) y v2) h' → Q () { s with heap := h', toks := s.toks + 1 + 1 })
    (hx : env.kindOf x = some .local := by rfl) (hy : env.kindOf y = some .local := by rfl) (hk : env.scope.kind = .function := by rfl) :
    wpAny (model prog w) A (assign (.Tuple [.Name x px, .Name y py] k p) env (.ref a)) Q E s := by
  have hT : IsTup s.heap a #[v1, v2] := IsTup.keeps (isTup_of ht) AT.keep
  refine assign_Tuple_tuple hA hT rfl rfl fun h' hx' => ?_
  have kk : s.heap.StaysIn h' := fun b o e => hx' b o (Nat.ne_of_lt (Heap.lt_size e)) e
  have A1 := AT.keeps kk
  show wpAny _ _ (assignInOrder [assign (.Name x px) env, assign (.Name y py) env] [v1, v2]) _ _ _
  unfold assignInOrder
  refine wpAny_bind (wpAny_holding (wpAny_assign_Name (w_store (s := { s with heap := h' }) A1 (fun h₂ A2 => ?_) hx hk)))
  first
    | (unfold assignInOrder
       refine wpAny_bind (wpAny_holding (wpAny_assign_Name (w_store (s := { s with heap := h₂, toks := s.toks + 1 }) A2 (fun h₃ A3 => ?_) hy hk)))
       unfold assignInOrder
       exact wpAny_pure (h h₃ A3))
    | (unfold assignInOrder
       exact wpAny_assign_Name (w_store (s := { s with heap := h₂, toks := s.toks + 1 }) A2 (fun h₃ A3 => h h₃ A3) hy hk))
end


theorem cells_addr {cm : Str → Option Value} {cs : List (Str × Addr)} {cells : List (Addr × Obj)} (h : CellsAre cm cs cells) : cells.map (·.1) = cs.map (·.2) := by
  induction h with
  | nil => rfl
  | cons _ _ ih => simp [ih]

theorem Wd.own_many {fs : List Env} {G h h' : Heap} {ow : List (Addr × Obj)} : ∀ {cells : List (Addr × Obj)}, Wd fs G ow h → h.StaysIn h' → (∀ p ∈ cells, h.get? p.1 = none ∧ h'.get? p.1 = some p.2) → (cells.map (·.1)).Nodup → Wd fs G (cells ++ ow) h'
  | [], W, k, _, _ => W.keeps k
  | p :: r, W, k, hc, hn => by
    rw [List.map_cons, List.nodup_cons] at hn
    have W' := Wd.own_many (cells := r) W k (fun q hq => hc q (.tail _ hq)) hn.2
    refine ⟨W'.keep, fun q hq => ?_, fun q hq => ?_, ?_, W'.ff, fun q hq e he hf => ?_⟩
    · rcases List.mem_cons.mp hq with rfl | hq
      · exact (hc _ (.head _)).2
      · exact W'.own q hq
    · rcases List.mem_cons.mp hq with rfl | hq
      · exact fresh_none W.keep (hc _ (.head _)).1
      · exact W'.ownG q hq
    · rw [List.cons_append, List.map_cons, List.nodup_cons]
      refine ⟨fun mm => ?_, W'.nd⟩
      rw [List.map_append] at mm
      rcases List.mem_append.mp mm with mm | mm
      · exact hn.1 mm
      · obtain ⟨q, hq, z⟩ := List.mem_map.mp mm
        have := W.own q hq
        rw [z, (hc p (.head _)).1] at this; cases this
    · rcases List.mem_cons.mp hq with rfl | hq
      · obtain ⟨o', ho', _⟩ := W.frameIn he hf
        rw [(hc _ (.head _)).1] at ho'; cases ho'
      · exact W'.fd q hq e he hf

section
variable {prog : Program} {w : World} {A : Around} {E : Value → Shared → Prop} {s : Shared} {fs : List Env} {G : Heap} {ow : List (Addr × Obj)} {Q : Value → Shared → Prop}
  {f : Addr} {name qual : Str} {params : Arguments} {body : List Stmt} {scope : Scope} {vals : List Value} {binds : List (Str × Value)}

theorem call_fnC (W : Wd fs G ow s.heap) (hA : A.depth < recursionLimit) (lim : G.NoLimit) (F : FnAt G f name qual params body scope [])
    (hb : ∀ doc pm an cdv ct, bindArgs (fnX name qual params body scope [] .none .none doc pm an cdv ct) ⟨vals, []⟩ = pure binds)
    (hkind : (binds.all fun y => scope.names.lookup y.1 == some .local || scope.names.lookup y.1 == some .cell) = true)
    (h : ∀ L cdv h₁ tk cells, L = s.heap.objs.size → s.heap.StaysIn h₁ → (∃ o pm doc an ct, G.get? f = some o ∧ o.data = .func (fnX name qual params body scope [] .none .none doc pm an cdv ct)) → CellsAre (bindC (envX qual scope L f cdv (cellsFrom (L + 1) scope.names [])).kindOf binds fun _ => none) (cellsFrom (L + 1) scope.names []) cells →
      At ⟨G, s.heap, fs⟩ G (cells ++ ow) (envX qual scope L f cdv (cellsFrom (L + 1) scope.names [])) (bindL (envX qual scope L f cdv (cellsFrom (L + 1) scope.names [])).kindOf binds fun _ => none) h₁ →
      wpAny (model prog w) (A.deeper (envX qual scope L f cdv (cellsFrom (L + 1) scope.names []))) (execs body (envX qual scope L f cdv (cellsFrom (L + 1) scope.names [])))
        (fun fl s' => Q (match fl with | .ret v => v | _ => .none) s')
        (Out prog w A (envX qual scope L f cdv (cellsFrom (L + 1) scope.names [])) E) { s with heap := h₁, toks := tk })
    (hnd : ((cellsFrom 0 scope.names []).map (·.1)).Nodup) (hco : scope.isCoroutine = false) (hgen : scope.isGenerator = false) (hk : scope.kind = .function) :
    wpAny (model prog w) A (call (.ref f) vals) Q E s := by
  obtain ⟨o, pm, doc, an, cdv, ct, ho, hd, hcd⟩ := F.ex
  refine wpAny_call (codeAny_call_function hA (W.keep _ _ ho) hd hco hgen rfl (hcd.keeps W.keep) ?_)
  rw [hb doc pm an cdv ct]
  refine wpAny_pure (wpAny_newFunctionEnv_cells hk (kindsX hkind _) fun env' he s' x => ?_)
  subst he
  refine ⟨(lim.keeps W.keep).keeps x.toInCall.keep, codeAny_func ?_⟩
  obtain ⟨h₁, tk, rfl, _⟩ := x.done
  have hk₁ := x.toInCall.keep
  have nL : s.heap.get? s.heap.objs.size = none := size_none _
  obtain ⟨cells, NC, Y⟩ := Cl.news (h₀ := e0) (L := s.heap.objs.size) (Nat.zero_le _) fun n c hm => ⟨x.cell n c (lookup_of_mem_nodup (cellsFrom_names scope.names 0 (s.heap.objs.size + 1) [] [] rfl ▸ hnd) hm), x.above n c hm⟩
  have hap : (cells.map (·.1)).Nodup := by
    rw [cells_addr Y]
    have := x.apart
    unfold List.Nodup
    rw [List.pairwise_map]
    exact this
  have hnew : ∀ p ∈ cells, s.heap.get? p.1 = none ∧ h₁.get? p.1 = some p.2 := fun p hp => by
    refine ⟨?_, (NC p hp).1⟩
    have mm : p.1 ∈ cells.map (·.1) := List.mem_map_of_mem hp
    rw [cells_addr Y] at mm
    obtain ⟨q, hq, z⟩ := List.mem_map.mp mm
    have := x.above q.1 q.2 hq
    rw [← z]
    exact none_ge (Nat.le_of_lt this)
  have W' := W.own_many (h' := h₁) hk₁ hnew hap
  refine h s.heap.objs.size cdv h₁ tk cells rfl hk₁ ⟨o, pm, doc, an, ct, ho, hd⟩ Y ?_
  have nf : ∀ e ∈ fs, e.frame ≠ some s.heap.objs.size := fun e he hf => by
    obtain ⟨o', ho', _⟩ := W.frameIn he hf
    rw [nL] at ho'; cases ho'
  have hns := x.toInCall.ns
  refine ⟨stays_refl _, ⟨W'.keep, W'.own, W'.ownG, W'.nd, ⟨by show scope.kind ≠ .module; rw [hk]; decide, ?_, W'.ff⟩, fun p hp e he hf => ?_⟩, FK.keeps hk₁, hns, rfl, nf⟩
  · obtain ⟨o', es, ep, ho', hd', _⟩ := hns
    exact ⟨_, o', rfl, fresh_none W.keep nL, ho', fun vs q => by rw [hd'] at q; cases q⟩
  · rcases List.mem_cons.mp he with rfl | he
    · have z : s.heap.objs.size = p.1 := Option.some.inj hf
      rcases List.mem_append.mp hp with hp | hp
      · exact (NC p hp).2.1 z.symm
      · have := W.own p hp
        rw [← z, nL] at this; cases this
    · exact W'.fd p hp e he hf
end

section
variable {prog : Program} {w : World} {A : Around} {E : Value → Shared → Prop} {h : Heap} {s : Shared} {tk : Tok} {X : Ent} {G : Heap} {ow : List (Addr × Obj)} {env : Env} {m : Str → Option Value} {x : Str} {pos : Pos} {v : Value} {Q : Value → Shared → Prop} {M : Model}
theorem w_set {Q : Unit → Shared → Prop} (AT : At X G ow env m s.heap) (h : ∀ h' tk, At X G ow env (upd m x v) h' → Q () { s with heap := h', toks := tk })
    (hx : env.kindOf x = some .local := by rfl) (hk : env.scope.kind = .function := by rfl) : wpAny M A (storeName env x v) Q E s :=
  w_store AT (fun h' A' => h h' _ A') hx hk
theorem w_int {i k pos} {Q : Value → Shared → Prop} (h : ∀ t tk, Q (.int i t) { s with toks := tk }) : wpAny M A (eval (.Constant (.int i) k pos) env) Q E s := wpAny_Constant_int (h _ _)
theorem w_add {a b : Int} {t u : Tok} {Q : Value → Shared → Prop} (h : ∀ t tk, Q (.int (a + b) t) { s with toks := tk }) : wpAny (model prog w) A (binaryOp .Add (.int a t) (.int b u)) Q E s := P.add_int (h _ _)
theorem w_iadd {a b : Int} {t u : Tok} {Q : Value → Shared → Prop} (h : ∀ t tk, Q (.int (a + b) t) { s with toks := tk }) : wpAny (model prog w) A (inplaceOp .Add (.int a t) (.int b u)) Q E s := P.iadd_int (h _ _)
theorem w_len' {a : Addr} {xs : Array Value} (ha : s.heap.IsList a xs) (hz : xs.size ≤ 100000) (h : ∀ t tk, Q (.int (xs.size : Int) t) { s with toks := tk }) : wpAny (model prog w) A (call (.builtin "len") [.ref a]) Q E s := w_len ha hz (h _ _)
theorem w_tup1 {value slice : Expr} {ta : Addr} {l : List Value} {k : Int} {u : Tok} {x : Value} {Q : Value → Shared → Prop} (ht : TupG G ta l) (kp : G.StaysIn s.heap)
    (hk : ∃ j : Nat, seqIndex? k l.length = some j ∧ l[j]? = some x) (h1 : -2 ^ 63 ≤ k) (h2 : k < 2 ^ 63) (h : Q x s)
    (hs : subscripted slice false (.ref ta) (.int k u) = operate [.ref ta, .int k u] (getItem (.ref ta) (.int k u)) := by with_unfolding_all rfl) :
    wpAny (model prog w) A (subscriptTail value slice (.ref ta) (.int k u)) Q E s := by
  obtain ⟨j, a, b⟩ := hk
  exact item_tupleT (IsTup.keeps (isTup_of ht) kp) h1 h2 a b h hs
end


section
variable {prog : Program} {w : World} {A : Around} {E : Value → Shared → Prop} {s : Shared} {fs : List Env} {G : Heap} {ow : List (Addr × Obj)} {env : Env} {e L : Addr} {cls : Value} {args : List Value} {M : Model}

theorem made_leave {h₁ : Heap} {Q : Unit → Shared → Prop} (hfr : A.frames = some (env :: fs)) (hf : env.frame = some L) (W : Wd (env :: fs) G ow h₁) (hx : Heap.MadeExcOf h₁ s.heap e cls args)
    (h : ∀ h', Fly fs G ow e cls args h' → Wd fs G ow h' → FK fs h₁ h' → Q () { s with heap := h' }) : wpAny M A (leaving env (.ref e)) Q E s := by
  obtain ⟨B, g1, g2, g3⟩ := W.grow (ow' := []) (stays_refl _) (fun _ h => by cases h) (by simp)
  have W1 : Wd fs G ow h₁ := ⟨W.keep, W.own, W.ownG, W.nd, W.ff.2.2, fun p hp e he => W.fd p hp e (.tail _ he)⟩
  obtain ⟨t, he, htn, ht⟩ := hx.there
  have fresh : ∀ b, h₁.get? b = none → B.get? b = none := fun b hb => by
    cases hq : B.get? b with
    | none => rfl
    | some o' => have := g2.keep b o' hq; rw [hb] at this; cases this
  have ntf : ∀ e ∈ fs, e.frame ≠ some t := fun e' he' hf' => by
    obtain ⟨o', ho', _⟩ := W.frameIn (.tail _ he') hf'
    rw [htn] at ho'; cases ho'
  refine wpAny_leaving_firstW (base := B) (a0 := .ref t) hfr (g2.ff.of_keeps fun b o hb _ => ⟨o, hx.keeps b o hb, rfl⟩) hf he (fun b o hb => hx.keeps b o (g2.keep b o hb)) (fresh e hx.new) rfl rfl rfl fun h' hL => ?_
  obtain ⟨k1, ⟨_, _, k2⟩, k3, U⟩ := hL
  have Fl : Fly fs G ow e cls args h' := ⟨B, t, g1, fun p hp => g3 _ _ (W.own p hp) (by simp) (fun en he => W.fd p hp en he), ⟨k1, fresh e hx.new, k2, k3⟩, Heap.TupAt.of_slots ⟨_, _, ht, rfl, rfl⟩ U, fresh t htn, ntf⟩
  have k : FK fs h₁ h' := (FK.keeps hx.keeps).trans (fk_upTo (W1.keeps hx.keeps) U)
  exact h h' Fl (Fl.wd W1) k

theorem next_item {it l : Addr} {i : Nat} {items : Array Value} {x : Value} {Q : Value → Shared → Prop} (hit : s.heap.IsListIter it l i)
    (hl : s.heap.IsList l items) (hx : items[i]? = some x) (h : ∀ h', h'.IsListIter it l (i + 1) → Heap.SameBut it s.heap h' → Q x { s with heap := h' }) :
    wpAny (model prog w) A (call (.builtin "next") [.ref it]) Q E s := by
  refine call_function_entry (by decide +kernel) (by decide +kernel) kdk_entry_next (kdk_args_next _) ?_
  unfold Builtin.«next»
  refine wpAny_bind (m := someArgs "next" 1 2 _) (wpAny_of_eq (a := [Value.ref it]) (by first | rfl | kernel_rfl!) ?_)
  dsimp only
  refine wpAny_bind (wpAny_specialOf (name := Str.ofString "__next__") hit.typeIs slot_listiter_next.lookup ?_)
  refine wpAny_ite_split (fun hab => absurd hab (by decide)) (fun _ => ?_)
  obtain ⟨o, ho, hc, hd⟩ := id hit
  obtain ⟨ol, hol, _, nl, hdl⟩ := hl
  refine wpAny_bind (wpAny_callSpecial?_slot (name := Str.ofString "__next__") hit.typeIs slot_listiter_next
    (wpAny_call_entry slot_listiter_next hit.typeIs entry_listiter_next ?_ (args_listiter_next _)))
  show wpAny _ _ (field (.ref it) 0 >>= _) _ _ s
  refine wpAny_bind (wpAny_field ho hd (x := .ref l) rfl ?_)
  show wpAny _ _ (if (Value.ref l == Value.none) = true then _ else _) _ _ s
  rw [if_neg (show ¬ ((Value.ref l == Value.none) = true) from Bool.false_ne_true)]
  show wpAny _ _ (field (.ref it) 1 >>= _) _ _ s
  refine wpAny_bind (wpAny_field ho hd (x := .int i 0) rfl ?_)
  show wpAny _ _ (seqItems? (.ref l) >>= _) _ _ s
  refine wpAny_bind (wpAny_seqItems hol hdl ?_)
  simp only [Int.toNat_natCast, hx]
  refine wpAny_bind (wpAny_setField ho hd (by simp) (wpAny_pure ⟨x, rfl, wpAny_pure ⟨_, rfl, h _ ?_ (Heap.SameBut.update ..)⟩⟩))
  exact ⟨_, Heap.get?_update_self _ ho (Obj.isFreed_of_fields (Obj.data_mapFields hd _)), (Obj.cls_mapFields ..).trans hc, by
    rw [Obj.data_mapFields hd]; simp [rawInt]⟩

theorem next_end {it l : Addr} {i : Nat} {items : Array Value} {Q : Value → Shared → Prop} (hh : A.handled = none) (hit : s.heap.IsListIter it l i)
    (hl : s.heap.IsList l items) (hx : items[i]? = none) (h : ∀ h₁ h' e o', h₁.get? it = some o' → Heap.SameBut it s.heap h₁ → Heap.MadeExcOf h₁ h' e (.type "StopIteration") [] → E (.ref e) { s with heap := h' }) :
    wpAny (model prog w) A (call (.builtin "next") [.ref it]) Q E s := by
  refine call_function_entry (by decide +kernel) (by decide +kernel) kdk_entry_next (kdk_args_next _) ?_
  unfold Builtin.«next»
  refine wpAny_bind (m := someArgs "next" 1 2 _) (wpAny_of_eq (a := [Value.ref it]) (by first | rfl | kernel_rfl!) ?_)
  dsimp only
  refine wpAny_bind (wpAny_specialOf (name := Str.ofString "__next__") hit.typeIs slot_listiter_next.lookup ?_)
  refine wpAny_ite_split (fun hab => absurd hab (by decide)) (fun _ => ?_)
  obtain ⟨o, ho, hc, hd⟩ := id hit
  obtain ⟨ol, hol, _, nl, hdl⟩ := hl
  refine wpAny_bind (wpAny_callSpecial?_slot (name := Str.ofString "__next__") hit.typeIs slot_listiter_next
    (wpAny_call_entry slot_listiter_next hit.typeIs entry_listiter_next ?_ (args_listiter_next _)))
  show wpAny _ _ (field (.ref it) 0 >>= _) _ _ s
  refine wpAny_bind (wpAny_field ho hd (x := .ref l) rfl ?_)
  show wpAny _ _ (if (Value.ref l == Value.none) = true then _ else _) _ _ s
  rw [if_neg (show ¬ ((Value.ref l == Value.none) = true) from Bool.false_ne_true)]
  show wpAny _ _ (field (.ref it) 1 >>= _) _ _ s
  refine wpAny_bind (wpAny_field ho hd (x := .int i 0) rfl ?_)
  show wpAny _ _ (seqItems? (.ref l) >>= _) _ _ s
  refine wpAny_bind (wpAny_seqItems hol hdl ?_)
  simp only [Int.toNat_natCast, hx]
  refine wpAny_bind (wpAny_rule (wpAny_bind (wpAny_setField ho hd (by simp) ?_)))
  have e1 := Heap.get?_update_self (Obj.mapFields (·.setIfInBounds 0 Value.none)) ho (Obj.isFreed_of_fields (Obj.data_mapFields hd _))
  generalize hh1 : s.heap.update it (Obj.mapFields (·.setIfInBounds 0 Value.none)) = h₁ at *
  show wpAny _ _ (newExc (.type "StopIteration") [] >>= _) _ _ _
  refine wpAny_bind ?_
  simp only [newExc, newTuple]
  refine wpAny_bind (wpAny_newObj_type ?_ (by size_fits))
  refine wpAny_bind (m := firstArgMember _ _) (wpAny_of_eq (a := Value.none) (by first | rfl | (simp only [firstArgMember]; rfl)) ?_)
  refine wpAny_newObj_type ?_ (by size_fits)
  simp only [raiseNew]
  refine wpAny_bind (wpAny_handled ?_)
  have hh9 : A.in1.handled = none := hh
  first | rw [show A.in1.in1.handled = none from hh] | rw [hh9] | rw [hh]
  refine wpAny_bind (wpAny_pure (wpAny_throw ?_))
  refine h h₁ _ _ _ e1 (hh1 ▸ Heap.SameBut.update ..) ⟨fun b o hb => Heap.get?_push_of_some _ (Heap.get?_push_of_some _ hb), ?_, h₁.objs.size, ?_, size_none _, ?_⟩
  · exact none_ge (by show h₁.objs.size ≤ _; simp)
  · exact Heap.get?_push_size _ rfl
  · exact Heap.get?_push_of_some _ (Heap.get?_push_size _ rfl)
end


section
variable {X : Ent} {G h h' : Heap} {pre post ow : List (Addr × Obj)} {env : Env} {m m' : Str → Option Value} {a : Addr} {o o' : Obj}
theorem Wd.extPut {fs : List Env} (W : Wd fs G (pre ++ (a, o) :: post) h) (hs : Heap.ExtBut a h h') (e : h'.get? a = some o') : Wd fs G (pre ++ (a, o') :: post) h' := by
  have L := W.extBut hs
  have nd := W.nd
  have aG : G.get? a = none := W.ownG (a, o) (by simp)
  refine ⟨L.wd.keep, fun p hp => ?_, fun p hp => ?_, ?_, L.wd.ff, fun p hp => ?_⟩
  · rcases List.mem_append.mp hp with hp | hp
    · exact L.wd.own p (List.mem_append_left _ hp)
    · rcases List.mem_cons.mp hp with rfl | hp
      · exact e
      · exact L.wd.own p (List.mem_append_right _ hp)
  · rcases List.mem_append.mp hp with hp | hp
    · exact L.wd.ownG p (List.mem_append_left _ hp)
    · rcases List.mem_cons.mp hp with rfl | hp
      · exact aG
      · exact L.wd.ownG p (List.mem_append_right _ hp)
  · rw [List.map_append, List.map_cons] at nd ⊢
    exact nd
  · rcases List.mem_append.mp hp with hp | hp
    · exact L.wd.fd p (List.mem_append_left _ hp)
    · rcases List.mem_cons.mp hp with rfl | hp
      · exact W.fd (a, o) (by simp)
      · exact L.wd.fd p (List.mem_append_right _ hp)
theorem Wd.extFK {fs : List Env} (W : Wd fs G (pre ++ (a, o) :: post) h) (hs : Heap.ExtBut a h h') : FK fs h h' := (W.extBut hs).fk
/-- an own object turned, things new -/
theorem At.extPut (AT : At X G (pre ++ (a, o) :: post) env m h) (hs : Heap.ExtBut a h h') (e : h'.get? a = some o') : At X G (pre ++ (a, o') :: post) env m h' :=
  AT.back ⟨stays_refl _, AT.wd.extPut hs e, AT.wd.extFK hs⟩
/-- all that is not own and stands is frozen -/
theorem At.all (AT : At X G ow env m h) : ∃ G', G.StaysIn G' ∧ At X G' ow env m h ∧ ∀ b o, h.get? b = some o → b ∉ ow.map (·.1) → b ≠ env.locals → (∀ e ∈ X.fs, e.frame ≠ some b) → G'.get? b = some o := by
  obtain ⟨G', a, b, c⟩ := AT.wd.grow (stays_refl _) (fun _ h => h) AT.wd.nd
  refine ⟨G', a, AT.back ⟨a, b, FK.refl _ _⟩, fun x o n e1 e2 e3 => c x o n e1 fun en he hf => ?_⟩
  rcases List.mem_cons.mp he with rfl | he
  · exact e2 (by rw [AT.fr] at hf; exact (Option.some.inj hf).symm)
  · exact e3 en he hf

theorem At.slots {x : Addr} {ox : Obj} (AT : At X G (pre ++ (x, ox) :: post) env m h) :
    Fr e0 env.locals h m ∧ News e0 env.locals h ((x, ox) :: (dumpOf env.locals h).filter fun p => p.1 ≠ x) := by
  obtain ⟨F, N⟩ := AT.led
  refine ⟨F, fun p hp => ?_⟩
  rcases List.mem_cons.mp hp with rfl | hp
  · exact ⟨AT.wd.own (x, ox) (by simp), AT.nO (x, ox) (by simp), e0_none _⟩
  · exact N p (List.mem_filter.mp hp).1
theorem slots_back {L x : Addr} {ox : Obj} (N : News e0 L h' ((x, ox) :: (dumpOf L h).filter fun p => p.1 ≠ x)) : ∀ b o, b ≠ L → b ≠ x → h.get? b = some o → h'.get? b = some o := fun b o n1 n2 e =>
  (N (b, o) (.tail _ (List.mem_filter.mpr ⟨dump_mem e n1, by simpa using n2⟩))).1

/-- the frame's own names and an own object turned -/
theorem At.twoBut (AT : At X G (pre ++ (a, o) :: post) env m h) (hs : ∀ b x, b ≠ env.locals → b ≠ a → h.get? b = some x → h'.get? b = some x) (e : h'.get? a = some o') (hn : h'.Ns env.locals m') : At X G (pre ++ (a, o') :: post) env m' h' := by
  have aG : G.get? a = none := AT.wd.ownG (a, o) (by simp)
  have af : ∀ en ∈ env :: X.fs, en.frame ≠ some a := AT.wd.fd (a, o) (by simp)
  have nd := AT.wd.nd
  have na : ∀ p ∈ pre ++ post, p.1 ≠ a := fun p hp z => by
    have nd2 := nd
    rw [List.map_append, List.map_cons] at nd2
    have := (List.nodup_cons.mp (List.perm_middle.nodup_iff.mp nd2)).1
    rw [← List.map_append] at this
    exact this (List.mem_map.mpr ⟨p, hp, z⟩)
  refine ⟨AT.gr, ⟨fun b x q => hs b x (fun z => by rw [z, AT.nG] at q; cases q) (fun z => by rw [z, aG] at q; cases q) (AT.keep b x q), fun p hp => ?_, fun p hp => ?_, ?_, ?_, fun p hp => ?_⟩, ?_, hn, AT.fr, AT.nX⟩
  · rcases List.mem_append.mp hp with hp | hp
    · exact hs _ _ (AT.nO p (List.mem_append_left _ hp)) (na p (List.mem_append_left _ hp)) (AT.wd.own p (List.mem_append_left _ hp))
    · rcases List.mem_cons.mp hp with rfl | hp
      · exact e
      · exact hs _ _ (AT.nO p (List.mem_append_right _ (.tail _ hp))) (na p (List.mem_append_right _ hp)) (AT.wd.own p (List.mem_append_right _ (.tail _ hp)))
  · rcases List.mem_append.mp hp with hp | hp
    · exact AT.wd.ownG p (List.mem_append_left _ hp)
    · rcases List.mem_cons.mp hp with rfl | hp
      · exact aG
      · exact AT.wd.ownG p (List.mem_append_right _ (.tail _ hp))
  · rw [List.map_append, List.map_cons] at nd ⊢
    exact nd
  · refine ff_to AT.wd.ff (fun e he L hL => AT.wd.frameG he hL) fun en he L hL x hx => ?_
    by_cases z : L = env.locals
    · subst z
      obtain ⟨o', es, ep, ho', hd, _⟩ := hn
      exact ⟨o', ho', .inr fun vs q => by rw [hd] at q; cases q⟩
    · exact ⟨x, hs _ _ z (fun q => af en he (q ▸ hL)) hx, .inl rfl⟩
  · rcases List.mem_append.mp hp with hp | hp
    · exact AT.wd.fd p (List.mem_append_left _ hp)
    · rcases List.mem_cons.mp hp with rfl | hp
      · exact af
      · exact AT.wd.fd p (List.mem_append_right _ (.tail _ hp))
  · exact AT.fk.trans fun en he L hL x hx => ⟨x.slots, hs _ _ (fun z => AT.nX en he (z ▸ hL)) (fun z => af en (.tail _ he) (z ▸ hL)) hx⟩
end

section
variable {prog : Program} {w : World} {A : Around} {E : Value → Shared → Prop} {s : Shared} {fs : List Env} {G : Heap} {ow : List (Addr × Obj)} {env : Env} {M : Model} {K : Frag} {x C f : Addr} {ox : Obj} {od : Option Obj} {m : Str → Option Value} {X' : Ent}

theorem inst_next {Q : Option Value → Shared → Prop} (X : K.In s.heap) (I : InstAt s.heap x ox C od) (hs : findIn K (.ref C) "__next__" = some (some (.ref f))) (hf : typeIn K (.ref f) = some (.type "function"))
    (h : wpAny M A (call (.ref f) [.ref x]) (fun v s' => Q (some v) s') (OwitStop M A Q E) s) : wpAny M A (pyNext (.ref x)) Q E s := by
  unfold pyNext
  refine wpAny_bind (wpAny_attempt (special_fn (name := "__next__") (args := []) X I hs hf (wpAny_mono h (fun v s' hq => ?_) (fun e s' he => ?_))))
  · exact wpAny_pure hq
  · refine wpAny_bind (wpAny_mono he (fun b s₂ hb => ?_) fun _ _ z => z)
    cases b with
    | true => exact wpAny_pure hb
    | false => exact wpAny_throw hb

theorem inst_iter {Q : Value → Shared → Prop} {g : Value} (X : K.In s.heap) (I : InstAt s.heap x ox C od) (hs : findIn K (.ref C) "__iter__" = some (some (.ref f))) (hf : typeIn K (.ref f) = some (.type "function")) (hn : findIn K (.ref C) "__next__" = some (some g))
    (h : wpAny M A (call (.ref f) [.ref x]) (fun v s' => v = .ref x ∧ K.In s'.heap ∧ InstAt s'.heap x ox C od ∧ Q (.ref x) s') E s) : wpAny M A (pyIter (.ref x)) Q E s := by
  have fin : wpAny M A (call (.ref f) [.ref x] >>= fun v => pure (some v)) (fun r s' => r = some (.ref x) ∧ K.In s'.heap ∧ InstAt s'.heap x ox C od ∧ Q (.ref x) s') E s :=
    wpAny_bind (wpAny_mono h (fun v s' h' => wpAny_pure (by obtain ⟨rfl, r⟩ := h'; exact ⟨rfl, r⟩)) fun _ _ z => z)
  have one : ∀ refuse : Sem Value, wpAny M A (callSpecialIfBoundUnlessNone? (.ref x) "__iter__" refuse) (fun r s' => r = some (.ref x) ∧ K.In s'.heap ∧ InstAt s'.heap x ox C od ∧ Q (.ref x) s') E s := by
    intro refuse
    simp only [callSpecialIfBoundUnlessNone?, bindSpecialIfBound?]
    refine wpAny_holding (wpAny_bind (wpAny_bind (wpAny_bind (I.type.here ((looks_findIn X hs).here ?_)))))
    refine wpAny_bind (wpAny_askSetting (wpAny_ite ?_))
    have fin2 : wpAny M A (if (Value.ref f == Value.none) = true then (refuse >>= fun v => pure (some v)) else (call (.ref f) [.ref x] >>= fun v => pure (some v))) (fun r s' => r = some (.ref x) ∧ K.In s'.heap ∧ InstAt s'.heap x ox C od ∧ Q (.ref x) s') E s := by
      rw [if_neg (show ¬ ((Value.ref f == Value.none) = true) from Bool.false_ne_true)]
      exact fin
    split
    · exact wpAny_bind ((bind_fn X _ hf).here (wpAny_pure (by exact fin2)))
    · exact wpAny_tryCatch (wpAny_bind ((bind_fn X _ hf).here (wpAny_pure (by exact fin2))))
  unfold pyIter
  refine wpAny_bind (wpAny_bind (I.type.here ((looks_findIn X hs).here ?_)))
  show wpAny M A (callSpecialIfBoundUnlessNone? (.ref x) "__iter__" _ >>= _) Q E s
  refine wpAny_bind (wpAny_mono (one _) (fun r s' hr => ?_) fun _ _ z => z)
  obtain ⟨rfl, X₂, I₂, hq⟩ := hr
  exact wpAny_bind (wpAny_bind (I₂.type.here ((looks_findIn X₂ hn).here (wpAny_pure hq))))

theorem inst_make {pos : List Value} {fI : Addr} {Q : Value → Shared → Prop} (W : Wd fs G ow s.heap) (X : K.In s.heap) (hm : makesIn K C = true) (hi : findIn K (.ref C) "__init__" = some (some (.ref fI))) (hf : typeIn K (.ref fI) = some (.type "function"))
    (h : ∀ x dx h', s.heap.StaysIn h' → Wd fs G ((x, instObj C dx) :: (dx, emptyDict) :: ow) h' →
      codeAny (model prog w) (A.under (.builtin "type.__call__" ⟨.ref C :: pos, []⟩)) (.call (.ref fI) ⟨.ref x :: pos, []⟩) (InitBack x fun r s' => match r with | .ok (.ret v) => Q v s' | .ok _ => False | .error e => E e s') { s with heap := h' }) :
    wpAny (model prog w) A (call (.ref C) pos) Q E s := by
  obtain ⟨hh, g, d, t, os⟩ := s
  refine wpAny_call (make_core (makes_of X hm) (looks_findIn X hi) (fun self => bind_fn X self hf) (.inl rfl) (h _ hh.objs.size _ (fun _ _ e => Heap.get?_push_of_some _ (Heap.get?_push_of_some _ e)) ?_))
  have W1 := W.own_new (h' := hh.push emptyDict) (fun _ _ e => Heap.get?_push_of_some _ e) (size_none _) (Heap.get?_push_size _ rfl)
  refine W1.own_new (fun _ _ e => Heap.get?_push_of_some _ e) ?_ ?_
  · exact none_ge (by simp)
  · have := Heap.get?_push_size (hh.push emptyDict) (o := instObj C hh.objs.size) rfl
    rwa [Heap.size_push] at this

theorem inst_set {Q : Unit → Shared → Prop} {name : Str} {p : Addr} {i : Nat} {v : Value} {ox' : Obj} {pre post : List (Addr × Obj)} (AT : At X' G (pre ++ (x, ox) :: post) env m s.heap) (X : K.In s.heap) (I : InstAt s.heap x ox C od)
    (hs : findIn K (.ref C) "__setattr__" = some (some (.builtin "object.__setattr__"))) (hp : plainOver K C = true) (ht : takerIn K C name = some (some (.ref p))) (hT : typeIn K (.ref p) = some (.type "member_descriptor")) (hi : slotIn K p C = some i) (hz : i < 1000)
    (e : { ox with slots := (ox.slots ++ Array.replicate (i + 1 - ox.slots.size) none).setIfInBounds i (some v) } = ox') (hf : ox'.isFreed = false)
    (h : ∀ h' tk, At X' G (pre ++ (x, ox') :: post) env m h' → (∀ b o, b ≠ env.locals → b ≠ x → s.heap.get? b = some o → h'.get? b = some o) → Q () { s with heap := h', toks := tk }) : wpAny (model prog w) A (setAttr (.ref x) name v) Q E s := by
  obtain ⟨F, N⟩ := AT.slots
  refine set_plain X I hs (osa_descr (s := { s with toks := s.toks + 1 }) KF.slot_mset X I hp ht hT (slot_set (s := { s with toks := s.toks + 1 }) (pre := []) F N X I hi hz (fun _ h => by cases h) (fun p hp => by simpa using (List.mem_filter.mp hp).2) e hf fun h' F' N' => ?_))
  have bk := slots_back N'
  exact h h' _ (AT.twoBut bk (N' _ (.head _)).1 F'.ns) bk

theorem inst_get {Q : Value → Shared → Prop} {name : Str} {p : Addr} {i : Nat} {v : Value} {od : Obj} {expr : Bool} (X : K.In s.heap) (I : InstAt s.heap x ox C (some od)) (hg : plainGet K C name = true) (hc : isClsIn K C = true)
    (ha : findIn K (.ref C) name = some (some (.ref p))) (hn : specialIn K (.ref p) "__get__" = some (some (.builtin "member_descriptor.__get__"))) (ht : takesIn K (.ref p) = some true) (hp : slotIn K p C = some i)
    (hv : (ox.slots[i]?).join = some v) (hh : handedIn v = true) (h : ∀ tk, Q v { s with toks := tk }) : wpAny (model prog w) A (getAttr (.ref x) name expr) Q E s :=
  get_bind X I (plainGet_of hg).1 (findObj_data hc ha hn ht) (plainGet_of hg).2 (wpAny_call (slot_get (s := { s with toks := s.toks + 1 }) X I hp hv (handed_on hh (h _))))
end

theorem Ar.tcall {A : Around} {fs : List Env} {d u : Nat} (C : Addr) (pos : List Value) (a : Ar A fs (d + 1) (u + 10)) : Ar (A.under (.builtin "type.__call__" ⟨.ref C :: pos, []⟩)) fs d u := by
  refine ⟨?_, a.hd, ?_, ?_⟩
  · exact a.fr
  · have := a.dp
    show A.depth + 1 + d < recursionLimit
    omega
  · have := a.un
    have e : (A.under (.builtin "type.__call__" ⟨.ref C :: pos, []⟩)).units ≤ A.units + 10 := by
      show A.units + _ ≤ A.units + 10
      exact Nat.add_le_add_left (Nat.le_trans (Nat.le_of_eq (show _ = 1 by first | rfl | kernel_rfl)) (by decide)) _
    omega

section
variable {prog : Program} {w : World} {A : Around} {E : Value → Shared → Prop} {s : Shared} {Q : Value → Shared → Prop} {M : Model}
theorem w_iter {l : Addr} {items : Array Value} (hl : s.heap.IsList l items)
    (h : Q (.ref s.heap.objs.size) { s with heap := s.heap.push { cls := .type "list_iterator", data := .fields #[.ref l, .int 0 0] } }) :
    wpAny (model prog w) A (call (.builtin "iter") [.ref l]) Q E s := by
  refine call_function_entry (by decide +kernel) (by decide +kernel) kdk_entry_iter (kdk_args_iter _) ?_
  unfold Builtin.«iter»
  refine wpAny_bind (m := someArgs "iter" 1 2 _) (wpAny_of_eq (a := [Value.ref l]) (by first | rfl | kernel_rfl!) ?_)
  show wpAny _ _ (pyIter (.ref l) >>= _) _ _ _
  refine wpAny_bind (wpAny_pyIter_list hl ?_)
  exact wpAny_pure ⟨_, rfl, h⟩
end
section
variable {A : Around} {E : Value → Shared → Prop} {s : Shared} {X : Ent} {G : Heap} {ow : List (Addr × Obj)} {env : Env} {m : Str → Option Value} {x : Str} {v : Value} {M : Model}
theorem w_setS {Q : Unit → Shared → Prop} (AT : At X G ow env m s.heap) (h : ∀ h' tk, At X G ow env (upd m x v) h' → (∀ b, b ≠ env.locals → h'.get? b = s.heap.get? b) → Q () { s with heap := h', toks := tk })
    (hx : env.kindOf x = some .local := by rfl) (hk : env.scope.kind = .function := by rfl) : wpAny M A (storeName env x v) Q E s :=
  wpAny_storeName_local hx AT.ns (fun h' hn hs => h h' _ (AT.store hn hs) hs.2) (by rw [hk]; rfl)
theorem isList_get {G G' : Heap} {a : Addr} {vs : Array Value} (x : G.IsList a vs) (e : G'.get? a = G.get? a) : G'.IsList a vs := let ⟨o, h, r⟩ := x; ⟨o, e.trans h, r⟩
end
section
variable {A : Around} {E : Value → Shared → Prop} {s : Shared} {env : Env} {M : Model} {Q : Value → Shared → Prop}
theorem w_attrStar {x name : Str} {xp apos pos p : Pos} {e : Expr}
    (h : wpAny M A (eval (.Name x xp) env) (fun ov s₁ => wpAny M A (getAttr ov name true) (fun f s₂ => wpAny M A (callWith pos f [] (backTo pos (starEach [.Starred e p] env)) []) Q E s₂) E s₁) E s) :
    wpAny M A (eval (.Call (.Attribute (.Name x xp) name apos) [.Starred e p] [] pos) env) Q E s := by
  rw [arm_eval_Call]
  have e1 : attributeBase (.Name x xp) name env (eval (.Name x xp) env) = eval (.Name x xp) env := rfl
  rw [e1]
  refine wpAny_bind (wpAny_mono h (fun ov s₁ h₁ => wpAny_bind (wpAny_standAt ?_)) fun _ _ y => y)
  unfold methodCall
  have e2 : methodCallForm ([Expr.Starred e p].length + ([] : List Keyword).length) (backTo pos (starEach [.Starred e p] env)) (backToKw pos (keywordEach [] env)) = false := rfl
  rw [e2]
  refine wpAny_bind (wpAny_holding ?_)
  show wpAny _ _ (getAttr ov name true >>= fun f => pure (f, ([] : List Value))) _ _ _
  refine wpAny_bind (wpAny_mono h₁ (fun f s₂ h₂ => wpAny_pure ?_) fun _ _ y => y)
  show wpAny _ _ (pure pos >>= fun callPos => callWith callPos f [] (backTo pos (starEach [.Starred e p] env)) (backToKw pos (keywordEach [] env))) _ _ _
  exact wpAny_bind (wpAny_pure h₂)
end


def PlO (vs : Array Value) (o : Obj) : Prop := o.cls = .type "list" ∧ o.dict = none ∧ ∃ n, o.data = .seq vs n
theorem PlO.lst (vs : Array Value) (c : Nat) : PlO vs (lstObj vs c) := ⟨rfl, rfl, c, rfl⟩
theorem PlO.isList {h : Heap} {a : Addr} {o : Obj} {vs : Array Value} (x : PlO vs o) (e : h.get? a = some o) : h.IsList a vs := ⟨o, e, x.1, x.2.2⟩

section
variable {prog : Program} {w : World} {A : Around} {E : Value → Shared → Prop} {s : Shared} {X : Ent} {G : Heap} {pre post : List (Addr × Obj)} {env : Env} {m : Str → Option Value} {a : Addr} {o : Obj} {vs : Array Value} {x : Value}

theorem w_append {Q : Value → Shared → Prop} (AT : At X G (pre ++ (a, o) :: post) env m s.heap) (ho : PlO vs o) (hz : vs.size ≤ 100000)
    (h : ∀ h' o', At X G (pre ++ (a, o') :: post) env m h' → PlO (vs.push x) o' → (∀ b, b ≠ a → h'.get? b = s.heap.get? b) → Q .none { s with heap := h' }) : wpAny (model prog w) A (call (.builtin "list.append") [.ref a, x]) Q E s := by
  have hl : sizeLine = 16777216 := rfl
  obtain ⟨c, d, n, e⟩ := ho
  refine list_append_plainL ⟨o, n, AT.wd.own (a, o) (by simp), c, d, e⟩ (fun h' hp hs => ?_) (by omega)
  obtain ⟨o', n', e1, e2, e3, e4⟩ := hp
  exact h h' o' (AT.put hs e1) ⟨e2, e3, n', e4⟩ hs.2

end


/-- the state of a table of codes that one nested def or lambda fills -/
def TabSt (pos : Pos) (qual : Str) (G : Heap) (ps : Array Value) : Prop := ps = #[] ∨ ∃ c', ps = #[rawInt pos.line, rawInt pos.col, .ref c'] ∧ G.CodeRec (.ref c') qual
theorem TabSt.mono {pos : Pos} {qual : Str} {G G' : Heap} {ps : Array Value} (h : TabSt pos qual G ps) (k : G.StaysIn G') : TabSt pos qual G' ps := h.imp id fun ⟨c', a, b⟩ => ⟨c', a, b.keeps k⟩
structure Bmn (mg : Str → Option Value) (G : Heap) : Prop where
  ex : ∃ bm ob, mg "__builtins__" = some (.ref bm) ∧ bm ≠ builtinsNs ∧ G.get? bm = some ob ∧ ob.cls = .type "module" ∧ ob.dict = some builtinsNs ∧ ob.data = .plain
theorem Bmn.mono {mg : Str → Option Value} {G G' : Heap} (h : Bmn mg G) (k : G.StaysIn G') : Bmn mg G' := let ⟨bm, ob, a, b, c, d⟩ := h.ex; ⟨bm, ob, a, b, k _ _ c, d⟩

section
variable {X : Ent} {G h : Heap} {ow : List (Addr × Obj)} {env : Env} {m : Str → Option Value}
theorem At.perm {ow' : List (Addr × Obj)} (AT : At X G ow env m h) (p : ow.Perm ow') : At X G ow' env m h := AT.back ⟨stays_refl _, AT.wd.perm p, FK.refl _ _⟩
end

section
variable {M : Model} {A : Around} {E : Value → Shared → Prop} {s : Shared} {X : Ent} {G : Heap} {pre post : List (Addr × Obj)} {env : Env} {m mg mb : Str → Option Value} {c P : Addr} {tab : Obj} {ps : Array Value}
  {name qual : Str} {params : Arguments} {body : List Stmt} {scope : Scope} {pos : Pos} {firstLine : Nat} {clos : List (Str × Addr)}

theorem w_makeFn {Q : Value → Shared → Prop} (AT : At X G (pre ++ (P, tabObj ps) :: post) env m s.heap) (S : Sta mg mb G) (B : Bmn mg G) (C : CodeHd G c P) (ht : TabSt pos qual G ps)
    (hcd : env.code = .ref c) (hge : env.globals = mainGlobals) (hcl : closureFor scope env = pure clos)
    (h : ∀ f G' h' tk ps', G.StaysIn G' → At X G' (pre ++ (P, tabObj ps') :: post) env m h' → TabSt pos qual G' ps' → FnAt G' f name qual params body scope clos → Q (.ref f) { s with heap := h', toks := tk }) :
    wpAny M A (makeFunction name qual params (.stmts body) scope env [] [] [] pos firstLine) Q E s := by
  have hgs := S.g.keeps AT.keep
  have Pn : G.get? P = none := AT.wd.ownG (P, tabObj ps) (by simp)
  have hP := AT.wd.own (P, tabObj ps) (by simp)
  have hgP : mainGlobals ≠ P := fun q => by
    obtain ⟨o, es, ep, e, _⟩ := S.g
    rw [q, Pn] at e; cases e
  obtain ⟨bm, ob, b1, b2, b3, b4, b5, b6⟩ := B.ex
  have hbP : bm ≠ P := fun q => by rw [q, Pn] at b3; cases b3
  have hbG : bm ≠ mainGlobals := fun q => by
    obtain ⟨o, es, ep, e, hd, _⟩ := S.g
    rw [q, e] at b3; cases b3; rw [hd] at b6; cases b6
  have hb : s.heap.BuiltinsAt mg P := ⟨bm, ob, b1, b2, hbG, hbP, AT.keep _ _ b3, b4, b5, b6⟩
  have lts : ∀ p ∈ pre ++ (P, tabObj ps) :: post, p.1 < s.heap.objs.size := fun p hp => Heap.lt_size (AT.wd.own p hp)
  have mapeq : ∀ ps', (pre ++ (P, tabObj ps') :: post).map (·.1) = (pre ++ (P, tabObj ps) :: post).map (·.1) := fun ps' => by simp
  have old : ∀ {b : Addr} ps', s.heap.objs.size ≤ b → b ∉ (pre ++ (P, tabObj ps') :: post).map (·.1) := fun {b} ps' hb mm => by
    rw [mapeq] at mm
    obtain ⟨p, hp, rfl⟩ := List.mem_map.mp mm
    exact absurd (lts p hp) (Nat.not_lt.mpr hb)
  have frn : ∀ {b : Addr}, s.heap.objs.size ≤ b → b ≠ env.locals ∧ ∀ e ∈ X.fs, e.frame ≠ some b := fun {b} hb => by
    refine ⟨fun z => ?_, fun e he hf => ?_⟩
    · obtain ⟨o, _, _, e, _⟩ := AT.ns
      exact absurd (z ▸ Heap.lt_size e) (Nat.not_lt.mpr hb)
    · obtain ⟨o, e1, _⟩ := AT.wd.frameIn (.tail _ he) hf
      exact absurd (Heap.lt_size e1) (Nat.not_lt.mpr hb)
  rcases ht with rfl | ⟨c₀, rfl, hrec⟩
  · refine makeFunction_K hcl hge hgs hcd (C.keeps AT.keep) hP trivial rfl hgP hb fun c' ctv doc h' tk hx hge' hlt hrec htb => ?_
    have e1 := Heap.get?_push_size h' (o := fnMade name qual params body scope clos doc ((mg "__name__").getD .none) c' ctv) rfl
    have A1 := AT.extPut (h' := h'.push (fnMade name qual params body scope clos doc ((mg "__name__").getD .none) c' ctv)) (fun b o n e => Heap.get?_push_of_some _ (hx b o n e)) (Heap.get?_push_of_some _ htb)
    obtain ⟨G', g1, A2, g2⟩ := A1.all
    obtain ⟨c₂, oc, vs, t, z, hoc, hd, hv⟩ := hrec
    cases z
    have hc : G'.CodeRec (.ref c') qual := ⟨c', oc, vs, t, rfl, g2 _ _ (Heap.get?_push_of_some _ hoc) (old _ hge') (frn hge').1 (frn hge').2, hd, hv⟩
    have hsz : s.heap.objs.size ≤ h'.objs.size := Nat.le_of_lt (Nat.lt_of_le_of_lt hge' hlt)
    have hf := g2 _ _ e1 (old _ hsz) (frn hsz).1 (frn hsz).2
    exact h _ G' _ tk _ g1 A2 (.inr ⟨c', rfl, hc⟩) ⟨_, _, _, _, _, _, hf, rfl, hc⟩
  · refine makeFunction_hit (cv := .ref c₀) hcl hge hgs hcd (C.keeps AT.keep) hP trivial (by simp [codeAmong, rawInt]) hb fun ctv doc h' tk hk hsz => ?_
    generalize hfo : ({ cls := .type "function", data := .func (fnX name qual params body scope clos .none .none doc ((mg "__name__").getD .none) none (.ref c₀) ctv) } : Obj) = fo
    have e1 := Heap.get?_push_size h' (o := fo) (by subst hfo; rfl)
    have A1 := AT.keeps (h' := h'.push fo) fun b o e => Heap.get?_push_of_some _ (hk b o e)
    obtain ⟨G', g1, A2, g2⟩ := A1.all
    have hf := g2 _ _ e1 (old _ hsz) (frn hsz).1 (frn hsz).2
    subst hfo
    exact h _ G' _ tk _ g1 A2 (.inr ⟨c₀, rfl, hrec.keeps g1⟩) ⟨_, _, _, _, _, _, hf, rfl, hrec.keeps g1⟩

theorem w_nestDef {Q : Flow → Shared → Prop} (AT : At X G (pre ++ (P, tabObj ps) :: post) env m s.heap) (S : Sta mg mb G) (B : Bmn mg G) (C : CodeHd G c P) (ht : TabSt pos (qualnameIn env name name) G ps)
    (hcd : env.code = .ref c) (hge : env.globals = mainGlobals) (hcl : closureFor scope env = pure clos)
    (h : ∀ f G' h' tk ps', G.StaysIn G' → At X G' (pre ++ (P, tabObj ps') :: post) env (upd m name (.ref f)) h' → TabSt pos (qualnameIn env name name) G' ps' → FnAt G' f name (qualnameIn env name name) params body scope clos → Q .next { s with heap := h', toks := tk })
    (hd0 : params.defaults = [] := by rfl) (hk0 : params.kw_defaults = [] := by rfl) (ha : annTrees params none env = [] := by rfl)
    (hx : env.kindOf name = some .local := by rfl) (hk : env.scope.kind = .function := by rfl) :
    wpAny M A (exec (.FunctionDef name params body [] none [] scope none name pos) env) Q E s := by
  refine nestDef_K hd0 hk0 ha ?_
  refine w_makeFn AT S B C ht hcd hge hcl fun f G' h' tk ps' g1 A1 t1 f1 => ?_
  exact w_set (s := { s with heap := h', toks := tk }) A1 (fun h₂ tk₂ A2 => h f G' h₂ tk₂ ps' g1 A2 t1 f1) hx hk
end


theorem Wd.two {fs : List Env} {G h h' : Heap} {ow : List (Addr × Obj)} {a b : Addr} {o o' p p' : Obj} (W : Wd fs G ((a, o) :: (b, p) :: ow) h) (hs : ∀ c x, c ≠ a → c ≠ b → h.get? c = some x → h'.get? c = some x) (e1 : h'.get? a = some o') (e2 : h'.get? b = some p') :
    Lf fs G h G ((a, o') :: (b, p') :: ow) h' := by
  have aG : G.get? a = none := W.ownG (a, o) (by simp)
  have bG : G.get? b = none := W.ownG (b, p) (by simp)
  have nd := W.nd
  simp only [List.map_cons, List.nodup_cons, List.mem_cons, not_or] at nd
  have na : ∀ q ∈ ow, q.1 ≠ a := fun q hq z => nd.1.2 (List.mem_map.mpr ⟨q, hq, z⟩)
  have nb : ∀ q ∈ ow, q.1 ≠ b := fun q hq z => nd.2.1 (List.mem_map.mpr ⟨q, hq, z⟩)
  refine ⟨stays_refl _, ⟨fun c x q => hs c x (fun z => by rw [z, aG] at q; cases q) (fun z => by rw [z, bG] at q; cases q) (W.keep c x q), fun q hq => ?_, fun q hq => ?_, W.nd, ?_, fun q hq => ?_⟩, ?_⟩
  · rcases List.mem_cons.mp hq with rfl | hq
    · exact e1
    · rcases List.mem_cons.mp hq with rfl | hq
      · exact e2
      · exact hs _ _ (na q hq) (nb q hq) (W.own q (.tail _ (.tail _ hq)))
  · rcases List.mem_cons.mp hq with rfl | hq
    · exact aG
    · rcases List.mem_cons.mp hq with rfl | hq
      · exact bG
      · exact W.ownG q (.tail _ (.tail _ hq))
  · exact ff_to W.ff (fun e he L hL => W.frameG he hL) fun e he L hL x hx => ⟨x, hs _ _ (fun z => W.fd (a, o) (by simp) e he (z ▸ hL)) (fun z => W.fd (b, p) (by simp) e he (z ▸ hL)) hx, .inl rfl⟩
  · rcases List.mem_cons.mp hq with rfl | hq
    · exact W.fd (a, o) (by simp)
    · rcases List.mem_cons.mp hq with rfl | hq
      · exact W.fd (b, p) (by simp)
      · exact W.fd q (.tail _ (.tail _ hq))
  · exact fun e he L hL x hx => ⟨x.slots, hs _ _ (fun z => W.fd (a, o) (by simp) e he (z ▸ hL)) (fun z => W.fd (b, p) (by simp) e he (z ▸ hL)) hx⟩

def enO (I : Addr) (k : Nat) (old : Value) : Obj := { cls := .type "enumerate", dict := none, data := .fields #[.none, .bool false, .ref I, rawInt (k : Int), .none, old], slots := #[] }
section
variable {prog : Program} {w : World} {A : Around} {E : Value → Shared → Prop} {s : Shared} {X : Ent} {G : Heap} {ow : List (Addr × Obj)} {env : Env} {m : Str → Option Value} {x y : Str} {pos : Pos}
theorem w_forEnum {px py pt : Pos} {kk : Nat} {it : Expr} {body : List Stmt} {Q : Flow → Shared → Prop} {l : Addr} {vs : Array Value} (hA : A.handled = none)
    (inv : Nat → Heap → List (Addr × Obj) → (Str → Option Value) → Prop) (hinv : ∀ k G G' ow m, inv k G ow m → G.StaysIn G' → inv k G' ow m)
    (AT : At X G ow env m s.heap) (hl : G.IsList l vs) (hi : inv 0 G ow m)
    (hbody : ∀ k u t G ow m e eo I io (s : Shared) (Qb : Flow → Shared → Prop) (Eb : Value → Shared → Prop), inv k G ow m → vs[k]? = some u → G.IsList l vs → At X G ((e, eo) :: (I, io) :: ow) env (upd (upd m x (.int (k : Int) t)) y u) s.heap →
      (∀ h' tk G' ow' m', G.StaysIn G' → At X G' ((e, eo) :: (I, io) :: ow') env m' h' → inv (k + 1) G' ow' m' → Qb .next { s with heap := h', toks := tk }) → wpAny (model prog w) A (execs body env) Qb Eb s)
    (done : ∀ h' tk G' ow' m', At X G' ow' env m' h' → inv vs.size G' ow' m' → Q .next { s with heap := h', toks := tk })
    (hev : ∀ (Q : Value → Shared → Prop), wpAny (model prog w) A (call (.type "enumerate") [.ref l]) Q E s → wpAny (model prog w) A (eval it env) Q E s)
    (hx : env.kindOf x = some .local := by rfl) (hy : env.kindOf y = some .local := by rfl) (hk : env.scope.kind = .function := by rfl)
    (hs : ∀ x, foldedSetIterable it env x = pure x := by intro _; rfl) :
    wpAny (model prog w) A (exec (.For (.Tuple [.Name x px, .Name y py] kk pt) it body [] pos) env) Q E s := by
  refine wpAny_For (hev _ ?_) hs
  have hls := isList_mono hl AT.keep
  refine call_enumerate_list hls fun h₁ he₁ hit₁ _ k₁ => ?_
  generalize hI : s.heap.objs.size = I at *
  have nI : s.heap.get? I = none := by rw [← hI]; exact size_none _
  have ne : s.heap.get? (I + 1) = none := none_ge (by rw [hI]; exact Nat.le_succ _)
  obtain ⟨io, hio, hioc, hiod⟩ := hit₁
  have W1 : Wd (env :: X.fs) G ((I + 1, enO I 0 .none) :: (I, io) :: ow) h₁ := Wd.own_many (cells := [(I + 1, enO I 0 .none), (I, io)]) AT.wd k₁ (fun p hp => by
    rcases List.mem_cons.mp hp with rfl | hp
    · exact ⟨ne, he₁⟩
    · rcases List.mem_cons.mp hp with rfl | hp
      · exact ⟨nI, hio⟩
      · cases hp) (by simp)
  have A1 := AT.back (⟨stays_refl _, W1, FK.keeps k₁⟩ : Lf (env :: X.fs) G s.heap G ((I + 1, enO I 0 .none) :: (I, io) :: ow) h₁)
  refine wpAny_pyIter_enum (s := { s with heap := h₁ }) he₁ ?_
  refine codeAny_forLoop_any (R := fun r s' => match r with | .ok f => Q f s' | .error e => cameBackBy (model prog w) A env E e s')
    (fun n s' => ∃ k h' tk G' ow' m' io old, n + k = vs.size ∧ s' = { s with heap := h', toks := tk } ∧ At X G' ((I + 1, enO I k old) :: (I, io) :: ow') env m' h' ∧ G'.IsList l vs ∧ IsIt io l k ∧ inv k G' ow' m') ?_ vs.size
    ⟨0, _, s.toks, G, ow, m, io, .none, rfl, rfl, A1, hl, ⟨hioc, hiod⟩, hi⟩
  rintro n s' ⟨k, h', tk, G', ow', m', io, old, hn, rfl, A2, hl2, hio2, hinv2⟩
  have hit := hio2.at (A2.wd.own (I, io) (by simp))
  have hen : IsEnum h' (I + 1) I (k : Int) old := A2.wd.own (I + 1, enO I k old) (by simp)
  have hll := isList_mono hl2 A2.keep
  cases q : vs[k]? with
  | none =>
    have hk : k = vs.size := by
      have := Array.getElem?_eq_none_iff.mp q
      omega
    refine wpAny_pyNext_enum_end (s := { s with heap := h', toks := tk }) hA hen hit hll q fun h₂ hs₂ => ?_
    refine wpAny_execs_nil ?_
    have L := Wd.extBut (pre := [(I + 1, enO I k old)]) A2.wd hs₂
    have L2 : Lf (env :: X.fs) G' h' G' ow' h₂ := ⟨L.gr, L.wd.sub (fun p hp => .tail _ hp) (by have := L.wd.nd; simp at this; exact this.2), L.fk⟩
    subst hk
    exact done h₂ tk G' ow' m' (A2.back L2) hinv2
  | some u =>
    refine wpAny_pyNext_enum_item (s := { s with heap := h', toks := tk }) hen hit hll q (Nat.succ_ne_self I) fun h₂ he₂ hit₂ ht₂ hz₂ hk₂ => ?_
    obtain ⟨io₂, ho₂, hc₂, hd₂⟩ := hit₂
    have A3 := A2.back (A2.wd.two hk₂ he₂ ho₂)
    refine wpAny_letOwnedTupleGo_enum (s := { s with heap := h₂, toks := tk + 1 }) he₂ fun h₃ he₃ hs₃ => ?_
    have A4 := A3.put (pre := []) hs₃ he₃
    obtain ⟨G₅, g5, A5, q5⟩ := A4.all
    have tne : h'.objs.size ≠ I + 1 := Nat.ne_of_gt (Heap.lt_size hen)
    have et := q5 h'.objs.size _ ((hs₃.2 _ tne).trans ht₂) (fun mm => by
      obtain ⟨p, hp, z⟩ := List.mem_map.mp mm
      have hp2 : ∃ o, h'.get? p.1 = some o := by
        rcases List.mem_cons.mp hp with rfl | hp
        · exact ⟨_, hen⟩
        · rcases List.mem_cons.mp hp with rfl | hp
          · exact ⟨_, A2.wd.own (I, io) (by simp)⟩
          · exact ⟨_, A2.wd.own p (by simp [hp])⟩
      obtain ⟨o, ho⟩ := hp2
      exact absurd (z ▸ Heap.lt_size ho) (Nat.lt_irrefl _)) (fun z => by
      obtain ⟨o, _, _, e, _⟩ := A2.ns
      exact absurd (z ▸ Heap.lt_size e) (Nat.lt_irrefl _)) (fun en hen' hf => by
      obtain ⟨o, e1, _⟩ := A2.wd.frameIn (.tail _ hen') hf
      exact absurd (Heap.lt_size e1) (Nat.lt_irrefl _))
    refine w_unpack2 (s := { s with heap := h₃, toks := tk + 1 }) hA A5 (TupG.of (vs := [.int (k : Int) tk, u]) et) (fun h₆ A6 => ?_) hx hy hk
    refine hbody k u _ G₅ ow' m' _ _ _ io₂ { s with heap := h₆, toks := _ } _ _ (hinv _ _ _ _ _ hinv2 g5) q (isList_mono hl2 g5) A6 fun h₇ tk₇ G₇ ow₇ m₇ le A7 i7 => ?_
    have hlt := (Array.getElem?_eq_some_iff.mp q).1
    refine ⟨n - 1, by omega, k + 1, h₇, tk₇, G₇, ow₇, m₇, io₂, u, by omega, rfl, ?_, isList_mono (isList_mono hl2 g5) le, ⟨hc₂, hd₂⟩, i7⟩
    have : enO I (k + 1) u = { cls := .type "enumerate", dict := none, data := .fields #[.none, .bool false, .ref I, rawInt ((k : Int) + 1), .none, u], slots := #[] } := by
      unfold enO
      rfl
    rw [this]
    exact A7
end

section
variable {prog : Program} {w : World} {A : Around} {E : Value → Shared → Prop} {s : Shared} {X : Ent} {G : Heap} {pre post : List (Addr × Obj)} {env : Env} {m : Str → Option Value} {a : Addr} {o : Obj} {vs : Array Value} {x : Value}
theorem setItem_plain {l : Addr} {items : Array Value} {k : Int} {t : Tok} {v : Value} {Q : Unit → Shared → Prop} (hl : PlainL s.heap l items)
    (h0 : 0 ≤ k) (hfit : k < 2 ^ 63) (hn : k < items.size)
    (hQ : ∀ h', PlainL h' l (items.setIfInBounds k.toNat v) → Heap.SameBut l s.heap h' → Q () { s with heap := h' }) :
    wpAny (model prog w) A (setItem (.ref l) (.int k t) v) Q E s := by
  obtain ⟨o, ne, ho, hc, hdn, hd⟩ := id hl
  have hli := hl.isList
  unfold setItem
  try with_reducible refine wpAny_holding ?_
  first | refine wpAny_bind (wpAny_pure ?_) | skip
  refine wpAny_bind (wpAny_sequenceKey hli.typeIs (by decide) ?_)
  refine wpAny_bind (wpAny_callSpecial?_slot (name := Str.ofString "__setitem__") hli.typeIs slot_list_setitem
    (wpAny_call_entry slot_list_setitem hli.typeIs entry_list_setitem ?_ (args_list_setitem _ _ _)))
  show wpAny _ _ (Builtin.List.listSubscript? (.int k t) >>= _) _ _ s
  refine wpAny_bind (wpAny_listSubscript_int (fitsIndex_of h0 hfit) ?_)
  clear hfit
  obtain ⟨j, rfl⟩ := Int.eq_ofNat_of_zero_le h0
  have hj : j < items.size := by omega
  have hx' : items[j]? = some items[j] := Array.getElem?_eq_getElem hj
  show wpAny _ _ ((seqItemAt l j >>= fun r => pure (r.map (j, ·))) >>= _) _ _ s
  refine wpAny_bind (wpAny_bind (wpAny_seqItemAt ho hd (wpAny_pure ?_)))
  rw [hx']
  show wpAny _ _ (setSeqItemAt l j v >>= _) _ _ s
  obtain ⟨n', hd'⟩ := Obj.data_mapSeq hd (·.setIfInBounds j v)
  have hd2 : (Obj.mapSeq (·.setIfInBounds j v) o).dict = none := by
    obtain ⟨c0, d0, dt, sl0⟩ := o
    cases hd
    exact hdn
  have hfin : PlainL (s.heap.update l (Obj.mapSeq (·.setIfInBounds j v))) l (items.setIfInBounds j v) :=
    ⟨_, n', Heap.get?_update_self _ ho (Obj.isFreed_of_seq hd'), (Obj.cls_mapSeq ..).trans hc, hd2, hd'⟩
  refine wpAny_bind (wpAny_setSeqItemAt ho hd ?_)
  first
    | exact wpAny_bind (wpAny_pure (wpAny_pure ⟨.none, rfl, wpAny_pure (hQ _ hfin (Heap.SameBut.update ..))⟩))
    | exact wpAny_pure ⟨.none, rfl, wpAny_pure (hQ _ hfin (Heap.SameBut.update ..))⟩
theorem w_setItem {Q : Unit → Shared → Prop} {k : Nat} {t : Tok} (AT : At X G (pre ++ (a, o) :: post) env m s.heap) (ho : PlO vs o) (hz : vs.size ≤ 100000) (hk : k < vs.size)
    (h : ∀ h' o', At X G (pre ++ (a, o') :: post) env m h' → PlO (vs.setIfInBounds k x) o' → (∀ b, b ≠ a → h'.get? b = s.heap.get? b) → Q () { s with heap := h' }) : wpAny (model prog w) A (setItem (.ref a) (.int (k : Int) t) x) Q E s := by
  obtain ⟨c, d, n, e⟩ := ho
  have eo := AT.wd.own (a, o) (by simp)
  refine setItem_plain ⟨o, n, eo, c, d, e⟩ (by omega) (by omega) (by omega) fun h' hp hs => ?_
  obtain ⟨o', n', e1, e2, e3, e4⟩ := hp
  exact h h' o' (AT.put hs e1) ⟨e2, e3, n', e4⟩ hs.2
end
section
variable {prog : Program} {w : World} {A : Around} {E : Value → Shared → Prop} {s : Shared} {Q : Value → Shared → Prop} {a b : Int} {t u : Tok}
theorem w_mod (hb : b ≠ 0) (h : ∀ t tk, Q (.int (a.fmod b) t) { s with toks := tk }) : wpAny (model prog w) A (binaryOp .Mod (.int a t) (.int b u)) Q E s := mod_int' hb (h _ _)
theorem w_mul (ha : Builtin.Int.intBits a ≤ 64) (h : ∀ t tk, Q (.int (a * b) t) { s with toks := tk }) : wpAny (model prog w) A (binaryOp .Mult (.int a t) (.int b u)) Q E s := P.mul_int (h _ _) (IntMulOk.of_left ha)
theorem w_fdiv (hb : b ≠ 0) (hp : Builtin.divisionGoesByPylong a b = false) (h : ∀ t tk, Q (.int (a.fdiv b) t) { s with toks := tk }) : wpAny (model prog w) A (binaryOp .FloorDiv (.int a t) (.int b u)) Q E s := floordiv_int hb (h _ _) (.inl hp)
theorem fmod_bound (a : Int) {b : Int} (hb : 0 < b) : 0 ≤ a.fmod b ∧ a.fmod b < b := ⟨Int.fmod_nonneg_of_pos a hb, Int.fmod_lt_of_pos a hb⟩
end
theorem All2.set {α β : Type} {R : α → β → Prop} {l : List α} {r : List β} (h : All2 R l r) {a : α} {b : β} (hab : R a b) : ∀ n, All2 R (l.set n a) (r.set n b) := by
  induction h with
  | nil => intro n; simpa using All2.nil
  | cons x y ih => intro n; cases n with
    | zero => exact .cons hab y
    | succ n => exact .cons x (ih n)


/-- an iterator that a comprehension or a loop draws from -/
structure ItSrc (prog : Program) (w : World) (A : Around) (G : Heap) (I : Addr) (St : Nat → Obj → Prop) (n : Nat) (Pv : Nat → Value → Prop) : Prop where
  item : ∀ {k io} {s : Shared} {Q : Option Value → Shared → Prop} {E : Value → Shared → Prop}, k < n → G.StaysIn s.heap → s.heap.get? I = some io → St k io →
    (∀ h' io' v tk, h'.get? I = some io' → St (k + 1) io' → Heap.SameBut I s.heap h' → Pv k v → Q (some v) { s with heap := h', toks := tk }) → wpAny (model prog w) A (pyNext (.ref I)) Q E s
  done : ∀ {io} {s : Shared} {Q : Option Value → Shared → Prop} {E : Value → Shared → Prop}, G.StaysIn s.heap → s.heap.get? I = some io → St n io → (∀ h', Heap.ExtBut I s.heap h' → Q none { s with heap := h' }) → wpAny (model prog w) A (pyNext (.ref I)) Q E s
  self : ∀ {io} {s : Shared} {Q : Value → Shared → Prop} {E : Value → Shared → Prop}, s.heap.get? I = some io → St 0 io → Q (.ref I) s → wpAny (model prog w) A (pyIter (.ref I)) Q E s

def rgO (k n : Nat) : Obj := { cls := .type "range_iterator", dict := none, data := .fields #[rawInt (k : Int), rawInt ((n - k : Nat) : Int), rawInt 1], slots := #[] }
section
variable {prog : Program} {w : World} {A : Around} {E : Value → Shared → Prop} {s : Shared} {X : Ent} {G : Heap} {ow : List (Addr × Obj)} {env : Env} {m : Str → Option Value}

theorem src_list {I l : Addr} {vs : Array Value} (hA : A.handled = none) (hl : G.IsList l vs) : ItSrc prog w A G I (fun k io => IsIt io l k) vs.size (fun k v => vs[k]? = some v) where
  item := fun hk kp he hs h => by
    have hv := Array.getElem?_eq_getElem hk
    refine wpAny_pyNext_list_item (hs.at he) (isList_mono hl kp) hv fun h' hit hsb => ?_
    obtain ⟨o, ho, hc, hd⟩ := hit
    exact h h' o _ _ ho ⟨hc, hd⟩ hsb hv
  done := fun kp he hs h => wpAny_pyNext_list_end hA (hs.at he) (isList_mono hl kp) (Array.getElem?_eq_none (Nat.le_refl _)) h
  self := fun he hs h => wpAny_pyIter_listiter (hs.at he) h

theorem src_range {I : Addr} {n : Nat} (hA : A.handled = none) : ItSrc prog w A G I (fun k io => io = rgO k n) n (fun k v => ∃ t, v = .int (k : Int) t) where
  item := fun {k io s Q E} hk kp he hs h => by
    subst hs
    refine wpAny_pyNext_range_item (x := (k : Int)) (left := ((n - k : Nat) : Int)) (step := 1) he (by omega) fun h' hit hsb => ?_
    refine h h' (rgO (k + 1) n) _ _ ?_ rfl hsb ⟨_, rfl⟩
    have e1 : (k : Int) + 1 = ((k + 1 : Nat) : Int) := by omega
    have e2 : ((n - k : Nat) : Int) - 1 = ((n - (k + 1) : Nat) : Int) := by omega
    rw [e1, e2] at hit
    exact hit
  done := fun {io s Q E} kp he hs h => by
    subst hs
    exact wpAny_pyNext_range_end (x := (n : Int)) (left := ((n - n : Nat) : Int)) (step := 1) hA he (by omega) h
  self := fun {io s Q E} he hs h => by
    subst hs
    exact wpAny_pyIter_rangeiter (x := ((0 : Nat) : Int)) (left := ((n - 0 : Nat) : Int)) (step := 1) he h

theorem comp_core {elt iter : Expr} {x : Str} {px pos : Pos} {scope : Scope} {cl : List (Str × Addr)} {RR : Value → Addr → Result → Shared → Prop} {I : Addr} {io : Obj} {G₁ : Heap} {m₁ : Str → Option Value} {ow₁ : List (Addr × Obj)} {St : Nat → Obj → Prop} {n : Nat} {Pv : Nat → Value → Prop} {ds : List PyData} {inv : Nat → Heap → List (Addr × Obj) → Prop} {s₂ : Shared}
    (AT : At X G₁ ((I, io) :: ow₁) env m₁ s₂.heap) (src : ItSrc prog w A G₁ I St n Pv) (st0 : St 0 io) (hn : n = ds.length) (hnz : n ≤ 100000) (i0 : inv 0 G₁ ow₁)
    (elem : ∀ k v d C oC L ao io G' ow' (s : Shared) (Qe Ee : Value → Shared → Prop), ds[k]? = some d → Pv k v → inv k G' ow' → G₁.StaysIn G' → At X G' ((C, oC) :: (L, ao) :: (I, io) :: ow') env m₁ s.heap → (∃ mC, s.heap.Ns C mC ∧ mC x = some v) →
          (∀ r G'' h' tk ow'', G'.StaysIn G'' → At X G'' ((C, oC) :: (L, ao) :: (I, io) :: ow'') env m₁ h' → inv (k + 1) G'' ow'' → Rd G'' r d → Qe r { s with heap := h', toks := tk }) → wpAny (model prog w) A (eval elt (compEnvC scope cl C env)) Qe Ee s)
    (hRR : ∀ L C oC ao vs G' h' tk ow', At X G' ((C, oC) :: (L, ao) :: ow') env m₁ h' → (∃ mC, h'.Ns C mC) → PlO vs ao → Rds G' vs.toList ds → inv n G' ow' → G₁.StaysIn G' → RR (.ref L) C (.ok .next) { s₂ with heap := h', toks := tk })
    (hkind : scope.kind = .function) (hcell : ∀ y ∈ scope.names, y.2 ≠ .cell) (hx : scope.names.lookup x = some .local) :
    wpAny (model prog w) A (newList []) (fun acc s₃ => wpAny (model prog w) A (newFunctionEnv scope env.globals cl [] env.qual none .none (some env)) (fun cenv s₄ =>
      codeAny (model prog w) A (.compStart (.ListComp elt [⟨.Name x px, iter, [], 0⟩] scope pos) 0 (.ref I) acc { cenv with scope := relabel scope env }) (RR acc cenv.locals) s₄) E s₃) E s₂ := by
  have hsl : sizeLine = 16777216 := rfl
  refine wpAny_newList ?_ (by simp)
  have A₁ := AT.own_new (h' := s₂.heap.push { cls := .type "list", data := .seq ([] : List Value).toArray }) (fun _ _ e => Heap.get?_push_of_some _ e) (size_none _) (Heap.get?_push_size _ rfl)
  generalize hL : s₂.heap.objs.size = L at *
  generalize hh1 : s₂.heap.push { cls := .type "list", data := .seq ([] : List Value).toArray } = h₁' at *
  refine wpAny_newFunctionEnv hcell (by intro y hy; simp at hy) (fun h₃ hns hsb => ?_) hkind
  obtain ⟨oC, es, ep, hoC, hdC, rC⟩ := id hns
  have k₃ : h₁'.StaysIn h₃ := fun b o e => hsb.extBut b o (Nat.ne_of_lt (Heap.lt_size e)) (Heap.get?_push_of_some _ e)
  have A₃ := A₁.own_new k₃ (size_none _) hoC
  show codeAny (model prog w) A (.compStart (.ListComp elt [⟨.Name x px, iter, [], 0⟩] scope pos) 0 (.ref I) (.ref L) (compEnvC scope cl h₁'.objs.size env)) (RR (.ref L) h₁'.objs.size) { s₂ with heap := h₃, toks := s₂.toks + 0 }
  generalize hC : h₁'.objs.size = C at *
  have loop : codeAny (model prog w) A (.compLoop (.ListComp elt [⟨.Name x px, iter, [], 0⟩] scope pos) 0 (.ref I) (.ref L) (compEnvC scope cl C env)) (RR (.ref L) C) { s₂ with heap := h₃, toks := s₂.toks + 0 } := by
    refine codeAny_compLoop_list (fun j s' => ∃ k h' tk G' ow' oC io ao vs, j + k = n ∧ s' = { s₂ with heap := h', toks := tk } ∧ At X G' ((C, oC) :: (L, ao) :: (I, io) :: ow') env m₁ h' ∧ G₁.StaysIn G' ∧ St k io ∧ inv k G' ow' ∧ PlO vs ao ∧ Rds G' vs.toList (ds.take k) ∧ (∃ mC, h'.Ns C mC)) ?_ n
      ⟨0, h₃, _, G₁, ow₁, oC, io, _, #[], rfl, rfl, A₃, stays_refl _, st0, i0, ⟨rfl, rfl, 0, rfl⟩, Rds.nil, _, hns⟩
    rintro j s' ⟨k, h', tk, G', ow', oC, io, ao, vs, hj, rfl, A', g', st', i', hao, hvs, mC, hnC⟩
    have eI := A'.wd.own (I, io) (by simp)
    have vlen : vs.size = min k ds.length := by have := hvs.length; simpa using this
    rcases Nat.lt_or_ge k n with hk | hk
    · refine src.item (s := { s₂ with heap := h', toks := tk }) hk (stays_trans g' A'.keep) eI st' fun h₄ io₄ v tk₄ e₄ st₄ hsb₄ hpv => ?_
      have A₄ := A'.put (pre := [(C, oC), (L, ao)]) hsb₄ e₄
      have nCI : C ≠ I := by have := A'.wd.nd; simp at this; exact this.1.2.1
      have hnC₄ : h₄.Ns C mC := by
        obtain ⟨o, es, ep, a1, r⟩ := hnC
        exact ⟨o, es, ep, (hsb₄.2 _ nCI).trans a1, r⟩
      refine wpAny_assign_Name ?_
      refine wpAny_storeName_local (s := { s₂ with heap := h₄, toks := tk₄ }) (env := compEnvC scope cl C env) (lookup_relabel_local hx) hnC₄ (fun h₅ hn₅ hs₅ => ?_) (by simp [compEnvC, relabel, hkind])
      obtain ⟨oC₅, es₅, ep₅, hoC₅, r₅⟩ := id hn₅
      have A₅ := A₄.put (pre := []) hs₅ hoC₅
      obtain ⟨d, hd⟩ : ∃ d, ds[k]? = some d := ⟨_, List.getElem?_eq_getElem (by omega)⟩
      refine elem k v d C oC₅ L ao io₄ G' ow' { s₂ with heap := h₅, toks := tk₄ + 1 } _ _ hd hpv i' g' A₅ ⟨_, hn₅, by simp⟩ fun r G₆ h₆ tk₆ ow₆ g₆ A₆ i₆ hr => ?_
      refine w_append (s := { s₂ with heap := h₆, toks := tk₆ }) (pre := [(C, oC₅)]) A₆ hao (by omega) fun h₇ ao₇ A₇ hao₇ hb₇ => ?_
      refine ⟨n - (k + 1), by omega, k + 1, h₇, tk₆, G₆, ow₆, oC₅, io₄, ao₇, _, by omega, rfl, A₇, stays_trans g' g₆, st₄, i₆, hao₇, ?_, ?_⟩
      · rw [Array.toList_push, List.take_add_one, hd]
        exact (hvs.mono g₆).append (Rds.cons hr Rds.nil)
      · exact ⟨_, oC₅, es₅, ep₅, A₇.wd.own (C, oC₅) (by simp), r₅⟩
    · have hkn : k = n := by omega
      subst hkn
      refine src.done (s := { s₂ with heap := h', toks := tk }) (stays_trans g' A'.keep) eI st' fun h₄ hx₄ => ?_
      have nCI : C ≠ I := by have := A'.wd.nd; simp at this; exact this.1.2.1
      have A₄ := A'.back (Wd.extBut (pre := [(C, oC), (L, ao)]) A'.wd hx₄)
      rw [hn, List.take_length] at hvs
      refine hRR L C oC ao vs G' h₄ tk ow' A₄ ⟨mC, ?_⟩ hao hvs i' g'
      obtain ⟨o, es, ep, a1, r⟩ := hnC
      exact ⟨o, es, ep, hx₄ _ _ nCI a1, r⟩
  refine codeAny_compStart_list loop ?_
  have eI₃ := A₃.wd.own (I, io) (by simp)
  exact src.self (s := { s₂ with heap := h₃, toks := s₂.toks + 0 }) eI₃ st0 loop

/-- what the iterable of a comprehension leaves, and its element -/
def CompOk (prog : Program) (w : World) (A : Around) (env : Env) (elt : Expr) (x : Str) (scope : Scope) (cl : List (Str × Addr)) (s₂ : Shared) (itv : Value) (Fin : Ent → Heap → List (Addr × Obj) → (Str → Option Value) → Addr → List PyData → Heap → Tok → Prop) : Prop :=
  ∃ (I : Addr) (io : Obj) (X : Ent) (G₁ : Heap) (m₁ : Str → Option Value) (ow₁ : List (Addr × Obj)) (St : Nat → Obj → Prop) (n : Nat) (Pv : Nat → Value → Prop) (ds : List PyData) (inv : Nat → Heap → List (Addr × Obj) → Prop),
    itv = .ref I ∧ At X G₁ ((I, io) :: ow₁) env m₁ s₂.heap ∧ ItSrc prog w A G₁ I St n Pv ∧ St 0 io ∧ n = ds.length ∧ n ≤ 100000 ∧ inv 0 G₁ ow₁ ∧ (∀ k G G' ow, inv k G ow → G.StaysIn G' → inv k G' ow) ∧
    (∀ k v d C oC L ao io G' ow' (s : Shared) (Qe Ee : Value → Shared → Prop), ds[k]? = some d → Pv k v → inv k G' ow' → G₁.StaysIn G' → At X G' ((C, oC) :: (L, ao) :: (I, io) :: ow') env m₁ s.heap → (∃ mC, s.heap.Ns C mC ∧ mC x = some v) →
      (∀ r G'' h' tk ow'', G'.StaysIn G'' → At X G'' ((C, oC) :: (L, ao) :: (I, io) :: ow'') env m₁ h' → inv (k + 1) G'' ow'' → Rd G'' r d → Qe r { s with heap := h', toks := tk }) → wpAny (model prog w) A (eval elt (compEnvC scope cl C env)) Qe Ee s) ∧
    (∀ L G' h' tk ow', inv n G' ow' → G₁.StaysIn G' → Fin X G' ow' m₁ L ds h' tk)

theorem w_comp {elt iter : Expr} {x : Str} {px pos : Pos} {scope : Scope} {cl : List (Str × Addr)} {Q : Value → Shared → Prop}
    (hev : wpAny (model prog w) A (eval iter env) (fun xv s₁ => wpAny (model prog w) A (pyIter xv) (fun itv s₂ =>
      CompOk prog w A env elt x scope cl s₂ itv fun X G' ow' m₁ L ds h' tk => At X G' ow' env m₁ h' → Rd G' (.ref L) (.list ds) → Q (.ref L) { s₂ with heap := h', toks := tk }) E s₁) E s)
    (hclos : closureFor scope env = pure cl := by rfl) (hkind : scope.kind = .function := by rfl) (hnames : ∀ x ∈ scope.names, x.2 = .local → scope.names.lookup x.1 = some .local := by decide +kernel)
    (hcell : ∀ y ∈ scope.names, y.2 ≠ .cell := by decide +kernel) (hx : scope.names.lookup x = some .local := by rfl)
    (hs : ∀ x, foldedSetIterable iter env x = pure x := by intro _; rfl) :
    wpAny (model prog w) A (eval (.ListComp elt [⟨.Name x px, iter, [], 0⟩] scope pos) env) Q E s := by
  rw [eval_ListComp]
  refine wpAny_comprehension_free (use := none) rfl hs hclos hkind hnames ?_
  refine wpAny_mono hev (fun xv s₁ h₁ => wpAny_mono h₁ (fun itv s₂ h₂ => ?_) fun _ _ z => z) fun _ _ z => z
  obtain ⟨I, io, X, G₁, m₁, ow₁, St, n, Pv, ds, inv, rfl, AT, src, st0, hn, hnz, i0, imono, elem, fin⟩ := h₂
  refine comp_core AT src st0 hn hnz i0 elem (fun L C oC ao vs G' h' tk ow' A' hnC hao hvs i' g' => ?_) hkind hcell hx
  obtain ⟨mC, hnC⟩ := hnC
  refine ⟨mC, hnC, fun h₅ hs₅ => ?_⟩
  have A₅ : At X G' ((L, ao) :: ow') env m₁ h₅ := A'.back (Wd.extBut (pre := []) A'.wd (Heap.SameBut.extBut hs₅))
  have nd := A₅.wd.nd
  rw [List.map_cons, List.nodup_cons] at nd
  obtain ⟨G₆, g₆, A₆, q₆⟩ := A₅.freeze (ow' := ow') (fun p hp => .tail _ hp) nd.2
  have eL := q₆ (L, ao) (by simp) nd.1
  exact fin L G₆ h₅ tk ow' (imono _ _ _ _ i' g₆) (stays_trans g' g₆) A₆ (Rd.list (hao.isList eL) (hvs.mono g₆))

end

section
variable {prog : Program} {w : World} {A : Around} {E : Value → Shared → Prop} {s : Shared} {X : Ent} {G : Heap} {ow : List (Addr × Obj)} {env : Env} {m mg mb : Str → Option Value} {x : Str} {pos : Pos} {v : Value} {Q : Value → Shared → Prop} {M : Model}
theorem w_bltn (kp : G.StaysIn s.heap) (S : Sta mg mb G) (hv : mg x = none) (hb : bootBuiltins x = some v) (h : Q v s) (hn : x ≠ "__name__" := by decide) (hk : env.scope.kind = .function := by rfl) (hx : env.kindOf x = some .globalImplicit := by rfl) (hg : env.globals = mainGlobals := by rfl) (hgb : env.builtins = builtinsNs := by rfl) (hd : (x == ("__debug__" : Str)) = false := by rfl) :
    wpAny M A (eval (.Name x pos) env) Q E s :=
  Name_function_global hk hx (loadGlobal_builtin (by rw [hg]; exact S.g.keeps kp) hv (by rw [hgb]; exact S.b.keeps kp) ((S.bi x hn).trans hb) h) hd
theorem w_ns {L : Addr} (n : s.heap.Ns L m) (hL : env.locals = L) (hv : m x = some v) (h : Q v s) (hk : env.scope.kind = .function := by rfl) (hx : env.kindOf x = some .local := by rfl) (hd : (x == ("__debug__" : Str)) = false := by rfl) :
    wpAny M A (eval (.Name x pos) env) Q E s := wpAny_Name (wpAny_loadName_local hk hx (by rw [hL]; exact n) hv h) hd
theorem w_truthyB {b : Bool} {Q : Bool → Shared → Prop} (h : Q b s) : wpAny M A (truthy (.bool b)) Q E s := wpAny_of_eq (a := b) (by rfl) h
end

section
variable {prog : Program} {w : World} {A : Around} {E : Value → Shared → Prop} {s : Shared} {fs : List Env} {G : Heap} {ow : List (Addr × Obj)} {Q : Value → Shared → Prop}
  {f : Addr} {name qual : Str} {params : Arguments} {body : List Stmt} {scope : Scope} {cl : List (Str × Addr)} {vals : List Value} {x : Str}

/-- the frame of a new call, all its names local -/
theorem frame_new {h₁ : Heap} {L : Addr} {env : Env} {m : Str → Option Value} (W : Wd fs G ow s.heap) (hL : L = s.heap.objs.size) (hfr : env.frame = some L) (hlc : env.locals = L) (hk : env.scope.kind = .function) (hk₁ : s.heap.StaysIn h₁) (hns : h₁.Ns L m) : At ⟨G, s.heap, fs⟩ G ow env m h₁ := by
  subst hL
  have W' := W.keeps (h' := h₁) hk₁
  have nL : s.heap.get? s.heap.objs.size = none := size_none _
  have nf : ∀ e ∈ fs, e.frame ≠ some s.heap.objs.size := fun e he hf => by
    obtain ⟨o', ho', _⟩ := W.frameIn he hf
    rw [nL] at ho'; cases ho'
  refine ⟨stays_refl _, ⟨W'.keep, W'.own, W'.ownG, W'.nd, ⟨by rw [hk]; decide, ?_, W'.ff⟩, fun p hp e he hf => ?_⟩, FK.keeps hk₁, by rw [hlc]; exact hns, by rw [hlc]; exact hfr, by rw [hlc]; exact nf⟩
  · obtain ⟨o', es, ep, ho', hd', _⟩ := hns
    exact ⟨_, o', hfr, fresh_none W.keep nL, ho', fun vs q => by rw [hd'] at q; cases q⟩
  · rcases List.mem_cons.mp he with rfl | he
    · rw [hfr] at hf
      have : s.heap.objs.size = p.1 := Option.some.inj hf
      have := W.own p hp
      rw [← ‹s.heap.objs.size = p.1›, nL] at this; cases this
    · exact W.fd p hp e he hf

theorem call_vfn (W : Wd fs G ow s.heap) (hA : A.depth < recursionLimit) (lim : G.NoLimit) (F : FnAt G f name qual params body scope cl)
    (hb : ∀ doc pm an cdv ct, bindArgs (fnX name qual params body scope cl .none .none doc pm an cdv ct) ⟨vals, []⟩ = (newTuple vals >>= fun v => pure [(x, v)]))
    (hx : scope.names.lookup x = some .local) (hz : vals.length ≤ 100000)
    (h : ∀ L ta G' cdv h₁ tk, G.StaysIn G' → G'.get? ta = some (tupObj vals) → At ⟨G, s.heap, fs⟩ G' ow (envX qual scope L f cdv cl) (fun y => [(x, Value.ref ta)].reverse.lookup y) h₁ →
      wpAny (model prog w) (A.deeper (envX qual scope L f cdv cl)) (execs body (envX qual scope L f cdv cl))
        (fun fl s' => Q (match fl with | .ret v => v | _ => .none) s')
        (Out prog w A (envX qual scope L f cdv cl) E) { s with heap := h₁, toks := tk })
    (hcell : ∀ x ∈ scope.names, x.2 ≠ .cell) (hco : scope.isCoroutine = false) (hgen : scope.isGenerator = false) (hk : scope.kind = .function) :
    wpAny (model prog w) A (call (.ref f) vals) Q E s := by
  have hsl : sizeLine = 16777216 := rfl
  obtain ⟨o, pm, doc, an, cdv, ct, ho, hd, hcd⟩ := F.ex
  refine wpAny_call (codeAny_call_function hA (W.keep _ _ ho) hd hco hgen rfl (hcd.keeps W.keep) ?_)
  rw [hb doc pm an cdv ct]
  refine wpAny_bind (wpAny_newTuple (wpAny_pure ?_) (by omega))
  have k0 : s.heap.StaysIn (s.heap.push { cls := .type "tuple", data := .seq vals.toArray }) := fun _ _ e => Heap.get?_push_of_some _ e
  obtain ⟨G', l', q'⟩ := W.lf_grow k0
  have et := q' _ _ (size_none _) (Heap.get?_push_size s.heap (o := tupObj vals) rfl)
  generalize hh : s.heap.push { cls := .type "tuple", data := .seq vals.toArray } = h₀ at *
  refine wpAny_newFunctionEnv hcell (by intro y hy; rw [List.mem_singleton.mp hy]; exact hx) (fun h₁ hns hsb => ?_) hk
  have hk₁ : h₀.StaysIn h₁ := fun b o e => hsb.extBut b o (Nat.ne_of_lt (Heap.lt_size e)) (Heap.get?_push_of_some _ e)
  refine ⟨(lim.keeps l'.gr).keeps (stays_trans l'.wd.keep hk₁), codeAny_func ?_⟩
  have AT := frame_new (s := { s with heap := h₀ }) (env := envX qual scope h₀.objs.size f cdv cl) l'.wd rfl rfl rfl hk hk₁ hns
  refine h h₀.objs.size s.heap.objs.size G' cdv h₁ _ l'.gr et ⟨stays_trans l'.gr AT.gr, AT.wd, FK.trans l'.fk AT.fk, AT.ns, AT.fr, AT.nX⟩
end

/-- a lambda -/
structure LamAt (G : Heap) (f : Addr) (name qual : Str) (params : Arguments) (body : Expr) (scope : Scope) (cl : List (Str × Addr)) : Prop where
  ex : ∃ o pm cdv ct, G.get? f = some o ∧ o.data = .func (kla_fn name qual params body scope cl pm cdv ct) ∧ G.CodeRec cdv qual
theorem LamAt.mono {G G' : Heap} {f : Addr} {name qual : Str} {params : Arguments} {body : Expr} {scope : Scope} {cl : List (Str × Addr)} (F : LamAt G f name qual params body scope cl) (k : G.StaysIn G') : LamAt G' f name qual params body scope cl :=
  let ⟨o, pm, cdv, ct, a, b, c⟩ := F.ex; ⟨o, pm, cdv, ct, k _ _ a, b, c.keeps k⟩

section
variable {prog : Program} {w : World} {A : Around} {E : Value → Shared → Prop} {s : Shared} {fs : List Env} {G : Heap} {ow : List (Addr × Obj)} {Q : Value → Shared → Prop}
  {f : Addr} {name qual : Str} {params : Arguments} {body : Expr} {scope : Scope} {cl : List (Str × Addr)}
theorem call_lam (W : Wd fs G ow s.heap) (hA : A.depth < recursionLimit) (lim : G.NoLimit) (F : LamAt G f name qual params body scope cl)
    (hb : ∀ pm cdv ct, bindArgs (kla_fn name qual params body scope cl pm cdv ct) ⟨[], []⟩ = pure [])
    (h : ∀ L cdv h₁ tk, At ⟨G, s.heap, fs⟩ G ow (envX qual scope L f cdv cl) (fun _ => none) h₁ →
      wpAny (model prog w) (A.deeper (envX qual scope L f cdv cl)) (eval body (envX qual scope L f cdv cl)) Q
        (Out prog w A (envX qual scope L f cdv cl) E) { s with heap := h₁, toks := tk })
    (hcell : ∀ x ∈ scope.names, x.2 ≠ .cell) (hco : scope.isCoroutine = false) (hgen : scope.isGenerator = false) (hk : scope.kind = .function) :
    wpAny (model prog w) A (call (.ref f) []) Q E s := by
  obtain ⟨o, pm, cdv, ct, ho, hd, hcd⟩ := F.ex
  refine wpAny_call (kla_callFunE hA (W.keep _ _ ho) hd hco hgen rfl (hcd.keeps W.keep) ?_)
  rw [hb pm cdv ct]
  refine wpAny_pure (wpAny_newFunctionEnv hcell (by intro y hy; cases hy) (fun h₁ hns hsb => ?_) hk)
  have hk₁ : s.heap.StaysIn h₁ := fun b o e => hsb.extBut b o (Nat.ne_of_lt (Heap.lt_size e)) (Heap.get?_push_of_some _ e)
  refine ⟨(lim.keeps W.keep).keeps hk₁, ?_⟩
  show codeAny _ _ (.expr body (envX qual scope s.heap.objs.size f cdv cl)) _ _
  refine kla_codeExpr ?_
  exact h s.heap.objs.size cdv h₁ _ (frame_new (env := envX qual scope s.heap.objs.size f cdv cl) W rfl rfl rfl hk hk₁ hns)
end

section
variable {prog : Program} {w : World} {A : Around} {E : Value → Shared → Prop} {s : Shared} {X : Ent} {G : Heap} {ow : List (Addr × Obj)} {env : Env} {m mg mb : Str → Option Value} {M : Model}

theorem out_passes {A : Around} {env : Env} {E : Value → Shared → Prop} : PassesOwn (model prog w) (A.deeper env) env (Out prog w A env E) := PassesOwn.leaving

/-- an exception in the frame where it stands -/
structure Flying (X : Ent) (G : Heap) (ow : List (Addr × Obj)) (env : Env) (m : Str → Option Value) (a : Addr) (args : List Value) (h : Heap) : Prop where
  at_ : At X G ow env m h
  fly : Fly (env :: X.fs) G ow a (.type "ValueError") args h

theorem w_raiseVE {e₀ : Expr} {np cpos pos : Pos} {Q : Flow → Shared → Prop} {v : Value} (hh : A.handled = none) (AT : At X G ow env m s.heap) (S : Sta mg mb G) (hn : mg (Str.ofString "ValueError") = none)
    (hev : ∀ Q', Q' v s → wpAny (model prog w) A (eval e₀ env) Q' E s)
    (h : ∀ h' e, Heap.MadeExcOf s.heap h' e (.type "ValueError") [v] → E (.ref e) { s with heap := h' })
    (hk : env.scope.kind = .function := by rfl) (hx : env.kindOf (Str.ofString "ValueError") = some .globalImplicit := by rfl) (hg : env.globals = mainGlobals := by rfl) (hgb : env.builtins = builtinsNs := by rfl)
    (he : starEach [e₀] env = [(false, eval e₀ env)] := by rfl) :
    wpAny (model prog w) A (exec (.Raise (some (.Call (.Name (Str.ofString "ValueError") np) [e₀] [] cpos)) none pos) env) Q E s := by
  refine Raise_madeB F.excCall_ValueError F.excRaise_ValueError hh ?_ (by rw [he]; rfl) (by rfl)
  refine w_builtin AT S hn PyProof.Rows.Boot.«ValueError» ⟨rfl, ?_⟩ (by decide) hk hx hg hgb
  refine wpAny_items_cons ?_ (by rw [he]; rfl)
  refine hev _ ?_
  refine wpAny_items_nil ⟨by have : sizeLine = 16777216 := rfl; simp; omega, fun h' e hm => h h' e (Heap.MadeExc.of hm)⟩

/-- the raise leaves its frame -/
theorem made_out {h₁ : Heap} {fs : List Env} {e L : Addr} {cls : Value} {args : List Value} (hfr : A.frames = some fs) (hf : env.frame = some L) (W : Wd (env :: fs) G ow h₁) (hx : Heap.MadeExcOf h₁ s.heap e cls args)
    (h : ∀ h', Fly fs G ow e cls args h' → Wd fs G ow h' → FK fs h₁ h' → E (.ref e) { s with heap := h' }) : Out prog w A env E (.ref e) s := by
  unfold Out
  exact made_leave (Around.frames_deeper hfr) hf W hx h

theorem fly_out {fs : List Env} {e L : Addr} {cls : Value} {args : List Value} (hfr : A.frames = some fs) (hf : env.frame = some L) (W : Wd (env :: fs) G ow s.heap) (x : Fly (env :: fs) G ow e cls args s.heap)
    (h : ∀ h', Fly fs G ow e cls args h' → Wd fs G ow h' → FK fs s.heap h' → E (.ref e) { s with heap := h' }) : Out prog w A env E (.ref e) s := by
  unfold Out
  exact fly_leave (Around.frames_deeper hfr) hf W x h

/-- what is caught: the exception and its arguments, frozen -/
def Got1 (G : Heap) (e : Addr) (args : List Value) : Prop := ∃ o vs t, G.get? e = some o ∧ o.cls = .type "ValueError" ∧ o.data = .fields vs ∧ vs[0]? = some (.ref t) ∧ TupG G t args

theorem w_tryVE {body suite : List Stmt} {b₀ : Stmt} {n : Str} {np hpos pos : Pos} {Q : Flow → Shared → Prop} (hfr : A.frames = some (env :: X.fs)) (hf : env.frame = some env.locals) (hn : mg (Str.ofString "ValueError") = none)
    (K : Heap → List (Addr × Obj) → (Str → Option Value) → List Value → Prop)
    (hbody : wpAny (model prog w) A (execs body env) (fun f s₁ => f ≠ .next ∧ Q f s₁) (fun e s₁ => ∃ a G' ow' m' args h' tk, e = .ref a ∧ s₁ = { s with heap := h', toks := tk } ∧ Sta mg mb G' ∧ Flying X G' ow' env m' a args h' ∧ K G' ow' m' args) s)
    (hK : ∀ G G' ow m args, K G ow m args → G.StaysIn G' → K G' ow m args)
    (hsuite : ∀ a G' ow' m' args h' tk Qs Es, K G' ow' m' args → At X G' ow' env (upd m' n (.ref a)) h' → Got1 G' a args →
      (∀ G'' ow'' m'' h'' tk'', G'.StaysIn G'' → At X G'' ow'' env m'' h'' → (∃ v, m'' n = some v) → (∀ m₃ h₃ tk₃, At X G'' ow'' env m₃ h₃ → (∀ y, y ≠ n → m₃ y = m'' y) → Q .next { s with heap := h₃, toks := tk₃ }) → Qs .next { s with heap := h'', toks := tk'' }) →
      wpAny (model prog w) (A.mark (some (.ref a))) (execs (b₀ :: suite) env) Qs Es { s with heap := h', toks := tk })
    (hk : env.scope.kind = .function := by rfl) (hx : env.kindOf (Str.ofString "ValueError") = some .globalImplicit := by rfl) (hln : env.kindOf n = some .local := by rfl) (hg : env.globals = mainGlobals := by rfl) (hgb : env.builtins = builtinsNs := by rfl) :
    wpAny (model prog w) A (exec (.Try body [.ExceptHandler (some (.Name (Str.ofString "ValueError") np)) (some n) (b₀ :: suite) hpos] [] [] pos) env) Q E s := by
  refine wpAny_Try_except ?_
  refine wpAny_mono hbody (fun f s₁ h₁ => ?_) (fun e s₁ h₁ => ?_)
  · obtain ⟨hf, hq⟩ := h₁
    cases f with
    | next => exact absurd rfl hf
    | _ => exact hq
  · obtain ⟨a, G', ow', m', args, h', tk, rfl, rfl, S', ⟨A', B, t, gB, hB, hfl, htup, htB, htF⟩, hKK⟩ := h₁
    refine wpAny_looks_onW (s := { s with heap := h', toks := tk }) hfr hf hfl fun h₄ held₄ sm₄ => ?_
    refine wpAny_landsW (s := { s with heap := h₄, toks := tk }) held₄ fun h₅ fl₅ sm₅ => ?_
    have sm5 : h'.UpToSlots h₅ := Heap.UpToSlots.trans sm₄ sm₅
    obtain ⟨ob, hob, hobc⟩ := fl₅.there
    refine wpAny_handleBy_builtin_as (s := { s with heap := h₅, toks := tk }) (X := "ValueError") (T := "ValueError") (b := true) F.isExc_ValueError F.notTuple_ValueError (by rw [isSubtype_type]; kernel_rfl) ?_
    refine w_bltn (s := { s with heap := h₅, toks := tk }) (stays_trans gB fl₅.1) S' hn PyProof.Rows.Boot.«ValueError» ⟨rfl, ⟨ob, hob, hobc⟩, ?_⟩ (by decide) hk hx hg hgb
    show (if true = true then _ else _)
    rw [if_pos rfl]
    refine lands_againW (s := { s with heap := h₅, toks := tk }) fl₅ fun h₆ fl₆ sm₆ => ?_
    have sm6 : h'.UpToSlots h₆ := Heap.UpToSlots.trans sm5 sm₆
    have Fl₆ : Fly (env :: X.fs) G' ow' a (.type "ValueError") args h₆ := ⟨B, t, gB, hB, fl₆, htup.of_slots sm6, htB, htF⟩
    have A₆ : At X G' ow' env m' h₆ := A'.back ⟨stays_refl _, Fl₆.wd A'.wd, fk_upTo A'.wd sm6⟩
    obtain ⟨oe, ws, hoe, hoec, hoed, hoe0⟩ := fl₆.first
    obtain ⟨ot, nt, hot, hotc, hotd⟩ := htup.of_slots sm6
    have neL : ∀ {b : Addr} {o : Obj}, h₆.get? b = some o → (∀ es n, o.data ≠ .dict es n) → b ≠ env.locals := fun {b o} e q z => by
      obtain ⟨o', es, ep, e', hd, _⟩ := A₆.ns
      rw [z, e'] at e; cases e
      exact q es ep hd
    have aL := neL hoe (fun es n q => by rw [hoed] at q; cases q)
    have tL := neL hot (fun es n q => by rw [hotd] at q; cases q)
    refine w_setS (s := { s with heap := h₆, toks := tk }) A₆ (fun h₇ tk₇ A₇ hb₇ => ?_) hln hk
    obtain ⟨G₈, g8, A₈, q8⟩ := A₇.all
    have noB : ∀ {b : Addr}, B.get? b = none → b ∉ ow'.map (·.1) := fun {b} e mm => by
      obtain ⟨p, hp, rfl⟩ := List.mem_map.mp mm
      rw [hB p hp] at e; cases e
    have ea := q8 a oe ((hb₇ a aL).trans hoe) (noB fl₆.2.1) aL (fun en hen hf' => by
      obtain ⟨o', e1, e2⟩ := A₆.wd.frameIn (.tail _ hen) hf'
      rw [hoe] at e1; cases e1
      exact e2 ws hoed)
    have et := q8 t ot ((hb₇ t tL).trans hot) (noB htB) tL (fun en hen hf' => htF en (.tail _ hen) hf')
    refine hsuite a G₈ ow' m' args h₇ tk₇ _ _ (hK _ _ _ _ _ hKK g8) A₈ ⟨oe, ws, t, ea, hoec, hoed, hoe0, ot, nt, et, hotc, ?_⟩ fun G₉ ow₉ m₉ h₉ tk₉ g9 A₉ hv₉ hq => ?_
    · simpa using hotd
    · refine wpAny_bind (wpAny_bindName (w_set (s := { s with heap := h₉, toks := tk₉ }) A₉ (fun h₁₀ tk₁₀ A₁₀ => ?_) hln hk))
      unfold unbindBehindTheSuite
      refine wpAny_onRaise (wpAny_unbindName_local (s := { s with heap := h₁₀, toks := tk₁₀ }) hln A₁₀.ns (upd_self _ _ _) (by rw [hk]; rfl) fun h₁₁ u hn₁₁ hs₁₁ => ?_)
      refine hq _ h₁₁ tk₁₀ (A₁₀.store hn₁₁ hs₁₁) fun y hy => ?_
      show (if y = n then u else upd m₉ n .none y) = m₉ y
      rw [if_neg hy]
      exact if_neg hy
end


def PlX (vs : Array Value) (o : Obj) : Prop := ∃ c, o = lstObj vs c
theorem PlX.pl {vs : Array Value} {o : Obj} (x : PlX vs o) : PlO vs o := by obtain ⟨c, rfl⟩ := x; exact PlO.lst vs c
theorem PlX.isList {h : Heap} {a : Addr} {o : Obj} {vs : Array Value} (x : PlX vs o) (e : h.get? a = some o) : h.IsList a vs := x.pl.isList e
theorem mapSeq_lst (f : Array Value → Array Value) (vs : Array Value) (c : Nat) : PlX (f vs) (Obj.mapSeq f (lstObj vs c)) := ⟨_, rfl⟩

section
variable {prog : Program} {w : World} {A : Around} {E : Value → Shared → Prop} {s : Shared} {X : Ent} {G : Heap} {ow pre post : List (Addr × Obj)} {env : Env} {m : Str → Option Value} {a : Addr} {o : Obj} {vs : Array Value} {x : Value}

theorem lst_turn {vs : Array Value} {c : Nat} (f : Array Value → Array Value) (AT : At X G (pre ++ (a, lstObj vs c) :: post) env m s.heap) : At X G (pre ++ (a, Obj.mapSeq f (lstObj vs c)) :: post) env m (s.heap.update a (Obj.mapSeq f)) :=
  AT.put (Heap.SameBut.update ..) (Heap.get?_update_self _ (AT.wd.own (a, lstObj vs c) (by simp)) rfl)

theorem w_appendX {Q : Value → Shared → Prop} (AT : At X G (pre ++ (a, o) :: post) env m s.heap) (ho : PlX vs o) (hz : vs.size ≤ 100000)
    (h : ∀ h' o', At X G (pre ++ (a, o') :: post) env m h' → PlX (vs.push x) o' → (∀ b, b ≠ a → h'.get? b = s.heap.get? b) → Q .none { s with heap := h' }) : wpAny (model prog w) A (call (.builtin "list.append") [.ref a, x]) Q E s := by
  have hl : sizeLine = 16777216 := rfl
  obtain ⟨c, rfl⟩ := ho
  have e := AT.wd.own (a, lstObj vs c) (by simp)
  exact call_meets slot_list_append ⟨_, e, rfl⟩ entry_list_append (args_list_append _ _) (list_append a vs c x (by omega)) ⟨e, h _ _ (lst_turn _ AT) (mapSeq_lst _ _ _) (Heap.SameBut.update ..).2⟩

theorem w_popX {Q : Value → Shared → Prop} {y : Value} (AT : At X G (pre ++ (a, o) :: post) env m s.heap) (ho : PlX vs o) (hz : vs.size ≤ 100000) (hy : vs[vs.size - 1]? = some y)
    (h : ∀ h' o', At X G (pre ++ (a, o') :: post) env m h' → PlX vs.toList.dropLast.toArray o' → Q y { s with heap := h' }) : wpAny (model prog w) A (call (.builtin "list.pop") [.ref a]) Q E s := by
  have hl : sizeLine = 16777216 := rfl
  obtain ⟨c, rfl⟩ := ho
  have e := AT.wd.own (a, lstObj vs c) (by simp)
  refine call_meets F.slot_list_pop ⟨_, e, rfl⟩ F.entry_list_pop (F.args_list_pop_1 _) (MeetsSeq.list_pop_last a vs c y hy (by omega)) ⟨e, h _ _ (lst_turn _ AT) ?_⟩
  have hm := mapSeq_lst (fun xs => xs.eraseIdxIfInBounds (vs.size - 1)) vs c
  have hs : vs.size - 1 < vs.size := by
    rcases Nat.lt_or_ge (vs.size - 1) vs.size with h1 | h1
    · exact h1
    · rw [Array.getElem?_eq_none h1] at hy; cases hy
  have ee : vs.eraseIdxIfInBounds (vs.size - 1) = vs.toList.dropLast.toArray := by
    apply Array.toList_inj.mp
    simp only [Array.eraseIdxIfInBounds, hs, dif_pos, Array.toList_eraseIdx]
    rw [List.dropLast_eq_take, List.eraseIdx_eq_take_drop_succ]
    have : vs.size - 1 + 1 = vs.toList.length := by simp; omega
    rw [this, List.drop_length]
    simp
  rw [ee] at hm
  exact hm

theorem w_insert0 {Q : Value → Shared → Prop} {u : Tok} (AT : At X G (pre ++ (a, o) :: post) env m s.heap) (ho : PlX vs o) (hz : vs.size ≤ 100000)
    (h : ∀ h' o', At X G (pre ++ (a, o') :: post) env m h' → PlX (x :: vs.toList).toArray o' → Q .none { s with heap := h' }) : wpAny (model prog w) A (call (.builtin "list.insert") [.ref a, .int 0 u, x]) Q E s := by
  have hl : sizeLine = 16777216 := rfl
  obtain ⟨c, rfl⟩ := ho
  have e := AT.wd.own (a, lstObj vs c) (by simp)
  refine call_meets F.slot_list_insert ⟨_, e, rfl⟩ F.entry_list_insert (F.args_list_insert_3 _ _ _) (AutoSeq1.list_insert_list_int_val_1 a vs c 0 u x (by decide) (by omega)) ⟨e, h _ _ (lst_turn _ AT) ?_⟩
  have hm := mapSeq_lst (fun xs => have k := if (0 : Int) < 0 then ((0 : Int) + (xs.size : Int)).toNat else min (0 : Int).toNat xs.size; (xs.extract 0 k).push x ++ xs.extract k) vs c
  have ee : (fun xs : Array Value => have k := if (0 : Int) < 0 then ((0 : Int) + (xs.size : Int)).toNat else min (0 : Int).toNat xs.size; (xs.extract 0 k).push x ++ xs.extract k) vs = (x :: vs.toList).toArray := by
    simp
  exact Eq.mp (congrArg (fun q => PlX q _) ee) hm

/-- list(xs), the copy frozen -/
theorem w_listCopy {T : String} {q : Obj} {items : Array Value} {n : Nat} {l : Addr} {Q : Value → Shared → Prop} (AT : At X G ow env m s.heap) (hT : T = "list" ∨ T = "tuple") (hq : s.heap.get? l = some q) (hc : q.cls = .type T) (hd : q.data = .seq items n) (hz : items.size ≤ 100000)
    (h : ∀ D G' h', G.StaysIn G' → At X G' ow env m h' → G'.IsList D items → Q (.ref D) { s with heap := h' }) : wpAny (model prog w) A (call (.type "list") [.ref l]) Q E s := by
  have hl : sizeLine = 16777216 := rfl
  refine call_list_seq l hT hq hc hd (fun h' c' hk hD => ?_) (by omega)
  obtain ⟨G', a1, b1, c1⟩ := AT.grow hk
  exact h _ G' h' a1 b1 ⟨_, c1 _ _ (size_none _) hD, rfl, _, rfl⟩
/-- list(xs), the copy own -/
theorem w_listCopyO {T : String} {q : Obj} {items : Array Value} {n : Nat} {l : Addr} {Q : Value → Shared → Prop} (AT : At X G ow env m s.heap) (hT : T = "list" ∨ T = "tuple") (hq : s.heap.get? l = some q) (hc : q.cls = .type T) (hd : q.data = .seq items n) (hz : items.size ≤ 100000)
    (h : ∀ D h' o', At X G ((D, o') :: ow) env m h' → PlX items o' → s.heap.get? D = none → Q (.ref D) { s with heap := h' }) : wpAny (model prog w) A (call (.type "list") [.ref l]) Q E s := by
  have hl : sizeLine = 16777216 := rfl
  refine call_list_seq l hT hq hc hd (fun h' c' hk hD => ?_) (by omega)
  exact h _ h' _ (AT.own_new hk (size_none _) hD) ⟨_, rfl⟩ (size_none _)
theorem w_tupleOf {items : Array Value} {l : Addr} {Q : Value → Shared → Prop} (AT : At X G ow env m s.heap) (hl : s.heap.IsList l items) (hz : items.size ≤ 100000)
    (h : ∀ D G' h', G.StaysIn G' → At X G' ow env m h' → TupG G' D items.toList → Q (.ref D) { s with heap := h' }) : wpAny (model prog w) A (call (.type "tuple") [.ref l]) Q E s := by
  have hsl : sizeLine = 16777216 := rfl
  refine call_tuple_list hl (fun h' hk => ?_) (by omega)
  have A1 := AT.keeps hk
  obtain ⟨G', a1, b1, c1⟩ := A1.grow (h' := h'.push { cls := .type "tuple", data := .seq items }) fun _ _ e => Heap.get?_push_of_some _ e
  exact h _ G' _ a1 b1 ⟨_, 0, c1 _ _ (size_none _) (Heap.get?_push_size _ rfl), rfl, by simp⟩


end
section
variable {prog : Program} {w : World} {A : Around} {E : Value → Shared → Prop} {s : Shared} {a t0 : Addr} {k : Int} {t : Tok}
theorem ve_entry {Q : Fin → Shared → Prop} (x : s.heap.ExcAt a "ValueError" (.ref t0)) (ht : s.heap.TupAt t0 [.int k t]) (hk : k.natAbs.log2 < 1920) (hq : Q (.done (.ret (.str (toString k) s.toks))) { s with toks := s.toks + 1 }) :
    wpAny (model prog w) A (Builtin.«BaseException.__str__» ⟨[.ref a], []⟩) Q E s := by
  show wpAny _ _ (Builtin.BaseException.bexcArgs (.ref a) >>= _) _ _ _
  refine wpAny_bind (wpAny_bexcArgs x ht ?_)
  show wpAny _ _ (rule "BaseException.__str__.one-argument" >>= fun _ => Builtin.BaseException.bexcText "__str__" (.int k t) >>= ret) _ _ _
  refine wpAny_bind (wpAny_rule (wpAny_bind ?_))
  show wpAny _ _ (callSpecial? (.int k t) (Str.ofString "__str__") >>= _) _ _ _
  refine wpAny_bind (wpAny_callSpecial?_slot (name := Str.ofString "__str__") (typeIs_int _ k t) F.slot_int_str (call_object_str_gives (typeIs_int _ k t) F.slot_int_str F.slot_int_repr F.entry_int_repr (F.args_int_repr_1 _) (gives_int_repr k t hk) ?_ rfl (int_text_fits hk)))
  exact wpAny_bind (wpAny_isInstance (T := "str") (b := true) rfl isSubtype_str_str (wpAny_pure (wpAny_pure hq)))
theorem ve_call {Q : Value → Shared → Prop} (x : s.heap.ExcAt a "ValueError" (.ref t0)) (ht : s.heap.TupAt t0 [.int k t]) (hk : k.natAbs.log2 < 1920) (hq : Q (.str (toString k) s.toks) { s with toks := s.toks + 1 }) :
    wpAny (model prog w) A (call (.builtin "BaseException.__str__") [.ref a]) Q E s :=
  wpAny_call_entry F.excStr_ValueError.str x.typeIs F.entry_bexc_str (ve_entry x ht hk ⟨_, rfl, hq⟩) (F.args_bexc_str _)
theorem ve_strOf {Q : Value → Shared → Prop} (hu : A.units < cLine) (x : s.heap.ExcAt a "ValueError" (.ref t0)) (ht : s.heap.TupAt t0 [.int k t]) (hk : k.natAbs.log2 < 1920) (hq : Q (.str (toString k) s.toks) { s with toks := s.toks + 1 }) :
    wpAny (model prog w) A (PySem.Builtin.Str.strOf (.ref a)) Q E s := by
  unfold PySem.Builtin.Str.strOf
  repeat (first | with_reducible refine wpAny_cRoomFor hu ?_ | with_reducible refine wpAny_callSpecial?_slot x.typeIs F.excStr_ValueError.str (ve_call x ht hk ?_) | wp_step)
  exact hq
/-- str(error), one int as its argument -/
theorem w_strVE {G : Heap} {Q : Value → Shared → Prop} (g : Got1 G a [.int k t]) (kp : G.StaysIn s.heap) (hu : A.units + 2 < cLine) (hk : k.natAbs.log2 < 1920)
    (h : ∀ t tk, Q (.str (toString k) t) { s with toks := tk }) : wpAny (model prog w) A (call (.type "str") [.ref a]) Q E s := by
  obtain ⟨o, vs, t1, e, hc, hd, h0, ot, n, et, htc, htd⟩ := g
  have x : s.heap.ExcAt a "ValueError" (.ref t1) := ⟨o, vs, kp _ _ e, hc, hd, h0⟩
  have ht : s.heap.TupAt t1 [.int k t] := ⟨ot, n, kp _ _ et, htc, htd⟩
  exact callType_new F.called_str (by decide) (F.typeCall_str_1 _) (F.newCall_str_1 _) (fun obj => F.args_object_init_2 obj _) F.entry_str_new
    (meets_str_new (S := fun A' R s' => A'.units + 1 < cLine ∧ s'.heap.ExcAt a "ValueError" (.ref t1) ∧ s'.heap.TupAt t1 [.int k t] ∧ R (.ok (.ret (.str (toString k) s'.toks))) { s' with toks := s'.toks + 1 })
      fun _ _ A' _ _ hq => ve_strOf (A := A'.in1) hq.1 hq.2.1 hq.2.2.1 hk hq.2.2.2)
    ⟨(show A.units + 1 + 1 < cLine from hu), x, ht, typeIs_str _ _ _, h _ _⟩
end

theorem All2.get {α β : Type} {R : α → β → Prop} {l : List α} {r : List β} (h : All2 R l r) {k : Nat} {a : α} (e : l[k]? = some a) : ∃ b, r[k]? = some b ∧ R a b := by
  induction h generalizing k with
  | nil => simp at e
  | cons x _ ih =>
    cases k with
    | zero => simp at e; subst e; exact ⟨_, rfl, x⟩
    | succ k => simp at e; obtain ⟨b, h1, h2⟩ := ih e; exact ⟨b, by simpa using h1, h2⟩
theorem All2.get' {α β : Type} {R : α → β → Prop} {l : List α} {r : List β} (h : All2 R l r) {k : Nat} {b : β} (e : r[k]? = some b) : ∃ a, l[k]? = some a ∧ R a b := by
  induction h generalizing k with
  | nil => simp at e
  | cons x _ ih =>
    cases k with
    | zero => simp at e; subst e; exact ⟨_, rfl, x⟩
    | succ k => simp at e; obtain ⟨b, h1, h2⟩ := ih e; exact ⟨b, by simpa using h1, h2⟩
theorem All2.map2 {α β γ : Type} {R : β → γ → Prop} {f : α → β} {g : α → γ} : ∀ {l : List α}, (∀ x ∈ l, R (f x) (g x)) → All2 R (l.map f) (l.map g)
  | [], _ => .nil
  | x :: l, h => .cons (h x (.head _)) (All2.map2 fun y hy => h y (.tail _ hy))
theorem All2.impR {α β : Type} {R S : α → β → Prop} : ∀ {l : List α} {r : List β}, All2 R l r → (∀ a, ∀ b ∈ r, R a b → S a b) → All2 S l r
  | _, _, .nil, _ => .nil
  | _, _, .cons x y, h => .cons (h _ _ (.head _) x) (All2.impR y fun a b hb => h a b (.tail _ hb))

section
variable {prog : Program} {w : World} {A : Around} {E : Value → Shared → Prop} {s : Shared} {X : Ent} {G : Heap} {ow : List (Addr × Obj)} {env : Env} {m : Str → Option Value}

/-- a comprehension whose elements are known by an invariant over the values so far -/
theorem comp_coreR {elt iter : Expr} {x : Str} {px pos : Pos} {scope : Scope} {cl : List (Str × Addr)} {RR : Value → Addr → Result → Shared → Prop} {I : Addr} {io : Obj} {G₁ : Heap} {m₁ : Str → Option Value} {ow₁ : List (Addr × Obj)} {St : Nat → Obj → Prop} {n : Nat} {Pv : Nat → Value → Prop} {inv : Nat → Heap → List (Addr × Obj) → List Value → Prop} {s₂ : Shared}
    (AT : At X G₁ ((I, io) :: ow₁) env m₁ s₂.heap) (src : ItSrc prog w A G₁ I St n Pv) (st0 : St 0 io) (hnz : n ≤ 100000) (i0 : inv 0 G₁ ow₁ [])
    (elem : ∀ k v C oC L ao io G' ow' vs (s : Shared) (Qe Ee : Value → Shared → Prop), k < n → Pv k v → inv k G' ow' vs → G₁.StaysIn G' → At X G' ((C, oC) :: (L, ao) :: (I, io) :: ow') env m₁ s.heap → (∃ mC, s.heap.Ns C mC ∧ mC x = some v) →
          (∀ r G'' h' tk ow'', G'.StaysIn G'' → At X G'' ((C, oC) :: (L, ao) :: (I, io) :: ow'') env m₁ h' → inv (k + 1) G'' ow'' (vs ++ [r]) → Qe r { s with heap := h', toks := tk }) → wpAny (model prog w) A (eval elt (compEnvC scope cl C env)) Qe Ee s)
    (hRR : ∀ L C oC ao vs G' h' tk ow', At X G' ((C, oC) :: (L, ao) :: ow') env m₁ h' → (∃ mC, h'.Ns C mC) → PlX vs.toArray ao → vs.length = n → inv n G' ow' vs → G₁.StaysIn G' → RR (.ref L) C (.ok .next) { s₂ with heap := h', toks := tk })
    (hkind : scope.kind = .function) (hcell : ∀ y ∈ scope.names, y.2 ≠ .cell) (hx : scope.names.lookup x = some .local) :
    wpAny (model prog w) A (newList []) (fun acc s₃ => wpAny (model prog w) A (newFunctionEnv scope env.globals cl [] env.qual none .none (some env)) (fun cenv s₄ =>
      codeAny (model prog w) A (.compStart (.ListComp elt [⟨.Name x px, iter, [], 0⟩] scope pos) 0 (.ref I) acc { cenv with scope := relabel scope env }) (RR acc cenv.locals) s₄) E s₃) E s₂ := by
  have hsl : sizeLine = 16777216 := rfl
  refine wpAny_newList ?_ (by simp)
  have A₁ := AT.own_new (h' := s₂.heap.push { cls := .type "list", data := .seq ([] : List Value).toArray }) (fun _ _ e => Heap.get?_push_of_some _ e) (size_none _) (Heap.get?_push_size _ rfl)
  generalize hL : s₂.heap.objs.size = L at *
  generalize hh1 : s₂.heap.push { cls := .type "list", data := .seq ([] : List Value).toArray } = h₁' at *
  refine wpAny_newFunctionEnv hcell (by intro y hy; simp at hy) (fun h₃ hns hsb => ?_) hkind
  obtain ⟨oC, es, ep, hoC, hdC, rC⟩ := id hns
  have k₃ : h₁'.StaysIn h₃ := fun b o e => hsb.extBut b o (Nat.ne_of_lt (Heap.lt_size e)) (Heap.get?_push_of_some _ e)
  have A₃ := A₁.own_new k₃ (size_none _) hoC
  show codeAny (model prog w) A (.compStart (.ListComp elt [⟨.Name x px, iter, [], 0⟩] scope pos) 0 (.ref I) (.ref L) (compEnvC scope cl h₁'.objs.size env)) (RR (.ref L) h₁'.objs.size) { s₂ with heap := h₃, toks := s₂.toks + 0 }
  generalize hC : h₁'.objs.size = C at *
  have loop : codeAny (model prog w) A (.compLoop (.ListComp elt [⟨.Name x px, iter, [], 0⟩] scope pos) 0 (.ref I) (.ref L) (compEnvC scope cl C env)) (RR (.ref L) C) { s₂ with heap := h₃, toks := s₂.toks + 0 } := by
    refine codeAny_compLoop_list (fun j s' => ∃ k h' tk G' ow' oC io ao vs, j + k = n ∧ s' = { s₂ with heap := h', toks := tk } ∧ At X G' ((C, oC) :: (L, ao) :: (I, io) :: ow') env m₁ h' ∧ G₁.StaysIn G' ∧ St k io ∧ inv k G' ow' vs ∧ PlX vs.toArray ao ∧ vs.length = k ∧ (∃ mC, h'.Ns C mC)) ?_ n
      ⟨0, h₃, _, G₁, ow₁, oC, io, _, [], rfl, rfl, A₃, stays_refl _, st0, i0, ⟨0, rfl⟩, rfl, _, hns⟩
    rintro j s' ⟨k, h', tk, G', ow', oC, io, ao, vs, hj, rfl, A', g', st', i', hao, hvs, mC, hnC⟩
    have eI := A'.wd.own (I, io) (by simp)
    rcases Nat.lt_or_ge k n with hk | hk
    · refine src.item (s := { s₂ with heap := h', toks := tk }) hk (stays_trans g' A'.keep) eI st' fun h₄ io₄ v tk₄ e₄ st₄ hsb₄ hpv => ?_
      have A₄ := A'.put (pre := [(C, oC), (L, ao)]) hsb₄ e₄
      have nCI : C ≠ I := by have := A'.wd.nd; simp at this; exact this.1.2.1
      have hnC₄ : h₄.Ns C mC := by
        obtain ⟨o, es, ep, a1, r⟩ := hnC
        exact ⟨o, es, ep, (hsb₄.2 _ nCI).trans a1, r⟩
      refine wpAny_assign_Name ?_
      refine wpAny_storeName_local (s := { s₂ with heap := h₄, toks := tk₄ }) (env := compEnvC scope cl C env) (lookup_relabel_local hx) hnC₄ (fun h₅ hn₅ hs₅ => ?_) (by simp [compEnvC, relabel, hkind])
      obtain ⟨oC₅, es₅, ep₅, hoC₅, r₅⟩ := id hn₅
      have A₅ := A₄.put (pre := []) hs₅ hoC₅
      refine elem k v C oC₅ L ao io₄ G' ow' vs { s₂ with heap := h₅, toks := tk₄ + 1 } _ _ hk hpv i' g' A₅ ⟨_, hn₅, by simp⟩ fun r G₆ h₆ tk₆ ow₆ g₆ A₆ i₆ => ?_
      refine w_appendX (s := { s₂ with heap := h₆, toks := tk₆ }) (pre := [(C, oC₅)]) A₆ hao (by simp; omega) fun h₇ ao₇ A₇ hao₇ hb₇ => ?_
      refine ⟨n - (k + 1), by omega, k + 1, h₇, tk₆, G₆, ow₆, oC₅, io₄, ao₇, vs ++ [r], by omega, rfl, A₇, stays_trans g' g₆, st₄, i₆, by simpa using hao₇, by simp; omega, ?_⟩
      exact ⟨_, oC₅, es₅, ep₅, A₇.wd.own (C, oC₅) (by simp), r₅⟩
    · have hkn : k = n := by omega
      subst hkn
      refine src.done (s := { s₂ with heap := h', toks := tk }) (stays_trans g' A'.keep) eI st' fun h₄ hx₄ => ?_
      have nCI : C ≠ I := by have := A'.wd.nd; simp at this; exact this.1.2.1
      have A₄ := A'.back (Wd.extBut (pre := [(C, oC), (L, ao)]) A'.wd hx₄)
      refine hRR L C oC ao vs G' h₄ tk ow' A₄ ⟨mC, ?_⟩ hao hvs i' g'
      obtain ⟨o, es, ep, a1, r⟩ := hnC
      exact ⟨o, es, ep, hx₄ _ _ nCI a1, r⟩
  refine codeAny_compStart_list loop ?_
  have eI₃ := A₃.wd.own (I, io) (by simp)
  exact src.self (s := { s₂ with heap := h₃, toks := s₂.toks + 0 }) eI₃ st0 loop

def CompOkR (prog : Program) (w : World) (A : Around) (env : Env) (elt : Expr) (x : Str) (scope : Scope) (cl : List (Str × Addr)) (s₂ : Shared) (itv : Value) (Fin : Ent → Heap → List (Addr × Obj) → (Str → Option Value) → Addr → Obj → Heap → Tok → Prop) : Prop :=
  ∃ (I : Addr) (io : Obj) (X : Ent) (G₁ : Heap) (m₁ : Str → Option Value) (ow₁ : List (Addr × Obj)) (St : Nat → Obj → Prop) (n : Nat) (Pv : Nat → Value → Prop) (inv : Nat → Heap → List (Addr × Obj) → List Value → Prop),
    itv = .ref I ∧ At X G₁ ((I, io) :: ow₁) env m₁ s₂.heap ∧ ItSrc prog w A G₁ I St n Pv ∧ St 0 io ∧ n ≤ 100000 ∧ inv 0 G₁ ow₁ [] ∧
    (∀ k v C oC L ao io G' ow' vs (s : Shared) (Qe Ee : Value → Shared → Prop), k < n → Pv k v → inv k G' ow' vs → G₁.StaysIn G' → At X G' ((C, oC) :: (L, ao) :: (I, io) :: ow') env m₁ s.heap → (∃ mC, s.heap.Ns C mC ∧ mC x = some v) →
      (∀ r G'' h' tk ow'', G'.StaysIn G'' → At X G'' ((C, oC) :: (L, ao) :: (I, io) :: ow'') env m₁ h' → inv (k + 1) G'' ow'' (vs ++ [r]) → Qe r { s with heap := h', toks := tk }) → wpAny (model prog w) A (eval elt (compEnvC scope cl C env)) Qe Ee s) ∧
    (∀ L ao vs G' h' tk ow', PlX vs.toArray ao → vs.length = n → inv n G' ow' vs → G₁.StaysIn G' → Fin X G' ow' m₁ L ao h' tk)

/-- the comprehension's value, the list own -/
theorem w_compR {elt iter : Expr} {x : Str} {px pos : Pos} {scope : Scope} {cl : List (Str × Addr)} {Q : Value → Shared → Prop}
    (hev : wpAny (model prog w) A (eval iter env) (fun xv s₁ => wpAny (model prog w) A (pyIter xv) (fun itv s₂ =>
      CompOkR prog w A env elt x scope cl s₂ itv fun X G' ow' m₁ L ao h' tk => At X G' ((L, ao) :: ow') env m₁ h' → Q (.ref L) { s₂ with heap := h', toks := tk }) E s₁) E s)
    (hclos : closureFor scope env = pure cl := by rfl) (hkind : scope.kind = .function := by rfl) (hnames : ∀ x ∈ scope.names, x.2 = .local → scope.names.lookup x.1 = some .local := by decide +kernel)
    (hcell : ∀ y ∈ scope.names, y.2 ≠ .cell := by decide +kernel) (hx : scope.names.lookup x = some .local := by rfl)
    (hs : ∀ x, foldedSetIterable iter env x = pure x := by intro _; rfl) :
    wpAny (model prog w) A (eval (.ListComp elt [⟨.Name x px, iter, [], 0⟩] scope pos) env) Q E s := by
  rw [eval_ListComp]
  refine wpAny_comprehension_free (use := none) rfl hs hclos hkind hnames ?_
  refine wpAny_mono hev (fun xv s₁ h₁ => wpAny_mono h₁ (fun itv s₂ h₂ => ?_) fun _ _ z => z) fun _ _ z => z
  obtain ⟨I, io, X, G₁, m₁, ow₁, St, n, Pv, inv, rfl, AT, src, st0, hnz, i0, elem, fin⟩ := h₂
  refine comp_coreR AT src st0 hnz i0 elem (fun L C oC ao vs G' h' tk ow' A' hnC hao hvs i' g' => ?_) hkind hcell hx
  obtain ⟨mC, hnC⟩ := hnC
  refine ⟨mC, hnC, fun h₅ hs₅ => ?_⟩
  exact fin L ao vs G' h₅ tk ow' hao hvs i' g' (A'.back (Wd.extBut (pre := []) A'.wd (Heap.SameBut.extBut hs₅)))

theorem w_compRAssign {elt iter : Expr} {x y : Str} {px py pos pos' : Pos} {scope : Scope} {cl : List (Str × Addr)} {Q : Flow → Shared → Prop}
    (hev : wpAny (model prog w) A (eval iter env) (fun xv s₁ => wpAny (model prog w) A (pyIter xv) (fun itv s₂ =>
      CompOkR prog w A env elt x scope cl s₂ itv fun X G' ow' m₁ L ao _ _ => ∀ h' tk, At X G' ((L, ao) :: ow') env (upd m₁ y (.ref L)) h' → Q .next { s₂ with heap := h', toks := tk }) E s₁) E s)
    (hsw : swapsWith (.ListComp elt [⟨.Name x px, iter, [], 0⟩] scope pos) (some (.Name y py)) pos'.line env = pure true := by rfl)
    (hclos : closureFor scope env = pure cl := by rfl) (hkind : scope.kind = .function := by rfl) (hnames : ∀ x ∈ scope.names, x.2 = .local → scope.names.lookup x.1 = some .local := by decide +kernel)
    (hcell : ∀ y ∈ scope.names, y.2 ≠ .cell := by decide +kernel) (hx : scope.names.lookup x = some .local := by rfl)
    (hs : ∀ x, foldedSetIterable iter env x = pure x := by intro _; rfl) (hy : env.kindOf y = some .local := by rfl) (hke : env.scope.kind = .function := by rfl) :
    wpAny (model prog w) A (exec (.Assign [.Name y py] (.ListComp elt [⟨.Name x px, iter, [], 0⟩] scope pos) pos') env) Q E s := by
  rw [exec_Assign_Name_used _ _ _ _ hsw]
  refine wpAny_bind (wpAny_standAt (wpAny_bind ?_))
  show wpAny _ A (do let _ ← comprehension (.ListComp elt [⟨.Name x px, iter, [], 0⟩] scope pos) scope env _ (newList []) false (eval iter env) (some (assign (.Name y py) env))) _ _ s
  refine wpAny_bind (wpAny_mono (wpAny_comprehension_free (use := some (assign (.Name y py) env)) (Q := fun _ s' => Q .next s') rfl hs hclos hkind hnames
    (wpAny_mono hev (fun xv s₁ h₁ => wpAny_mono h₁ (fun itv s₂ h₂ => ?_) fun _ _ e => e) fun _ _ e => e)) (fun _ s' hq => wpAny_pure (wpAny_pure hq)) fun _ _ e => e)
  obtain ⟨I, io, X, G₁, m₁, ow₁, St, n, Pv, inv, rfl, AT, src, st0, hnz, i0, elem, fin⟩ := h₂
  refine comp_coreR (RR := fun acc C => compPost (model prog w) A E (some (assign (.Name y py) env)) (fun _ s' => Q .next s') acc C) AT src st0 hnz i0 elem (fun L C oC ao vs G' h' tk ow' A' hnC hao hvs i' g' => ?_) hkind hcell hx
  obtain ⟨mC, hnC⟩ := hnC
  show wpAny _ A (assign (.Name y py) env (.ref L)) _ _ _
  refine wpAny_assign_Name ?_
  refine w_set (s := { s₂ with heap := h', toks := tk }) A' (fun h₃ tk₃ A₃ => ?_) hy hke
  obtain ⟨oq, es, ep, a1, r⟩ := hnC
  have eoc := A'.wd.own (C, oC) (by simp)
  have e0 : oq = oC := by rw [a1] at eoc; exact Option.some.inj eoc
  subst e0
  refine ⟨mC, ⟨oq, es, ep, A₃.wd.own (C, oq) (by simp), r⟩, fun h₅ hs₅ => ?_⟩
  exact fin L ao vs G' h' tk ow' hao hvs i' g' h₅ tk₃ (A₃.back (Wd.extBut (pre := []) A₃.wd (Heap.SameBut.extBut hs₅)))
end


def stm (i : Nat) : Stmt := PySem.Challenge.pw_kl0054_01.main.body.getD i (.Pass default)
abbrev FnI (G : Heap) (i : Nat) (f : Addr) : Prop := FnAt G f (fdName (stm i)) (fdName (stm i)) (fdParams (stm i)) (fdBody (stm i)) (fdScope (stm i)) []

section
variable {prog : Program} {w : World} {A : Around} {E : Value → Shared → Prop} {s : Shared} {fs : List Env} {G : Heap} {ow : List (Addr × Obj)} {mg mb : Str → Option Value} {Q : Value → Shared → Prop}
theorem mapstar_spec {τ : Type} {Sx : Heap → Prop} {fa ta : Addr} {f : Value} {ls : List Addr} {d u : Nat} {V : Heap → τ → List (Addr × Obj) → Prop} {len : τ → Addr → Nat} {turn : τ → Nat → PyData → τ → Prop} {fail : τ → Nat → Int → τ → Prop} {a b : τ} {xs : List PyData} {r : Option Int}
    (hS : ∀ G G', Sx G → G.StaysIn G' → Sx G') (F : FnI G 1 fa) (S : Sta mg mb G) (n1 : mg "list" = none) (n2 : mg "map" = none) (hA : Ar A fs (d + 1) (u + 10)) (ht : TupG G ta (f :: ls.map Value.ref)) (hne : ls ≠ []) (hle : ls.length ≤ 3)
    (Y : ∀ fs, MapUser prog w fs Sx d u f ls V len turn fail) (run : Run (MStep ls len turn) (MFail ls len fail) (some 0, a) xs r (none, b)) (hz : xs.length ≤ 100000)
    (hSG : Sx G) (hV : V G a ow) (hVm : ∀ G G' a ow, V G a ow → G.StaysIn G' → V G' a ow) (W : Wd fs G ow s.heap)
    (h : ∀ L G' h' tk vs ow', r = none → V G' b ow' → Lf fs G s.heap G' ow' h' → Sx G' → G'.IsList L vs → Rds G' vs.toList xs → Q (.ref L) { s with heap := h', toks := tk })
    (hE : ∀ k e t G' h' tk ow', r = some k → V G' b ow' → Lf fs G s.heap G' ow' h' → Sx G' → Fly fs G' ow' e (.type "ValueError") [.int k t] h' → E (.ref e) { s with heap := h', toks := tk }) :
    wpAny (model prog w) A (call (.ref fa) [.ref ta]) Q E s := by
  refine call_fn (binds := [(Str.ofString "args", .ref ta)]) W (by have := hA.dp; omega) S.lim F (fun _ _ _ _ _ => rfl) rfl (fun L cdv h₁ hL hk AT => ?_) (by decide +kernel) rfl rfl rfl
  refine wpAny_execs_cons ?_
  refine wpAny_Return_some ?_
  refine w_call ?_
  refine w_builtin AT S n1 (by boot_by_name) ?_
  refine w_callType ?_
  refine wpAny_items_cons ?_
  refine w_call ?_
  refine w_builtin AT S n2 (by boot_by_name) ?_
  refine w_callTypeStar ?_
  refine w_local AT rfl ?_
  obtain ⟨o, n, ho, hc, hd⟩ := ht
  refine w_starTup (.inr rfl) (AT.keep _ _ ho) hc hd (by have hz9 : sizeLine = 16777216 := rfl; simp; omega) fun h₂ k₂ => ?_
  have A₂ := AT.keeps k₂
  obtain ⟨ys, hys⟩ := (Y (envX (fdName (stm 1)) (fdScope (stm 1)) L fa cdv [] :: fs)).lists (pre := []) hV hSG A₂.wd
  refine map_call (s := { s with heap := h₂, toks := _ }) hne hle A₂.wd (fun l hl => ⟨_, (hys l hl).1⟩) fun its G₃ h₃ T mo hI l₃ k₃ eT em => ?_
  have A₃ := A₂.back l₃
  refine wpAny_items_nil ?_
  have Y' := (Y (envX (fdName (stm 1)) (fdScope (stm 1)) L fa cdv [] :: fs)).and (P := fun G => G.get? mo = some (mapObj T f) ∧ G.get? T = some (tupObj ((its.map (·.1)).map Value.ref))) fun G G' p k => ⟨k _ _ p.1, k _ _ p.2⟩
  have K := map_steps (ids := its.map (·.1)) Y' (fun G hG => hG.2.1) (fun G hG => hG.2.2)
  have hSG₃ : Sx G₃ ∧ G₃.get? mo = some (mapObj T f) ∧ G₃.get? T = some (tupObj ((its.map (·.1)).map Value.ref)) := ⟨hS _ _ hSG l₃.gr, em, by rw [eT, List.map_map]; rfl⟩
  refine list_call (fun G G' p k => ⟨hS _ _ p.1 k, k _ _ p.2.1, k _ _ p.2.2⟩) K (map_iterIs em) run ((hA.deeper _).less (Nat.le_refl _) (by omega)) hSG₃ ⟨its, ow, rfl, hI, rfl, hVm _ _ _ _ hV l₃.gr⟩ (mu_mono hVm) A₃.wd hz ⟨_, em⟩ ?_ ?_
  · intro Lr G' h' tk vs ow' hr hV' l hS' hl hd'
    have l' := (A₃.back l).lf
    exact h Lr G' h' tk vs ow' hr hV' l' hS'.1 hl hd'
  · intro k e t G' h' tk ow' hr hV' l hS' hf
    have A₄ := A₃.back l
    unfold Out
    refine fly_leave (Around.frames_deeper hA.fr) rfl l.wd hf fun h'' hf' W' fk' => ?_
    exact hE k e t G' h'' tk ow' hr hV' ⟨A₄.lf.gr, W', A₄.lf.fk.trans fk'⟩ hS'.1 hf'
end

/-- what the touching function works on: the things by number, the rows as numbers, what was noted -/
structure Sg where
  items : List (List Int)
  lst : List (List Nat)
  noted : List PyData
inductive Th where
  | ids (l : List Nat)
  | nums (l : List Int)
def intsD (l : List Int) : PyData := .list (l.map .int)
def kd (σ : Sg) : Th → List PyData
  | .ids l => l.map fun i => intsD (σ.items.getD i [])
  | .nums l => l.map .int
def rowOf (σ : Sg) (r : Nat) : List Nat := σ.lst.getD r []
def lensOf (ix : List Nat) (σ : Sg) : List Int := ix.map fun r => ((rowOf σ r).length : Int)
def pick (ix : List Nat) (n : Int) : Nat := ix.getD ((n.fdiv 6).fmod ix.length).toNat 0
def thing (row : List Nat) (n : Int) : Nat := row.getD ((n.fdiv 18).fmod row.length).toNat 0
def moveOf (moves : List Int) (σ : Sg) : Int := moves.getD σ.noted.length 0
def noteP (ix : List Nat) (σ : Sg) (th : Th) : Sg := { σ with noted := σ.noted ++ [.tuple [.list (kd σ th), intsD (lensOf ix σ)]] }
def mutP (ix : List Nat) (n : Int) (step : Nat) (σ : Sg) : Sg :=
  let r := pick ix n
  let row := rowOf σ r
  if n.fmod 6 = 1 then { σ with lst := σ.lst.set r (row ++ [σ.items.length]), items := σ.items ++ [[n, step]] }
  else if n.fmod 6 = 2 ∧ row ≠ [] then { σ with lst := σ.lst.set r row.dropLast }
  else if n.fmod 6 = 3 ∧ row ≠ [] then { σ with items := σ.items.set (thing row n) (σ.items.getD (thing row n) [] ++ [n]) }
  else if n.fmod 6 = 4 then { σ with lst := σ.lst.set r (σ.items.length :: row), items := σ.items ++ [[(step : Int)]] }
  else σ
def touchP (moves : List Int) (ix : List Nat) (σ : Sg) (th : Th) : Sg × Option (List PyData) :=
  let n := moveOf moves σ
  let step := σ.noted.length
  let σ' := mutP ix n step (noteP ix σ th)
  if n.fmod 6 = 5 then (σ', none) else (σ', some (kd σ' th ++ [.int step]))

/-- the state is of a size -/
structure Ok (B : Nat) (moves : List Int) (nl : Nat) (ix : List Nat) (σ : Sg) : Prop where
  nls : σ.lst.length = nl
  ixs : ∀ r ∈ ix, r < nl
  ids : ∀ row ∈ σ.lst, ∀ i ∈ row, i < σ.items.length
  rows : ∀ row ∈ σ.lst, row.length ≤ B + min σ.noted.length moves.length
  cnt : σ.items.length ≤ B + min σ.noted.length moves.length
  lens : ∀ x ∈ σ.items, x.length ≤ B + min σ.noted.length moves.length

theorem getD_mem' {α : Type} {l : List α} {n : Nat} {d : α} (h : n < l.length) : l.getD n d ∈ l := by
  rw [List.getD_eq_getElem?_getD, List.getElem?_eq_getElem h]
  exact List.getElem_mem h
theorem mem_set' {α : Type} {l : List α} {n : Nat} {a x : α} (h : x ∈ l.set n a) : x ∈ l ∨ x = a := List.mem_or_eq_of_mem_set h

theorem pick_lt {ix : List Nat} {nl : Nat} (h : ∀ r ∈ ix, r < nl) (hne : ix ≠ []) (n : Int) : pick ix n < nl := by
  unfold pick
  have hl : 0 < ix.length := List.length_pos_iff.mpr hne
  have := fmod_bound (n.fdiv 6) (b := (ix.length : Int)) (by omega)
  exact h _ (getD_mem' (by omega))
theorem thing_mem {row : List Nat} (hne : row ≠ []) (n : Int) : thing row n ∈ row := by
  unfold thing
  have hl : 0 < row.length := List.length_pos_iff.mpr hne
  have := fmod_bound (n.fdiv 18) (b := (row.length : Int)) (by omega)
  exact getD_mem' (by omega)
theorem row_mem {σ : Sg} {r : Nat} (h : r < σ.lst.length) : rowOf σ r ∈ σ.lst := getD_mem' h

theorem mut_ok {B : Nat} {moves : List Int} {nl : Nat} {ix : List Nat} {σ : Sg} (h : Ok B moves nl ix σ) (hne : ix ≠ []) (th : Th) (hB : 2 ≤ B) : Ok B moves nl ix (mutP ix (moveOf moves σ) σ.noted.length (noteP ix σ th)) := by
  have hr := pick_lt h.ixs hne (moveOf moves σ)
  have rm : rowOf σ (pick ix (moveOf moves σ)) ∈ σ.lst := row_mem (by rw [h.nls]; exact hr)
  have le1 : min σ.noted.length moves.length ≤ min (σ.noted.length + 1) moves.length := by omega
  have nlen : (noteP ix σ th).noted.length = σ.noted.length + 1 := by unfold noteP; simp
  have base : Ok B moves nl ix (noteP ix σ th) := ⟨h.nls, h.ixs, h.ids, fun row hrow => by rw [nlen]; have := h.rows row hrow; omega, by rw [nlen]; have := h.cnt; show σ.items.length ≤ _; omega, fun x hx => by rw [nlen]; have := h.lens x hx; omega⟩
  by_cases hlt : σ.noted.length < moves.length
  · have e1 : min (σ.noted.length + 1) moves.length = min σ.noted.length moves.length + 1 := by omega
    unfold mutP
    have e2 : rowOf (noteP ix σ th) (pick ix (moveOf moves σ)) = rowOf σ (pick ix (moveOf moves σ)) := rfl
    simp only [e2]
    split
    · refine ⟨by show (σ.lst.set _ _).length = nl; rw [List.length_set]; exact h.nls, h.ixs, fun row hrow i hi => ?_, fun row hrow => ?_, ?_, fun x hx => ?_⟩
      · show i < (σ.items ++ _).length
        rw [List.length_append]
        rcases mem_set' hrow with hrow | rfl
        · have := h.ids row hrow i hi; omega
        · rcases List.mem_append.mp hi with hi | hi
          · have := h.ids _ rm i hi; omega
          · rw [List.mem_singleton.mp hi]; exact Nat.lt_succ_self _
      · show row.length ≤ B + min (noteP ix σ th).noted.length moves.length
        rw [nlen, e1]
        rcases mem_set' hrow with hrow | rfl
        · have := h.rows row hrow; omega
        · have := h.rows _ rm; rw [List.length_append]; simp; omega
      · show (σ.items ++ _).length ≤ B + min (noteP ix σ th).noted.length moves.length
        rw [nlen, e1, List.length_append]
        have := h.cnt; simp; omega
      · show x.length ≤ B + min (noteP ix σ th).noted.length moves.length
        rw [nlen, e1]
        rcases List.mem_append.mp hx with hx | hx
        · have := h.lens x hx; omega
        · rw [List.mem_singleton.mp hx]; simp; omega
    · split
      · refine ⟨by show (σ.lst.set _ _).length = nl; rw [List.length_set]; exact h.nls, h.ixs, fun row hrow i hi => ?_, fun row hrow => ?_, base.cnt, base.lens⟩
        · rcases mem_set' hrow with hrow | rfl
          · exact h.ids row hrow i hi
          · exact h.ids _ rm i (List.dropLast_subset _ hi)
        · rcases mem_set' hrow with hrow | rfl
          · exact base.rows row hrow
          · have := base.rows _ rm; rw [List.length_dropLast]; show _ ≤ B + min (noteP ix σ th).noted.length moves.length; omega
      · split
        · rename_i _ _ h3
          have tm := thing_mem h3.2 (moveOf moves σ)
          have tl := h.ids _ rm _ tm
          refine ⟨h.nls, h.ixs, fun row hrow i hi => by show i < (σ.items.set _ _).length; rw [List.length_set]; exact h.ids row hrow i hi, base.rows, by show (σ.items.set _ _).length ≤ _; rw [List.length_set]; exact base.cnt, fun x hx => ?_⟩
          show x.length ≤ B + min (noteP ix σ th).noted.length moves.length
          rcases mem_set' hx with hx | rfl
          · exact base.lens x hx
          · have := h.lens _ (getD_mem' (d := []) tl)
            rw [nlen, e1, List.length_append]
            show (σ.items.getD _ []).length + _ ≤ _
            simp at this ⊢; omega
        · split
          · refine ⟨by show (σ.lst.set _ _).length = nl; rw [List.length_set]; exact h.nls, h.ixs, fun row hrow i hi => ?_, fun row hrow => ?_, ?_, fun x hx => ?_⟩
            · show i < (σ.items ++ _).length
              rw [List.length_append]
              rcases mem_set' hrow with hrow | rfl
              · have := h.ids row hrow i hi; omega
              · rcases List.mem_cons.mp hi with rfl | hi
                · show σ.items.length < _; simp
                · have := h.ids _ rm i hi; omega
            · show row.length ≤ B + min (noteP ix σ th).noted.length moves.length
              rw [nlen, e1]
              rcases mem_set' hrow with hrow | rfl
              · have := h.rows row hrow; omega
              · have := h.rows _ rm; rw [List.length_cons]; omega
            · show (σ.items ++ _).length ≤ B + min (noteP ix σ th).noted.length moves.length
              rw [nlen, e1, List.length_append]
              have := h.cnt; simp; omega
            · show x.length ≤ B + min (noteP ix σ th).noted.length moves.length
              rw [nlen, e1]
              rcases List.mem_append.mp hx with hx | hx
              · have := h.lens x hx; omega
              · rw [List.mem_singleton.mp hx]; simp; omega
          · exact base
  · have e0 : moveOf moves σ = 0 := by
      unfold moveOf
      rw [List.getD_eq_getElem?_getD, List.getElem?_eq_none (by omega)]; rfl
    rw [e0]
    have em : mutP ix 0 σ.noted.length (noteP ix σ th) = noteP ix σ th := by
      unfold mutP
      simp
    rw [em]
    exact base
theorem mut_noted {ix : List Nat} {n : Int} {step : Nat} {σ : Sg} : (mutP ix n step σ).noted = σ.noted := by
  unfold mutP
  dsimp only
  repeat' split
  all_goals rfl


def IsTupIt (o : Obj) (t : Addr) (k : Nat) : Prop := o.cls = .type "tuple_iterator" ∧ o.data = .fields #[.ref t, .int k 0]
theorem src_tuple {prog : Program} {w : World} {A : Around} {G : Heap} {I t : Addr} {vs : List Value} (hA : A.handled = none) (ht : TupG G t vs) : ItSrc prog w A G I (fun k io => IsTupIt io t k) vs.length (fun k v => vs[k]? = some v) where
  item := fun {k io s Q E} hk kp he hs h => by
    obtain ⟨o, n, e, c, d⟩ := ht.mono kp
    refine wpAny_pyNext_tuple_item (t := t) (items := vs.toArray) ⟨_, he, hs.1, hs.2⟩ ⟨o, e, c, n, d⟩ (x := vs[k]) (by simp [hk]) fun h' hit hsb => ?_
    obtain ⟨o', ho', hc', hd'⟩ := hit
    exact h h' o' _ _ ho' ⟨hc', hd'⟩ hsb (List.getElem?_eq_getElem hk)
  done := fun kp he hs h => by
    obtain ⟨o, n, e, c, d⟩ := ht.mono kp
    exact wpAny_pyNext_tuple_end (t := t) (items := vs.toArray) hA ⟨_, he, hs.1, hs.2⟩ ⟨o, e, c, n, d⟩ (by simp) h
  self := fun he hs h => wpAny_pyIter_tupleiter ⟨_, he, hs.1, hs.2⟩ h

/-- where a thing stands -/
def adOf (IT : List (Addr × Obj)) (i : Nat) : Addr := (IT.map (·.1)).getD i 0
def RowO (IT : List (Addr × Obj)) (p : Addr × Obj) (row : List Nat) : Prop := PlX (row.map fun i => Value.ref (adOf IT i)).toArray p.2
def ItemO (p : Addr × Obj) (x : List Int) : Prop := ∃ vs, PlX vs p.2 ∧ All2 (fun v i => ∃ t, v = Value.int i t) vs.toList x
structure TV (nl : Addr) (rls : List Addr) (ow₀ RL IT : List (Addr × Obj)) (no : Obj) (G : Heap) (σ : Sg) : Prop where
  n : ∃ nv, PlX nv no ∧ Rds G nv.toList σ.noted
  rl : RL.map (·.1) = rls
  rows : All2 (RowO IT) RL σ.lst
  items : All2 ItemO IT σ.items
def owOf (nl : Addr) (no : Obj) (RL IT ow₀ : List (Addr × Obj)) : List (Addr × Obj) := (nl, no) :: (RL ++ (IT ++ ow₀))
def TouchV (nl : Addr) (rls : List Addr) (ow₀ : List (Addr × Obj)) (G : Heap) (σ : Sg) (ow : List (Addr × Obj)) : Prop :=
  ∃ no RL IT, ow = owOf nl no RL IT ow₀ ∧ TV nl rls ow₀ RL IT no G σ
theorem TV.mono {nl : Addr} {rls : List Addr} {ow₀ RL IT : List (Addr × Obj)} {no : Obj} {G G' : Heap} {σ : Sg} (h : TV nl rls ow₀ RL IT no G σ) (k : G.StaysIn G') : TV nl rls ow₀ RL IT no G' σ :=
  ⟨let ⟨nv, a, b⟩ := h.n; ⟨nv, a, b.mono k⟩, h.rl, h.rows, h.items⟩
theorem TouchV.mono {nl : Addr} {rls : List Addr} {ow₀ : List (Addr × Obj)} : ∀ G G' σ ow, TouchV nl rls ow₀ G σ ow → G.StaysIn G' → TouchV nl rls ow₀ G' σ ow := fun _ _ _ _ ⟨no, RL, IT, a, b⟩ k => ⟨no, RL, IT, a, b.mono k⟩
/-- the things as values -/
def ThV (IT : List (Addr × Obj)) : Th → List Value → Prop
  | .ids l, vs => vs = l.map (fun i => .ref (adOf IT i)) ∧ ∀ i ∈ l, i < IT.length
  | .nums l, vs => All2 (fun v i => ∃ t, v = Value.int i t) vs l

theorem intsV {G : Heap} {vs : List Value} {l : List Int} (h : All2 (fun v i => ∃ t, v = Value.int i t) vs l) : Rds G vs (l.map .int) := by
  induction h with
  | nil => exact Rds.nil
  | cons x _ ih =>
    obtain ⟨t, rfl⟩ := x
    exact Rds.cons (Rd.int _ _) ih
theorem item_at {IT : List (Addr × Obj)} {items : List (List Int)} (h : All2 ItemO IT items) {i : Nat} (hi : i < IT.length) : ∃ o x, IT[i]? = some (adOf IT i, o) ∧ items[i]? = some x ∧ ItemO (adOf IT i, o) x := by
  obtain ⟨x, hx, hr⟩ := h.get (List.getElem?_eq_getElem hi)
  have e : adOf IT i = (IT[i]).1 := by
    unfold adOf
    rw [List.getD_eq_getElem?_getD, List.getElem?_map, List.getElem?_eq_getElem hi]; rfl
  exact ⟨(IT[i]).2, x, by rw [List.getElem?_eq_getElem hi, e], hx, by rw [e]; exact hr⟩
theorem it_mem {nl : Addr} {no : Obj} {RL IT ow₀ : List (Addr × Obj)} {p : Addr × Obj} (h : p ∈ IT) : p ∈ owOf nl no RL IT ow₀ := .tail _ (List.mem_append_right _ (List.mem_append_left _ h))
theorem rl_mem {nl : Addr} {no : Obj} {RL IT ow₀ : List (Addr × Obj)} {p : Addr × Obj} (h : p ∈ RL) : p ∈ owOf nl no RL IT ow₀ := .tail _ (List.mem_append_left _ h)

section
variable {prog : Program} {w : World} {mg mb : Str → Option Value} {A : Around} {E : Value → Shared → Prop} {s : Shared} {fs : List Env} {G : Heap} {ow : List (Addr × Obj)} {Q : Value → Shared → Prop}
/-- what a keep does -/
def KeepOk (prog : Program) (w : World) (S : Heap → Prop) (kf : Addr) (nl : Addr) (rls : List Addr) (th : Th) : Prop :=
  ∀ (A : Around) (fs : List Env) (G : Heap) (pre ow₀ RL IT : List (Addr × Obj)) (no : Obj) (σ : Sg) (s : Shared) (ta : Addr) (tvs : List Value) (Q E : Value → Shared → Prop),
    Ar A fs 3 30 → S G → TV nl rls ow₀ RL IT no G σ → Wd fs G (pre ++ owOf nl no RL IT ow₀) s.heap → TupG G ta tvs → ThV IT th tvs → tvs.length ≤ 1000 → (∀ x ∈ σ.items, x.length ≤ 50000) →
    (∀ r G' h' tk, Lf fs G s.heap G' (pre ++ owOf nl no RL IT ow₀) h' → S G' → Rd G' (.ref r) (.list (kd σ th)) → Q (.ref r) { s with heap := h', toks := tk }) → wpAny (model prog w) A (call (.ref kf) [.ref ta]) Q E s

theorem copies_ok {fa nl : Addr} {rls : List Addr} {l : List Nat} {S : Heap → Prop} (hS : ∀ G G', S G → G.StaysIn G' → S G') (hF : ∀ G, S G → FnI G 9 fa ∧ Sta mg mb G) (n1 : mg "list" = none) : KeepOk prog w S fa nl rls (.ids l) := by
  intro A fs G pre ow₀ RL IT no σ s ta tvs Q E hA hSG hT W ht hv hz hx h
  obtain ⟨rfl, hid⟩ := hv
  obtain ⟨F, S₀⟩ := hF G hSG
  refine call_fn (binds := [(Str.ofString "things", .ref ta)]) W (by have := hA.dp; omega) S₀.lim F (fun _ _ _ _ _ => rfl) rfl (fun L cdv h₁ hL hk AT => ?_) (by decide +kernel) rfl rfl rfl
  refine wpAny_execs_cons ?_
  refine wpAny_Return_some ?_
  refine w_comp (cl := []) ?_
  refine w_local AT rfl ?_
  obtain ⟨ot, nt, et, ect, edt⟩ := ht.mono AT.keep
  refine wpAny_pyIter_tuple (items := (l.map fun i => Value.ref (adOf IT i)).toArray) ⟨ot, et, ect, nt, edt⟩ ?_
  have A₂ := AT.own_new (h' := h₁.push { cls := .type "tuple_iterator", data := .fields #[.ref ta, .int 0 0] }) (fun _ _ e => Heap.get?_push_of_some _ e) (size_none _) (Heap.get?_push_size _ rfl)
  refine ⟨h₁.objs.size, _, _, G, _, pre ++ owOf nl no RL IT ow₀, fun k io => IsTupIt io ta k, (l.map fun i => Value.ref (adOf IT i)).length, fun k v => (l.map fun i => Value.ref (adOf IT i))[k]? = some v, kd σ (.ids l), fun _ G' ow => ow = pre ++ owOf nl no RL IT ow₀ ∧ S G',
    rfl, A₂, src_tuple hA.hd ht, ⟨rfl, rfl⟩, by simp [kd], by simp at hz ⊢; omega, ⟨rfl, hSG⟩, fun k G G' ow h kp => ⟨h.1, hS _ _ h.2 kp⟩, ?_, ?_⟩
  · rintro k v d C oC L' ao io G' ow' s' Qe Ee hdk hvk ⟨rfl, hSG'⟩ g' A' ⟨mC, hnC, hmC⟩ hq
    rw [List.getElem?_map] at hvk
    cases qi : l[k]? with
    | none => rw [qi] at hvk; cases hvk
    | some i =>
      rw [qi] at hvk
      cases hvk
      have hil := hid i (List.mem_of_getElem? qi)
      obtain ⟨o, x, e1, e2, vs, px, ax⟩ := item_at hT.items hil
      have edk : d = intsD x := by
        unfold kd at hdk
        rw [List.getElem?_map, qi] at hdk
        cases hdk
        show intsD (σ.items.getD i []) = intsD x
        rw [List.getD_eq_getElem?_getD, e2]; rfl
      subst edk
      obtain ⟨F', S'⟩ := hF G' hSG'
      have eo := A'.wd.own (adOf IT i, o) (by simp; exact .inr (.inr (.inr (.inr (it_mem (List.mem_of_getElem? e1))))))
      have hlen : vs.size ≤ 100000 := by
        have h1 := ax.length
        have h2 := hx x (List.mem_of_getElem? e2)
        simp at h1; omega
      refine w_call ?_
      refine w_bltn (G := G') A'.keep S' n1 (by boot_by_name) ?_
      refine w_callType ?_
      refine wpAny_items_cons ?_
      refine w_ns hnC rfl hmC ?_
      refine wpAny_items_nil ?_
      obtain ⟨c, hc⟩ := px
      have hc : o = lstObj vs c := hc
      subst hc
      refine w_listCopy A' (.inl rfl) eo rfl rfl hlen fun D G'' h'' le A'' hD => ?_
      exact hq (.ref D) G'' h'' s'.toks _ le A'' ⟨rfl, hS _ _ hSG' le⟩ (Rd.list hD (intsV ax))
  · rintro L' G' h' tk ow' ⟨rfl, hSG'⟩ g' A' hr
    exact h L' G' h' tk A'.lf hSG' hr

theorem numbers_ok {fa nl : Addr} {rls : List Addr} {l : List Int} {S : Heap → Prop} (hS : ∀ G G', S G → G.StaysIn G' → S G') (hF : ∀ G, S G → FnI G 10 fa ∧ Sta mg mb G) (n1 : mg "list" = none) : KeepOk prog w S fa nl rls (.nums l) := by
  intro A fs G pre ow₀ RL IT no σ s ta tvs Q E hA hSG hT W ht hv hz hx h
  have hv : All2 (fun v i => ∃ t, v = Value.int i t) tvs l := hv
  obtain ⟨F, S₀⟩ := hF G hSG
  refine call_fn (binds := [(Str.ofString "things", .ref ta)]) W (by have := hA.dp; omega) S₀.lim F (fun _ _ _ _ _ => rfl) rfl (fun L cdv h₁ hL hk AT => ?_) (by decide +kernel) rfl rfl rfl
  refine wpAny_execs_cons ?_
  refine wpAny_Return_some ?_
  refine w_call ?_
  refine w_builtin AT S₀ n1 (by boot_by_name) ?_
  refine w_callType ?_
  refine wpAny_items_cons ?_
  refine w_local AT rfl ?_
  refine wpAny_items_nil ?_
  obtain ⟨ot, nt, et, ect, edt⟩ := ht.mono AT.keep
  refine w_listCopy (items := tvs.toArray) AT (.inr rfl) et ect edt (by simp; omega) fun D G' h' le A' hD => ?_
  exact h D G' h' _ A'.lf (hS _ _ hSG le) (Rd.list hD (by show Rds G' tvs (l.map .int); exact intsV hv))
end

theorem bind_var {fd : FuncData} {a : Arg} {vals : List Value} (h : fd.params = ⟨[], [], some a, [], [], none, []⟩) (hd : fd.defaults = .none) :
    bindArgs fd ⟨vals, []⟩ = (newTuple vals >>= fun v => pure [(a.arg, v)]) := by
  unfold bindArgs
  rw [h, hd]
  have e : seqItems? .none = pure none := rfl
  simp only [List.map_nil, List.append_nil, List.nil_append, List.zip_nil_left, List.length_nil, List.forIn_nil, pure_bind, e, Option.isNone_some, Bool.and_false, Bool.false_eq_true, if_false, List.drop_nil, List.take_nil, List.filter_nil, List.isEmpty_nil, Bool.not_true, List.filterMap_nil, List.drop_zero]

def tsS : Stmt := (fdBody (stm 11)).getD 0 (.Pass default)
def tsQ : Str := Str.ofString "_law_hand.<locals>._law_touch"
def tsC (cR cM cK cN : Addr) : List (Str × Addr) := [(Str.ofString "rows", cR), (Str.ofString "noted", cN), (Str.ofString "moves", cM), (Str.ofString "keep", cK)]

/-- what the touching function leans on, frozen -/
structure TouchC (mg mb : Str → Option Value) (tf rl ml kf nl cR cM cK cN : Addr) (rls : List Addr) (ix : List Nat) (moves : List Int) (G : Heap) : Prop where
  st : Sta mg mb G
  f : FnAt G tf (fdName tsS) tsQ (fdParams tsS) (fdBody tsS) (fdScope tsS) (tsC cR cM cK cN)
  cr : G.IsCell cR (some (.ref rl))
  cm : G.IsCell cM (some (.ref ml))
  ck : G.IsCell cK (some (.ref kf))
  cn : G.IsCell cN (some (.ref nl))
  rl : G.IsList rl (ix.map fun r => Value.ref (rls.getD r 0)).toArray
  ml : Rd G (.ref ml) (.list (moves.map .int))
  kk : ∀ M : Model, ∃ k, (k = Keeper.frame ∨ k = Keeper.machine ∨ k = Keeper.boundFrame) ∧ Looks M G (keeperOf (.ref kf)) k
theorem TouchC.mono {mg mb : Str → Option Value} {tf rl ml kf nl cR cM cK cN : Addr} {rls : List Addr} {ix : List Nat} {moves : List Int} : ∀ G G', TouchC mg mb tf rl ml kf nl cR cM cK cN rls ix moves G → G.StaysIn G' → TouchC mg mb tf rl ml kf nl cR cM cK cN rls ix moves G' :=
  fun _ _ h k => ⟨h.st.mono k, h.f.mono k, h.cr.keeps k, h.cm.keeps k, h.ck.keeps k, h.cn.keeps k, isList_mono h.rl k, h.ml.mono k, fun M => let ⟨x, a, b⟩ := h.kk M; ⟨x, a, b.keeps k⟩⟩

section
variable {prog : Program} {w : World} {A : Around} {E : Value → Shared → Prop} {s : Shared} {env : Env} {pos : Pos} {Q : Value → Shared → Prop} {M : Model}
theorem w_callKept {G : Heap} {f : Addr} {e : Expr} {rest : List Expr} (F : ∃ k, (k = Keeper.frame ∨ k = Keeper.machine ∨ k = Keeper.boundFrame) ∧ Looks M G (keeperOf (.ref f)) k)
    (h : wpAny M A (spliced (backTo pos (starEach (e :: rest) env))) (fun vs s₁ => G.StaysIn s₁.heap ∧ wpAny M A (call (.ref f) vs) Q E s₁) E s)
    (he : starEach (e :: rest) env = (false, eval e env) :: starEach rest env := by rfl) (hplain : (backTo pos (starEach rest env)).any (·.1) = false := by rfl) :
    wpAny M A (callWith pos (.ref f) [] (backTo pos (starEach (e :: rest) env)) []) Q E s := by
  rw [he] at h ⊢
  refine callWith_of (P := fun h => G.StaysIn h) (by show ((false || (backTo pos (starEach rest env)).any (·.1)) || false) = false; rw [hplain]; rfl) (fun h k => ?_) (evalArgs_plain h)
  obtain ⟨k', a, b⟩ := F
  exact ⟨k', a, b.keeps k⟩
end

abbrev tsE (L tf : Addr) (cdv : Value) (cR cM cK cN : Addr) : Env := envX tsQ (fdScope tsS) L tf cdv (tsC cR cM cK cN)

section
variable {prog : Program} {w : World} {mg mb : Str → Option Value} {A : Around} {E : Value → Shared → Prop} {s : Shared} {X : Ent} {G : Heap} {m : Str → Option Value}
  {tf rl ml kf nl cR cM cK cN L ta : Addr} {cdv : Value} {rls : List Addr} {ix : List Nat} {moves : List Int} {pre ow₀ RL IT : List (Addr × Obj)} {no : Obj} {σ : Sg} {th : Th} {tvs : List Value} {S : Heap → Prop}

theorem noted_own (AT : At X G (pre ++ owOf nl no RL IT ow₀) env m s.heap) : s.heap.get? nl = some no := AT.wd.own (nl, no) (by unfold owOf; simp)

theorem row_at {no : Obj} (hT : TV nl rls ow₀ RL IT no G σ) {r : Nat} (hr : r < σ.lst.length) : ∃ ro, RL[r]? = some (rls.getD r 0, ro) ∧ RowO IT (rls.getD r 0, ro) (rowOf σ r) := by
  obtain ⟨p, hp, hR⟩ := hT.rows.get' (List.getElem?_eq_getElem hr)
  have e1 : p.1 = rls.getD r 0 := by
    rw [← hT.rl, List.getD_eq_getElem?_getD, List.getElem?_map, hp]; rfl
  have e2 : rowOf σ r = σ.lst[r] := by unfold rowOf; rw [List.getD_eq_getElem?_getD, List.getElem?_eq_getElem hr]; rfl
  obtain ⟨a, ro⟩ := p
  cases e1
  exact ⟨ro, hp, by rw [e2]; exact hR⟩

/-- step, n, row -/
theorem touch_head {Q : Flow → Shared → Prop} {rest : List Stmt} (hC : TouchC mg mb tf rl ml kf nl cR cM cK cN rls ix moves G) (nlen : mg "len" = none) (hT : TV nl rls ow₀ RL IT no G σ) (AT : At X G (pre ++ owOf nl no RL IT ow₀) (tsE L tf cdv cR cM cK cN) m s.heap)
    (hne : ix ≠ []) (hz1 : σ.noted.length ≤ 50000) (hz2 : moves.length ≤ 1000) (hz3 : ix.length ≤ 1000) (hmv : ∀ d ∈ moves, 0 ≤ d ∧ d < 72)
    (h : ∀ h' tk t1 t2, At X G (pre ++ owOf nl no RL IT ow₀) (tsE L tf cdv cR cM cK cN) (upd (upd (upd m (Str.ofString "step") (.int (σ.noted.length : Int) t1)) (Str.ofString "n") (.int (moveOf moves σ) t2)) (Str.ofString "row") (.ref (rls.getD (pick ix (moveOf moves σ)) 0))) h' →
      wpAny (model prog w) A (execs rest (tsE L tf cdv cR cM cK cN)) Q E { s with heap := h', toks := tk }) :
    wpAny (model prog w) A (execs ((fdBody tsS).getD 0 (.Pass default) :: (fdBody tsS).getD 1 (.Pass default) :: (fdBody tsS).getD 2 (.Pass default) :: rest) (tsE L tf cdv cR cM cK cN)) Q E s := by
  obtain ⟨nv, pn, rn⟩ := hT.n
  have hnv : nv.size = σ.noted.length := by have := rn.length; simpa using this
  obtain ⟨_, mv, e, hl, hd⟩ := hC.ml.list_inv
  cases e
  have hmvl : mv.size = moves.length := by have := hd.length; simpa using this
  refine wpAny_execs_cons ?_
  refine wpAny_Assign_Name ?_
  refine w_call ?_
  refine w_builtin AT hC.st nlen (by boot_by_name) ?_
  refine w_callBuiltin ?_
  refine wpAny_items_cons ?_
  refine w_free (c := cN) (v := .ref nl) rfl (hC.cn.keeps AT.keep) ?_
  refine wpAny_items_nil ?_
  refine w_len' (pn.isList (noted_own AT)) (by omega) fun t₁ tk₁ => ?_
  rw [hnv]
  refine w_set (s := { s with toks := tk₁ }) AT fun h₂ tk₂ A₂ => ?_
  refine wpAny_execs_cons ?_
  refine wpAny_Assign_Name ?_
  refine IfExp_ ?_
  refine wpAny_isTrue_Compare1 ?_
  refine w_local (s := { s with heap := h₂, toks := tk₂ }) A₂ (upd_self _ _ _) ?_
  refine w_call ?_
  refine w_builtin (s := { s with heap := h₂, toks := tk₂ }) A₂ hC.st nlen (by boot_by_name) ?_
  refine w_callBuiltin ?_
  refine wpAny_items_cons ?_
  refine w_free (s := { s with heap := h₂, toks := tk₂ }) (c := cM) (v := .ref ml) rfl (hC.cm.keeps A₂.keep) ?_
  refine wpAny_items_nil ?_
  refine w_len' (s := { s with heap := h₂, toks := tk₂ }) (isList_mono hl A₂.keep) (by omega) fun t₃ tk₃ => ?_
  refine P.lt_int ?_
  refine w_truthyB ?_
  have fin : ∀ (t2 : Tok) (tk : Tok), wpAny (model prog w) A (storeName (tsE L tf cdv cR cM cK cN) (Str.ofString "n") (.int (moveOf moves σ) t2)) (fun _ s' => wpAny (model prog w) A (execs ((fdBody tsS).getD 2 (.Pass default) :: rest) (tsE L tf cdv cR cM cK cN)) Q E s') E { s with heap := h₂, toks := tk } := by
    intro t2 tk
    refine w_set (s := { s with heap := h₂, toks := tk }) A₂ fun h₄ tk₄ A₄ => ?_
    refine wpAny_execs_cons ?_
    refine wpAny_Assign_Name ?_
    refine Subscript_ ?_
    refine w_free (s := { s with heap := h₄, toks := tk₄ }) (c := cR) (v := .ref rl) rfl (hC.cr.keeps A₄.keep) ?_
    refine wpAny_BinOp ?_
    refine wpAny_BinOp ?_
    refine w_local (s := { s with heap := h₄, toks := tk₄ }) A₄ (upd_self _ _ _) ?_
    refine w_int fun t₅ tk₅ => ?_
    refine w_fdiv (by decide) (PyProof.noPylong_small (by decide)) fun t₆ tk₆ => ?_
    refine w_call ?_
    refine w_builtin (s := { s with heap := h₄, toks := tk₆ }) A₄ hC.st nlen (by boot_by_name) ?_
    refine w_callBuiltin ?_
    refine wpAny_items_cons ?_
    refine w_free (s := { s with heap := h₄, toks := tk₆ }) (c := cR) (v := .ref rl) rfl (hC.cr.keeps A₄.keep) ?_
    refine wpAny_items_nil ?_
    refine w_len' (s := { s with heap := h₄, toks := tk₆ }) (isList_mono hC.rl A₄.keep) (by simp; omega) fun t₇ tk₇ => ?_
    have hlx : 0 < ix.length := List.length_pos_iff.mpr hne
    have es : ((ix.map fun r => Value.ref (rls.getD r 0)).toArray.size : Int) = (ix.length : Int) := by simp
    rw [es]
    refine w_mod (by omega) fun t₈ tk₈ => ?_
    have hb := fmod_bound ((moveOf moves σ).fdiv 6) (b := (ix.length : Int)) (by omega)
    refine item_listL (s := { s with heap := h₄, toks := tk₈ }) (l := ix.map fun r => Value.ref (rls.getD r 0)) (isList_mono hC.rl A₄.keep) hb.1 (by omega) (x := .ref (rls.getD (pick ix (moveOf moves σ)) 0)) ?_ ?_
    · rw [List.getElem?_map]
      have hlt : (((moveOf moves σ).fdiv 6).fmod (ix.length : Int)).toNat < ix.length := by omega
      unfold pick
      rw [List.getElem?_eq_getElem hlt, List.getD_eq_getElem?_getD (l := ix), List.getElem?_eq_getElem hlt]
      rfl
    · refine w_set (s := { s with heap := h₄, toks := tk₈ }) A₄ fun h₉ tk₉ A₉ => ?_
      exact h h₉ tk₉ t₁ t2 A₉
  by_cases hlt : (σ.noted.length : Int) < (mv.size : Int)
  · rw [decide_eq_true hlt]
    show wpAny _ _ _ _ _ _
    refine Subscript_ ?_
    refine w_free (s := { s with heap := h₂, toks := tk₃ }) (c := cM) (v := .ref ml) rfl (hC.cm.keeps A₂.keep) ?_
    refine w_local (s := { s with heap := h₂, toks := tk₃ }) A₂ (upd_self _ _ _) ?_
    have hk : σ.noted.length < mv.toList.length := by simp; omega
    obtain ⟨d, hd1, hd2⟩ := (Rds.all2.mp hd).get (List.getElem?_eq_getElem hk)
    rw [List.getElem?_map] at hd1
    have hkm : σ.noted.length < moves.length := by omega
    rw [List.getElem?_eq_getElem hkm] at hd1
    cases hd1
    obtain ⟨tt, hv⟩ := hd2.int_inv
    refine item_listL (s := { s with heap := h₂, toks := tk₃ }) (l := mv.toList) (by simpa using isList_mono hl A₂.keep) (by omega) (by omega) (by rw [Int.toNat_natCast, List.getElem?_eq_getElem hk, hv]) ?_
    have em : moveOf moves σ = moves[σ.noted.length] := by
      unfold moveOf
      rw [List.getD_eq_getElem?_getD, List.getElem?_eq_getElem hkm]; rfl
    rw [← em]
    exact fin _ _
  · rw [decide_eq_false hlt]
    show wpAny _ _ _ _ _ _
    refine w_int fun t₄ tk₄ => ?_
    have em : moveOf moves σ = 0 := by
      unfold moveOf
      rw [List.getD_eq_getElem?_getD, List.getElem?_eq_none (by omega)]; rfl
    have := fin t₄ tk₄
    rw [em] at this
    exact this
end

section
variable {prog : Program} {w : World} {mg mb : Str → Option Value} {A : Around} {E : Value → Shared → Prop} {s : Shared} {X : Ent} {G : Heap} {m : Str → Option Value}
  {tf rl ml kf nl cR cM cK cN L ta : Addr} {cdv : Value} {rls : List Addr} {ix : List Nat} {moves : List Int} {pre ow₀ RL IT : List (Addr × Obj)} {no : Obj} {σ : Sg} {th : Th} {tvs : List Value} {S : Heap → Prop}

/-- noted.append((keep(things), [len(other) for other in rows])) -/
theorem touch_note {Q : Flow → Shared → Prop} (hS : ∀ G G', S G → G.StaysIn G' → S G') (hSC : ∀ G, S G → TouchC mg mb tf rl ml kf nl cR cM cK cN rls ix moves G) (hK : KeepOk prog w S kf nl rls th) (nlen : mg "len" = none)
    (hSG : S G) (hT : TV nl rls ow₀ RL IT no G σ) (AT : At X G (pre ++ owOf nl no RL IT ow₀) (tsE L tf cdv cR cM cK cN) m s.heap) (hA : Ar A (tsE L tf cdv cR cM cK cN :: X.fs) 4 40)
    (hm : m (Str.ofString "things") = some (.ref ta)) (ht : TupG G ta tvs) (hv : ThV IT th tvs) (htz : tvs.length ≤ 1000)
    (hz1 : σ.noted.length ≤ 50000) (hz3 : ix.length ≤ 1000) (hx : ∀ x ∈ σ.items, x.length ≤ 50000) (hr : ∀ row ∈ σ.lst, row.length ≤ 50000) (hix : ∀ r ∈ ix, r < σ.lst.length)
    (h : ∀ h' tk G' no', G.StaysIn G' → S G' → TV nl rls ow₀ RL IT no' G' (noteP ix σ th) → At X G' (pre ++ owOf nl no' RL IT ow₀) (tsE L tf cdv cR cM cK cN) m h' → Q .next { s with heap := h', toks := tk }) :
    wpAny (model prog w) A (exec ((fdBody tsS).getD 3 (.Pass default)) (tsE L tf cdv cR cM cK cN)) Q E s := by
  have hC := hSC G hSG
  obtain ⟨nv, ⟨nc, pn⟩, rn⟩ := hT.n
  subst pn
  have hnv : nv.size = σ.noted.length := by have := rn.length; simpa using this
  refine wpAny_Expr_any ?_
  refine methodCall_KW ?_
  refine w_free (c := cN) (v := .ref nl) rfl (hC.cn.keeps AT.keep) ?_
  refine getMethod_list_append (noted_own AT) rfl rfl ?_
  refine callWith_method1 ?_
  refine wpAny_items_cons ?_
  refine w_Tuple ?_
  refine wpAny_items_cons ?_
  refine w_call ?_
  refine w_free (c := cK) (v := .ref kf) rfl (hC.ck.keeps AT.keep) ?_
  refine w_callKept (G := G) (hC.kk _) ?_
  refine wpAny_items_cons ?_
  refine w_local AT hm ?_
  refine wpAny_items_nil ⟨AT.keep, ?_⟩
  refine hK A _ G pre ow₀ RL IT _ σ s ta tvs _ _ (hA.less (by omega) (by omega)) hSG hT AT.wd ht hv htz hx fun r₁ G₁ h₁ tk₁ L₁ S₁ kr₁ => ?_
  have A₁ := AT.back L₁
  have C₁ := hSC G₁ S₁
  refine wpAny_items_cons ?_
  refine w_comp (s := { s with heap := h₁, toks := tk₁ }) (cl := []) ?_
  refine w_free (s := { s with heap := h₁, toks := tk₁ }) (c := cR) (v := .ref rl) rfl (C₁.cr.keeps A₁.keep) ?_
  refine wpAny_pyIter_list (s := { s with heap := h₁, toks := tk₁ }) (isList_mono C₁.rl A₁.keep) ?_
  have A₂ := A₁.own_new (h' := h₁.push { cls := .type "list_iterator", data := .fields #[.ref rl, .int 0 0] }) (fun _ _ e => Heap.get?_push_of_some _ e) (size_none _) (Heap.get?_push_size _ rfl)
  refine ⟨h₁.objs.size, _, X, G₁, m, pre ++ owOf nl (lstObj nv nc) RL IT ow₀, fun k io => IsIt io rl k, (ix.map fun r => Value.ref (rls.getD r 0)).toArray.size, fun k v => (ix.map fun r => Value.ref (rls.getD r 0)).toArray[k]? = some v, (lensOf ix σ).map .int, fun _ G' ow => ow = pre ++ owOf nl (lstObj nv nc) RL IT ow₀ ∧ S G',
    rfl, A₂, src_list hA.hd C₁.rl, ⟨rfl, rfl⟩, by simp [lensOf], by simp; omega, ⟨rfl, S₁⟩, fun _ _ _ _ h kp => ⟨h.1, hS _ _ h.2 kp⟩, ?_, ?_⟩
  · rintro k v d C oC L' ao io G' ow' s' Qe Ee hdk hvk ⟨rfl, hSG'⟩ g' A' ⟨mC, hnC, hmC⟩ hq
    have hvk' : (ix.map fun r => Value.ref (rls.getD r 0))[k]? = some v := by simpa using hvk
    rw [List.getElem?_map] at hvk'
    cases qi : ix[k]? with
    | none => rw [qi] at hvk'; cases hvk'
    | some r =>
      rw [qi] at hvk'
      cases hvk'
      have hrl := hix r (List.mem_of_getElem? qi)
      obtain ⟨ro, e1, pr⟩ := row_at hT hrl
      have ed : d = .int ((rowOf σ r).length : Int) := by
        rw [lensOf, List.map_map, List.getElem?_map, qi] at hdk
        cases hdk; rfl
      subst ed
      have C' := hSC G' hSG'
      have eo := A'.wd.own (rls.getD r 0, ro) (by simp; exact .inr (.inr (.inr (.inr (rl_mem (List.mem_of_getElem? e1))))))
      have hlen := hr _ (row_mem hrl)
      refine w_call ?_
      refine w_bltn (G := G') A'.keep C'.st nlen (by boot_by_name) ?_
      refine w_callBuiltin ?_
      refine wpAny_items_cons ?_
      refine w_ns hnC rfl hmC ?_
      refine wpAny_items_nil ?_
      refine w_len' (PlX.isList pr eo) (by simp; omega) fun t₃ tk₃ => ?_
      have es : (((rowOf σ r).map fun i => Value.ref (adOf IT i)).toArray.size : Int) = ((rowOf σ r).length : Int) := by simp
      rw [es]
      exact hq _ G' s'.heap tk₃ _ (stays_refl _) A' ⟨rfl, hSG'⟩ (Rd.int _ _)
  · rintro L' G' h' tk ow' ⟨rfl, hSG'⟩ g' A' hr'
    refine wpAny_items_nil ?_
    refine w_newTuple (s := { s with heap := h', toks := tk }) A' (by simp) fun ta₄ G₄ h₄ le₄ A₄ e₄ => ?_
    refine wpAny_items_nil ?_
    have es : pre ++ owOf nl (lstObj nv nc) RL IT ow₀ = pre ++ (nl, lstObj nv nc) :: (RL ++ (IT ++ ow₀)) := rfl
    rw [es] at A₄
    refine w_appendX (s := { s with heap := h₄, toks := tk }) A₄ ⟨nc, rfl⟩ (by omega) fun h₅ no₅ A₅ p₅ _ => ?_
    have S₄ := hS _ _ hSG' le₄
    have g4 := stays_trans (stays_trans L₁.gr g') le₄
    refine h h₅ tk G₄ no₅ g4 S₄ ⟨⟨_, p₅, ?_⟩, hT.rl, hT.rows, hT.items⟩ A₅
    unfold noteP
    rw [Array.toList_push]
    refine (rn.mono g4).append (Rds.cons (Rd.tup e₄ (Rds.cons (kr₁.mono (stays_trans g' le₄)) (Rds.cons (hr'.mono le₄) Rds.nil))) Rds.nil)
end

theorem split_at {α : Type} {l : List α} {i : Nat} {x : α} (h : l[i]? = some x) : l = l.take i ++ x :: l.drop (i + 1) := by
  have hi := (List.getElem?_eq_some_iff.mp h).1
  have e := (List.getElem?_eq_some_iff.mp h).2
  rw [← e, ← List.drop_eq_getElem_cons hi, List.take_append_drop]
theorem set_at {α : Type} {l : List α} {i : Nat} {y : α} (hi : i < l.length) : l.set i y = l.take i ++ y :: l.drop (i + 1) := List.set_eq_take_append_cons_drop.trans (if_pos hi)
section
variable {pre ow₀ RL IT : List (Addr × Obj)} {nl : Addr} {no : Obj}
theorem ow_row {r : Nat} {p : Addr × Obj} (h : RL[r]? = some p) : pre ++ owOf nl no RL IT ow₀ = (pre ++ (nl, no) :: RL.take r) ++ p :: (RL.drop (r + 1) ++ (IT ++ ow₀)) := by
  unfold owOf
  conv => lhs; rw [split_at h]
  simp
theorem ow_row_set {r : Nat} {p : Addr × Obj} (h : r < RL.length) : (pre ++ (nl, no) :: RL.take r) ++ p :: (RL.drop (r + 1) ++ (IT ++ ow₀)) = pre ++ owOf nl no (RL.set r p) IT ow₀ := by
  unfold owOf
  rw [set_at h]
  simp
theorem ow_item {i : Nat} {p : Addr × Obj} (h : IT[i]? = some p) : pre ++ owOf nl no RL IT ow₀ = (pre ++ (nl, no) :: (RL ++ IT.take i)) ++ p :: (IT.drop (i + 1) ++ ow₀) := by
  unfold owOf
  conv => lhs; rw [split_at h]
  simp
theorem ow_item_set {i : Nat} {p : Addr × Obj} (h : i < IT.length) : (pre ++ (nl, no) :: (RL ++ IT.take i)) ++ p :: (IT.drop (i + 1) ++ ow₀) = pre ++ owOf nl no RL (IT.set i p) ow₀ := by
  unfold owOf
  rw [set_at h]
  simp
theorem ow_new {p : Addr × Obj} : (p :: (pre ++ owOf nl no RL IT ow₀)).Perm (pre ++ owOf nl no RL (IT ++ [p]) ow₀) := by
  have e1 : p :: (pre ++ owOf nl no RL IT ow₀) = p :: ((pre ++ (nl, no) :: (RL ++ IT)) ++ ow₀) := by simp [owOf]
  have e2 : pre ++ owOf nl no RL (IT ++ [p]) ow₀ = (pre ++ (nl, no) :: (RL ++ IT)) ++ p :: ow₀ := by simp [owOf]
  rw [e1, e2]
  exact List.perm_middle.symm
theorem adOf_app {p : Addr × Obj} {i : Nat} (h : i < IT.length) : adOf (IT ++ [p]) i = adOf IT i := by
  unfold adOf
  rw [List.getD_eq_getElem?_getD, List.getD_eq_getElem?_getD, List.map_append, List.getElem?_append_left (by simpa using h)]
theorem adOf_last {p : Addr × Obj} : adOf (IT ++ [p]) IT.length = p.1 := by
  unfold adOf
  rw [List.getD_eq_getElem?_getD, List.map_append, List.getElem?_append_right (by simp)]
  simp
theorem adOf_set {i j : Nat} {o' : Obj} {o : Obj} {a : Addr} (h : IT[i]? = some (a, o)) : adOf (IT.set i (a, o')) j = adOf IT j := by
  unfold adOf
  congr 1
  rw [List.map_set]
  apply List.ext_getElem?
  intro k
  rw [List.getElem?_set]
  split
  · rename_i hk
    subst hk
    split
    · rw [List.getElem?_map, h]; rfl
    · rename_i hn
      rw [List.getElem?_eq_none (by omega)]
  · rfl
theorem RowO.ad {IT' : List (Addr × Obj)} {p : Addr × Obj} {row : List Nat} (h : RowO IT p row) (e : ∀ i ∈ row, adOf IT' i = adOf IT i) : RowO IT' p row := by
  unfold RowO at h ⊢
  have : row.map (fun i => Value.ref (adOf IT' i)) = row.map (fun i => Value.ref (adOf IT i)) := List.map_congr_left fun i hi => by rw [e i hi]
  rw [this]
  exact h
end

section
variable {prog : Program} {w : World} {mg mb : Str → Option Value} {A : Around} {E : Value → Shared → Prop} {s : Shared} {X : Ent} {G : Heap} {ow : List (Addr × Obj)} {m : Str → Option Value} {env : Env}
theorem w_nEq {c n : Int} {t : Tok} {k k' : Nat} {p1 p2 p3 p4 p5 : Pos} {whole : Sem Value} {Q : Bool → Shared → Prop} (AT : At X G ow env m s.heap) (hn : m (Str.ofString "n") = some (.int n t)) (h : ∀ tk, Q (n.fmod 6 == c) { s with toks := tk })
    (hk : env.scope.kind = .function := by rfl) (hx : env.kindOf (Str.ofString "n") = some .local := by rfl) :
    wpAny (model prog w) A (PySem.isTrue (.Compare (.BinOp (.Name (Str.ofString "n") p1) .Mod (.Constant (.int 6) k p2) p3) [.Eq] [.Constant (.int c) k' p4] p5) env whole) Q E s := by
  refine wpAny_isTrue_Compare1 ?_ (by rfl)
  refine wpAny_BinOp ?_
  refine w_local AT hn ?_ hk hx
  refine w_int fun t₁ tk₁ => ?_
  refine w_mod (by decide) fun t₂ tk₂ => ?_
  refine w_int fun t₃ tk₃ => ?_
  refine P.eq_int ?_
  exact w_truthyB (h _)
theorem w_rowTrue {a : Addr} {vs : Array Value} {p : Pos} {whole : Sem Value} {Q : Bool → Shared → Prop} (AT : At X G ow env m s.heap) (hn : m (Str.ofString "row") = some (.ref a)) (hl : s.heap.IsList a vs) (hz : vs.size ≤ 100000)
    (hw : whole = eval (.Name (Str.ofString "row") p) env) (h : ∀ tk, Q (!vs.isEmpty) { s with toks := tk })
    (hk : env.scope.kind = .function := by rfl) (hx : env.kindOf (Str.ofString "row") = some .local := by rfl) :
    wpAny (model prog w) A (PySem.isTrue (.Name (Str.ofString "row") p) env whole) Q E s := by
  subst hw
  refine wpAny_isTrue_value ?_
  refine w_local AT hn ?_ hk hx
  exact wpAny_truthy_list hl (by omega) (h _)
theorem w_nEqRow {c n : Int} {t : Tok} {k k' : Nat} {p1 p2 p3 p4 p5 p6 p7 : Pos} {whole : Sem Value} {a : Addr} {vs : Array Value} {Q : Bool → Shared → Prop} (AT : At X G ow env m s.heap) (hn : m (Str.ofString "n") = some (.int n t))
    (hr : m (Str.ofString "row") = some (.ref a)) (hl : s.heap.IsList a vs) (hz : vs.size ≤ 100000) (h : ∀ tk, Q ((n.fmod 6 == c) && !vs.isEmpty) { s with toks := tk })
    (hk : env.scope.kind = .function := by rfl) (hx : env.kindOf (Str.ofString "n") = some .local := by rfl) (hx2 : env.kindOf (Str.ofString "row") = some .local := by rfl) :
    wpAny (model prog w) A (PySem.isTrue (.BoolOp .And [.Compare (.BinOp (.Name (Str.ofString "n") p1) .Mod (.Constant (.int 6) k p2) p3) [.Eq] [.Constant (.int c) k' p4] p5, .Name (Str.ofString "row") p6] p7) env whole) Q E s := by
  refine isTrue_and ?_
  refine w_nEq AT hn (fun tk₁ => ?_) hk hx
  cases hb : (n.fmod 6 == c) with
  | false =>
    have := h tk₁
    rw [hb, Bool.false_and] at this
    show (if false = true then _ else _)
    rw [if_neg Bool.false_ne_true]
    exact this
  | true =>
    show (if true = true then _ else _)
    rw [if_pos rfl]
    refine isTrue_and ?_
    refine w_rowTrue (s := { s with toks := tk₁ }) AT hr hl hz rfl (fun tk₂ => ?_) hk hx2
    have := h tk₂
    rw [hb, Bool.true_and] at this
    cases hv : (!vs.isEmpty) with
    | false =>
      rw [hv] at this
      show (if false = true then _ else _)
      rw [if_neg Bool.false_ne_true]
      exact this
    | true =>
      rw [hv] at this
      show (if true = true then _ else _)
      rw [if_pos rfl]
      exact isTrue_and_nil this
end

section
variable {prog : Program} {w : World} {mg mb : Str → Option Value} {A : Around} {E : Value → Shared → Prop} {s : Shared} {X : Ent} {G : Heap} {m : Str → Option Value}
  {tf rl ml kf nl cR cM cK cN L : Addr} {cdv : Value} {rls : List Addr} {ix : List Nat} {moves : List Int} {pre ow₀ RL IT : List (Addr × Obj)} {no : Obj} {σ : Sg} {S : Heap → Prop} {n : Int} {step : Nat} {t1 t2 : Tok}

theorem touch_mut {Q : Flow → Shared → Prop} (hS : ∀ G G', S G → G.StaysIn G' → S G') (hSC : ∀ G, S G → TouchC mg mb tf rl ml kf nl cR cM cK cN rls ix moves G) (nlen : mg "len" = none) (nve : mg (Str.ofString "ValueError") = none)
    (hSG : S G) (hT : TV nl rls ow₀ RL IT no G σ) (AT : At X G (pre ++ owOf nl no RL IT ow₀) (tsE L tf cdv cR cM cK cN) m s.heap) (hA : Ar A (tsE L tf cdv cR cM cK cN :: X.fs) 4 40)
    (hn : m (Str.ofString "n") = some (.int n t2)) (hs : m (Str.ofString "step") = some (.int (step : Int) t1)) (hrow : m (Str.ofString "row") = some (.ref (rls.getD (pick ix n) 0)))
    (hp : pick ix n < σ.lst.length) (hids : ∀ row ∈ σ.lst, ∀ i ∈ row, i < σ.items.length) (hr : ∀ row ∈ σ.lst, row.length ≤ 50000) (hx : ∀ x ∈ σ.items, x.length ≤ 50000)
    (h : n.fmod 6 ≠ 5 → ∀ h' tk G' RL' IT', G.StaysIn G' → S G' → TV nl rls ow₀ RL' IT' no G' (mutP ix n step σ) → At X G' (pre ++ owOf nl no RL' IT' ow₀) (tsE L tf cdv cR cM cK cN) m h' → IT.length ≤ IT'.length → (∀ i, i < IT.length → adOf IT' i = adOf IT i) → Q .next { s with heap := h', toks := tk })
    (hE : n.fmod 6 = 5 → ∀ h' tk e, Heap.MadeExcOf s.heap h' e (.type "ValueError") [.int (step : Int) t1] → E (.ref e) { s with heap := h', toks := tk }) :
    wpAny (model prog w) A (exec ((fdBody tsS).getD 4 (.Pass default)) (tsE L tf cdv cR cM cK cN)) Q E s := by
  have hC := hSC G hSG
  obtain ⟨ro, e1, ⟨rc, pr⟩⟩ := row_at hT hp
  have pr : ro = lstObj ((rowOf σ (pick ix n)).map fun i => Value.ref (adOf IT i)).toArray rc := pr
  have rm := row_mem hp
  have hITl : IT.length = σ.items.length := hT.items.length
  have hRLl : RL.length = σ.lst.length := hT.rows.length
  have hpR : pick ix n < RL.length := by rw [hRLl]; exact hp
  have hrl := hr _ rm
  have own_ro : ∀ {h m}, At X G (pre ++ owOf nl no RL IT ow₀) (tsE L tf cdv cR cM cK cN) m h → h.get? (rls.getD (pick ix n) 0) = some ro := fun A' => A'.wd.own (_, ro) (List.mem_append_right _ (rl_mem (List.mem_of_getElem? e1)))
  have lst_ro : ∀ {h m}, At X G (pre ++ owOf nl no RL IT ow₀) (tsE L tf cdv cR cM cK cN) m h → h.IsList (rls.getD (pick ix n) 0) ((rowOf σ (pick ix n)).map fun i => Value.ref (adOf IT i)).toArray := fun A' => PlX.isList ⟨rc, pr⟩ (own_ro A')
  have rowsz : ((rowOf σ (pick ix n)).map fun i => Value.ref (adOf IT i)).toArray.size = (rowOf σ (pick ix n)).length := by simp
  have emp : (!((rowOf σ (pick ix n)).map fun i => Value.ref (adOf IT i)).toArray.isEmpty) = decide (rowOf σ (pick ix n) ≠ []) := by
    cases rowOf σ (pick ix n) <;> simp
  have rlmap : ∀ {o'}, (RL.set (pick ix n) (rls.getD (pick ix n) 0, o')).map (·.1) = rls := fun {o'} => by
    rw [List.map_set, hT.rl]
    apply List.ext_getElem?
    intro k
    rw [List.getElem?_set]
    split
    · rename_i hk
      subst hk
      have : pick ix n < rls.length := by rw [← hT.rl]; simpa using hpR
      rw [if_pos this, List.getD_eq_getElem?_getD, List.getElem?_eq_getElem this]; rfl
    · rfl
  -- a new list of ints lies behind the others
  have newIT : ∀ {D : Addr} {o : Obj} {x : List Int}, ItemO (D, o) x → All2 ItemO (IT ++ [(D, o)]) (σ.items ++ [x]) := fun hi => hT.items.append (.cons hi .nil)
  have oldRows : ∀ {p : Addr × Obj}, All2 (RowO (IT ++ [p])) RL σ.lst := fun {p} => All2.impR hT.rows fun q row hrw hR => RowO.ad hR fun i hi => adOf_app (by rw [hITl]; exact hids row hrw i hi)
  refine wpAny_If ?_
  refine w_nEq AT hn fun tk₁ => ?_
  by_cases c1 : n.fmod 6 = 1
  · have b1 : (n.fmod 6 == 1) = true := by simpa using c1
    rw [b1]
    show wpAny _ _ _ _ _ _
    refine wpAny_execs_cons ?_
    refine wpAny_Expr_any ?_
    refine methodCall_KW ?_
    refine w_local (s := { s with toks := tk₁ }) AT hrow ?_
    refine getMethod_list_append (own_ro AT) (by rw [pr]; rfl) (by rw [pr]; rfl) ?_
    refine callWith_method1 ?_
    refine wpAny_items_cons ?_
    refine w_List ?_
    refine wpAny_items_cons ?_
    refine w_local (s := { s with toks := tk₁ }) AT hn ?_
    refine wpAny_items_cons ?_
    refine w_local (s := { s with toks := tk₁ }) AT hs ?_
    refine wpAny_items_nil ?_
    refine w_newListOwn (s := { s with toks := tk₁ }) AT (by simp) fun D h₂ nD A₂ => ?_
    refine wpAny_items_nil ?_
    have A₃ := A₂.perm ow_new
    rw [ow_row e1] at A₃
    refine w_appendX (s := { s with heap := h₂, toks := tk₁ }) A₃ ⟨rc, pr⟩ (by rw [rowsz]; omega) fun h₄ o₄ A₄ p₄ _ => ?_
    rw [ow_row_set hpR] at A₄
    refine wpAny_execs_nil ?_
    have em : mutP ix n step σ = { σ with lst := σ.lst.set (pick ix n) (rowOf σ (pick ix n) ++ [σ.items.length]), items := σ.items ++ [[n, step]] } := by unfold mutP; simp only [c1, if_true]
    refine h (by omega) h₄ tk₁ G (RL.set (pick ix n) (rls.getD (pick ix n) 0, o₄)) _ (stays_refl _) hSG ?_ A₄ (by simp) fun i hi => adOf_app hi
    rw [em]
    refine ⟨hT.n, rlmap, ?_, newIT ⟨_, ⟨0, rfl⟩, .cons ⟨_, rfl⟩ (.cons ⟨_, rfl⟩ .nil)⟩⟩
    refine All2.set oldRows ?_ _
    show PlX _ o₄
    have e : ((rowOf σ (pick ix n) ++ [σ.items.length]).map fun i => Value.ref (adOf (IT ++ [(D, lstObj [Value.int n t2, Value.int (step : Int) t1].toArray 0)]) i)).toArray = ((rowOf σ (pick ix n)).map fun i => Value.ref (adOf IT i)).toArray.push (.ref D) := by
      apply Array.toList_inj.mp
      rw [Array.toList_push]
      simp only [List.map_append, List.map_cons, List.map_nil]
      rw [← hITl, adOf_last]
      congr 1
      exact List.map_congr_left fun i hi => by rw [adOf_app (by rw [hITl]; exact hids _ rm i hi)]
    rw [e]
    exact p₄
  · have b1 : (n.fmod 6 == 1) = false := by simpa using c1
    rw [b1]
    show wpAny _ _ _ _ _ _
    refine wpAny_execs_cons ?_
    refine wpAny_If ?_
    refine w_nEqRow (s := { s with toks := tk₁ }) AT hn hrow (lst_ro AT) (by rw [rowsz]; omega) fun tk₂ => ?_
    rw [emp]
    by_cases c2 : n.fmod 6 = 2 ∧ rowOf σ (pick ix n) ≠ []
    · have b2 : ((n.fmod 6 == 2) && decide (rowOf σ (pick ix n) ≠ [])) = true := by simp [c2]
      rw [b2]
      show wpAny _ _ _ _ _ _
      refine wpAny_execs_cons ?_
      refine wpAny_Expr_any ?_
      refine methodCall_KW ?_
      refine w_local (s := { s with toks := tk₂ }) AT hrow ?_
      refine getMethod_list_of (s := { s with toks := tk₂ }) F.slot_list_pop (by rfl) (lst_ro AT) ⟨_, own_ro AT, by rw [pr]; rfl⟩ ?_
      refine callWith_method0 ?_
      have A₃ := AT
      rw [ow_row e1] at A₃
      have hlast : ((rowOf σ (pick ix n)).map fun i => Value.ref (adOf IT i)).toArray[((rowOf σ (pick ix n)).map fun i => Value.ref (adOf IT i)).toArray.size - 1]? = some (.ref (adOf IT ((rowOf σ (pick ix n)).getLast c2.2))) := by
        rw [rowsz]
        simp only [List.getElem?_toArray, List.getElem?_map]
        rw [List.getLast_eq_getElem, List.getElem?_eq_getElem (by have := List.length_pos_iff.mpr c2.2; omega)]
        rfl
      refine w_popX (s := { s with toks := tk₂ }) A₃ ⟨rc, pr⟩ (by rw [rowsz]; omega) hlast fun h₄ o₄ A₄ p₄ => ?_
      rw [ow_row_set hpR] at A₄
      refine wpAny_execs_nil ?_
      refine wpAny_execs_nil ?_
      have em : mutP ix n step σ = { σ with lst := σ.lst.set (pick ix n) (rowOf σ (pick ix n)).dropLast } := by
        dsimp only [mutP]
        rw [if_neg c1, if_pos c2]
      refine h (by omega) h₄ tk₂ G (RL.set (pick ix n) (rls.getD (pick ix n) 0, o₄)) IT (stays_refl _) hSG ?_ A₄ (Nat.le_refl _) fun i hi => rfl
      rw [em]
      refine ⟨hT.n, rlmap, ?_, hT.items⟩
      refine All2.set hT.rows ?_ _
      show PlX _ o₄
      rw [List.map_dropLast]
      exact p₄
    · have b2 : ((n.fmod 6 == 2) && decide (rowOf σ (pick ix n) ≠ [])) = false := by
        rw [Bool.and_eq_false_iff]
        by_cases c : n.fmod 6 = 2
        · right; simp at c2; simp [c2 c]
        · left; simpa using c
      rw [b2]
      show wpAny _ _ _ _ _ _
      refine wpAny_execs_cons ?_
      refine wpAny_If ?_
      refine w_nEqRow (s := { s with toks := tk₂ }) AT hn hrow (lst_ro AT) (by rw [rowsz]; omega) fun tk₃ => ?_
      rw [emp]
      by_cases c3 : n.fmod 6 = 3 ∧ rowOf σ (pick ix n) ≠ []
      · have b3 : ((n.fmod 6 == 3) && decide (rowOf σ (pick ix n) ≠ [])) = true := by simp [c3]
        rw [b3]
        show wpAny _ _ _ _ _ _
        have tm := thing_mem c3.2 n
        have tl := hids _ rm _ tm
        obtain ⟨io, x, f1, f2, vs, ⟨ic, px⟩, ax⟩ := item_at hT.items (i := thing (rowOf σ (pick ix n)) n) (by rw [hITl]; exact tl)
        have px : io = lstObj vs ic := px
        have hvl := ax.length
        have hxl := hx x (List.mem_of_getElem? f2)
        have ownI : s.heap.get? (adOf IT (thing (rowOf σ (pick ix n)) n)) = some io := AT.wd.own (_, io) (List.mem_append_right _ (it_mem (List.mem_of_getElem? f1)))
        refine wpAny_execs_cons ?_
        refine wpAny_Expr_any ?_
        refine methodCall_KW ?_
        refine Subscript_ ?_
        refine w_local (s := { s with toks := tk₃ }) AT hrow ?_
        refine wpAny_BinOp ?_
        refine wpAny_BinOp ?_
        refine w_local (s := { s with toks := tk₃ }) AT hn ?_
        refine w_int fun t₄ tk₄ => ?_
        refine w_fdiv (by decide) (PyProof.noPylong_small (by decide)) fun t₅ tk₅ => ?_
        refine w_call ?_
        refine w_builtin (s := { s with toks := tk₅ }) AT hC.st nlen (by boot_by_name) ?_
        refine w_callBuiltin ?_
        refine wpAny_items_cons ?_
        refine w_local (s := { s with toks := tk₅ }) AT hrow ?_
        refine wpAny_items_nil ?_
        refine w_len' (s := { s with toks := tk₅ }) (lst_ro AT) (by rw [rowsz]; omega) fun t₆ tk₆ => ?_
        rw [rowsz]
        have hlx : 0 < (rowOf σ (pick ix n)).length := List.length_pos_iff.mpr c3.2
        refine w_mod (by omega) fun t₇ tk₇ => ?_
        have hb := fmod_bound (n.fdiv 18) (b := ((rowOf σ (pick ix n)).length : Int)) (by omega)
        refine item_listL (s := { s with toks := tk₇ }) (l := (rowOf σ (pick ix n)).map fun i => Value.ref (adOf IT i)) (lst_ro AT) hb.1 (by omega) (x := .ref (adOf IT (thing (rowOf σ (pick ix n)) n))) ?_ ?_
        · rw [List.getElem?_map]
          have hlt : ((n.fdiv 18).fmod ((rowOf σ (pick ix n)).length : Int)).toNat < (rowOf σ (pick ix n)).length := by omega
          unfold thing
          rw [List.getElem?_eq_getElem hlt, List.getD_eq_getElem?_getD (l := rowOf σ (pick ix n)), List.getElem?_eq_getElem hlt]
          rfl
        · refine getMethod_list_append (s := { s with toks := tk₇ }) ownI (by rw [px]; rfl) (by rw [px]; rfl) ?_
          refine callWith_method1 ?_
          refine wpAny_items_cons ?_
          refine w_local (s := { s with toks := tk₇ }) AT hn ?_
          refine wpAny_items_nil ?_
          have A₃ := AT
          rw [ow_item f1] at A₃
          refine w_appendX (s := { s with toks := tk₇ }) A₃ ⟨ic, px⟩ (by simp at hvl; omega) fun h₈ o₈ A₈ p₈ _ => ?_
          have hil := (List.getElem?_eq_some_iff.mp f1).1
          rw [ow_item_set hil] at A₈
          refine wpAny_execs_nil ?_
          refine wpAny_execs_nil ?_
          refine wpAny_execs_nil ?_
          have em : mutP ix n step σ = { σ with items := σ.items.set (thing (rowOf σ (pick ix n)) n) (σ.items.getD (thing (rowOf σ (pick ix n)) n) [] ++ [n]) } := by
            dsimp only [mutP]
            rw [if_neg c1, if_neg c2, if_pos c3]
          refine h (by omega) h₈ tk₇ G RL _ (stays_refl _) hSG ?_ A₈ (by simp) fun i hi => adOf_set f1
          rw [em]
          refine ⟨hT.n, hT.rl, All2.impR hT.rows fun q row hrw hR => RowO.ad hR fun i hi => adOf_set f1, ?_⟩
          refine All2.set hT.items ⟨_, p₈, ?_⟩ _
          have ex : σ.items.getD (thing (rowOf σ (pick ix n)) n) [] = x := by rw [List.getD_eq_getElem?_getD, f2]; rfl
          rw [ex, Array.toList_push]
          exact ax.append (.cons ⟨_, rfl⟩ .nil)
      · have b3 : ((n.fmod 6 == 3) && decide (rowOf σ (pick ix n) ≠ [])) = false := by
          rw [Bool.and_eq_false_iff]
          by_cases c : n.fmod 6 = 3
          · right; simp at c3; simp [c3 c]
          · left; simpa using c
        rw [b3]
        show wpAny _ _ _ _ _ _
        refine wpAny_execs_cons ?_
        refine wpAny_If ?_
        refine w_nEq (s := { s with toks := tk₃ }) AT hn fun tk₄ => ?_
        by_cases c4 : n.fmod 6 = 4
        · have b4 : (n.fmod 6 == 4) = true := by simpa using c4
          rw [b4]
          show wpAny _ _ _ _ _ _
          refine wpAny_execs_cons ?_
          refine wpAny_Expr_any ?_
          refine methodCall_KW ?_
          refine w_local (s := { s with toks := tk₄ }) AT hrow ?_
          refine getMethod_list_of (s := { s with toks := tk₄ }) F.slot_list_insert (by rfl) (lst_ro AT) ⟨_, own_ro AT, by rw [pr]; rfl⟩ ?_
          refine callWith_method1 ?_
          refine wpAny_items_cons ?_
          refine w_int fun t₅ tk₅ => ?_
          refine wpAny_items_cons ?_
          refine w_List ?_
          refine wpAny_items_cons ?_
          refine w_local (s := { s with toks := tk₅ }) AT hs ?_
          refine wpAny_items_nil ?_
          refine w_newListOwn (s := { s with toks := tk₅ }) AT (by simp) fun D h₂ nD A₂ => ?_
          refine wpAny_items_nil ?_
          have A₃ := A₂.perm ow_new
          rw [ow_row e1] at A₃
          refine w_insert0 (s := { s with heap := h₂, toks := tk₅ }) A₃ ⟨rc, pr⟩ (by rw [rowsz]; omega) fun h₄ o₄ A₄ p₄ => ?_
          rw [ow_row_set hpR] at A₄
          refine wpAny_execs_nil ?_
          refine wpAny_execs_nil ?_
          refine wpAny_execs_nil ?_
          refine wpAny_execs_nil ?_
          have em : mutP ix n step σ = { σ with lst := σ.lst.set (pick ix n) (σ.items.length :: rowOf σ (pick ix n)), items := σ.items ++ [[(step : Int)]] } := by
            dsimp only [mutP]
            rw [if_neg c1, if_neg c2, if_neg c3, if_pos c4]
          refine h (by omega) h₄ tk₅ G (RL.set (pick ix n) (rls.getD (pick ix n) 0, o₄)) _ (stays_refl _) hSG ?_ A₄ (by simp) fun i hi => adOf_app hi
          rw [em]
          refine ⟨hT.n, rlmap, ?_, newIT ⟨_, ⟨0, rfl⟩, .cons ⟨_, rfl⟩ .nil⟩⟩
          refine All2.set oldRows ?_ _
          show PlX _ o₄
          have e : ((σ.items.length :: rowOf σ (pick ix n)).map fun i => Value.ref (adOf (IT ++ [(D, lstObj [Value.int (step : Int) t1].toArray 0)]) i)).toArray = (Value.ref D :: ((rowOf σ (pick ix n)).map fun i => Value.ref (adOf IT i)).toArray.toList).toArray := by
            rw [List.map_cons, ← hITl, adOf_last]
            congr 2
            exact List.map_congr_left fun i hi => by rw [adOf_app (by rw [hITl]; exact hids _ rm i hi)]
          rw [e]
          exact p₄
        · have b4 : (n.fmod 6 == 4) = false := by simpa using c4
          rw [b4]
          show wpAny _ _ _ _ _ _
          have em : mutP ix n step σ = σ := by
            dsimp only [mutP]
            rw [if_neg c1, if_neg c2, if_neg c3, if_neg c4]
          refine wpAny_execs_cons ?_
          refine wpAny_If ?_
          refine w_nEq (s := { s with toks := tk₄ }) AT hn fun tk₅ => ?_
          by_cases c5 : n.fmod 6 = 5
          · have b5 : (n.fmod 6 == 5) = true := by simpa using c5
            rw [b5]
            show wpAny _ _ _ _ _ _
            refine wpAny_execs_cons ?_
            refine w_raiseVE (s := { s with toks := tk₅ }) hA.hd AT hC.st nve (fun Q' hq => w_local (s := { s with toks := tk₅ }) AT hs hq) fun h' e hm => ?_
            exact hE c5 h' tk₅ e hm
          · have b5 : (n.fmod 6 == 5) = false := by simpa using c5
            rw [b5]
            show wpAny _ _ _ _ _ _
            refine wpAny_execs_nil ?_
            refine wpAny_execs_nil ?_
            refine wpAny_execs_nil ?_
            refine wpAny_execs_nil ?_
            refine wpAny_execs_nil ?_
            refine h c5 s.heap tk₅ G RL IT (stays_refl _) hSG ?_ AT (Nat.le_refl _) fun i hi => rfl
            rw [em]; exact hT
end

def tsA : Arg := (fdParams tsS).vararg.get rfl
theorem ThV.to {IT IT' : List (Addr × Obj)} {th : Th} {tvs : List Value} (h : ThV IT th tvs) (hl : IT.length ≤ IT'.length) (e : ∀ i, i < IT.length → adOf IT' i = adOf IT i) : ThV IT' th tvs := by
  cases th with
  | nums l => exact h
  | ids l =>
    obtain ⟨rfl, hi⟩ := h
    exact ⟨List.map_congr_left fun i hm => by rw [e i (hi i hm)], fun i hm => Nat.lt_of_lt_of_le (hi i hm) hl⟩
section
variable {prog : Program} {w : World} {mg mb : Str → Option Value} {A : Around} {E : Value → Shared → Prop} {s : Shared} {fs : List Env} {G : Heap} {Q : Value → Shared → Prop}
  {tf rl ml kf nl cR cM cK cN : Addr} {rls : List Addr} {ix : List Nat} {moves : List Int} {pre ow₀ RL IT : List (Addr × Obj)} {no : Obj} {σ σ' : Sg} {th : Th} {tvs : List Value} {S : Heap → Prop} {r : Option (List PyData)} {B : Nat}

theorem touch_spec (hS : ∀ G G', S G → G.StaysIn G' → S G') (hSC : ∀ G, S G → TouchC mg mb tf rl ml kf nl cR cM cK cN rls ix moves G) (hK : KeepOk prog w S kf nl rls th) (nlen : mg "len" = none) (nve : mg (Str.ofString "ValueError") = none)
    (hSG : S G) (hT : TV nl rls ow₀ RL IT no G σ) (W : Wd fs G (pre ++ owOf nl no RL IT ow₀) s.heap) (hA : Ar A fs 8 60) (hv : ThV IT th tvs) (htz : tvs.length ≤ 1000)
    (hok : Ok B moves rls.length ix σ) (hB : B + moves.length ≤ 10000) (hB2 : 2 ≤ B) (hne : ix ≠ []) (hz1 : σ.noted.length ≤ 50000) (hz2 : moves.length ≤ 1000) (hz3 : ix.length ≤ 1000) (hmv : ∀ d ∈ moves, 0 ≤ d ∧ d < 72)
    (hP : touchP moves ix σ th = (σ', r))
    (h : ∀ res, r = some res → ∀ rr G' h' tk ow', TouchV nl rls ow₀ G' σ' ow' → Lf fs G s.heap G' (pre ++ ow') h' → S G' → Rd G' (.ref rr) (.list res) → Q (.ref rr) { s with heap := h', toks := tk })
    (hE : r = none → ∀ e t G' h' tk ow', TouchV nl rls ow₀ G' σ' ow' → Lf fs G s.heap G' (pre ++ ow') h' → S G' → Fly fs G' (pre ++ ow') e (.type "ValueError") [.int (σ.noted.length : Int) t] h' → E (.ref e) { s with heap := h', toks := tk }) :
    wpAny (model prog w) A (call (.ref tf) tvs) Q E s := by
  have hC := hSC G hSG
  have hmin : min σ.noted.length moves.length ≤ moves.length := Nat.min_le_right _ _
  have hr : ∀ row ∈ σ.lst, row.length ≤ 50000 := fun row hm => by have := hok.rows row hm; omega
  have hx : ∀ x ∈ σ.items, x.length ≤ 40000 := fun x hm => by have := hok.lens x hm; omega
  have hix : ∀ r ∈ ix, r < σ.lst.length := fun r hm => by rw [hok.nls]; exact hok.ixs r hm
  have hok' := mut_ok hok hne th hB2
  refine call_vfn (x := Str.ofString "things") W (by have := hA.dp; omega) hC.st.lim hC.f (fun doc pm an cdv ct => bind_var (a := tsA) rfl rfl) rfl (by omega) (fun L ta G₀ cdv h₁ tk₁ le₀ et AT => ?_) (by decide +kernel) rfl rfl rfl
  have S₀ := hS _ _ hSG le₀
  have hA' := hA.less (d' := 5) (u' := 43) (by omega) (by omega) |>.deeper (d := 4) (u := 40) (tsE L tf cdv cR cM cK cN)
  refine touch_head (s := { s with heap := h₁, toks := tk₁ }) (rest := [(fdBody tsS).getD 3 (.Pass default), (fdBody tsS).getD 4 (.Pass default), (fdBody tsS).getD 5 (.Pass default)]) (hSC _ S₀) nlen (hT.mono le₀) AT hne hz1 hz2 hz3 hmv fun h₂ tk₂ t1 t2 A₂ => ?_
  refine wpAny_execs_cons ?_
  refine touch_note (s := { s with heap := h₂, toks := tk₂ }) (th := th) hS hSC hK nlen S₀ (hT.mono le₀) A₂ hA' (upd_ne (upd_ne (upd_ne rfl))) (TupG.of et) hv htz hz1 hz3 (fun x hm => by have := hx x hm; omega) hr hix fun h₃ tk₃ G₃ no₃ le₃ S₃ T₃ A₃ => ?_
  refine wpAny_execs_cons ?_
  have hσ' : σ' = mutP ix (moveOf moves σ) σ.noted.length (noteP ix σ th) := by
    unfold touchP at hP
    dsimp only at hP
    split at hP <;> exact (congrArg Prod.fst hP).symm
  refine touch_mut (s := { s with heap := h₃, toks := tk₃ }) (σ := noteP ix σ th) (n := moveOf moves σ) (step := σ.noted.length) hS hSC nlen nve S₃ T₃ A₃ hA' (upd_ne (upd_self _ _ _)) (upd_ne (upd_ne (upd_self _ _ _))) (upd_self _ _ _) (by show pick ix _ < σ.lst.length; rw [hok.nls]; exact pick_lt hok.ixs hne _) hok.ids hr (fun x hm => by have := hx x hm; omega) ?_ ?_
  · intro hn5 h₄ tk₄ G₄ RL₄ IT₄ le₄ S₄ T₄ A₄ hlIT hadIT
    have hr' : r = some (kd σ' th ++ [.int (σ.noted.length : Int)]) := by
      unfold touchP at hP
      dsimp only at hP
      rw [if_neg hn5] at hP
      rw [hσ']
      exact (congrArg Prod.snd hP).symm
    rw [← hσ'] at T₄ hok'
    have C₄ := hSC G₄ S₄
    refine wpAny_execs_cons ?_
    refine wpAny_Return_some ?_
    refine wpAny_BinOp ?_
    refine w_call ?_
    refine w_free (s := { s with heap := h₄, toks := tk₄ }) (c := cK) (v := .ref kf) rfl (C₄.ck.keeps A₄.keep) ?_
    refine w_callKept (G := G₄) (C₄.kk _) ?_
    refine wpAny_items_cons ?_
    refine w_local (s := { s with heap := h₄, toks := tk₄ }) A₄ (upd_ne (upd_ne (upd_ne rfl))) ?_
    refine wpAny_items_nil ⟨A₄.keep, ?_⟩
    have hTz : ∀ x ∈ σ'.items, x.length ≤ 50000 := fun x hm => by have := hok'.lens x hm; omega
    refine hK _ _ G₄ pre ow₀ RL₄ IT₄ no₃ σ' { s with heap := h₄, toks := tk₄ } ta tvs _ _ (hA'.less (by omega) (by omega)) S₄ T₄ A₄.wd (TupG.of (le₄ _ _ (le₃ _ _ et))) (hv.to hlIT hadIT) htz hTz fun r₅ G₅ h₅ tk₅ L₅ S₅ k₅ => ?_
    have A₅ := A₄.back L₅
    obtain ⟨_, zs, ez, hz5, rz5⟩ := k₅.list_inv
    cases ez
    have hkd : (kd σ' th).length ≤ 1000 := by
      cases th with
      | ids l =>
        obtain ⟨e, _⟩ := hv
        rw [e, List.length_map] at htz
        simpa [kd] using htz
      | nums l =>
        have := All2.length (show All2 (fun v i => ∃ t, v = Value.int i t) tvs l from hv)
        simp [kd]; omega
    have hzs : zs.size = (kd σ' th).length := by have := rz5.length; simpa using this
    refine w_List ?_
    refine wpAny_items_cons ?_
    refine w_local (s := { s with heap := h₅, toks := tk₅ }) A₅ (upd_ne (upd_ne (upd_self _ _ _))) ?_
    refine wpAny_items_nil ?_
    refine w_newList (s := { s with heap := h₅, toks := tk₅ }) A₅ (by simp) fun l₆ G₆ h₆ le₆ A₆ e₆ => ?_
    refine w_addLists (s := { s with heap := h₆, toks := tk₅ }) A₆ (isList_mono (isList_mono hz5 le₆) A₆.keep) (isList_mono e₆ A₆.keep) (by simp; omega) fun l₇ G₇ h₇ le₇ A₇ e₇ => ?_
    have g57 := stays_trans le₆ le₇
    have g07 := stays_trans le₀ (stays_trans le₃ (stays_trans le₄ (stays_trans L₅.gr g57)))
    refine h _ hr' l₇ G₇ h₇ tk₅ (owOf nl no₃ RL₄ IT₄ ow₀) ⟨no₃, RL₄, IT₄, rfl, T₄.mono (stays_trans L₅.gr g57)⟩ A₇.lf (hS _ _ S₅ g57) (Rd.list e₇ ?_)
    rw [Array.toList_append]
    exact (rz5.mono g57).append (Rds.cons (Rd.int _ _) Rds.nil)
  · intro hn5 h₄ tk₄ e hm
    have hr' : r = none := by
      unfold touchP at hP
      dsimp only at hP
      rw [if_pos hn5] at hP
      exact (congrArg Prod.snd hP).symm
    have em : σ' = noteP ix σ th := by
      rw [hσ']
      dsimp only [mutP]
      rw [if_neg (by omega), if_neg (by rintro ⟨q, _⟩; omega), if_neg (by rintro ⟨q, _⟩; omega), if_neg (by omega)]
    refine made_out (s := { s with heap := h₄, toks := tk₄ }) (h₁ := h₃) hA.fr rfl A₃.wd hm fun h₅ F₅ W₅ k₅ => ?_
    have lf := A₃.lf
    refine hE hr' e t1 G₃ h₅ tk₄ (owOf nl no₃ RL IT ow₀) ⟨no₃, RL, IT, rfl, by rw [em]; exact T₃⟩ ⟨lf.gr, W₅, lf.fk.trans k₅⟩ S₃ F₅
end

/-- a run of touches: answers, the failing step if it failed -/
def goP (moves : List Int) (ix : List Nat) (more : Sg → Nat → Bool) (th : Sg → Nat → Th) : Nat → Nat → Sg → Sg × List PyData × Option Int
  | 0, _, σ => (σ, [], none)
  | n + 1, t, σ =>
    if more σ t then
      match touchP moves ix σ (th σ t) with
      | (σ', none) => (σ', [], some (σ.noted.length : Int))
      | (σ', some res) => ((goP moves ix more th n (t + 1) σ').1, .list res :: (goP moves ix more th n (t + 1) σ').2.1, (goP moves ix more th n (t + 1) σ').2.2)
    else (σ, [], none)
def mapMore (ix : List Nat) (σ : Sg) (t : Nat) : Bool := ix.all fun r => decide (t < (rowOf σ r).length)
def mapTh (ix : List Nat) (σ : Sg) (t : Nat) : Th := .ids (ix.map fun r => (rowOf σ r).getD t 0)
def starMore (σ : Sg) (t : Nat) : Bool := decide (t < (rowOf σ 0).length)
def starTh (σ : Sg) (t : Nat) : Th := .nums (σ.items.getD ((rowOf σ 0).getD t 0) [])

theorem touch_fst {moves : List Int} {ix : List Nat} {σ σ' : Sg} {th : Th} {r : Option (List PyData)} (h : touchP moves ix σ th = (σ', r)) : σ' = mutP ix (moveOf moves σ) σ.noted.length (noteP ix σ th) := by
  unfold touchP at h
  dsimp only at h
  split at h <;> exact (congrArg Prod.fst h).symm
theorem touch_ok {B : Nat} {moves : List Int} {nl : Nat} {ix : List Nat} {σ σ' : Sg} {th : Th} {r : Option (List PyData)} (h : touchP moves ix σ th = (σ', r)) (hok : Ok B moves nl ix σ) (hne : ix ≠ []) (hB : 2 ≤ B) : Ok B moves nl ix σ' ∧ σ'.noted.length = σ.noted.length + 1 := by
  rw [touch_fst h]
  refine ⟨mut_ok hok hne th hB, ?_⟩
  rw [mut_noted]
  unfold noteP
  simp

theorem go_run {B : Nat} {moves : List Int} {nl : Nat} {ix : List Nat} {more : Sg → Nat → Bool} {th : Sg → Nat → Th} {step : Option Nat × Sg → Option PyData → Option Nat × Sg → Prop} {rais : Option Nat × Sg → Int → Option Nat × Sg → Prop} (hne : ix ≠ []) (hB : 2 ≤ B)
    (hstop : ∀ t σ, Ok B moves nl ix σ → more σ t = false → step (some t, σ) none (none, σ))
    (hturn : ∀ t σ σ' res, more σ t = true → Ok B moves nl ix σ → σ.noted.length ≤ 50000 → touchP moves ix σ (th σ t) = (σ', some res) → step (some t, σ) (some (.list res)) (some (t + 1), σ'))
    (hfail : ∀ t σ σ', more σ t = true → Ok B moves nl ix σ → σ.noted.length ≤ 50000 → touchP moves ix σ (th σ t) = (σ', none) → rais (some t, σ) σ.noted.length (none, σ'))
    (hend : ∀ t σ, Ok B moves nl ix σ → B + moves.length ≤ t → more σ t = false) :
    ∀ (n t : Nat) (σ : Sg), Ok B moves nl ix σ → B + moves.length ≤ n + t → σ.noted.length + n ≤ 50000 →
      Run step rais (some t, σ) (goP moves ix more th n t σ).2.1 (goP moves ix more th n t σ).2.2 (none, (goP moves ix more th n t σ).1) ∧ Ok B moves nl ix (goP moves ix more th n t σ).1 ∧
        (goP moves ix more th n t σ).2.1.length ≤ n ∧ (goP moves ix more th n t σ).1.noted.length ≤ σ.noted.length + n
  | 0, t, σ, hok, ht, _ => ⟨.stop (hstop _ _ hok (hend _ _ hok (by omega))), hok, Nat.le_refl _, Nat.le_refl _⟩
  | n + 1, t, σ, hok, ht, hn => by
    unfold goP
    cases hm : more σ t with
    | false =>
      simp only [Bool.false_eq_true, if_false]
      exact ⟨.stop (hstop _ _ hok hm), hok, Nat.zero_le _, by omega⟩
    | true =>
      simp only [if_true]
      cases hp : touchP moves ix σ (th σ t) with
      | mk σ' r =>
        obtain ⟨ok', hn'⟩ := touch_ok hp hok hne hB
        cases r with
        | none =>
          simp only
          exact ⟨.rais (hfail _ _ _ hm hok (by omega) hp), ok', Nat.zero_le _, by omega⟩
        | some res =>
          simp only
          obtain ⟨a, b, c, d⟩ := go_run hne hB hstop hturn hfail hend n (t + 1) σ' ok' (by omega) (by omega)
          exact ⟨.turn (hturn _ _ _ _ hm hok (by omega) hp) a, b, by simp; omega, by omega⟩

/-- the lists handed to the map -/
def lsOf (rls : List Addr) (ix : List Nat) : List Addr := ix.map fun r => rls.getD r 0
def lenOf (rls : List Addr) (σ : Sg) (l : Addr) : Nat := (rowOf σ (rls.idxOf l)).length
theorem idx_at {rls : List Addr} (hn : rls.Nodup) {r : Nat} (h : r < rls.length) : rls.idxOf (rls.getD r 0) = r := by
  rw [List.getD_eq_getElem?_getD, List.getElem?_eq_getElem h]
  exact hn.idxOf_getElem r h
theorem isList_uniq {h : Heap} {a : Addr} {u v : Array Value} (x : h.IsList a u) (y : h.IsList a v) : u = v := by
  obtain ⟨o, e, _, n, d⟩ := x
  obtain ⟨o', e', _, n', d'⟩ := y
  rw [e] at e'; cases e'
  rw [d] at d'; cases d'; rfl

section
variable {prog : Program} {w : World} {mg mb : Str → Option Value} {fs : List Env}
  {tf rl ml kf nl cR cM cK cN : Addr} {rls : List Addr} {ix : List Nat} {moves : List Int} {ow₀ : List (Addr × Obj)} {S : Heap → Prop} {B : Nat}

def turnR (B : Nat) (moves : List Int) (nl : Nat) (ix : List Nat) (th : Sg → Nat → Th) (σ : Sg) (t : Nat) (y : PyData) (σ' : Sg) : Prop :=
  Ok B moves nl ix σ ∧ σ.noted.length ≤ 50000 ∧ ∃ res, touchP moves ix σ (th σ t) = (σ', some res) ∧ y = .list res
def failR (B : Nat) (moves : List Int) (nl : Nat) (ix : List Nat) (th : Sg → Nat → Th) (σ : Sg) (t : Nat) (k : Int) (σ' : Sg) : Prop :=
  Ok B moves nl ix σ ∧ σ.noted.length ≤ 50000 ∧ touchP moves ix σ (th σ t) = (σ', none) ∧ k = σ.noted.length

def rowA (IT : List (Addr × Obj)) (row : List Nat) : Array Value := (row.map fun i => Value.ref (adOf IT i)).toArray
theorem row_list {fs : List Env} {G h : Heap} {pre RL IT : List (Addr × Obj)} {no : Obj} {σ : Sg} (hT : TV nl rls ow₀ RL IT no G σ) (W : Wd fs G (pre ++ owOf nl no RL IT ow₀) h) {r : Nat} (hr : r < σ.lst.length) : h.IsList (rls.getD r 0) (rowA IT (rowOf σ r)) := by
  obtain ⟨ro, e, hR⟩ := row_at hT hr
  exact hR.isList (W.own (rls.getD r 0, ro) (List.mem_append_right _ (rl_mem (List.mem_of_getElem? e))))

/-- what the touching function needs of its place -/
structure TouchN (prog : Program) (w : World) (mg mb : Str → Option Value) (tf rl ml kf nl cR cM cK cN : Addr) (rls : List Addr) (ix : List Nat) (moves : List Int) (S : Heap → Prop) (B : Nat) (ths : Th → Prop) : Prop where
  hS : ∀ G G', S G → G.StaysIn G' → S G'
  hSC : ∀ G, S G → TouchC mg mb tf rl ml kf nl cR cM cK cN rls ix moves G
  hK : ∀ th, ths th → KeepOk prog w S kf nl rls th
  nlen : mg "len" = none
  nve : mg (Str.ofString "ValueError") = none
  hB : B + moves.length ≤ 1000
  hB2 : 2 ≤ B
  hne : ix ≠ []
  hz3 : ix.length ≤ 1000
  hmv : ∀ d ∈ moves, 0 ≤ d ∧ d < 72

theorem mapv {IT : List (Addr × Obj)} {row : List Nat} {t : Nat} {v : Value} (h : (rowA IT row)[t]? = some v) : v = .ref (adOf IT (row.getD t 0)) ∧ t < row.length := by
  unfold rowA at h
  rw [List.getElem?_toArray, List.getElem?_map] at h
  cases q : row[t]? with
  | none => rw [q] at h; cases h
  | some i =>
    rw [q] at h
    cases h
    refine ⟨?_, (List.getElem?_eq_some_iff.mp q).1⟩
    rw [List.getD_eq_getElem?_getD, q]; rfl

theorem things_at {fs : List Env} {G h : Heap} {pre RL IT : List (Addr × Obj)} {no : Obj} {σ : Sg} {xs : Addr → Array Value} {v : Addr → Value} {t : Nat} (hT : TV nl rls ow₀ RL IT no G σ) (W : Wd fs G (pre ++ owOf nl no RL IT ow₀) h) (hok : Ok B moves rls.length ix σ)
    (hl : ∀ l ∈ lsOf rls ix, h.IsList l (xs l)) (hv : ∀ l ∈ lsOf rls ix, (xs l)[t]? = some (v l)) : ThV IT (mapTh ix σ t) ((lsOf rls ix).map v) := by
  have hIT : IT.length = σ.items.length := hT.items.length
  have key : ∀ r ∈ ix, v (rls.getD r 0) = .ref (adOf IT ((rowOf σ r).getD t 0)) ∧ (rowOf σ r).getD t 0 < IT.length := by
    intro r hr
    have hrl : r < σ.lst.length := by rw [hok.nls]; exact hok.ixs r hr
    have hm : rls.getD r 0 ∈ lsOf rls ix := List.mem_map.mpr ⟨r, hr, rfl⟩
    have e := isList_uniq (hl _ hm) (row_list hT W hrl)
    have e2 := hv _ hm
    rw [e] at e2
    obtain ⟨a, b⟩ := mapv e2
    exact ⟨a, by rw [hIT]; exact hok.ids _ (row_mem hrl) _ (getD_mem' b)⟩
  refine ⟨?_, fun i hi => ?_⟩
  · unfold lsOf
    rw [List.map_map, List.map_map]
    exact List.map_congr_left fun r hr => (key r hr).1
  · obtain ⟨r, hr, rfl⟩ := List.mem_map.mp hi
    exact (key r hr).2

theorem map_user (N : TouchN prog w mg mb tf rl ml kf nl cR cM cK cN rls ix moves S B (fun th => ∃ l, th = .ids l)) (hnd : rls.Nodup) (fs : List Env) :
    MapUser prog w fs (fun G => S G) 8 60 (.ref tf) (lsOf rls ix) (fun G σ ow => TouchV nl rls ow₀ G σ ow ∧ Ok B moves rls.length ix σ) (lenOf rls) (turnR B moves rls.length ix (mapTh ix)) (failR B moves rls.length ix (mapTh ix)) where
  lists := fun {σ ow G h pre} hV hS W => by
    obtain ⟨⟨no, RL, IT, rfl, hT⟩, hok⟩ := hV
    refine ⟨fun l => rowA IT (rowOf σ (rls.idxOf l)), fun l hl => ?_⟩
    obtain ⟨r, hr, rfl⟩ := List.mem_map.mp hl
    have hrl := hok.ixs r hr
    dsimp only
    rw [idx_at hnd hrl]
    refine ⟨row_list hT W (by rw [hok.nls]; exact hrl), ?_⟩
    unfold lenOf
    rw [idx_at hnd hrl]
    simp [rowA]
  turn := fun {σ t y b} ht A G pre ow s xs v Q E hA hS hV W hl hv h => by
    obtain ⟨⟨no, RL, IT, rfl, hT⟩, _⟩ := hV
    obtain ⟨hok, hn, res, hp, rfl⟩ := ht
    obtain ⟨ok', _⟩ := touch_ok hp hok N.hne N.hB2
    refine touch_spec (S := S) N.hS N.hSC (N.hK _ ⟨_, rfl⟩) N.nlen N.nve hS hT W hA (things_at hT W hok hl hv) (by have := N.hz3; simp [lsOf]; omega) hok (by have := N.hB; omega) N.hB2 N.hne hn (by have := N.hB; omega) N.hz3 N.hmv hp (fun res' e rr G' h' tk ow' hV' l' S' hr => ?_) fun e => by cases e
    cases e
    exact h _ G' h' tk ow' ⟨hV', ok'⟩ l' S' hr
  fail := fun {σ t k b} ht A G pre ow s xs v Q E hA hS hV W hl hv h => by
    obtain ⟨⟨no, RL, IT, rfl, hT⟩, _⟩ := hV
    obtain ⟨hok, hn, hp, rfl⟩ := ht
    obtain ⟨ok', _⟩ := touch_ok hp hok N.hne N.hB2
    refine touch_spec (S := S) N.hS N.hSC (N.hK _ ⟨_, rfl⟩) N.nlen N.nve hS hT W hA (things_at hT W hok hl hv) (by have := N.hz3; simp [lsOf]; omega) hok (by have := N.hB; omega) N.hB2 N.hne hn (by have := N.hB; omega) N.hz3 N.hmv hp (fun res' e => by cases e) fun _ e t G' h' tk ow' hV' l' S' hf => ?_
    exact h e t G' h' tk ow' ⟨hV', ok'⟩ l' S' hf

theorem map_run {σ : Sg} {n : Nat} (hnd : rls.Nodup) (hne : ix ≠ []) (hB : 2 ≤ B) (hok : Ok B moves rls.length ix σ) (hn : B + moves.length ≤ n) (hz : σ.noted.length + n ≤ 50000) :
    Run (MStep (lsOf rls ix) (lenOf rls) (turnR B moves rls.length ix (mapTh ix))) (MFail (lsOf rls ix) (lenOf rls) (failR B moves rls.length ix (mapTh ix))) (some 0, σ) (goP moves ix (mapMore ix) (mapTh ix) n 0 σ).2.1 (goP moves ix (mapMore ix) (mapTh ix) n 0 σ).2.2 (none, (goP moves ix (mapMore ix) (mapTh ix) n 0 σ).1) := by
  have lens : ∀ {t : Nat} {σ : Sg}, Ok B moves rls.length ix σ → mapMore ix σ t = true → ∀ l ∈ lsOf rls ix, t < lenOf rls σ l := fun {t σ} hok hm l hl => by
    obtain ⟨r, hr, rfl⟩ := List.mem_map.mp hl
    unfold lenOf
    rw [idx_at hnd (hok.ixs r hr)]
    exact of_decide_eq_true (List.all_eq_true.mp hm r hr)
  have hend : ∀ {t : Nat} {σ : Sg}, Ok B moves rls.length ix σ → B + moves.length ≤ t → mapMore ix σ t = false := fun {t σ} hok ht => by
    cases hm : mapMore ix σ t with
    | false => rfl
    | true =>
      cases ix with
      | nil => exact absurd rfl hne
      | cons r _ =>
        have h1 := of_decide_eq_true (List.all_eq_true.mp hm r (.head _))
        have h2 := hok.rows _ (row_mem (σ := σ) (r := r) (by rw [hok.nls]; exact hok.ixs r (.head _)))
        have h3 : min σ.noted.length moves.length ≤ moves.length := Nat.min_le_right _ _
        omega
  refine (go_run hne hB ?_ ?_ ?_ (fun t σ a b => hend a b) n 0 σ hok (by omega) hz).1
  · intro t σ hok hm
    have hx : ∃ r ∈ ix, ¬ t < (rowOf σ r).length := Classical.byContradiction fun hc => by
      have : mapMore ix σ t = true := List.all_eq_true.mpr fun r hr => decide_eq_true (Classical.byContradiction fun h => hc ⟨r, hr, h⟩)
      rw [this] at hm; cases hm
    obtain ⟨r, hr, hlt⟩ := hx
    refine .stop ⟨_, List.mem_map.mpr ⟨r, hr, rfl⟩, ?_⟩
    unfold lenOf
    rw [idx_at hnd (hok.ixs r hr)]
    omega
  · intro t σ σ' res hm hok hn hp
    exact .turn (lens hok hm) ⟨hok, hn, res, hp, rfl⟩
  · intro t σ σ' hm hok hn hp
    exact .fail (lens hok hm) ⟨hok, hn, hp, rfl⟩
end

/-- twelve tries at most -/
def runsP (D : Sg → Sg × List PyData × Option Int) : Nat → Sg → Sg × List PyData
  | 0, σ => (σ, [])
  | n + 1, σ => match (D σ).2.2 with
    | none => ((D σ).1, [.list (D σ).2.1])
    | some k => ((runsP D n (D σ).1).1, .str (toString k) :: (runsP D n (D σ).1).2)
theorem runsP_none {D : Sg → Sg × List PyData × Option Int} {n : Nat} {σ : Sg} (h : (D σ).2.2 = none) : runsP D (n + 1) σ = ((D σ).1, [.list (D σ).2.1]) := by
  rw [runsP, h]
theorem runsP_some {D : Sg → Sg × List PyData × Option Int} {n : Nat} {σ : Sg} {k : Int} (h : (D σ).2.2 = some k) : runsP D (n + 1) σ = ((runsP D n (D σ).1).1, .str (toString k) :: (runsP D n (D σ).1).2) := by
  rw [runsP, h]

/-- what a call of the deed does -/
def DeedOk (prog : Program) (w : World) (S : Heap → Prop) (d u : Nat) (df : Addr) (V : List (Addr × Obj) → Heap → Sg → List (Addr × Obj) → Prop) (D : Sg → Sg × List PyData × Option Int) (Inv : Nat → Sg → Prop) : Prop :=
  ∀ (A : Around) (fs : List Env) (G : Heap) (pre ow₀ ow : List (Addr × Obj)) (n : Nat) (σ : Sg) (s : Shared) (Q E : Value → Shared → Prop), Ar A fs d u → S G → V ow₀ G σ ow → Inv (n + 1) σ → Wd fs G (pre ++ ow) s.heap →
    (∀ r G' h' tk ow', (D σ).2.2 = none → V ow₀ G' (D σ).1 ow' → Lf fs G s.heap G' (pre ++ ow') h' → S G' → Rd G' r (.list (D σ).2.1) → Q r { s with heap := h', toks := tk }) →
    (∀ k e t G' h' tk ow', (D σ).2.2 = some k → V ow₀ G' (D σ).1 ow' → Inv n (D σ).1 → k.natAbs.log2 < 1920 → Lf fs G s.heap G' (pre ++ ow') h' → S G' → Fly fs G' (pre ++ ow') e (.type "ValueError") [.int k t] h' → E (.ref e) { s with heap := h', toks := tk }) →
    wpAny (model prog w) A (call (.ref df) []) Q E s

section
variable {prog : Program} {w : World} {mg mb : Str → Option Value} {A : Around} {E : Value → Shared → Prop} {s : Shared} {fs : List Env} {G : Heap} {Q : Value → Shared → Prop} {env : Env} {pos : Pos} {M : Model}
theorem w_call0 {f : Addr} (F : ∃ k, (k = Keeper.frame ∨ k = Keeper.machine ∨ k = Keeper.boundFrame) ∧ Looks M G (keeperOf (.ref f)) k) (k : G.StaysIn s.heap)
    (h : wpAny M A (call (.ref f) []) Q E s) : wpAny M A (callWith pos (.ref f) [] (backTo pos (starEach [] env)) []) Q E s := by
  refine callWith_of (P := fun h => G.StaysIn h) rfl (fun h k => ?_) (PySem.evalArgs_none ⟨k, h⟩)
  obtain ⟨k', a, b⟩ := F
  exact ⟨k', a, b.keeps k⟩

abbrev rnE (L fa : Addr) (cdv : Value) : Env := envX (fdName (stm 14)) (fdScope (stm 14)) L fa cdv []

theorem runs_spec {fa df : Addr} {S : Heap → Prop} {d u n : Nat} {V : List (Addr × Obj) → Heap → Sg → List (Addr × Obj) → Prop} {D : Sg → Sg × List PyData × Option Int} {Inv : Nat → Sg → Prop} {pre ow₀ ow : List (Addr × Obj)} {σ : Sg}
    (hS : ∀ G G', S G → G.StaysIn G' → S G') (hV : ∀ o G G' σ ow, V o G σ ow → G.StaysIn G' → V o G' σ ow) (hD : DeedOk prog w S d u df V D Inv) (hK : ∀ G, S G → ∃ k, (k = Keeper.frame ∨ k = Keeper.machine ∨ k = Keeper.boundFrame) ∧ Looks (model prog w) G (keeperOf (.ref df)) k)
    (hF : ∀ G, S G → FnI G 14 fa ∧ Sta mg mb G) (n1 : mg "range" = none) (n2 : mg (Str.ofString "ValueError") = none) (n3 : mg "str" = none)
    (hA : Ar A fs (d + 1) (u + 10)) (hSG : S G) (hVV : V ow₀ G σ ow) (hi : Inv 12 σ) (W : Wd fs G (pre ++ ow) s.heap)
    (h : ∀ r G' h' tk ow', V ow₀ G' (runsP D 12 σ).1 ow' → Lf fs G s.heap G' (pre ++ ow') h' → S G' → Rd G' (.ref r) (.list (runsP D 12 σ).2) → Q (.ref r) { s with heap := h', toks := tk }) :
    wpAny (model prog w) A (call (.ref fa) [.ref df]) Q E s := by
  obtain ⟨F, S₀⟩ := hF G hSG
  refine call_fn (binds := [(Str.ofString "deed", .ref df)]) W (by have := hA.dp; omega) S₀.lim F (fun _ _ _ _ _ => rfl) rfl (fun L cdv h₁ hL hk AT => ?_) (by decide +kernel) rfl rfl rfl
  have hA' := hA.deeper (d := d) (u := u + 7) (rnE L fa cdv)
  refine wpAny_execs_cons ?_
  refine wpAny_Assign_Name ?_
  refine w_List ?_
  refine wpAny_items_nil ?_
  refine w_newListOwn AT (by simp) fun dl h₂ nd A₂ => ?_
  refine w_set A₂ fun h₃ tk₃ A₃ => ?_
  refine wpAny_execs_cons ?_
  refine wpAny_For ?_ (by intro _; rfl)
  refine w_call ?_
  refine w_builtin (s := { s with heap := h₃, toks := tk₃ }) A₃ S₀ n1 (by boot_by_name) ?_
  refine w_callType ?_
  refine wpAny_items_cons ?_
  refine w_int fun t₄ tk₄ => ?_
  refine wpAny_items_nil ?_
  refine call_range_1 (s := { s with heap := h₃, toks := tk₄ }) ?_
  refine wpAny_pyIter_range (s := { s with heap := _, toks := _ }) (IsRange.new _ _ _ _ _ _ _) (small_one (by decide) (by decide) (by decide) (by decide)) ?_
  have A₄ := A₃.keeps (h' := h₃.push { cls := .type "range", data := .fields #[.int 0 tk₄, .int 12 t₄, .int 1 (tk₄ + 1)] }) fun _ _ e => Heap.get?_push_of_some _ e
  generalize h₃.push { cls := .type "range", data := .fields #[.int 0 tk₄, .int 12 t₄, .int 1 (tk₄ + 1)] } = h₄ at *
  have ers : Builtin.Range.rangeSize 0 12 1 = 12 := by
    rw [rangeSize_one]; rfl
  rw [ers]
  have A₅ := A₄.own_new (h' := h₄.push (rgO 0 12)) (fun _ _ e => Heap.get?_push_of_some _ e) (size_none _) (Heap.get?_push_size _ rfl)
  generalize hI : h₄.objs.size = I at *
  refine codeAny_forLoop (R := fun r s' => match r with | .ok f => _ | .error e => _)
    (fun n s' => ∃ k h' tk G' ow' m' o vs ds σ', n + k = 12 ∧ s' = { s with heap := h', toks := tk } ∧ At ⟨G, s.heap, fs⟩ G' ([(I, rgO k 12), (dl, o)] ++ (pre ++ ow')) (rnE L fa cdv) m' h' ∧ S G' ∧ V ow₀ G' σ' ow' ∧ Inv n σ' ∧ m' (Str.ofString "outcomes") = some (.ref dl) ∧ m' (Str.ofString "deed") = some (.ref df) ∧ PlX vs o ∧ vs.size = k ∧ Rds G' vs.toList ds ∧ runsP D 12 σ = ((runsP D n σ').1, ds ++ (runsP D n σ').2)) ?_ 12
    ⟨0, h₄.push (rgO 0 12), _, G, ow, _, lstObj #[] 0, #[], [], σ, rfl, rfl, A₅, hSG, hVV, hi, upd_self _ _ _, upd_ne rfl, ⟨0, rfl⟩, rfl, Rds.nil, rfl⟩
  rintro n s' ⟨k, h', tk, G', ow', m', o, vs, ds, σ', hn, rfl, A', S', V', i', m1, m2, px, hvs, hrd, hrun⟩
  have src : ItSrc prog w (A.deeper (rnE L fa cdv)) G' I (fun k io => io = rgO k 12) 12 (fun k v => ∃ t, v = .int (k : Int) t) := src_range hA'.hd
  have eI : h'.get? I = some (rgO k 12) := A'.wd.own (I, rgO k 12) (by simp)
  have fin : ∀ (h' : Heap) (tk : Tok) (G' : Heap) (ow' pre' : List (Addr × Obj)) (m' : Str → Option Value) (o : Obj) (vs : Array Value) (ds : List PyData), At ⟨G, s.heap, fs⟩ G' (pre' ++ (dl, o) :: (pre ++ ow')) (rnE L fa cdv) m' h' → S G' → V ow₀ G' (runsP D 12 σ).1 ow' → PlX vs o → Rds G' vs.toList ds → ds = (runsP D 12 σ).2 → Q (.ref dl) { s with heap := h', toks := tk } := by
    intro h' tk G' ow' pre' m' o vs ds A' S' V' px hrd hds
    have ndd := A'.wd.nd
    rw [List.map_append, List.map_cons] at ndd
    have nd2 := List.nodup_cons.mp (List.perm_middle.nodup_iff.mp ndd)
    obtain ⟨G₉, g9, l₉, q9⟩ := A'.leave (ow' := pre ++ ow') (fun p hp => List.mem_append_right _ (.tail _ hp)) (List.nodup_append.mp nd2.2).2.1
    have hdn : dl ∉ (pre ++ ow').map (·.1) := fun q => nd2.1 (List.mem_append_right _ q)
    refine h dl G₉ h' tk ow' (hV _ _ _ _ _ V' g9) l₉ (hS _ _ S' g9) (Rd.list (px.isList (q9 (dl, o) (by simp) hdn)) ?_)
    rw [← hds]
    exact hrd.mono g9
  rcases Nat.lt_or_ge k 12 with hk12 | hk12
  · refine src.item (s := { s with heap := h', toks := tk }) hk12 A'.keep eI rfl fun h₆ io₆ v tk₆ e₆ st₆ hsb₆ hpv => ?_
    subst st₆
    have A₆ := A'.put (pre := []) hsb₆ e₆
    refine wpAny_assign_Name ?_
    refine w_set (s := { s with heap := h₆, toks := tk₆ }) A₆ fun h₇ tk₇ A₇ => ?_
    refine wpAny_execs_cons ?_
    obtain ⟨n, rfl⟩ : ∃ n', n = n' + 1 := ⟨n - 1, by omega⟩
    refine w_tryVE (s := { s with heap := h₇, toks := tk₇ }) (X := ⟨G, s.heap, fs⟩) (mg := mg) (mb := mb) hA'.fr rfl n2
      (fun G' ow m args => ∃ o' ow' kf t, ow = [(I, rgO (k + 1) 12), (dl, o')] ++ (pre ++ ow') ∧ (D σ').2.2 = some kf ∧ args = [.int kf t] ∧ S G' ∧ V ow₀ G' (D σ').1 ow' ∧ Inv n (D σ').1 ∧ kf.natAbs.log2 < 1920 ∧ m (Str.ofString "outcomes") = some (.ref dl) ∧ m (Str.ofString "deed") = some (.ref df) ∧ PlX vs o' ∧ Rds G' vs.toList ds) ?_ ?_ ?_
    · refine wpAny_execs_cons ?_
      refine wpAny_Expr_any ?_
      refine methodCall_KW ?_
      refine w_local (s := { s with heap := h₇, toks := tk₇ }) A₇ (upd_ne m1) ?_
      refine getMethod_list_append (s := { s with heap := h₇, toks := tk₇ }) (A₇.wd.own (dl, o) (by simp)) px.pl.1 px.pl.2.1 ?_
      refine callWith_method1 ?_
      refine wpAny_items_cons ?_
      refine w_call ?_
      refine w_local (s := { s with heap := h₇, toks := tk₇ }) A₇ (upd_ne m2) ?_
      refine w_call0 (G := G') (hK G' S') A₇.keep ?_
      have a7 : [(I, rgO (k + 1) 12)] ++ (dl, o) :: (pre ++ ow') = [(I, rgO (k + 1) 12), (dl, o)] ++ pre ++ ow' := by simp
      refine hD _ _ G' ([(I, rgO (k + 1) 12), (dl, o)] ++ pre) ow₀ ow' n σ' { s with heap := h₇, toks := tk₇ } _ _ (hA'.less (Nat.le_refl _) (by omega)) S' V' i' (by simpa using A₇.wd) (fun r G₈ h₈ tk₈ ow₈ hnone V₈ L₈ S₈ r₈ => ?_) fun kf e t G₈ h₈ tk₈ ow₈ hsome V₈ i₈ hk₈ L₈ S₈ F₈ => ?_
      · have A₈ : At ⟨G, s.heap, fs⟩ G₈ ([(I, rgO (k + 1) 12)] ++ (dl, o) :: (pre ++ ow₈)) (rnE L fa cdv) _ h₈ := A₇.back (by simpa using L₈)
        refine wpAny_items_nil ?_
        refine w_appendX (s := { s with heap := h₈, toks := tk₈ }) A₈ px (by omega) fun h₉ o₉ A₉ p₉ _ => ?_
        refine wpAny_execs_cons ?_
        refine wpAny_Return_some ?_
        refine w_local (s := { s with heap := h₉, toks := tk₈ }) A₉ (upd_ne m1) ?_
        refine ⟨nofun, ?_⟩
        rw [runsP_none hnone] at hrun
        refine fin h₉ tk₈ G₈ ow₈ _ _ o₉ _ (ds ++ [.list (D σ').2.1]) A₉ S₈ (by rw [hrun]; exact V₈) p₉ ?_ (by rw [hrun])
        rw [Array.toList_push]
        exact (hrd.mono L₈.gr).append (Rds.cons r₈ Rds.nil)
      · have A₈ : At ⟨G, s.heap, fs⟩ G₈ ([(I, rgO (k + 1) 12), (dl, o)] ++ (pre ++ ow₈)) (rnE L fa cdv) _ h₈ := A₇.back (by simpa using L₈)
        exact ⟨e, G₈, _, _, _, h₈, tk₈, rfl, rfl, (hF _ S₈).2, ⟨A₈, by simpa using F₈⟩, o, ow₈, kf, t, rfl, hsome, rfl, S₈, V₈, i₈, hk₈, upd_ne m1, upd_ne m2, px, hrd.mono L₈.gr⟩
    · rintro G₁ G₂ ow₁ m₁ args ⟨o', ow', kf, t, a1, a2, a3, a4, a5, a6, a7, a8, a9, a10, a11⟩ kp
      exact ⟨o', ow', kf, t, a1, a2, a3, hS _ _ a4 kp, hV _ _ _ _ _ a5 kp, a6, a7, a8, a9, a10, a11.mono kp⟩
    · rintro a G₈ ow₈ m₈ args h₈ tk₈ Qs Es ⟨o₈, ow', kf, t, rfl, hsome, rfl, S₈, V₈, i₈, hk₈, m1', m2', p₈, r₈⟩ A₈ g₈ hq
      have S0 := (hF _ S₈).2
      refine wpAny_execs_cons ?_
      refine wpAny_Expr_any ?_
      refine methodCall_KW ?_
      refine w_local (s := { s with heap := h₈, toks := tk₈ }) A₈ (upd_ne m1') ?_
      refine getMethod_list_append (s := { s with heap := h₈, toks := tk₈ }) (A₈.wd.own (dl, o₈) (by simp)) p₈.pl.1 p₈.pl.2.1 ?_
      refine callWith_method1 ?_
      refine wpAny_items_cons ?_
      refine w_call ?_
      refine w_builtin (s := { s with heap := h₈, toks := tk₈ }) A₈ S0 n3 (by boot_by_name) ?_
      refine w_callType ?_
      refine wpAny_items_cons ?_
      refine w_local (s := { s with heap := h₈, toks := tk₈ }) A₈ (upd_self _ _ _) ?_
      refine wpAny_items_nil ?_
      refine w_strVE (s := { s with heap := h₈, toks := tk₈ }) g₈ A₈.keep (by have := hA'.un; show (A.deeper (rnE L fa cdv)).units + 2 < cLine; omega) hk₈ fun t₉ tk₉ => ?_
      refine wpAny_items_nil ?_
      have A₈' : At ⟨G, s.heap, fs⟩ G₈ ([(I, rgO (k + 1) 12)] ++ (dl, o₈) :: (pre ++ ow')) (rnE L fa cdv) (upd m₈ (Str.ofString "error") (.ref a)) h₈ := A₈
      refine w_appendX (s := { s with heap := h₈, toks := tk₉ }) A₈' p₈ (by omega) fun h₉ o₉ A₉ p₉ _ => ?_
      refine wpAny_execs_nil ?_
      refine hq G₈ _ _ h₉ tk₉ (stays_refl _) A₉ ⟨_, upd_self _ _ _⟩ fun m₃ h₃ tk₃ A₃ hm₃ => ?_
      refine wpAny_execs_nil ?_
      rw [runsP_some hsome] at hrun
      refine ⟨n, by omega, k + 1, h₃, tk₃, G₈, ow', m₃, o₉, _, ds ++ [.str (toString kf)], (D σ').1, by omega, rfl, A₃, S₈, V₈, i₈, ?_, ?_, p₉, by simp; omega, ?_, by rw [hrun]; simp⟩
      · rw [hm₃ _ (by decide)]; exact upd_ne m1'
      · rw [hm₃ _ (by decide)]; exact upd_ne m2'
      · rw [Array.toList_push]
        exact r₈.append (Rds.cons ⟨_, .str _ _⟩ Rds.nil)
  · have hk : k = 12 := by omega
    subst hk
    refine src.done (s := { s with heap := h', toks := tk }) A'.keep eI rfl fun h₆ hx₆ => ?_
    refine wpAny_execs_nil ?_
    have L₆ := Wd.extBut (pre := []) A'.wd hx₆
    have A₆ := A'.back L₆
    refine wpAny_execs_cons ?_
    refine wpAny_Return_some ?_
    refine w_local (s := { s with heap := h₆, toks := tk }) A₆ m1 ?_
    have hn0 : n = 0 := by omega
    subst hn0
    refine fin h₆ tk G' ow' [] m' o vs ds A₆ S' (by rw [hrun]; exact V') px hrd (by rw [hrun]; simp [runsP])
end

theorem At.tail {X : Ent} {G h : Heap} {p : Addr × Obj} {ow : List (Addr × Obj)} {env : Env} {m : Str → Option Value} (AT : At X G (p :: ow) env m h) : At X G ow env m h :=
  AT.back ⟨stays_refl _, AT.wd.sub (fun q hq => .tail _ hq) (by have := AT.wd.nd; rw [List.map_cons] at this; exact (List.nodup_cons.mp this).2), FK.refl _ _⟩
section
variable {prog : Program} {w : World} {A : Around} {E : Value → Shared → Prop} {s : Shared}
theorem allInts_of {vs : Array Value} {l : List Int} (h : All2 (fun v i => ∃ t, v = Value.int i t) vs.toList l) : ∃ xs : Array (Int × Tok), vs = intItems xs ∧ xs.toList.map (·.1) = l := by
  obtain ⟨vs⟩ := vs
  have key : ∀ {vs : List Value} {l : List Int}, All2 (fun v i => ∃ t, v = Value.int i t) vs l → ∃ xs : List (Int × Tok), vs = xs.map (fun p => Value.int p.1 p.2) ∧ xs.map (·.1) = l := by
    intro vs l h
    induction h with
    | nil => exact ⟨[], rfl, rfl⟩
    | cons x _ ih =>
      obtain ⟨t, rfl⟩ := x
      obtain ⟨xs, rfl, rfl⟩ := ih
      exact ⟨(_, t) :: xs, rfl, rfl⟩
  obtain ⟨xs, e1, e2⟩ := key h
  exact ⟨xs.toArray, by subst e1; simp [intItems], e2⟩
theorem min_ints {l : Addr} {vs : Array Value} {ns : List Int} {Q : Value → Shared → Prop} (hh : A.handled = none) (hl : s.heap.IsList l vs) (hall : All2 (fun v i => ∃ t, v = Value.int i t) vs.toList ns) (hne : ns ≠ [])
    (h : ∀ M t h' tk, M ∈ ns → (∀ a ∈ ns, M ≤ a) → s.heap.StaysIn h' → Q (.int M t) { s with heap := h', toks := tk }) : wpAny (model prog w) A (call (.builtin "min") [.ref l]) Q E s := by
  obtain ⟨xs, rfl, rfl⟩ := allInts_of hall
  have hsz : 0 < xs.size := by
    cases hx : xs.size with
    | zero =>
      have : xs.toList = [] := List.eq_nil_of_length_eq_zero (by simpa using hx)
      rw [this] at hne; exact absurd rfl hne
    | succ n => omega
  refine min_intList hh hl hsz fun v h' tk hv hk => ?_
  obtain ⟨t, rfl⟩ := intItems_at hv
  obtain ⟨h1, h2⟩ := argBest_lt (numAt xs) (xs.size - 1)
  refine h _ t h' tk ?_ (fun a ha => ?_) hk
  · rw [numAt_eq]; exact getD_mem (by rw [List.length_map, Array.length_toList]; omega)
  · obtain ⟨j, hj, rfl⟩ := mem_getD ha
    rw [List.length_map, Array.length_toList] at hj
    rw [← numAt_eq]; exact h2 j (by omega)
end
theorem more_min {ix : List Nat} {σ : Sg} {t : Nat} {M : Int} (h1 : M ∈ lensOf ix σ) (h2 : ∀ a ∈ lensOf ix σ, M ≤ a) : mapMore ix σ t = decide (M > (t : Int)) := by
  unfold lensOf at h1 h2
  obtain ⟨r, hr, rfl⟩ := List.mem_map.mp h1
  unfold mapMore
  by_cases hc : ((rowOf σ r).length : Int) > (t : Int)
  · rw [decide_eq_true hc]
    refine List.all_eq_true.mpr fun r' hr' => decide_eq_true ?_
    have := h2 _ (List.mem_map.mpr ⟨r', hr', rfl⟩)
    omega
  · rw [decide_eq_false hc]
    cases hm : ix.all fun r => decide (t < (rowOf σ r).length) with
    | false => rfl
    | true =>
      have := of_decide_eq_true (List.all_eq_true.mp hm r hr)
      omega

abbrev tuE (L fa : Addr) (cdv : Value) : Env := envX (fdName (stm 12)) (fdScope (stm 12)) L fa cdv (cellsFrom (L + 1) (fdScope (stm 12)).names [])
section
variable {prog : Program} {w : World} {mg mb : Str → Option Value} {fs : List Env} {A : Around} {E : Value → Shared → Prop} {s : Shared} {G : Heap} {Q : Value → Shared → Prop} {X : Ent} {m : Str → Option Value}
  {tf rl ml kf nl cR cM cK cN fa L : Addr} {cdv : Value} {rls : List Addr} {ix : List Nat} {moves : List Int} {pre ow₀ ow : List (Addr × Obj)} {S : Heap → Prop} {B nf t : Nat} {σ : Sg}

/-- min([len(row) for row in rows]) > turn -/
theorem turns_test {Q : Bool → Shared → Prop} {dl : Addr} {o co : Obj} {tt : Tok} (N : TouchN prog w mg mb tf rl ml kf nl cR cM cK cN rls ix moves S B (fun th => ∃ l, th = .ids l)) (n1 : mg "min" = none) (hA : Ar A (tuE L fa cdv :: X.fs) 11 90) (hSG : S G) (hT : TouchV nl rls ow₀ G σ ow) (hok : Ok B moves rls.length ix σ)
    (AT : At X G ((dl, o) :: (L + 1, co) :: (pre ++ ow)) (tuE L fa cdv) m s.heap) (hco : co.data = .cell (some (.int (t : Int) tt))) (hm : m (Str.ofString "rows") = some (.ref rl))
    (h : ∀ h' tk G', G.StaysIn G' → At X G' ((dl, o) :: (L + 1, co) :: (pre ++ ow)) (tuE L fa cdv) m h' → Q (mapMore ix σ t) { s with heap := h', toks := tk }) :
    wpAny (model prog w) A (PySem.isTrue (match (fdBody (stm 12)).getD 2 (.Pass default) with | .While t .. => t | _ => default) (tuE L fa cdv) (eval (match (fdBody (stm 12)).getD 2 (.Pass default) with | .While t .. => t | _ => default) (tuE L fa cdv))) Q E s := by
  obtain ⟨no, RL, IT, rfl, hT⟩ := hT
  have hC := N.hSC G hSG
  have hz3 := N.hz3
  have hB := N.hB
  refine wpAny_isTrue_Compare1 ?_
  refine w_call ?_
  refine w_builtin AT hC.st n1 (by boot_by_name) ?_
  refine w_callBuiltin ?_
  refine wpAny_items_cons ?_
  refine w_comp (cl := []) ?_
  refine w_local AT hm ?_
  refine wpAny_pyIter_list (isList_mono hC.rl AT.keep) ?_
  have A₂ := AT.own_new (h' := s.heap.push { cls := .type "list_iterator", data := .fields #[.ref rl, .int 0 0] }) (fun _ _ e => Heap.get?_push_of_some _ e) (size_none _) (Heap.get?_push_size _ rfl)
  refine ⟨s.heap.objs.size, _, X, G, m, (dl, o) :: (L + 1, co) :: (pre ++ owOf nl no RL IT ow₀), fun k io => IsIt io rl k, (ix.map fun r => Value.ref (rls.getD r 0)).toArray.size, fun k v => (ix.map fun r => Value.ref (rls.getD r 0)).toArray[k]? = some v, (lensOf ix σ).map .int, fun _ G' ow => ow = (dl, o) :: (L + 1, co) :: (pre ++ owOf nl no RL IT ow₀) ∧ S G',
    rfl, A₂, src_list hA.hd hC.rl, ⟨rfl, rfl⟩, by simp [lensOf], by simp; omega, ⟨rfl, hSG⟩, fun _ _ _ _ h kp => ⟨h.1, N.hS _ _ h.2 kp⟩, ?_, ?_⟩
  · rintro k v d C oC L' ao io G' ow' s' Qe Ee hdk hvk ⟨rfl, hSG'⟩ g' A' ⟨mC, hnC, hmC⟩ hq
    have hvk' : (ix.map fun r => Value.ref (rls.getD r 0))[k]? = some v := by simpa using hvk
    rw [List.getElem?_map] at hvk'
    cases qi : ix[k]? with
    | none => rw [qi] at hvk'; cases hvk'
    | some r =>
      rw [qi] at hvk'
      cases hvk'
      have hrl : r < σ.lst.length := by rw [hok.nls]; exact hok.ixs r (List.mem_of_getElem? qi)
      obtain ⟨ro, e1, pr⟩ := row_at hT hrl
      have ed : d = .int ((rowOf σ r).length : Int) := by
        rw [lensOf, List.map_map, List.getElem?_map, qi] at hdk
        cases hdk; rfl
      subst ed
      have C' := N.hSC G' hSG'
      have eo := A'.wd.own (rls.getD r 0, ro) (by simp; exact .inr (.inr (.inr (.inr (.inr (.inr (rl_mem (List.mem_of_getElem? e1))))))))
      have hlen := hok.rows _ (row_mem hrl)
      have hmin : min σ.noted.length moves.length ≤ moves.length := Nat.min_le_right _ _
      refine w_call ?_
      refine w_bltn (G := G') A'.keep C'.st N.nlen (by boot_by_name) ?_
      refine w_callBuiltin ?_
      refine wpAny_items_cons ?_
      refine w_ns hnC rfl hmC ?_
      refine wpAny_items_nil ?_
      refine w_len' (PlX.isList pr eo) (by simp; omega) fun t₃ tk₃ => ?_
      have es : (((rowOf σ r).map fun i => Value.ref (adOf IT i)).toArray.size : Int) = ((rowOf σ r).length : Int) := by simp
      rw [es]
      exact hq _ G' s'.heap tk₃ _ (stays_refl _) A' ⟨rfl, hSG'⟩ (Rd.int _ _)
  · rintro L' G' h' tk ow' ⟨rfl, hSG'⟩ g' A' hr'
    refine wpAny_items_nil ?_
    obtain ⟨_, zs, e, hzs, hrz⟩ := hr'.list_inv
    cases e
    have hints : All2 (fun v i => ∃ t, v = Value.int i t) zs.toList (lensOf ix σ) := by
      have := Rds.all2.mp hrz
      have key : ∀ {vs : List Value} {l : List Int}, All2 (Rd G') vs (l.map .int) → All2 (fun v i => ∃ t, v = Value.int i t) vs l := by
        intro vs l
        induction l generalizing vs with
        | nil => intro h; cases h; exact .nil
        | cons x l ih => intro h; cases h with | cons a b => exact .cons a.int_inv (ih b)
      exact key this
    refine min_ints (s := { s with heap := h', toks := tk }) hA.hd (isList_mono hzs A'.keep) hints (by unfold lensOf; simpa using N.hne) fun M t₃ h₃ tk₃ hM1 hM2 k₃ => ?_
    have A₃ := A'.keeps k₃
    refine w_cell (s := { s with heap := h₃, toks := tk₃ }) (c := L + 1) rfl ⟨co, A₃.wd.own (L + 1, co) (by simp), hco⟩ ?_
    refine P.gt_int ?_
    refine w_truthyB ?_
    have := h h₃ tk₃ G' g' A₃
    rw [more_min hM1 hM2] at this
    exact this
end

theorem goP_stop {moves : List Int} {ix : List Nat} {more : Sg → Nat → Bool} {th : Sg → Nat → Th} {n t : Nat} {σ : Sg} (h : more σ t = false) : goP moves ix more th n t σ = (σ, [], none) := by
  cases n with
  | zero => rfl
  | succ n =>
    unfold goP
    rw [h]
    simp
theorem goP_fail {moves : List Int} {ix : List Nat} {more : Sg → Nat → Bool} {th : Sg → Nat → Th} {n t : Nat} {σ σ' : Sg} (h : more σ t = true) (hp : touchP moves ix σ (th σ t) = (σ', none)) : goP moves ix more th (n + 1) t σ = (σ', [], some (σ.noted.length : Int)) := by
  unfold goP
  rw [h, hp]
  simp
theorem goP_turn {moves : List Int} {ix : List Nat} {more : Sg → Nat → Bool} {th : Sg → Nat → Th} {n t : Nat} {σ σ' : Sg} {res : List PyData} (h : more σ t = true) (hp : touchP moves ix σ (th σ t) = (σ', some res)) :
    goP moves ix more th (n + 1) t σ = ((goP moves ix more th n (t + 1) σ').1, .list res :: (goP moves ix more th n (t + 1) σ').2.1, (goP moves ix more th n (t + 1) σ').2.2) := by
  conv => lhs; unfold goP
  rw [h, hp]
  simp
theorem map_end_ok {B : Nat} {moves : List Int} {nl : Nat} {ix : List Nat} {t : Nat} {σ : Sg} (hok : Ok B moves nl ix σ) (hne : ix ≠ []) (ht : B + moves.length ≤ t) : mapMore ix σ t = false := by
  cases hm : mapMore ix σ t with
  | false => rfl
  | true =>
    cases ix with
    | nil => exact absurd rfl hne
    | cons r _ =>
      have h1 := of_decide_eq_true (List.all_eq_true.mp hm r (.head _))
      have h2 := hok.rows _ (row_mem (σ := σ) (r := r) (by rw [hok.nls]; exact hok.ixs r (.head _)))
      have h3 : min σ.noted.length moves.length ≤ moves.length := Nat.min_le_right _ _
      omega

section
variable {prog : Program} {w : World} {mg mb : Str → Option Value} {fs : List Env} {A : Around} {E : Value → Shared → Prop} {s : Shared} {G : Heap} {X : Ent} {m : Str → Option Value}
  {tf rl ml kf nl cR cM cK cN fa L : Addr} {cdv : Value} {rls : List Addr} {ix : List Nat} {moves : List Int} {pre ow₀ ow : List (Addr × Obj)} {S : Heap → Prop} {B nf t : Nat} {σ : Sg}

/-- answers.append(touch(*[row[turn] for row in rows])) -/
theorem turns_body {Q : Flow → Shared → Prop} {dl : Addr} {o co : Obj} {vs : Array Value} {tt : Tok} (N : TouchN prog w mg mb tf rl ml kf nl cR cM cK cN rls ix moves S B (fun th => ∃ l, th = .ids l)) (hA : Ar A (tuE L fa cdv :: X.fs) 11 90) (hSG : S G) (hT : TouchV nl rls ow₀ G σ ow) (hok : Ok B moves rls.length ix σ) (hz1 : σ.noted.length ≤ 50000)
    (AT : At X G ((dl, o) :: (L + 1, co) :: (pre ++ ow)) (tuE L fa cdv) m s.heap) (hco : co.data = .cell (some (.int (t : Int) tt))) (hm : m (Str.ofString "rows") = some (.ref rl)) (hmt : m (Str.ofString "touch") = some (.ref tf)) (hma : m (Str.ofString "answers") = some (.ref dl))
    (px : PlX vs o) (hvz : vs.size ≤ 50000) (hmore : mapMore ix σ t = true)
    (h : ∀ σ' res rr h' tk G' ow' o', touchP moves ix σ (mapTh ix σ t) = (σ', some res) → G.StaysIn G' → S G' → TouchV nl rls ow₀ G' σ' ow' → At X G' ((dl, o') :: (L + 1, co) :: (pre ++ ow')) (tuE L fa cdv) m h' → PlX (vs.push (.ref rr)) o' → Rd G' (.ref rr) (.list res) → Q .next { s with heap := h', toks := tk })
    (hE : ∀ σ' e tt h' tk G' ow' pre', touchP moves ix σ (mapTh ix σ t) = (σ', none) → G.StaysIn G' → S G' → TouchV nl rls ow₀ G' σ' ow' → At X G' (pre' ++ (pre ++ ow')) (tuE L fa cdv) m h' → Fly (tuE L fa cdv :: X.fs) G' (pre' ++ (pre ++ ow')) e (.type "ValueError") [.int (σ.noted.length : Int) tt] h' → E (.ref e) { s with heap := h', toks := tk }) :
    wpAny (model prog w) A (exec (match (fdBody (stm 12)).getD 2 (.Pass default) with | .While _ b .. => b.getD 0 (.Pass default) | s => s) (tuE L fa cdv)) Q E s := by
  obtain ⟨no, RL, IT, rfl, hT⟩ := hT
  have hC := N.hSC G hSG
  have hz3 := N.hz3
  have hB := N.hB
  have hIT : IT.length = σ.items.length := hT.items.length
  refine wpAny_Expr_any ?_
  refine methodCall_KW ?_
  refine w_local AT hma ?_
  refine getMethod_list_append (AT.wd.own (dl, o) (by simp)) px.pl.1 px.pl.2.1 ?_
  refine callWith_method1 ?_
  refine wpAny_items_cons ?_
  refine w_call ?_
  refine w_local AT hmt ?_
  refine ks_call (P := fun h => G.StaysIn h) (by rfl) (fun h k => let ⟨k', a, b⟩ := keeper_fn hC.f; ⟨k', a, b.keeps k⟩) (ks_lone ?_)
  refine w_compR (cl := [(Str.ofString "turn", L + 1)]) ?_
  refine w_local AT hm ?_
  refine wpAny_pyIter_list (isList_mono hC.rl AT.keep) ?_
  have A₂ := AT.own_new (h' := s.heap.push { cls := .type "list_iterator", data := .fields #[.ref rl, .int 0 0] }) (fun _ _ e => Heap.get?_push_of_some _ e) (size_none _) (Heap.get?_push_size _ rfl)
  refine ⟨s.heap.objs.size, _, X, G, m, (dl, o) :: (L + 1, co) :: (pre ++ owOf nl no RL IT ow₀), fun k io => IsIt io rl k, (ix.map fun r => Value.ref (rls.getD r 0)).toArray.size, fun k v => (ix.map fun r => Value.ref (rls.getD r 0)).toArray[k]? = some v, fun k G' ow vs => ow = (dl, o) :: (L + 1, co) :: (pre ++ owOf nl no RL IT ow₀) ∧ S G' ∧ vs = (ix.take k).map fun r => Value.ref (adOf IT ((rowOf σ r).getD t 0)),
    rfl, A₂, src_list hA.hd hC.rl, ⟨rfl, rfl⟩, by simp; omega, ⟨rfl, hSG, rfl⟩, ?_, ?_⟩
  · rintro k v C oC L' ao io G' ow' vs' s' Qe Ee hk hvk ⟨rfl, hSG', rfl⟩ g' A' ⟨mC, hnC, hmC⟩ hq
    have hvk' : (ix.map fun r => Value.ref (rls.getD r 0))[k]? = some v := by simpa using hvk
    rw [List.getElem?_map] at hvk'
    cases qi : ix[k]? with
    | none => rw [qi] at hvk'; cases hvk'
    | some r =>
      rw [qi] at hvk'
      cases hvk'
      have hri := List.mem_of_getElem? qi
      have hrl : r < σ.lst.length := by rw [hok.nls]; exact hok.ixs r hri
      obtain ⟨ro, e1, pr⟩ := row_at hT hrl
      have eo := A'.wd.own (rls.getD r 0, ro) (by simp; exact .inr (.inr (.inr (.inr (.inr (.inr (rl_mem (List.mem_of_getElem? e1))))))))
      have hlt := of_decide_eq_true (List.all_eq_true.mp hmore r hri)
      refine Subscript_ ?_
      refine w_ns hnC rfl hmC ?_
      refine w_cell (c := L + 1) rfl ⟨co, A'.wd.own (L + 1, co) (by simp), hco⟩ ?_
      refine item_listL (l := (rowOf σ r).map fun i => Value.ref (adOf IT i)) (by simpa using PlX.isList pr eo) (by omega) (by
        have := hok.rows _ (row_mem hrl)
        have hmin : min σ.noted.length moves.length ≤ moves.length := Nat.min_le_right _ _
        simp; try omega) (x := .ref (adOf IT ((rowOf σ r).getD t 0))) ?_ ?_
      · rw [Int.toNat_natCast, List.getElem?_map, List.getElem?_eq_getElem hlt, List.getD_eq_getElem?_getD, List.getElem?_eq_getElem hlt]
        rfl
      · refine hq _ G' s'.heap s'.toks _ (stays_refl _) A' ⟨rfl, hSG', ?_⟩
        rw [List.take_add_one, qi]
        simp
  · rintro L' ao vs' G' h' tk ow' pao hvl ⟨rfl, hSG', hvs'⟩ g' A'
    have hszx : (ix.map fun r => Value.ref (rls.getD r 0)).toArray.size = ix.length := by simp
    rw [hszx, List.take_length] at hvs'
    obtain ⟨c, rfl⟩ := pao
    have eL := A'.wd.own (L', lstObj vs'.toArray c) (by simp)
    refine w_starTup (s := { s with heap := h', toks := tk }) (.inl rfl) eL rfl rfl (by have hz9 : sizeLine = 16777216 := rfl; simp; omega) fun h₃ k₃ => ?_
    have A₃ := A'.keeps k₃
    refine ⟨stays_trans g' A₃.keep, ?_⟩
    have hT' : TV nl rls ow₀ RL IT no G' σ := hT.mono g'
    cases hp : touchP moves ix σ (mapTh ix σ t) with
    | mk σ' r =>
    refine touch_spec (s := { s with heap := h₃, toks := tk }) (pre := (L', lstObj vs'.toArray c) :: (dl, o) :: (L + 1, co) :: pre) (th := mapTh ix σ t) N.hS N.hSC (N.hK _ ⟨_, rfl⟩) N.nlen N.nve hSG' hT' A₃.wd (hA.less (by omega) (by omega)) ?_ (by show vs'.length ≤ 1000; rw [hvl]; simp; omega) hok (by omega) N.hB2 N.hne hz1 (by omega) hz3 N.hmv hp (fun res hr rr G₄ h₄ tk₄ ow₄ V₄ L₄ S₄ r₄ => ?_) fun hr e t₄ G₄ h₄ tk₄ ow₄ V₄ L₄ S₄ F₄ => ?_
    · refine ⟨?_, fun i hi => ?_⟩
      · rw [List.map_map]
        exact hvs'
      · obtain ⟨r, hr, rfl⟩ := List.mem_map.mp hi
        have hrl : r < σ.lst.length := by rw [hok.nls]; exact hok.ixs r hr
        have hlt := of_decide_eq_true (List.all_eq_true.mp hmore r hr)
        rw [hIT]
        exact hok.ids _ (row_mem hrl) _ (getD_mem' hlt)
    · subst hr
      have A₄ : At X G₄ ((dl, o) :: (L + 1, co) :: (pre ++ ow₄)) (tuE L fa cdv) m h₄ := (A₃.back L₄).tail
      refine wpAny_items_nil ?_
      refine w_appendX (s := { s with heap := h₄, toks := tk₄ }) (pre := []) A₄ px (by omega) fun h₅ o₅ A₅ p₅ _ => ?_
      exact h σ' res rr h₅ tk₄ G₄ ow₄ o₅ hp (stays_trans g' L₄.gr) S₄ V₄ A₅ p₅ r₄
    · subst hr
      have A₄ := A₃.back L₄
      exact hE σ' e t₄ h₄ tk₄ G₄ ow₄ [(L', lstObj vs'.toArray c), (dl, o), (L + 1, co)] hp (stays_trans g' L₄.gr) S₄ V₄ A₄ F₄

theorem turns_spec {Q : Value → Shared → Prop} (N : TouchN prog w mg mb tf rl ml kf nl cR cM cK cN rls ix moves S B (fun th => ∃ l, th = .ids l)) (hF : ∀ G, S G → FnI G 12 fa) (n1 : mg "min" = none) (hA : Ar A fs 12 100) (hSG : S G) (hT : TouchV nl rls ow₀ G σ ow) (hok : Ok B moves rls.length ix σ)
    (hnf : B + moves.length ≤ nf) (hnf2 : nf ≤ 1000) (hz : σ.noted.length + nf ≤ 50000) (W : Wd fs G (pre ++ ow) s.heap)
    (h : ∀ r G' h' tk ow', (goP moves ix (mapMore ix) (mapTh ix) nf 0 σ).2.2 = none → TouchV nl rls ow₀ G' (goP moves ix (mapMore ix) (mapTh ix) nf 0 σ).1 ow' → Lf fs G s.heap G' (pre ++ ow') h' → S G' → Rd G' r (.list (goP moves ix (mapMore ix) (mapTh ix) nf 0 σ).2.1) → Q r { s with heap := h', toks := tk })
    (hE : ∀ k e t G' h' tk ow', (goP moves ix (mapMore ix) (mapTh ix) nf 0 σ).2.2 = some k → TouchV nl rls ow₀ G' (goP moves ix (mapMore ix) (mapTh ix) nf 0 σ).1 ow' → Lf fs G s.heap G' (pre ++ ow') h' → S G' → Fly fs G' (pre ++ ow') e (.type "ValueError") [.int k t] h' → E (.ref e) { s with heap := h', toks := tk }) :
    wpAny (model prog w) A (call (.ref fa) [.ref tf, .ref rl]) Q E s := by
  have S₀ := (N.hSC G hSG).st
  refine call_fnC (binds := [(Str.ofString "touch", .ref tf), (Str.ofString "rows", .ref rl)]) W (by have := hA.dp; omega) S₀.lim (hF G hSG) (fun _ _ _ _ _ => rfl) rfl (fun L cdv h₁ tk₁ cells hL hk hcdv CA AT => ?_) (by decide +kernel) rfl rfl rfl
  obtain ⟨co, rfl, hco⟩ := CA.one
  have hA' := hA.deeper (d := 11) (u := 97) (tuE L fa cdv)
  refine wpAny_execs_cons ?_
  refine wpAny_Assign_Name ?_
  refine w_List ?_
  refine wpAny_items_nil ?_
  refine w_newListOwn (s := { s with heap := h₁, toks := tk₁ }) AT (by simp) fun dl h₂ nd A₂ => ?_
  refine w_set (s := { s with heap := h₂, toks := tk₁ }) A₂ fun h₃ tk₃ A₃ => ?_
  refine wpAny_execs_cons ?_
  refine wpAny_Assign_Name ?_
  refine w_int fun t₄ tk₄ => ?_
  refine wpAny_storeName_cell (s := { s with heap := h₃, toks := tk₄ }) (c := L + 1) rfl rfl rfl ⟨co, A₃.wd.own (L + 1, co) (by simp), hco⟩ fun h₅ hc₅ hs₅ => ?_
  obtain ⟨co₅, hco1, hco2⟩ := hc₅
  have A₅ := A₃.put (pre := [(dl, lstObj #[] 0)]) hs₅ hco1
  refine wpAny_execs_cons ?_
  refine wpAny_While ?_
  refine codeAny_whileLoop (fun n s' => ∃ t h' tk G' ow' m' o co vs ds σ' tt, B + moves.length ≤ n + t ∧ n + t = nf ∧ s' = { s with heap := h', toks := tk } ∧ At ⟨G, s.heap, fs⟩ G' ((dl, o) :: (L + 1, co) :: (pre ++ ow')) (tuE L fa cdv) m' h' ∧ G.StaysIn G' ∧ S G' ∧ TouchV nl rls ow₀ G' σ' ow' ∧ Ok B moves rls.length ix σ' ∧ σ'.noted.length + n ≤ 50000 ∧
      m' (Str.ofString "answers") = some (.ref dl) ∧ m' (Str.ofString "touch") = some (.ref tf) ∧ m' (Str.ofString "rows") = some (.ref rl) ∧ co.data = .cell (some (.int ((t : Nat) : Int) tt)) ∧ PlX vs o ∧ vs.size = t ∧ Rds G' vs.toList ds ∧
      goP moves ix (mapMore ix) (mapTh ix) nf 0 σ = ((goP moves ix (mapMore ix) (mapTh ix) n t σ').1, ds ++ (goP moves ix (mapMore ix) (mapTh ix) n t σ').2.1, (goP moves ix (mapMore ix) (mapTh ix) n t σ').2.2)) ?_ nf
    ⟨0, h₅, _, G, ow, _, lstObj #[] 0, co₅, #[], [], σ, t₄, by omega, rfl, rfl, A₅, stays_refl _, hSG, hT, hok, hz, upd_self _ _ _, upd_ne rfl, upd_ne rfl, hco2, ⟨0, rfl⟩, rfl, Rds.nil, rfl⟩
  rintro n s' ⟨t, h', tk, G', ow', m', o, co', vs, ds, σ', tt, hnt, hnt2, rfl, A', gG, S', V', ok', hz', m1, m2, m3, hc', px, hvs, hrd, hgo⟩
  refine wpAny_passesOwn out_passes ?_
  refine turns_test (s := { s with heap := h', toks := tk }) N n1 (hA'.less (by omega) (by omega)) S' V' ok' A' hc' m3 fun h₆ tk₆ G₆ g₆ A₆ => ?_
  have S₆ := N.hS _ _ S' g₆
  have V₆ := TouchV.mono _ _ _ _ V' g₆
  cases hmore : mapMore ix σ' t with
  | false =>
    show wpAny _ _ _ _ _ _
    refine wpAny_execs_nil ?_
    refine wpAny_execs_cons ?_
    refine wpAny_Return_some ?_
    refine w_local (s := { s with heap := h₆, toks := tk₆ }) A₆ m1 ?_
    rw [goP_stop hmore] at hgo
    have ndd := A₆.wd.nd
    simp only [List.map_cons, List.nodup_cons, List.mem_cons, not_or] at ndd
    obtain ⟨G₉, g9, l₉, q9⟩ := A₆.leave (ow' := pre ++ ow') (fun p hp => .tail _ (.tail _ hp)) ndd.2.2
    refine h (.ref dl) G₉ h₆ tk₆ ow' (by rw [hgo]) (by rw [hgo]; exact TouchV.mono _ _ _ _ V₆ g9) l₉ (N.hS _ _ S₆ g9) ?_
    rw [hgo]
    refine Rd.list (px.isList (q9 (dl, o) (by simp) ndd.1.2)) ?_
    simpa using hrd.mono (stays_trans g₆ g9)
  | true =>
    show wpAny _ _ _ _ _ _
    cases n with
    | zero => rw [map_end_ok ok' N.hne (by omega)] at hmore; cases hmore
    | succ n =>
      refine wpAny_passesOwn out_passes ?_
      refine wpAny_execs_cons ?_
      refine turns_body (s := { s with heap := h₆, toks := tk₆ }) N (hA'.less (by omega) (by omega)) S₆ V₆ ok' (by omega) A₆ hc' m3 m2 m1 px (by omega) hmore (fun σ₇ res rr h₇ tk₇ G₇ ow₇ o₇ hp g₇ S₇ V₇ A₇ p₇ r₇ => ?_) fun σ₇ e te h₇ tk₇ G₇ ow₇ pre₇ hp g₇ S₇ V₇ A₇ F₇ => ?_
      · obtain ⟨ok₇, hn₇⟩ := touch_ok hp ok' N.hne N.hB2
        refine wpAny_execs_cons ?_
        refine wpAny_AugAssign_Name ?_
        refine wpAny_loadName_cell (s := { s with heap := h₇, toks := tk₇ }) (c := L + 1) rfl rfl rfl ⟨co', A₇.wd.own (L + 1, co') (by simp), hc'⟩ ?_
        refine w_int fun t₈ tk₈ => ?_
        refine w_iadd fun t₉ tk₉ => ?_
        refine wpAny_storeName_cell (s := { s with heap := h₇, toks := tk₉ }) (c := L + 1) rfl rfl rfl ⟨co', A₇.wd.own (L + 1, co') (by simp), hc'⟩ fun h₈ hc₈ hs₈ => ?_
        obtain ⟨co₈, hc81, hc82⟩ := hc₈
        have A₈ := A₇.put (pre := [(dl, o₇)]) hs₈ hc81
        refine wpAny_execs_nil ?_
        rw [goP_turn hmore hp] at hgo
        refine ⟨n, by omega, t + 1, h₈, tk₉, G₇, ow₇, m', o₇, co₈, _, ds ++ [.list res], σ₇, t₉, by omega, by omega, rfl, A₈, stays_trans gG (stays_trans g₆ g₇), S₇, V₇, ok₇, by omega, m1, m2, m3, ?_, p₇, by simp; omega, ?_, by rw [hgo]; simp⟩
        · rw [hc82]
          norm_cast
        · rw [Array.toList_push]
          exact (hrd.mono (stays_trans g₆ g₇)).append (Rds.cons r₇ Rds.nil)
      · rw [goP_fail hmore hp] at hgo
        refine fly_out (s := { s with heap := h₇, toks := tk₇ }) hA.fr rfl A₇.wd F₇ fun h₈ F₈ W₈ k₈ => ?_
        have nd₇ := W₈.nd
        rw [List.map_append] at nd₇
        have lf := A₇.lf
        refine hE σ'.noted.length e te G₇ h₈ tk₇ ow₇ (by rw [hgo]) (by rw [hgo]; exact V₇) ⟨stays_trans gG (stays_trans g₆ g₇), W₈.sub (fun p hp => List.mem_append_right _ hp) (List.nodup_append.mp nd₇).2.1, A₇.fk.trans k₈⟩ S₇ (F₈.sub fun p hp => List.mem_append_right _ hp)
end

theorem star_end_ok {B : Nat} {moves : List Int} {nl : Nat} {t : Nat} {σ : Sg} (hok : Ok B moves nl [0] σ) (ht : B + moves.length ≤ t) : starMore σ t = false := by
  unfold starMore
  have h2 := hok.rows _ (row_mem (σ := σ) (r := 0) (by rw [hok.nls]; exact hok.ixs 0 (.head _)))
  have h3 : min σ.noted.length moves.length ≤ moves.length := Nat.min_le_right _ _
  exact decide_eq_false (by omega)
abbrev spE (L fa : Addr) (cdv : Value) : Env := envX (fdName (stm 13)) (fdScope (stm 13)) L fa cdv []

section
variable {prog : Program} {w : World} {mg mb : Str → Option Value} {fs : List Env} {A : Around} {E : Value → Shared → Prop} {s : Shared} {G : Heap} {X : Ent} {m : Str → Option Value}
  {tf rl ml kf nl cR cM cK cN fa L : Addr} {cdv : Value} {rls : List Addr} {moves : List Int} {pre ow₀ ow : List (Addr × Obj)} {S : Heap → Prop} {B nf t : Nat} {σ : Sg}

/-- the row of the table, and what stands in it -/
theorem star_at {RL IT : List (Addr × Obj)} {no : Obj} {h : Heap} {fs : List Env} {pre : List (Addr × Obj)} (hT : TV nl rls ow₀ RL IT no G σ) (hok : Ok B moves rls.length [0] σ) (W : Wd fs G (pre ++ owOf nl no RL IT ow₀) h) :
    h.IsList (rls.getD 0 0) (rowA IT (rowOf σ 0)) ∧ ∀ t, starMore σ t = true → ∃ ta vs c x, (rowA IT (rowOf σ 0))[t]? = some (.ref ta) ∧ h.get? ta = some (lstObj vs c) ∧ All2 (fun v i => ∃ t, v = Value.int i t) vs.toList x ∧ starTh σ t = .nums x ∧ x ∈ σ.items := by
  have hrl : 0 < σ.lst.length := by rw [hok.nls]; exact hok.ixs 0 (.head _)
  refine ⟨row_list hT W hrl, fun t hm => ?_⟩
  have hlt : t < (rowOf σ 0).length := of_decide_eq_true hm
  have hIT : IT.length = σ.items.length := hT.items.length
  have hi := hok.ids _ (row_mem hrl) _ (getD_mem' (d := 0) hlt)
  obtain ⟨o, x, e1, e2, vs, ⟨c, rfl⟩, ax⟩ := item_at hT.items (i := (rowOf σ 0).getD t 0) (by rw [hIT]; exact hi)
  refine ⟨_, vs, c, x, ?_, W.own (adOf IT ((rowOf σ 0).getD t 0), lstObj vs c) (List.mem_append_right _ (it_mem (List.mem_of_getElem? e1))), ax, ?_, List.mem_of_getElem? e2⟩
  · unfold rowA
    rw [List.getElem?_toArray, List.getElem?_map, List.getElem?_eq_getElem hlt, List.getD_eq_getElem?_getD, List.getElem?_eq_getElem hlt]
    rfl
  · unfold starTh
    rw [List.getD_eq_getElem?_getD (l := σ.items), e2]; rfl

theorem spread_spec {Q : Value → Shared → Prop} (N : TouchN prog w mg mb tf rl ml kf nl cR cM cK cN rls [0] moves S B (fun th => ∃ l, th = .nums l)) (hF : ∀ G, S G → FnI G 13 fa) (hA : Ar A fs 12 100) (hSG : S G) (hT : TouchV nl rls ow₀ G σ ow) (hok : Ok B moves rls.length [0] σ)
    (hnf : B + moves.length ≤ nf) (hnf2 : nf ≤ 1000) (hz : σ.noted.length + nf ≤ 50000) (W : Wd fs G (pre ++ ow) s.heap)
    (h : ∀ r G' h' tk ow', (goP moves [0] starMore starTh nf 0 σ).2.2 = none → TouchV nl rls ow₀ G' (goP moves [0] starMore starTh nf 0 σ).1 ow' → Lf fs G s.heap G' (pre ++ ow') h' → S G' → Rd G' r (.list (goP moves [0] starMore starTh nf 0 σ).2.1) → Q r { s with heap := h', toks := tk })
    (hE : ∀ k e t G' h' tk ow', (goP moves [0] starMore starTh nf 0 σ).2.2 = some k → TouchV nl rls ow₀ G' (goP moves [0] starMore starTh nf 0 σ).1 ow' → Lf fs G s.heap G' (pre ++ ow') h' → S G' → Fly fs G' (pre ++ ow') e (.type "ValueError") [.int k t] h' → E (.ref e) { s with heap := h', toks := tk }) :
    wpAny (model prog w) A (call (.ref fa) [.ref tf, .ref (rls.getD 0 0)]) Q E s := by
  have S₀ := (N.hSC G hSG).st
  have hB := N.hB
  refine call_fn (binds := [(Str.ofString "touch", .ref tf), (Str.ofString "table", .ref (rls.getD 0 0))]) W (by have := hA.dp; omega) S₀.lim (hF G hSG) (fun _ _ _ _ _ => rfl) rfl (fun L cdv h₁ hL hk AT => ?_) (by decide +kernel) rfl rfl rfl
  have hA' := hA.deeper (d := 11) (u := 97) (spE L fa cdv)
  refine wpAny_execs_cons ?_
  refine wpAny_Assign_Name ?_
  refine w_List ?_
  refine wpAny_items_nil ?_
  refine w_newListOwn AT (by simp) fun dl h₂ nd A₂ => ?_
  refine w_set A₂ fun h₃ tk₃ A₃ => ?_
  refine wpAny_execs_cons ?_
  refine wpAny_Assign_Name ?_
  refine w_int fun t₄ tk₄ => ?_
  refine w_set (s := { s with heap := h₃, toks := tk₄ }) A₃ fun h₅ tk₅ A₅ => ?_
  refine wpAny_execs_cons ?_
  refine wpAny_While ?_
  refine codeAny_whileLoop (fun n s' => ∃ t h' tk G' ow' m' o vs ds σ' tt, B + moves.length ≤ n + t ∧ n + t = nf ∧ s' = { s with heap := h', toks := tk } ∧ At ⟨G, s.heap, fs⟩ G' ((dl, o) :: (pre ++ ow')) (spE L fa cdv) m' h' ∧ G.StaysIn G' ∧ S G' ∧ TouchV nl rls ow₀ G' σ' ow' ∧ Ok B moves rls.length [0] σ' ∧ σ'.noted.length + n ≤ 50000 ∧
      m' (Str.ofString "answers") = some (.ref dl) ∧ m' (Str.ofString "touch") = some (.ref tf) ∧ m' (Str.ofString "table") = some (.ref (rls.getD 0 0)) ∧ m' (Str.ofString "turn") = some (.int ((t : Nat) : Int) tt) ∧ PlX vs o ∧ vs.size = t ∧ Rds G' vs.toList ds ∧
      goP moves [0] starMore starTh nf 0 σ = ((goP moves [0] starMore starTh n t σ').1, ds ++ (goP moves [0] starMore starTh n t σ').2.1, (goP moves [0] starMore starTh n t σ').2.2)) ?_ nf
    ⟨0, h₅, tk₅, G, ow, _, lstObj #[] 0, #[], [], σ, t₄, by omega, rfl, rfl, A₅, stays_refl _, hSG, hT, hok, hz, upd_ne (upd_self _ _ _), upd_ne (upd_ne rfl), upd_ne (upd_ne rfl), upd_self _ _ _, ⟨0, rfl⟩, rfl, Rds.nil, rfl⟩
  rintro n s' ⟨t, h', tk, G', ow', m', o, vs, ds, σ', tt, hnt, hnt2, rfl, A', gG, S', V', ok', hz', m1, m2, m3, m4, px, hvs, hrd, hgo⟩
  refine wpAny_passesOwn out_passes ?_
  obtain ⟨no, RL, IT, rfl, hT'⟩ := id V'
  have hC := N.hSC G' S'
  obtain ⟨hrow, hst⟩ := star_at (pre := (dl, o) :: pre) hT' ok' A'.wd
  have hrz : (rowOf σ' 0).length ≤ 1000 := by
    have h2 := ok'.rows _ (row_mem (σ := σ') (r := 0) (by rw [ok'.nls]; exact ok'.ixs 0 (.head _)))
    have h3 : min σ'.noted.length moves.length ≤ moves.length := Nat.min_le_right _ _
    omega
  have hrs : (rowA IT (rowOf σ' 0)).size = (rowOf σ' 0).length := by simp [rowA]
  refine wpAny_isTrue_Compare1 ?_
  refine w_local (s := { s with heap := h', toks := tk }) A' m4 ?_
  refine w_call ?_
  refine w_builtin (s := { s with heap := h', toks := tk }) A' hC.st N.nlen (by boot_by_name) ?_
  refine w_callBuiltin ?_
  refine wpAny_items_cons ?_
  refine w_local (s := { s with heap := h', toks := tk }) A' m3 ?_
  refine wpAny_items_nil ?_
  refine w_len' (s := { s with heap := h', toks := tk }) hrow (by omega) fun t₆ tk₆ => ?_
  rw [hrs]
  refine P.lt_int ?_
  refine w_truthyB ?_
  have ed : decide ((t : Int) < ((rowOf σ' 0).length : Int)) = starMore σ' t := by
    unfold starMore
    by_cases hc : t < (rowOf σ' 0).length
    · rw [decide_eq_true hc, decide_eq_true (by omega)]
    · rw [decide_eq_false hc, decide_eq_false (by omega)]
  rw [ed]
  cases hmore : starMore σ' t with
  | false =>
    show wpAny _ _ _ _ _ _
    refine wpAny_passesOwn out_passes ?_
    refine wpAny_execs_nil ?_
    refine wpAny_execs_cons ?_
    refine wpAny_Return_some ?_
    refine w_local (s := { s with heap := h', toks := tk₆ }) A' m1 ?_
    rw [goP_stop hmore] at hgo
    have ndd := A'.wd.nd
    simp only [List.map_cons, List.nodup_cons] at ndd
    obtain ⟨G₉, g9, l₉, q9⟩ := A'.leave (ow' := pre ++ owOf nl no RL IT ow₀) (fun p hp => .tail _ hp) ndd.2
    refine h (.ref dl) G₉ h' tk₆ _ (by rw [hgo]) (by rw [hgo]; exact TouchV.mono _ _ _ _ V' g9) l₉ (N.hS _ _ S' g9) ?_
    rw [hgo]
    refine Rd.list (px.isList (q9 (dl, o) (by simp) ndd.1)) ?_
    simpa using hrd.mono g9
  | true =>
    show wpAny _ _ _ _ _ _
    cases n with
    | zero => rw [star_end_ok ok' (by omega)] at hmore; cases hmore
    | succ n =>
      refine wpAny_passesOwn out_passes ?_
      refine wpAny_execs_cons ?_
      obtain ⟨ta, ws, c, x, hv, hta, hax, hth, hxm⟩ := hst t hmore
      have hwz : ws.toList.length = x.length := hax.length
      have hxz := ok'.lens x hxm
      have hmin : min σ'.noted.length moves.length ≤ moves.length := Nat.min_le_right _ _
      refine wpAny_Expr_any ?_
      refine methodCall_KW ?_
      refine w_local (s := { s with heap := h', toks := tk₆ }) A' m1 ?_
      refine getMethod_list_append (s := { s with heap := h', toks := tk₆ }) (A'.wd.own (dl, o) (by simp)) px.pl.1 px.pl.2.1 ?_
      refine callWith_method1 ?_
      refine wpAny_items_cons ?_
      refine w_call ?_
      refine w_local (s := { s with heap := h', toks := tk₆ }) A' m2 ?_
      refine ks_call (P := fun h => G'.StaysIn h) (by rfl) (fun h k => let ⟨k', a, b⟩ := keeper_fn hC.f; ⟨k', a, b.keeps k⟩) (ks_lone ?_)
      refine Subscript_ ?_
      refine w_local (s := { s with heap := h', toks := tk₆ }) A' m3 ?_
      refine w_local (s := { s with heap := h', toks := tk₆ }) A' m4 ?_
      refine item_listL (s := { s with heap := h', toks := tk₆ }) (l := (rowA IT (rowOf σ' 0)).toList) (by simpa using hrow) (by omega) (by simp; omega) (x := .ref ta) (by simpa using hv) ?_
      refine w_starTup (s := { s with heap := h', toks := tk₆ }) (.inl rfl) hta rfl rfl (by have hz9 : sizeLine = 16777216 := rfl; simp at hwz; omega) fun h₃ k₃ => ?_
      have A₃ := A'.keeps k₃
      refine ⟨A₃.keep, ?_⟩
      cases hp : touchP moves [0] σ' (starTh σ' t) with
      | mk σ₇ r =>
      obtain ⟨ok₇, hn₇⟩ := touch_ok hp ok' N.hne N.hB2
      refine touch_spec (s := { s with heap := h₃, toks := tk₆ }) (pre := (dl, o) :: pre) (th := starTh σ' t) N.hS N.hSC (N.hK _ ⟨_, hth⟩) N.nlen N.nve S' hT' A₃.wd (hA'.less (by omega) (by omega)) (by rw [hth]; exact hax) (by show ws.toList.length ≤ 1000; omega) ok' (by omega) N.hB2 N.hne (by omega) (by omega) N.hz3 N.hmv hp (fun res hr rr G₄ h₄ tk₄ ow₄ V₄ L₄ S₄ r₄ => ?_) fun hr e t₄ G₄ h₄ tk₄ ow₄ V₄ L₄ S₄ F₄ => ?_
      · subst hr
        have A₄ : At ⟨G, s.heap, fs⟩ G₄ ((dl, o) :: (pre ++ ow₄)) (spE L fa cdv) m' h₄ := A₃.back L₄
        refine wpAny_items_nil ?_
        refine w_appendX (s := { s with heap := h₄, toks := tk₄ }) (pre := []) A₄ px (by omega) fun h₅ o₅ A₅ p₅ _ => ?_
        refine wpAny_execs_cons ?_
        refine wpAny_AugAssign_Name ?_
        refine wpAny_loadName_local (s := { s with heap := h₅, toks := tk₄ }) rfl rfl A₅.ns m4 ?_
        refine w_int fun t₈ tk₈ => ?_
        refine w_iadd fun t₉ tk₉ => ?_
        refine w_set (s := { s with heap := h₅, toks := tk₉ }) A₅ fun h₁₀ tk₁₀ A₁₀ => ?_
        refine wpAny_execs_nil ?_
        rw [goP_turn hmore hp] at hgo
        refine ⟨n, by omega, t + 1, h₁₀, tk₁₀, G₄, ow₄, _, o₅, _, ds ++ [.list res], σ₇, t₉, by omega, by omega, rfl, A₁₀, stays_trans gG L₄.gr, S₄, V₄, ok₇, by omega, upd_ne m1, upd_ne m2, upd_ne m3, ?_, p₅, by simp; omega, ?_, by rw [hgo]; simp⟩
        · have := upd_self m' (Str.ofString "turn") (Value.int ((t : Int) + 1) t₉)
          rw [this]
          norm_cast
        · rw [Array.toList_push]
          exact (hrd.mono L₄.gr).append (Rds.cons r₄ Rds.nil)
      · subst hr
        rw [goP_fail hmore hp] at hgo
        have A₇ : At ⟨G, s.heap, fs⟩ G₄ ((dl, o) :: (pre ++ ow₄)) (spE L fa cdv) m' h₄ := A₃.back L₄
        refine fly_out (s := { s with heap := h₄, toks := tk₄ }) hA.fr rfl A₇.wd F₄ fun h₈ F₈ W₈ k₈ => ?_
        have nd₇ := W₈.nd
        simp only [List.map_cons, List.nodup_cons] at nd₇
        refine hE σ'.noted.length e t₄ G₄ h₈ tk₄ ow₄ (by rw [hgo]) (by rw [hgo]; exact V₄) ⟨stays_trans gG L₄.gr, W₈.sub (fun p hp => .tail _ hp) nd₇.2, A₇.fk.trans k₈⟩ S₄ (F₈.sub fun p hp => .tail _ hp)
end


def clsM (j : Nat) : Stmt := match stm 3 with
  | .ClassDef _ _ _ b .. => b.getD j (.Pass default)
  | _ => .Pass default
abbrev FnM (G : Heap) (j : Nat) (f : Addr) (qual : Str) : Prop := FnAt G f (fdName (clsM j)) qual (fdParams (clsM j)) (fdBody (clsM j)) (fdScope (clsM j)) []

/-- the starmap class: what its looks give -/
structure StarK (K : Frag) (C fI fT fN pI pF : Addr) : Prop where
  made : makesIn K C = true
  init : findIn K (.ref C) "__init__" = some (some (.ref fI))
  initF : typeIn K (.ref fI) = some (.type "function")
  iter : findIn K (.ref C) "__iter__" = some (some (.ref fT))
  iterF : typeIn K (.ref fT) = some (.type "function")
  next : findIn K (.ref C) "__next__" = some (some (.ref fN))
  nextF : typeIn K (.ref fN) = some (.type "function")
  len : findIn K (.ref C) "__len__" = some none
  hint : findIn K (.ref C) "__length_hint__" = some none
  setattr : findIn K (.ref C) "__setattr__" = some (some (.builtin "object.__setattr__"))
  plain : plainOver K C = true
  getp : plainGet K C "_it" = true
  cls : isClsIn K C = true
  keep : keepIn K (.ref C) = true
  itF : findIn K (.ref C) "_it" = some (some (.ref pI))
  itK : takerIn K C "_it" = some (some (.ref pI))
  itT : typeIn K (.ref pI) = some (.type "member_descriptor")
  itG : specialIn K (.ref pI) "__get__" = some (some (.builtin "member_descriptor.__get__"))
  itS : takesIn K (.ref pI) = some true
  itI : slotIn K pI C = some 1
  fnF : findIn K (.ref C) "_func" = some (some (.ref pF))
  fnK : takerIn K C "_func" = some (some (.ref pF))
  fnT : typeIn K (.ref pF) = some (.type "member_descriptor")
  fnG : specialIn K (.ref pF) "__get__" = some (some (.builtin "member_descriptor.__get__"))
  fnS : takesIn K (.ref pF) = some true
  fnI : slotIn K pF C = some 0


def starObj (C dx : Addr) (f : Value) (I : Addr) : Obj := { cls := .ref C, dict := some dx, data := .plain, slots := #[some f, some (.ref I)] }
def SI (G : Heap) (x dx C : Addr) (f : Value) (I : Addr) : Prop := G.get? x = some (starObj C dx f I) ∧ G.get? dx = some emptyDict
theorem SI.mono {G G' : Heap} {x dx C I : Addr} {f : Value} (h : SI G x dx C f I) (k : G.StaysIn G') : SI G' x dx C f I := ⟨k _ _ h.1, k _ _ h.2⟩
theorem SI.inst {G h : Heap} {x dx C I : Addr} {f : Value} (y : SI G x dx C f I) (k : G.StaysIn h) : InstAt h x (starObj C dx f I) C (some emptyDict) := ⟨k _ _ y.1, rfl, rfl, k _ _ y.2⟩

section
variable {τ : Type} {prog : Program} {w : World} {S : Heap → Prop} {d u : Nat}
/-- the user's side of a starmap over one list of lists -/
structure StarUser (prog : Program) (w : World) (fs : List Env) (S : Heap → Prop) (d u : Nat) (f : Value) (l : Addr) (V : Heap → τ → List (Addr × Obj) → Prop) (len : τ → Nat) (act : τ → Nat → PyData ⊕ Int → τ → Prop) : Prop where
  list : ∀ {a ow G h pre}, V G a ow → S G → Wd fs G (pre ++ ow) h → ∃ xs : Array Value, h.IsList l xs ∧ xs.size = len a ∧ xs.size ≤ 100000 ∧ ∀ (t : Nat) (v : Value), xs[t]? = some v → ∃ ta vs c, v = .ref ta ∧ h.get? ta = some (lstObj vs c) ∧ vs.size ≤ 1000
  keeper : ∀ {G h}, S G → G.StaysIn h → ∃ k, (k = Keeper.frame ∨ k = Keeper.machine ∨ k = Keeper.boundFrame) ∧ Looks (model prog w) h (keeperOf f) k
  handed : handedIn f = true
  act : ∀ {a t r b}, act a t r b → ∀ (A : Around) (G : Heap) (pre ow : List (Addr × Obj)) (s : Shared) (xs : Array Value) (ta : Addr) (vs : Array Value) (c : Nat) (Q E : Value → Shared → Prop), Ar A fs d u → S G → V G a ow → Wd fs G (pre ++ ow) s.heap →
    s.heap.IsList l xs → xs[t]? = some (.ref ta) → s.heap.get? ta = some (lstObj vs c) →
    (∀ y r' G' h' tk ow', r = .inl y → V G' b ow' → Lf fs G s.heap G' (pre ++ ow') h' → S G' → Rd G' r' y → Q r' { s with heap := h', toks := tk }) →
    (∀ k e tt G' h' tk ow', r = .inr k → V G' b ow' → Lf fs G s.heap G' (pre ++ ow') h' → S G' → Fly fs G' (pre ++ ow') e (.type "ValueError") [.int k tt] h' → E (.ref e) { s with heap := h', toks := tk }) → wpAny (model prog w) A (call f vs.toList) Q E s

inductive SStep (len : τ → Nat) (act : τ → Nat → PyData ⊕ Int → τ → Prop) : Option Nat × τ → Option PyData → Option Nat × τ → Prop
  | stop {t a} : len a ≤ t → SStep len act (some t, a) none (none, a)
  | turn {t a y b} : t < len a → act a t (.inl y) b → SStep len act (some t, a) (some y) (some (t + 1), b)
inductive SFail (len : τ → Nat) (act : τ → Nat → PyData ⊕ Int → τ → Prop) : Option Nat × τ → Int → Option Nat × τ → Prop
  | fail {t a k b} : t < len a → act a t (.inr k) b → SFail len act (some t, a) k (none, b)
def SU (I l : Addr) (V : Heap → τ → List (Addr × Obj) → Prop) : Heap → Option Nat × τ → List (Addr × Obj) → Prop
  | G, (none, a), ow => V G a ow
  | G, (some t, a), ow => ∃ io ow₂, ow = (I, io) :: ow₂ ∧ IsIt io l t ∧ V G a ow₂
theorem su_mono {I l : Addr} {V : Heap → τ → List (Addr × Obj) → Prop} (hV : ∀ G G' a ow, V G a ow → G.StaysIn G' → V G' a ow) : ∀ G G' a ow, SU I l V G a ow → G.StaysIn G' → SU I l V G' a ow
  | _, _, (none, _), _, h, k => hV _ _ _ _ h k
  | _, _, (some _, _), _, ⟨io, ow₂, a, b, d⟩, k => ⟨io, ow₂, a, b, hV _ _ _ _ d k⟩

/-- what the starmap walk leans on, frozen -/
structure StarS (K : Frag) (mg mb : Str → Option Value) (C fI fT fN x dx : Addr) (f : Value) (I : Addr) (S : Heap → Prop) (G : Heap) : Prop where
  s : S G
  st : Sta mg mb G
  k : K.In G
  i : SI G x dx C f I
  n : FnM G 3 fN (Str.ofString "starmap.__next__")
  t : FnM G 2 fT (Str.ofString "starmap.__iter__")
theorem StarS.mono {K : Frag} {mg mb : Str → Option Value} {C fI fT fN x dx I : Addr} {f : Value} (hS : ∀ G G', S G → G.StaysIn G' → S G') : ∀ G G', StarS K mg mb C fI fT fN x dx f I S G → G.StaysIn G' → StarS K mg mb C fI fT fN x dx f I S G' :=
  fun _ _ h k => ⟨hS _ _ h.s k, h.st.mono k, h.k.keeps k, h.i.mono k, h.n.mono k, h.t.mono k⟩

theorem w_tupleOfS {prog : Program} {w : World} {A : Around} {E : Value → Shared → Prop} {s : Shared} {X : Ent} {G : Heap} {ow : List (Addr × Obj)} {env : Env} {m : Str → Option Value} {items : Array Value} {l : Addr} {Q : Value → Shared → Prop} (AT : At X G ow env m s.heap) (hl : s.heap.IsList l items) (hz : items.size ≤ 100000)
    (h : ∀ D G' h', G.StaysIn G' → s.heap.StaysIn h' → At X G' ow env m h' → TupG G' D items.toList → Q (.ref D) { s with heap := h' }) : wpAny (model prog w) A (call (.type "tuple") [.ref l]) Q E s := by
  have hsl : sizeLine = 16777216 := rfl
  refine call_tuple_list hl (fun h' hk => ?_) (by omega)
  have A1 := AT.keeps hk
  obtain ⟨G', a1, b1, c1⟩ := A1.grow (h' := h'.push { cls := .type "tuple", data := .seq items }) fun _ _ e => Heap.get?_push_of_some _ e
  exact h _ G' _ a1 (fun _ _ e => Heap.get?_push_of_some _ (hk _ _ e)) b1 ⟨_, 0, c1 _ _ (size_none _) (Heap.get?_push_size _ rfl), rfl, by simp⟩

theorem star_act {K : Frag} {mg mb : Str → Option Value} {C fI fT fN pI pF x dx I l : Addr} {f : Value} {V : Heap → τ → List (Addr × Obj) → Prop} {len : τ → Nat} {act : τ → Nat → PyData ⊕ Int → τ → Prop} {fs : List Env}
    {A : Around} {G : Heap} {pre ow : List (Addr × Obj)} {s : Shared} {Q : Option Value → Shared → Prop} {E : Value → Shared → Prop} {a b : τ} {t : Nat} {r : PyData ⊕ Int}
    (KX : StarK K C fI fT fN pI pF) (n1 : mg "next" = none) (n2 : mg "type" = none) (n3 : mg "tuple" = none) (hS : ∀ G G', S G → G.StaysIn G' → S G') (hVm : ∀ G G' a ow, V G a ow → G.StaysIn G' → V G' a ow)
    (Y : ∀ fs, StarUser prog w fs S d u f l V len act) (hlt : t < len a) (ht : act a t r b) (hA : Ar A fs (d + 1) (u + 8)) (hSG : StarS K mg mb C fI fT fN x dx f I S G) (hU : SU I l V G (some t, a) ow) (W : Wd fs G (pre ++ ow) s.heap)
    (h : ∀ y v G' h' tk ow', r = .inl y → SU I l V G' (some (t + 1), b) ow' → Lf fs G s.heap G' (pre ++ ow') h' → StarS K mg mb C fI fT fN x dx f I S G' → Rd G' v y → Q (some v) { s with heap := h', toks := tk })
    (hE : ∀ k e tt G' h' tk ow', r = .inr k → V G' b ow' → Lf fs G s.heap G' (pre ++ ow') h' → StarS K mg mb C fI fT fN x dx f I S G' → Fly fs G' (pre ++ ow') e (.type "ValueError") [.int k tt] h' → E (.ref e) { s with heap := h', toks := tk }) :
    wpAny (model prog w) A (pyNext (.ref x)) Q E s := by
  refine inst_next (od := some emptyDict) (hSG.k.keeps W.keep) (hSG.i.inst W.keep) KX.next KX.nextF ?_
  refine call_fn (binds := [(Str.ofString "self", .ref x)]) W (by have := hA.dp; omega) hSG.st.lim hSG.n (fun _ _ _ _ _ => rfl) rfl (fun L cdv h₁ hL hk AT => ?_) (by decide +kernel) rfl rfl rfl
  have hA' := hA.deeper (d := d) (u := u + 5) (envX (Str.ofString "starmap.__next__") (fdScope (clsM 3)) L fN cdv [])
  have kh : A.handled = none := hA.hd
  refine wpAny_execs_cons ?_
  refine wpAny_Assign_Name ?_
  refine w_call ?_
  refine w_builtin AT hSG.st n1 (by boot_by_name) ?_
  refine w_callBuiltin ?_
  refine wpAny_items_cons ?_
  refine Attribute_name ?_
  refine w_local AT rfl ?_
  refine inst_get (hSG.k.keeps AT.keep) (hSG.i.inst AT.keep) KX.getp KX.cls KX.itF KX.itG KX.itS KX.itI rfl rfl fun tk₁ => ?_
  refine wpAny_items_nil ?_
  obtain ⟨io, ow₂, rfl, hio, hV⟩ := hU
  obtain ⟨xs, hxl0, hxs, hxz, hxt⟩ := (Y fs).list (pre := pre ++ [(I, io)]) hV hSG.s (by simpa using W)
  have hxl := isList_mono hxl0 hk
  have nL : ∀ b o, s.heap.get? b = some o → b ≠ L := fun b o e z => by rw [z, hL, size_none] at e; cases e
  have lL : l ≠ L := by obtain ⟨o, q, _⟩ := hxl0; exact nL _ _ q
  have hit := hio.at (AT.wd.own (I, io) (by simp))
  obtain ⟨v, hv⟩ : ∃ v, xs[t]? = some v := ⟨_, Array.getElem?_eq_getElem (by omega)⟩
  obtain ⟨ta, vs, c, rfl, hta0, hvz⟩ := hxt t v hv
  have hta := hk _ _ hta0
  have tL : ta ≠ L := nL _ _ hta0
  refine next_item (s := { s with heap := h₁, toks := tk₁ }) hit hxl hv fun h₂ hit₂ hsb => ?_
  obtain ⟨o', ho', hc', hd'⟩ := hit₂
  have A₂ := AT.put hsb ho'
  have hne : l ≠ I := isList_ne_iter hxl hit
  have hxl₂ : h₂.IsList l xs := hxl.extBut hsb.extBut hne
  have htI : ta ≠ I := isList_ne_iter ⟨_, hta, rfl, _, rfl⟩ hit
  have hta₂ : h₂.get? ta = some (lstObj vs c) := (hsb.2 _ htI).trans hta
  refine w_setS (s := { s with heap := h₂, toks := tk₁ }) A₂ fun h₃ tk₃ A₃ hb₃ => ?_
  have hxl₃ : h₃.IsList l xs := isList_get hxl₂ (hb₃ _ lL)
  have hta₃ : h₃.get? ta = some (lstObj vs c) := (hb₃ _ tL).trans hta₂
  refine wpAny_execs_cons ?_
  refine wpAny_If ?_
  refine wpAny_isTrue_Compare1 ?_
  refine w_call ?_
  refine w_builtin (s := { s with heap := h₃, toks := tk₃ }) A₃ hSG.st n2 (by boot_by_name) ?_
  refine w_callType ?_
  refine wpAny_items_cons ?_
  refine w_local (s := { s with heap := h₃, toks := tk₃ }) A₃ (upd_self _ _ _) ?_
  refine wpAny_items_nil ?_
  refine kto_cont (s := { s with heap := h₃, toks := tk₃ }) (T := "list") ⟨_, hta₃, rfl⟩ (by decide) ?_
  refine w_builtin (s := { s with heap := h₃, toks := tk₃ }) A₃ hSG.st n3 (by boot_by_name) ?_
  refine wpAny_isNot_plain rfl ?_
  show wpAny _ _ (truthy (.bool true)) _ _ _
  refine wpAny_of_eq (a := true) (by rfl) ?_
  show (if true = true then _ else _)
  rw [if_pos rfl]
  refine wpAny_execs_cons ?_
  refine wpAny_Assign_Name ?_
  refine w_call ?_
  refine w_builtin (s := { s with heap := h₃, toks := tk₃ }) A₃ hSG.st n3 (by boot_by_name) ?_
  refine w_callType ?_
  refine wpAny_items_cons ?_
  refine w_local (s := { s with heap := h₃, toks := tk₃ }) A₃ (upd_self _ _ _) ?_
  refine wpAny_items_nil ?_
  refine w_tupleOfS (s := { s with heap := h₃, toks := tk₃ }) A₃ ⟨_, hta₃, rfl, _, rfl⟩ (by omega) fun D G₄ h₄ le₄ k₄ A₄ eD => ?_
  have S₄ := StarS.mono hS _ _ hSG le₄
  refine w_setS (s := { s with heap := h₄, toks := tk₃ }) A₄ fun h₅ tk₅ A₅ hb₅ => ?_
  have hxl₅ : h₅.IsList l xs := isList_get (isList_mono hxl₃ k₄) (hb₅ _ lL)
  have hta₅ : h₅.get? ta = some (lstObj vs c) := (hb₅ _ tL).trans (k₄ _ _ hta₃)
  refine wpAny_execs_nil ?_
  refine wpAny_execs_cons ?_
  refine wpAny_Return_some ?_
  refine w_attrStar ?_
  have X₅ := S₄.k.keeps A₅.keep
  have I₅ := S₄.i.inst A₅.keep
  refine w_local (s := { s with heap := h₅, toks := tk₅ }) A₅ (upd_ne (upd_ne rfl)) ?_
  refine inst_get (s := { s with heap := h₅, toks := tk₅ }) X₅ I₅ KX.getp KX.cls KX.fnF KX.fnG KX.fnS KX.fnI rfl (Y fs).handed fun tk₆ => ?_
  refine ks_call (P := fun h => G₄.StaysIn h) rfl (fun h k => (Y fs).keeper S₄.s k) (ks_lone ?_)
  refine w_local (s := { s with heap := h₅, toks := tk₆ }) A₅ (upd_self _ _ _) ?_
  obtain ⟨o5, n5, ho5, hc5, hd5⟩ := eD
  refine w_starTup (s := { s with heap := h₅, toks := tk₆ }) (.inr rfl) (A₅.keep _ _ ho5) hc5 hd5 (by have hz9 : sizeLine = 16777216 := rfl; simp; omega) fun h₆ k₆ => ?_
  have A₆ := A₅.keeps k₆
  refine ⟨A₆.keep, ?_⟩
  show wpAny _ _ (call f vs.toList) _ _ _
  have W₆ : Wd (envX (Str.ofString "starmap.__next__") (fdScope (clsM 3)) L fN cdv [] :: fs) G₄ ((pre ++ [(I, o')]) ++ ow₂) h₆ := by simpa using A₆.wd
  have fin : ∀ {G' h' : Heap}, S G' → G₄.StaysIn G' → StarS K mg mb C fI fT fN x dx f I S G' := fun hs' g => ⟨hs', S₄.st.mono g, S₄.k.keeps g, S₄.i.mono g, S₄.n.mono g, S₄.t.mono g⟩
  refine (Y _).act ht _ G₄ (pre ++ [(I, o')]) ow₂ { s with heap := h₆, toks := tk₆ } xs ta vs c _ _ (hA'.less (Nat.le_refl _) (by omega)) S₄.s (hVm _ _ _ _ hV le₄) W₆ (isList_mono hxl₅ k₆) hv (k₆ _ _ hta₅) (fun y r' G' h' tk ow' hr hV' l' hS' hr' => ?_) fun kf e tt G' h' tk ow' hr hV' l' hS' hf' => ?_
  · have l'' : Lf (envX (Str.ofString "starmap.__next__") (fdScope (clsM 3)) L fN cdv [] :: fs) G₄ h₆ G' (pre ++ (I, o') :: ow') h' := by simpa using l'
    have A₇ := A₆.back l''
    exact h y r' G' h' tk ((I, o') :: ow') hr ⟨o', ow', rfl, ⟨hc', hd'⟩, hV'⟩ A₇.lf (fin (h' := h') hS' l'.gr) hr'
  · have l'' : Lf (envX (Str.ofString "starmap.__next__") (fdScope (clsM 3)) L fN cdv [] :: fs) G₄ h₆ G' (pre ++ (I, o') :: ow') h' := by simpa using l'
    have A₇ := A₆.back l''
    have F₇ : Fly (envX (Str.ofString "starmap.__next__") (fdScope (clsM 3)) L fN cdv [] :: fs) G' (pre ++ (I, o') :: ow') e (.type "ValueError") [.int kf tt] h' := by simpa using hf'
    refine fly_out (s := { s with heap := h', toks := tk }) hA.fr rfl A₇.wd F₇ fun h₈ F₈ W₈ k₈ => ?_
    have sub : ∀ p ∈ pre ++ ow', p ∈ pre ++ (I, o') :: ow' := fun p hp => by
      rcases List.mem_append.mp hp with hp | hp
      · exact List.mem_append_left _ hp
      · exact List.mem_append_right _ (.tail _ hp)
    obtain ⟨ob, hob, hobc⟩ := F₈.cls
    unfold OwitStop
    refine wpAny_isInstance (s := { s with heap := h₈, toks := tk }) (T := "ValueError") (b := false) ⟨ob, hob, hobc⟩ sub_ve_stop ?_
    show (if false = true then _ else _)
    rw [if_neg Bool.false_ne_true]
    have nd := W₈.nd
    rw [List.map_append, List.map_cons] at nd
    have nd2 := (List.nodup_cons.mp (List.perm_middle.nodup_iff.mp nd)).2
    rw [← List.map_append] at nd2
    exact hE kf e tt G' h₈ tk ow' hr hV' ⟨A₇.lf.gr, W₈.sub sub nd2, A₇.fk.trans k₈⟩ (fin (h' := h') hS' l'.gr) (F₈.sub sub)

theorem star_steps {K : Frag} {mg mb : Str → Option Value} {C fI fT fN pI pF x dx I l : Addr} {f : Value} {V : Heap → τ → List (Addr × Obj) → Prop} {len : τ → Nat} {act : τ → Nat → PyData ⊕ Int → τ → Prop} {fs : List Env}
    (KX : StarK K C fI fT fN pI pF) (n1 : mg "next" = none) (n2 : mg "type" = none) (n3 : mg "tuple" = none) (hS : ∀ G G', S G → G.StaysIn G' → S G') (hVm : ∀ G G' a ow, V G a ow → G.StaysIn G' → V G' a ow)
    (Y : ∀ fs, StarUser prog w fs S d u f l V len act) :
    Steps prog w fs (StarS K mg mb C fI fT fN x dx f I S) (d + 1) (u + 8) (SU I l V) (.ref x) (SStep len act) (SFail len act) where
  rais := by
    intro a k b hst A G pre ow s Q E hA hSG hU W h
    cases hst with
    | @fail t a k b hlt ht =>
      exact star_act KX n1 n2 n3 hS hVm Y hlt ht hA hSG hU W (fun y v G' h' tk ow' hr => by cases hr) fun k' e tt G' h' tk ow' hr hV' l' S' hf => by
        cases hr
        exact h e tt G' h' tk ow' hV' l' S' hf
  next := by
    intro a o b hst A G pre ow s Q E hA hSG hU W h
    cases hst with
    | @stop t a hle =>
      refine inst_next (od := some emptyDict) (hSG.k.keeps W.keep) (hSG.i.inst W.keep) KX.next KX.nextF ?_
      refine call_fn (binds := [(Str.ofString "self", .ref x)]) W (by have := hA.dp; omega) hSG.st.lim hSG.n (fun _ _ _ _ _ => rfl) rfl (fun L cdv h₁ hL hk AT => ?_) (by decide +kernel) rfl rfl rfl
      have hA' := hA.deeper (d := d) (u := u + 5) (envX (Str.ofString "starmap.__next__") (fdScope (clsM 3)) L fN cdv [])
      have kh : A.handled = none := hA.hd
      refine wpAny_execs_cons ?_
      refine wpAny_Assign_Name ?_
      refine w_call ?_
      refine w_builtin AT hSG.st n1 (by boot_by_name) ?_
      refine w_callBuiltin ?_
      refine wpAny_items_cons ?_
      refine Attribute_name ?_
      refine w_local AT rfl ?_
      refine inst_get (hSG.k.keeps AT.keep) (hSG.i.inst AT.keep) KX.getp KX.cls KX.itF KX.itG KX.itS KX.itI rfl rfl fun tk₁ => ?_
      refine wpAny_items_nil ?_
      obtain ⟨io, ow₂, rfl, hio, hV⟩ := hU
      obtain ⟨xs, hxl, hxs, _, _⟩ := (Y (envX (Str.ofString "starmap.__next__") (fdScope (clsM 3)) L fN cdv [] :: fs)).list (pre := pre ++ [(I, io)]) hV hSG.s (by simpa using AT.wd)
      have hit := hio.at (AT.wd.own (I, io) (by simp))
      refine next_end (s := { s with heap := h₁, toks := tk₁ }) (items := xs) hA'.hd hit hxl (Array.getElem?_eq_none (by omega)) fun h₂ h₃ e o' ho' hsb hmk => ?_
      have A₂ := AT.put hsb ho'
      have W₂ : Wd (envX (Str.ofString "starmap.__next__") (fdScope (clsM 3)) L fN cdv [] :: fs) G (pre ++ ow₂) h₂ := A₂.wd.sub (fun p hp => by
        rcases List.mem_append.mp hp with hp | hp
        · exact List.mem_append_left _ hp
        · exact List.mem_append_right _ (.tail _ hp)) (by
        have nd := A₂.wd.nd
        rw [List.map_append, List.map_cons] at nd
        rw [List.map_append]
        exact (List.nodup_cons.mp (List.perm_middle.nodup_iff.mp nd)).2)
      unfold Out
      refine made_leave (s := { s with heap := h₃, toks := tk₁ }) (Around.frames_deeper hA.fr) rfl W₂ hmk fun h₄ hf W₄ fk₄ => ?_
      unfold OwitStop
      obtain ⟨o, ho, hc⟩ := hf.cls
      refine wpAny_isInstance (T := "StopIteration") (b := true) ⟨o, ho, hc⟩ isSubtype_stop ?_
      show (if true = true then _ else _)
      rw [if_pos rfl]
      refine h none G h₄ tk₁ ow₂ hV ⟨stays_refl _, W₄, ?_⟩ hSG rfl
      exact A₂.fk.trans fk₄
    | @turn t a y b hlt ht =>
      exact star_act KX n1 n2 n3 hS hVm Y hlt ht hA hSG hU W (fun y' v G' h' tk ow' hr hU' l' S' hr' => by
        cases hr
        exact h (some v) G' h' tk ow' hU' l' S' ⟨v, rfl, hr'⟩) fun k' e tt G' h' tk ow' hr => by cases hr
end

section
variable {τ : Type} {prog : Program} {w : World} {S : Heap → Prop} {d u : Nat}

theorem w_callC {M : Model} {A : Around} {E : Value → Shared → Prop} {s : Shared} {env : Env} {pos : Pos} {K : Frag} {Q : Value → Shared → Prop} {f : Value} {e : Expr} {rest : List Expr} (hk : keepIn K f = true)
    (h : wpAny M A (spliced (backTo pos (starEach (e :: rest) env))) (fun vs s₁ => K.In s₁.heap ∧ wpAny M A (call f vs) Q E s₁) E s)
    (he : starEach (e :: rest) env = (false, eval e env) :: starEach rest env := by rfl) (hplain : (backTo pos (starEach rest env)).any (·.1) = false := by rfl) :
    wpAny M A (callWith pos f [] (backTo pos (starEach (e :: rest) env)) []) Q E s := by
  rw [he] at h ⊢
  exact callWith_of (by show ((false || (backTo pos (starEach rest env)).any (·.1)) || false) = false; rw [hplain]; rfl) (keeps_K hk) (evalArgs_plain h)

theorem star_iterIs {K : Frag} {mg mb : Str → Option Value} {C fI fT fN pI pF x dx I : Addr} {f : Value} {fs : List Env} {G : Heap} (KX : StarK K C fI fT fN pI pF) (hG : StarS K mg mb C fI fT fN x dx f I S G) (hS : ∀ G G', S G → G.StaysIn G' → S G') :
    IterIs prog w fs (StarS K mg mb C fI fT fN x dx f I S) (d + 1) (u + 8) x (.ref C) G where
  ty := fun M => (hG.i.inst (stays_refl _)).type
  nl := rfl
  nt := rfl
  hint := fun M A Q E s k q => by
    unfold Builtin.List.listLengthHint
    have I₁ := hG.i.inst k
    have X₁ := hG.k.keeps k
    refine wpAny_bind (wpAny_bind (I₁.type.here ((looks_findIn X₁ KX.len).here ?_)))
    show wpAny M A (specialOf (Value.ref x) (Str.ofString "__length_hint__") >>= _) _ _ _
    exact wpAny_bind (wpAny_bind (I₁.type.here ((looks_findIn X₁ KX.hint).here (wpAny_pure q))))
  iter := fun A G₁ ow s Q E hA hS₁ k W h => by
    refine inst_iter (od := some emptyDict) (hS₁.k.keeps W.keep) (hS₁.i.inst W.keep) KX.iter KX.iterF KX.next ?_
    refine call_fn (binds := [(Str.ofString "self", .ref x)]) W (by have := hA.dp; omega) hS₁.st.lim hS₁.t (fun _ _ _ _ _ => rfl) rfl (fun L cdv h₁ hL hk AT => ?_) (by decide +kernel) rfl rfl rfl
    refine wpAny_execs_cons ?_
    refine wpAny_Return_some ?_
    refine w_local AT rfl ?_
    exact ⟨rfl, hS₁.k.keeps AT.keep, hS₁.i.inst AT.keep, h G₁ h₁ _ AT.lf hS₁⟩

/-- what starmapstar leans on -/
structure StarP (K : Frag) (mg mb : Str → Option Value) (C fI fT fN : Addr) (S : Heap → Prop) (G : Heap) : Prop where
  s : S G
  st : Sta mg mb G
  k : K.In G
  i : FnM G 1 fI (Str.ofString "starmap.__init__")
  n : FnM G 3 fN (Str.ofString "starmap.__next__")
  t : FnM G 2 fT (Str.ofString "starmap.__iter__")

theorem starmapstar_spec {K : Frag} {mg mb : Str → Option Value} {C fI fT fN pI pF fa ta l : Addr} {f : Value} {V : Heap → τ → List (Addr × Obj) → Prop} {len : τ → Nat} {act : τ → Nat → PyData ⊕ Int → τ → Prop} {fs : List Env}
    {A : Around} {G : Heap} {ow : List (Addr × Obj)} {s : Shared} {Q E : Value → Shared → Prop} {a b : τ} {xs : List PyData} {rr : Option Int}
    (KX : StarK K C fI fT fN pI pF) (n0 : mg "list" = none) (n1 : mg "next" = none) (n2 : mg "type" = none) (n3 : mg "tuple" = none) (n4 : mg "starmap" = some (.ref C)) (n5 : mg "iter" = none)
    (hS : ∀ G G', S G → G.StaysIn G' → S G')
    (Y : ∀ fs, StarUser prog w fs S d u f l V len act) (run : Run (SStep len act) (SFail len act) (some 0, a) xs rr (none, b)) (hz : xs.length ≤ 100000)
    (F : FnI G 5 fa) (hA : Ar A fs (d + 4) (u + 40)) (hG : StarP K mg mb C fI fT fN S G) (ht : TupG G ta [f, .ref l]) (hV : V G a ow) (hVm : ∀ G G' a ow, V G a ow → G.StaysIn G' → V G' a ow) (W : Wd fs G ow s.heap)
    (h : ∀ L G' h' tk vs ow', rr = none → V G' b ow' → Lf fs G s.heap G' ow' h' → S G' → G'.IsList L vs → Rds G' vs.toList xs → Q (.ref L) { s with heap := h', toks := tk })
    (hE : ∀ k e t G' h' tk ow', rr = some k → V G' b ow' → Lf fs G s.heap G' ow' h' → S G' → Fly fs G' ow' e (.type "ValueError") [.int k t] h' → E (.ref e) { s with heap := h', toks := tk }) :
    wpAny (model prog w) A (call (.ref fa) [.ref ta]) Q E s := by
  refine call_fn (binds := [(Str.ofString "args", .ref ta)]) W (by have := hA.dp; omega) hG.st.lim F (fun _ _ _ _ _ => rfl) rfl (fun L cdv h₁ hL hk AT => ?_) (by decide +kernel) rfl rfl rfl
  have hA' := (hA.less (d' := d + 4) (u' := u + 40) (Nat.le_refl _) (Nat.le_refl _)).deeper (d := d + 3) (u := u + 37) (envX (fdName (stm 5)) (fdScope (stm 5)) L fa cdv [])
  refine wpAny_execs_cons ?_
  refine wpAny_Return_some ?_
  refine w_call ?_
  refine w_builtin AT hG.st n0 (by boot_by_name) ?_
  refine w_callType ?_
  refine wpAny_items_cons ?_
  refine w_call ?_
  refine w_global AT hG.st n4 ?_
  refine w_callC (K := K) KX.keep ?_
  refine wpAny_items_cons ?_
  refine Subscript_ ?_
  refine w_local AT rfl ?_
  refine w_int fun _ _ => ?_
  refine w_tup1 ht AT.keep ⟨0, rfl, rfl⟩ (by decide) (by decide) ?_
  refine wpAny_items_cons ?_
  refine Subscript_ ?_
  refine w_local (s := { s with heap := h₁, toks := _ }) AT rfl ?_
  refine w_int fun _ _ => ?_
  refine w_tup1 (s := { s with heap := h₁, toks := _ }) ht AT.keep ⟨1, rfl, rfl⟩ (by decide) (by decide) ?_
  refine wpAny_items_nil ⟨hG.k.keeps AT.keep, ?_⟩
  refine inst_make (s := { s with heap := h₁, toks := _ }) AT.wd (hG.k.keeps AT.keep) KX.made KX.init KX.initF fun x dx h₂ k₂ W₂ => ?_
  have hA₂ := (hA'.less (d' := d + 3) (u' := u + 37) (Nat.le_refl _) (Nat.le_refl _)).tcall (d := d + 2) (u := u + 27) C [f, .ref l]
  refine code_fn (s := { s with heap := h₂, toks := _ }) (binds := [(Str.ofString "self", .ref x), (Str.ofString "function", f), (Str.ofString "iterable", .ref l)]) W₂ (by have := hA₂.dp; omega) hG.st.lim hG.i
    (fun _ _ _ _ _ => BindsTo.of_eq rfl) (fun y hy => of_decide_eq_true (List.all_eq_true.mp (show ([(Str.ofString "self", Value.ref x), (Str.ofString "function", f), (Str.ofString "iterable", Value.ref l)].all fun y => decide ((fdScope (clsM 1)).names.lookup y.1 = some .local)) = true from rfl) y hy)) (fun L₂ cdv₂ h₃ hL₂ hk₃ A₃ => ?_) (by decide +kernel) rfl rfl rfl
  refine wpAny_execs_cons ?_
  refine plainObj_wpAny_Assign_Attribute ?_
  refine w_call ?_
  refine w_builtin (s := { s with heap := h₃, toks := _ }) A₃ hG.st n5 (by boot_by_name) ?_
  refine w_callBuiltin ?_
  refine wpAny_items_cons ?_
  refine w_local (s := { s with heap := h₃, toks := _ }) A₃ rfl ?_
  refine wpAny_items_nil ?_
  obtain ⟨zs, hl₃, hzl, hzz, hzt⟩ := (Y (envX (Str.ofString "starmap.__init__") (fdScope (clsM 1)) L₂ fI cdv₂ [] :: envX (fdName (stm 5)) (fdScope (stm 5)) L fa cdv [] :: fs)).list (pre := [(x, instObj C dx), (dx, emptyDict)]) hV hG.s (by simpa using A₃.wd)
  refine w_iter (s := { s with heap := h₃, toks := _ }) hl₃ ?_
  have k₄ : h₃.StaysIn (h₃.push { cls := .type "list_iterator", data := .fields #[.ref l, .int 0 0] }) := fun _ _ e => Heap.get?_push_of_some _ e
  have A₄ := A₃.own_new k₄ (size_none _) (Heap.get?_push_size h₃ (o := { cls := .type "list_iterator", data := .fields #[.ref l, .int 0 0] }) rfl)
  generalize hI : h₃.objs.size = I at *
  generalize hh₄ : h₃.push { cls := .type "list_iterator", data := .fields #[.ref l, .int 0 0] } = h₄ at *
  refine w_local (s := { s with heap := h₄, toks := _ }) A₄ rfl ?_
  have Ins : ∀ {h : Heap} {ox : Obj}, ox.cls = .ref C → notCls ox = true → ox.dict = some dx → h.get? x = some ox → h.get? dx = some emptyDict → InstAt h x ox C (some emptyDict) := fun c n d e1 e2 => ⟨e1, c, n, by rw [d]; exact e2⟩
  refine inst_set (s := { s with heap := h₄, toks := _ }) (pre := [(I, _)]) (ox' := { cls := .ref C, dict := some dx, data := .plain, slots := #[none, some (.ref I)] }) A₄ (hG.k.keeps A₄.keep) (Ins rfl rfl rfl (A₄.wd.own (x, instObj C dx) (by simp)) (A₄.wd.own (dx, emptyDict) (by simp)))
    KX.setattr KX.plain KX.itK KX.itT KX.itI (by decide) rfl rfl fun h₅ tk₅ A₅ hb₅ => ?_
  refine wpAny_execs_cons ?_
  refine plainObj_wpAny_Assign_Attribute ?_
  refine w_local (s := { s with heap := h₅, toks := tk₅ }) A₅ rfl ?_
  refine w_local (s := { s with heap := h₅, toks := tk₅ }) A₅ rfl ?_
  refine inst_set (s := { s with heap := h₅, toks := tk₅ }) (pre := [(I, _)]) (ox' := starObj C dx f I) A₅ (hG.k.keeps A₅.keep) (Ins rfl rfl rfl (A₅.wd.own (x, _) (by simp)) (A₅.wd.own (dx, emptyDict) (by simp)))
    KX.setattr KX.plain KX.fnK KX.fnT KX.fnI (by decide) rfl rfl fun h₆ tk₆ A₆ hb₆ => ?_
  refine wpAny_execs_nil ?_
  refine ⟨rfl, ?_⟩
  have nd₆ := A₆.wd.nd
  obtain ⟨G₆, g1, l₆, g2⟩ := A₆.leave (ow' := (I, _) :: ow) (fun p hp => by
    rcases List.mem_cons.mp hp with rfl | hp
    · exact .head _
    · exact .tail _ (.tail _ (.tail _ hp))) (by
    simp only [List.cons_append, List.nil_append, List.map_cons, List.nodup_cons, List.mem_cons, not_or] at nd₆ ⊢
    exact ⟨nd₆.1.2.2, nd₆.2.2.2⟩)
  have gx : G₆.get? x = some (starObj C dx f I) := g2 (x, starObj C dx f I) (by simp) (by
    simp only [List.cons_append, List.nil_append, List.map_cons, List.nodup_cons, List.mem_cons, not_or] at nd₆ ⊢
    exact ⟨fun z => nd₆.1.1 z.symm, nd₆.2.1.2⟩)
  have gd : G₆.get? dx = some emptyDict := g2 (dx, _) (by simp) (by
    simp only [List.cons_append, List.nil_append, List.map_cons, List.nodup_cons, List.mem_cons, not_or] at nd₆ ⊢
    exact ⟨fun z => nd₆.1.2.1 z.symm, nd₆.2.2.1⟩)
  have l₇ : Lf (envX (fdName (stm 5)) (fdScope (stm 5)) L fa cdv [] :: fs) G h₁ G₆ ((I, _) :: ow) h₆ := ⟨l₆.gr, l₆.wd, (FK.keeps k₂).trans l₆.fk⟩
  have A₇ := AT.back l₇
  have S₇ : StarS K mg mb C fI fT fN x dx f I S G₆ := ⟨hS _ _ hG.s g1, hG.st.mono g1, hG.k.keeps g1, ⟨gx, gd⟩, hG.n.mono g1, hG.t.mono g1⟩
  refine wpAny_items_nil ?_
  refine list_call (s := { s with heap := h₆, toks := tk₆ }) (StarS.mono hS) (star_steps KX n1 n2 n3 hS hVm Y) (star_iterIs KX S₇ hS) run (hA'.less (by omega) (by omega)) S₇ ⟨_, ow, rfl, ⟨rfl, rfl⟩, hVm _ _ _ _ hV g1⟩ (su_mono hVm) A₇.wd hz ⟨_, gx⟩ ?_ ?_
  · intro Lr G' h' tk vs ow' hrn hV' l' S' hl' hd'
    exact h Lr G' h' tk vs ow' hrn hV' (A₇.back l').lf S'.s hl' hd'
  · intro k e t G' h' tk ow' hr hV' l' S' hf
    have A₈ := A₇.back l'
    refine fly_out (s := { s with heap := h', toks := tk }) hA.fr rfl A₈.wd hf fun h₉ F₉ W₉ k₉ => ?_
    exact hE k e t G' h₉ tk ow' hr hV' ⟨A₈.lf.gr, W₉, A₈.fk.trans k₉⟩ S'.s F₉
end

def actR (B : Nat) (moves : List Int) (nl : Nat) (σ : Sg) (t : Nat) (r : PyData ⊕ Int) (σ' : Sg) : Prop :=
  Ok B moves nl [0] σ ∧ σ.noted.length ≤ 50000 ∧ t < (rowOf σ 0).length ∧ ∃ o, touchP moves [0] σ (starTh σ t) = (σ', o) ∧ r = (match o with | some res => .inl (.list res) | none => .inr (σ.noted.length : Int))
section
variable {prog : Program} {w : World} {mg mb : Str → Option Value}
  {tf rl ml kf nl cR cM cK cN : Addr} {rls : List Addr} {moves : List Int} {ow₀ : List (Addr × Obj)} {S : Heap → Prop} {B : Nat}

theorem star_user (N : TouchN prog w mg mb tf rl ml kf nl cR cM cK cN rls [0] moves S B (fun th => ∃ l, th = .nums l)) (fs : List Env) :
    StarUser prog w fs (fun G => S G) 8 60 (.ref tf) (rls.getD 0 0) (fun G σ ow => TouchV nl rls ow₀ G σ ow ∧ Ok B moves rls.length [0] σ) (fun σ => (rowOf σ 0).length) (actR B moves rls.length) where
  list := fun {σ ow G h pre} hV hS W => by
    obtain ⟨⟨no, RL, IT, rfl, hT⟩, hok⟩ := hV
    obtain ⟨hrow, hst⟩ := star_at hT hok W
    have h2 := hok.rows _ (row_mem (σ := σ) (r := 0) (by rw [hok.nls]; exact hok.ixs 0 (.head _)))
    have h3 : min σ.noted.length moves.length ≤ moves.length := Nat.min_le_right _ _
    have hB := N.hB
    refine ⟨_, hrow, by simp [rowA], by simp [rowA]; omega, fun t v hv => ?_⟩
    obtain ⟨_, hlt⟩ := mapv hv
    obtain ⟨ta, vs, c, x, e1, e2, e3, _, e5⟩ := hst t (decide_eq_true hlt)
    rw [hv] at e1
    cases e1
    have h4 := hok.lens x e5
    have h5 : vs.toList.length = x.length := e3.length
    exact ⟨ta, vs, c, rfl, e2, by simp at h5; omega⟩
  keeper := fun {G h} hS k => by
    obtain ⟨k', a, b⟩ := keeper_fn (M := model prog w) (N.hSC G hS).f
    exact ⟨k', a, b.keeps k⟩
  handed := rfl
  act := fun {σ t r b} ht A G pre ow s xs ta vs c Q E hA hS hV W hl hv hta h hE => by
    obtain ⟨⟨no, RL, IT, rfl, hT⟩, _⟩ := hV
    obtain ⟨hok, hn, hlt, o, hp, hr⟩ := ht
    obtain ⟨ok', _⟩ := touch_ok hp hok N.hne N.hB2
    obtain ⟨hrow, hst⟩ := star_at hT hok W
    obtain ⟨ta', vs', c', x, e1, e2, e3, e4, e5⟩ := hst t (decide_eq_true hlt)
    rw [isList_uniq hl hrow, e1] at hv
    cases hv
    rw [e2] at hta
    cases hta
    have h4 := hok.lens x e5
    have h5 : vs.toList.length = x.length := e3.length
    have h3 : min σ.noted.length moves.length ≤ moves.length := Nat.min_le_right _ _
    have hB := N.hB
    refine touch_spec (S := S) (th := starTh σ t) N.hS N.hSC (N.hK _ ⟨_, e4⟩) N.nlen N.nve hS hT W hA (by rw [e4]; exact e3) (by omega) hok (by omega) N.hB2 N.hne hn (by omega) N.hz3 N.hmv hp (fun res e rr G' h' tk ow' hV' l' S' hr' => ?_) fun e ea t G' h' tk ow' hV' l' S' hf => ?_
    · subst e
      exact h _ _ G' h' tk ow' hr ⟨hV', ok'⟩ l' S' hr'
    · subst e
      exact hE _ ea t G' h' tk ow' hr ⟨hV', ok'⟩ l' S' hf

theorem star_run {σ : Sg} {n : Nat} (hB : 2 ≤ B) (hok : Ok B moves rls.length [0] σ) (hn : B + moves.length ≤ n) (hz : σ.noted.length + n ≤ 50000) :
    Run (SStep (fun σ => (rowOf σ 0).length) (actR B moves rls.length)) (SFail (fun σ => (rowOf σ 0).length) (actR B moves rls.length)) (some 0, σ) (goP moves [0] starMore starTh n 0 σ).2.1 (goP moves [0] starMore starTh n 0 σ).2.2 (none, (goP moves [0] starMore starTh n 0 σ).1) := by
  refine (go_run (by simp) hB ?_ ?_ ?_ (fun t σ a b => star_end_ok a b) n 0 σ hok (by omega) hz).1
  · intro t σ hok hm
    have := of_decide_eq_false hm
    exact .stop (by omega)
  · intro t σ σ' res hm hok hn hp
    exact .turn (of_decide_eq_true hm) ⟨hok, hn, of_decide_eq_true hm, _, hp, rfl⟩
  · intro t σ σ' hm hok hn hp
    exact .fail (of_decide_eq_true hm) ⟨hok, hn, of_decide_eq_true hm, _, hp, rfl⟩
/-- bounds of a run -/
theorem go_ok {ix : List Nat} {more : Sg → Nat → Bool} {th : Sg → Nat → Th} {nl : Nat} (hne : ix ≠ []) (hB : 2 ≤ B) : ∀ (n t : Nat) (σ : Sg), Ok B moves nl ix σ →
    Ok B moves nl ix (goP moves ix more th n t σ).1 ∧ (goP moves ix more th n t σ).2.1.length ≤ n ∧ (goP moves ix more th n t σ).1.noted.length ≤ σ.noted.length + n ∧ ∀ k, (goP moves ix more th n t σ).2.2 = some k → 0 ≤ k ∧ k ≤ σ.noted.length + n
  | 0, t, σ, hok => ⟨hok, Nat.le_refl _, Nat.le_refl _, fun k h => by cases h⟩
  | n + 1, t, σ, hok => by
    cases hm : more σ t with
    | false =>
      rw [goP_stop hm]
      exact ⟨hok, Nat.zero_le _, Nat.le_add_right _ _, fun k h => by cases h⟩
    | true =>
      cases hp : touchP moves ix σ (th σ t) with
      | mk σ' r =>
        obtain ⟨ok', hn'⟩ := touch_ok hp hok hne hB
        cases r with
        | none =>
          rw [goP_fail hm hp]
          exact ⟨ok', Nat.zero_le _, by dsimp only; omega, fun k h => by cases h; constructor <;> omega⟩
        | some res =>
          rw [goP_turn hm hp]
          obtain ⟨a, b, c, d⟩ := go_ok hne hB n (t + 1) σ' ok'
          exact ⟨a, by simp; omega, by dsimp only; omega, fun k h => by have := d k h; constructor <;> omega⟩
end

section
variable {prog : Program} {w : World} {mg mb : Str → Option Value} {A : Around} {E : Value → Shared → Prop} {s : Shared} {fs : List Env} {G : Heap} {ow : List (Addr × Obj)} {Q : Value → Shared → Prop}

theorem bits_small {a : Int} (h0 : 0 ≤ a) (h : a < 1000) : Builtin.Int.intBits a ≤ 64 := by
  obtain ⟨n, rfl⟩ := Int.eq_ofNat_of_zero_le h0
  have hn : n < 1000 := by omega
  have key : ∀ n : Fin 1000, Builtin.Int.intBits ((n.val : Nat) : Int) ≤ 64 := by decide +kernel
  exact key ⟨n, hn⟩

def DrawInv (dl : Addr) (ow : List (Addr × Obj)) (k : Nat) (G : Heap) (ow' : List (Addr × Obj)) (m : Str → Option Value) : Prop :=
  ∃ (o : Obj) (vs : Array Value) (ds : List Int), ow' = (dl, o) :: ow ∧ m (Str.ofString "draws") = some (.ref dl) ∧ PlO vs o ∧ Rds G vs.toList (ds.map .int) ∧ ds.length = min k 10 ∧ ∀ d ∈ ds, 0 ≤ d ∧ d < 72

theorem draws_spec {fa sa : Addr} {sv : Array Value} (F : FnI G 7 fa) (S : Sta mg mb G) (ne : mg "enumerate" = none) (hA : Ar A fs 2 20) (W : Wd fs G ow s.heap) (hl : G.IsList sa sv) (hi : ∀ (k : Nat) (v : Value), sv[k]? = some v → ∃ i t, v = .int i t) (hz : sv.size ≤ 100000)
    (h : ∀ r G' h' tk (ds : List Int), Lf fs G s.heap G' ow h' → Rd G' (.ref r) (.list (ds.map .int)) → ds.length ≤ 10 → (∀ d ∈ ds, 0 ≤ d ∧ d < 72) → Q (.ref r) { s with heap := h', toks := tk }) :
    wpAny (model prog w) A (call (.ref fa) [.ref sa]) Q E s := by
  refine call_fn (binds := [(Str.ofString "script", .ref sa)]) W (by have := hA.dp; omega) S.lim F (fun _ _ _ _ _ => rfl) rfl (fun L cdv h₁ hL₁ hk AT => ?_) (by decide +kernel) rfl rfl rfl
  refine wpAny_execs_cons ?_
  refine wpAny_Assign_Name ?_
  refine w_List ?_
  refine wpAny_items_nil ?_
  refine w_newListOwn AT (by simp) fun dl h₂ nd A₂ => ?_
  refine w_set A₂ fun h₃ tk₃ A₃ => ?_
  refine wpAny_execs_cons ?_
  refine w_forEnum (s := { s with heap := h₃, toks := tk₃ }) (A := A.deeper _) hA.hd (DrawInv dl ow) ?_ A₃ hl ⟨_, _, [], rfl, upd_self _ _ _, PlO.lst _ _, Rds.nil, rfl, fun d hd => by cases hd⟩ ?_ ?_ ?_
  · rintro k G G' ow' m ⟨o, vs, ds, a, b, c, d, e⟩ kp
    exact ⟨o, vs, ds, a, b, c, d.mono kp, e⟩
  · rintro k u t G₄ ow₄ m₄ e eo I io s₄ Qb Eb ⟨o, vs, ds, rfl, hm, hpo, hd, hlen, hb⟩ hu hl₄ A₄ hbb
    obtain ⟨i, ti, rfl⟩ := hi k u hu
    have hvl : vs.size = ds.length := by have := hd.length; simpa using this
    have S₄ := S.mono A₄.gr
    have reassoc : ∀ o, (e, eo) :: (I, io) :: (dl, o) :: ow = [(e, eo), (I, io)] ++ (dl, o) :: ow := fun _ => rfl
    have kind : ∀ (n : Nat), ∃ r : Nat, ((n : Int)).fmod 10 = (r : Int) ∧ r < 10 := fun n => by
      have := fmod_bound (n : Int) (b := 10) (by decide)
      exact ⟨((n : Int).fmod 10).toNat, by omega, by omega⟩
    refine wpAny_execs_cons ?_
    refine wpAny_If ?_
    refine wpAny_isTrue_Compare1 ?_
    refine w_local A₄ (upd_ne (upd_self _ _ _)) ?_
    refine w_int fun t₅ tk₅ => ?_
    refine P.lt_int ?_
    refine wpAny_of_eq (a := decide ((k : Int) < 10)) (by rfl) ?_
    by_cases hk10 : (k : Int) < 10
    · rw [decide_eq_true hk10]
      show wpAny _ _ _ _ _ _
      refine wpAny_execs_cons ?_
      refine wpAny_Expr_any ?_
      refine methodCall_KW ?_
      refine w_local (s := { s₄ with toks := tk₅ }) A₄ (upd_ne (upd_ne hm)) ?_
      refine getMethod_list_append (s := { s₄ with toks := tk₅ }) (A₄.wd.own (dl, o) (by simp)) hpo.1 hpo.2.1 ?_
      refine callWith_method1 ?_
      refine wpAny_items_cons ?_
      refine wpAny_BinOp ?_
      refine w_local (s := { s₄ with toks := tk₅ }) A₄ (upd_self _ _ _) ?_
      refine w_int fun t₆ tk₆ => ?_
      refine w_mod (by decide) fun t₇ tk₇ => ?_
      refine wpAny_items_nil ?_
      rw [reassoc] at A₄
      refine w_append (s := { s₄ with toks := tk₇ }) A₄ hpo (by omega) fun h₈ o₈ A₈ p₈ _ => ?_
      refine wpAny_execs_nil ?_
      refine wpAny_execs_nil ?_
      have hbd := fmod_bound i (b := 72) (by decide)
      refine hbb h₈ tk₇ G₄ ((dl, o₈) :: ow) _ (stays_refl _) A₈ ⟨o₈, _, ds ++ [i.fmod 72], rfl, upd_ne (upd_ne hm), p₈, ?_, ?_, ?_⟩
      · rw [Array.toList_push, List.map_append]
        exact hd.append (Rds.cons (Rd.int _ _) Rds.nil)
      · simp; omega
      · intro d hd'
        rcases List.mem_append.mp hd' with hd' | hd'
        · exact hb d hd'
        · rw [List.mem_singleton.mp hd']; exact hbd
    · rw [decide_eq_false hk10]
      show wpAny _ _ _ _ _ _
      obtain ⟨r, hr, hr10⟩ := kind k
      have hl10 : ds.length = 10 := by omega
      refine wpAny_execs_cons ?_
      refine wpAny_Assign_Subscript ?_
      refine wpAny_BinOp ?_
      refine wpAny_BinOp ?_
      refine wpAny_BinOp ?_
      refine Subscript_ ?_
      refine w_local (s := { s₄ with toks := tk₅ }) A₄ (upd_ne (upd_ne hm)) ?_
      refine wpAny_BinOp ?_
      refine w_local (s := { s₄ with toks := tk₅ }) A₄ (upd_ne (upd_self _ _ _)) ?_
      refine w_int fun t₆ tk₆ => ?_
      refine w_mod (by decide) fun t₇ tk₇ => ?_
      rw [hr]
      have hrv : r < vs.toList.length := by simp; omega
      obtain ⟨dd, hd1, hd2⟩ := (Rds.all2.mp hd).get (List.getElem?_eq_getElem hrv)
      rw [List.getElem?_map] at hd1
      have hrd : r < ds.length := by omega
      rw [List.getElem?_eq_getElem hrd] at hd1
      cases hd1
      obtain ⟨tt, hv⟩ := hd2.int_inv
      have hbr := hb _ (List.getElem_mem hrd)
      refine item_listL (s := { s₄ with toks := tk₇ }) (l := vs.toList) (by simpa using hpo.isList (A₄.wd.own (dl, o) (by simp))) (by omega) (by omega) (by rw [Int.toNat_natCast, List.getElem?_eq_getElem hrv, hv]) ?_
      refine w_int fun t₈ tk₈ => ?_
      refine w_mul (bits_small hbr.1 (by omega)) fun t₉ tk₉ => ?_
      refine w_local (s := { s₄ with toks := tk₉ }) A₄ (upd_self _ _ _) ?_
      refine w_add fun t₁₀ tk₁₀ => ?_
      refine w_int fun t₁₁ tk₁₁ => ?_
      refine w_mod (by decide) fun t₁₂ tk₁₂ => ?_
      refine w_local (s := { s₄ with toks := tk₁₂ }) A₄ (upd_ne (upd_ne hm)) ?_
      refine wpAny_BinOp ?_
      refine w_local (s := { s₄ with toks := tk₁₂ }) A₄ (upd_ne (upd_self _ _ _)) ?_
      refine w_int fun t₁₃ tk₁₃ => ?_
      refine w_mod (by decide) fun t₁₄ tk₁₄ => ?_
      rw [hr]
      rw [reassoc] at A₄
      refine w_setItem (s := { s₄ with toks := tk₁₄ }) A₄ hpo (by omega) (by omega) fun h₈ o₈ A₈ p₈ _ => ?_
      refine wpAny_execs_nil ?_
      refine wpAny_execs_nil ?_
      have hbd := fmod_bound (ds[r] * 7 + i) (b := 72) (by decide)
      refine hbb h₈ tk₁₄ G₄ ((dl, o₈) :: ow) _ (stays_refl _) A₈ ⟨o₈, _, ds.set r ((ds[r] * 7 + i).fmod 72), rfl, upd_ne (upd_ne hm), p₈, ?_, ?_, ?_⟩
      · rw [Array.toList_setIfInBounds, List.map_set]
        exact Rds.all2.mpr ((Rds.all2.mp hd).set (Rd.int _ _) r)
      · simp; omega
      · intro d hd'
        rcases List.mem_or_eq_of_mem_set hd' with hd' | rfl
        · exact hb d hd'
        · exact hbd
  · rintro h' tk G' ow' m' A' ⟨o, vs, ds, rfl, hm, hpo, hd, hlen, hb⟩
    refine wpAny_execs_cons ?_
    refine wpAny_Return_some ?_
    refine w_local (s := { s with heap := h', toks := tk }) A' hm ?_
    have ndd := A'.wd.nd
    simp only [List.map_cons, List.nodup_cons] at ndd
    obtain ⟨G₉, g9, l₉, q9⟩ := A'.leave (ow' := ow) (fun p hp => .tail _ hp) ndd.2
    refine h dl G₉ h' tk ds l₉ (Rd.list (hpo.isList (q9 (dl, o) (by simp) ndd.1)) (hd.mono g9)) (by omega) hb
  · intro Q' hQ
    refine w_call ?_
    refine w_builtin (s := { s with heap := h₃, toks := tk₃ }) A₃ S ne (by boot_by_name) ?_
    refine w_callType ?_
    refine wpAny_items_cons ?_
    refine w_local (s := { s with heap := h₃, toks := tk₃ }) A₃ (upd_ne rfl) ?_
    exact wpAny_items_nil hQ
end

section
variable {prog : Program} {w : World} {A : Around} {E : Value → Shared → Prop} {s : Shared}
theorem sum_small : ∀ (l : List Int), (∀ d ∈ l, 0 ≤ d ∧ d < 72) → 0 ≤ l.sum ∧ l.sum ≤ 72 * l.length
  | [], _ => by simp
  | x :: l, h => by
    have h1 := h x (.head _)
    have h2 := sum_small l fun d hd => h d (.tail _ hd)
    rw [List.sum_cons, List.length_cons]
    constructor <;> omega
theorem sum_ints {l : Addr} {vs : Array Value} {ns : List Int} {Q : Value → Shared → Prop} (hh : A.handled = none) (hl : s.heap.IsList l vs) (hall : All2 (fun v i => ∃ t, v = Value.int i t) vs.toList ns) (hb : ∀ d ∈ ns, 0 ≤ d ∧ d < 72) (hz : ns.length ≤ 1000)
    (h : ∀ t h' tk, s.heap.StaysIn h' → Q (.int ns.sum t) { s with heap := h', toks := tk }) : wpAny (model prog w) A (call (.builtin "sum") [.ref l]) Q E s := by
  obtain ⟨xs, rfl, rfl⟩ := allInts_of hall
  refine sum_intList hh hl (fun j hj => ?_) fun h' tk t' hk => ?_
  · have hx : (xs.toList.map (·.1)).length = xs.size := by simp
    constructor
    · rw [numAt_eq]
      have := hb _ (getD_mem' (l := xs.toList.map (·.1)) (n := j) (d := 0) (by rw [hx]; exact hj))
      constructor
      · have := this.1; exact Int.le_trans (by decide) this
      · have := this.2; exact Int.lt_of_lt_of_le this (by decide)
    · rw [preSum_eq]
      have h1 := sum_small ((xs.toList.map (·.1)).take (j + 1)) fun d hd => hb d (List.mem_of_mem_take hd)
      have h2 : ((xs.toList.map (·.1)).take (j + 1)).length ≤ 1000 := by rw [List.length_take]; omega
      constructor
      · exact Int.le_trans (by decide) h1.1
      · have : (72 : Int) * ((xs.toList.map (·.1)).take (j + 1)).length ≤ 72000 := by omega
        exact Int.lt_of_le_of_lt (Int.le_trans h1.2 this) (by decide)
  · have e : preSum (numAt xs) xs.size = (xs.toList.map (·.1)).sum := by
      rw [preSum_eq]
      rw [List.take_of_length_le (by simp)]
    have := h t' h' tk hk
    rwa [e]
end
def n1Of (ds : List Int) : Nat := (1 + ds.sum.fmod 4).toNat
def n2Of (ds : List Int) : Nat := (1 + (ds.sum.fdiv 4).fmod 4).toNat
def ixOf (ds : List Int) : List Nat := [[0], [0, 1], [1, 0, 0], [0, 0]].getD ((ds.sum.fdiv 16).fmod 4).toNat []
def sg0 (ds : List Int) : Sg := { items := ((List.range (n1Of ds)).map fun k : Nat => [(k : Int)]) ++ ((List.range (n2Of ds)).map fun k : Nat => [9, (k : Int)]), lst := [List.range (n1Of ds), (List.range (n2Of ds)).map (n1Of ds + ·)], noted := [] }
theorem n1_le (ds : List Int) : 1 ≤ n1Of ds ∧ n1Of ds ≤ 4 ∧ ((n1Of ds : Nat) : Int) = 1 + ds.sum.fmod 4 := by
  have := fmod_bound ds.sum (b := 4) (by decide)
  unfold n1Of
  omega
theorem n2_le (ds : List Int) : 1 ≤ n2Of ds ∧ n2Of ds ≤ 4 ∧ ((n2Of ds : Nat) : Int) = 1 + (ds.sum.fdiv 4).fmod 4 := by
  have := fmod_bound (ds.sum.fdiv 4) (b := 4) (by decide)
  unfold n2Of
  omega
theorem ixOf_cases (ds : List Int) : ixOf ds = [0] ∨ ixOf ds = [0, 1] ∨ ixOf ds = [1, 0, 0] ∨ ixOf ds = [0, 0] := by
  have := fmod_bound (ds.sum.fdiv 16) (b := 4) (by decide)
  unfold ixOf
  have hk : ((ds.sum.fdiv 16).fmod 4).toNat < 4 := by omega
  generalize ((ds.sum.fdiv 16).fmod 4).toNat = k at hk
  match k, hk with
  | 0, _ => exact .inl rfl
  | 1, _ => exact .inr (.inl rfl)
  | 2, _ => exact .inr (.inr (.inl rfl))
  | 3, _ => exact .inr (.inr (.inr rfl))
theorem sg0_ok (ds moves : List Int) : Ok 8 moves 2 (ixOf ds) (sg0 ds) := by
  have h1 := n1_le ds
  have h2 := n2_le ds
  refine ⟨rfl, fun r hr => ?_, fun row hrow i hi => ?_, fun row hrow => ?_, ?_, fun x hx => ?_⟩
  · rcases ixOf_cases ds with h | h | h | h <;> rw [h] at hr <;> simp at hr <;> omega
  · unfold sg0 at hrow ⊢
    simp at hrow ⊢
    rcases hrow with rfl | rfl
    · simp at hi; omega
    · simp at hi; omega
  · unfold sg0 at hrow
    simp at hrow
    rcases hrow with rfl | rfl <;> simp <;> omega
  · unfold sg0
    simp; omega
  · unfold sg0 at hx
    simp at hx
    rcases hx with ⟨a, _, rfl⟩ | ⟨a, _, rfl⟩ <;> simp <;> omega

abbrev rwE (L fa : Addr) (cdv : Value) : Env := envX (fdName (stm 8)) (fdScope (stm 8)) L fa cdv []
def RowItv (f : Nat → List Int) (base : List (Addr × Obj)) (k : Nat) (ow : List (Addr × Obj)) (vs : List Value) : Prop :=
  ∃ IT : List (Addr × Obj), ow = IT ++ base ∧ vs = IT.map (fun p => Value.ref p.1) ∧ All2 ItemO IT ((List.range k).map f)
theorem RowItv.step {f : Nat → List Int} {base ow : List (Addr × Obj)} {k : Nat} {vs : List Value} {p : Addr × Obj} (h : RowItv f base k ow vs) (hp : ItemO p (f k)) :
    ∃ ow', RowItv f base (k + 1) ow' (vs ++ [.ref p.1]) ∧ ∀ a b c : Addr × Obj, (p :: a :: b :: c :: ow).Perm (a :: b :: c :: ow') := by
  obtain ⟨IT, rfl, rfl, h⟩ := h
  refine ⟨(IT ++ [p]) ++ base, ⟨IT ++ [p], rfl, by simp, ?_⟩, fun a b c => ?_⟩
  · rw [List.range_succ, List.map_append]
    exact h.append (.cons hp .nil)
  · have e1 : p :: a :: b :: c :: (IT ++ base) = p :: ((a :: b :: c :: IT) ++ base) := rfl
    have e2 : a :: b :: c :: ((IT ++ [p]) ++ base) = (a :: b :: c :: IT) ++ p :: base := by simp
    rw [e1, e2]
    exact List.perm_middle.symm
theorem row_ads {IT : List (Addr × Obj)} : IT.map (fun p => Value.ref p.1) = (List.range IT.length).map fun i => Value.ref (adOf IT i) := by
  apply List.ext_getElem?
  intro i
  rw [List.getElem?_map, List.getElem?_map]
  by_cases h : i < IT.length
  · rw [List.getElem?_eq_getElem h, List.getElem?_eq_getElem (by simpa using h)]
    simp [adOf, List.getD_eq_getElem?_getD, List.getElem?_eq_getElem h]
  · rw [List.getElem?_eq_none (by omega), List.getElem?_eq_none (by simp; omega)]; rfl
theorem ad_right {IT IT' : List (Addr × Obj)} {i : Nat} : adOf (IT ++ IT') (IT.length + i) = adOf IT' i := by
  unfold adOf
  rw [List.getD_eq_getElem?_getD, List.getD_eq_getElem?_getD, List.map_append, List.getElem?_append_right (by simp)]
  simp
theorem ad_left {IT IT' : List (Addr × Obj)} {i : Nat} (h : i < IT.length) : adOf (IT ++ IT') i = adOf IT i := by
  unfold adOf
  rw [List.getD_eq_getElem?_getD, List.getD_eq_getElem?_getD, List.map_append, List.getElem?_append_left (by simpa using h)]

section
variable {prog : Program} {w : World} {mg mb : Str → Option Value} {A : Around} {E : Value → Shared → Prop} {s : Shared} {X : Ent} {G : Heap} {m : Str → Option Value} {fa L : Addr} {cdv : Value} {base : List (Addr × Obj)}

theorem rows_c1 {Q : Flow → Shared → Prop} {ds : List Int} {tt : Tok} (S : Sta mg mb G) (nr : mg "range" = none) (hA : Ar A (rwE L fa cdv :: X.fs) 1 10) (AT : At X G base (rwE L fa cdv) m s.heap) (hm : m (Str.ofString "total") = some (.int ds.sum tt))
    (h : ∀ D ao IT h' tk, At X G ((D, ao) :: (IT ++ base)) (rwE L fa cdv) (upd m (Str.ofString "first") (.ref D)) h' → PlX (IT.map fun p => Value.ref p.1).toArray ao → All2 ItemO IT ((List.range (n1Of ds)).map fun k : Nat => [(k : Int)]) → Q .next { s with heap := h', toks := tk }) :
    wpAny (model prog w) A (exec ((fdBody (stm 8)).getD 1 (.Pass default)) (rwE L fa cdv)) Q E s := by
  have hn := n1_le ds
  refine w_compRAssign (cl := []) ?_
  refine w_call ?_
  refine w_builtin AT S nr (by boot_by_name) ?_
  refine w_callType ?_
  refine wpAny_items_cons ?_
  refine wpAny_BinOp ?_
  refine w_int fun t₁ tk₁ => ?_
  refine wpAny_BinOp ?_
  refine w_local (s := { s with toks := tk₁ }) AT hm ?_
  refine w_int fun t₂ tk₂ => ?_
  refine w_mod (by decide) fun t₃ tk₃ => ?_
  refine w_add fun t₄ tk₄ => ?_
  rw [← hn.2.2]
  refine wpAny_items_nil ?_
  refine call_range_1 (s := { s with toks := tk₄ }) ?_
  have hsm : Builtin.Range.small 0 ((n1Of ds : Nat) : Int) 1 = true := small_one (by decide) (by decide) (by omega) (by omega)
  refine wpAny_pyIter_range (s := { s with heap := _, toks := _ }) (IsRange.new _ _ _ _ _ _ _) hsm ?_
  have A₁ := AT.keeps (h' := s.heap.push { cls := .type "range", data := .fields #[.int 0 tk₄, .int ((n1Of ds : Nat) : Int) t₄, .int 1 (tk₄ + 1)] }) fun _ _ e => Heap.get?_push_of_some _ e
  generalize s.heap.push { cls := .type "range", data := .fields #[.int 0 tk₄, .int ((n1Of ds : Nat) : Int) t₄, .int 1 (tk₄ + 1)] } = h₁ at *
  have ers : Builtin.Range.rangeSize 0 ((n1Of ds : Nat) : Int) 1 = ((n1Of ds : Nat) : Int) := by
    rw [rangeSize_one]
    split <;> omega
  rw [ers]
  have A₂ := A₁.own_new (h' := h₁.push (rgO 0 (n1Of ds))) (fun _ _ e => Heap.get?_push_of_some _ e) (size_none _) (Heap.get?_push_size _ rfl)
  refine ⟨h₁.objs.size, rgO 0 (n1Of ds), X, G, m, base, fun k io => io = rgO k (n1Of ds), n1Of ds, fun k v => ∃ t, v = .int (k : Int) t, fun k G' ow vs => G' = G ∧ RowItv (fun k : Nat => [(k : Int)]) base k ow vs,
    rfl, A₂, src_range hA.hd, rfl, by omega, ⟨rfl, [], rfl, rfl, .nil⟩, ?_, ?_⟩
  · rintro k v C oC L' ao io G' ow' vs' s' Qe Ee hk ⟨t, rfl⟩ ⟨rfl, hR⟩ g' A' ⟨mC, hnC, hmC⟩ hq
    refine w_List ?_
    refine wpAny_items_cons ?_
    refine w_ns hnC rfl hmC ?_
    refine wpAny_items_nil ?_
    refine w_newListOwn A' (by simp) fun D h₃ nD A₃ => ?_
    obtain ⟨ow₃, hR₃, pm⟩ := hR.step (p := (D, lstObj [Value.int (k : Int) t].toArray 0)) ⟨[Value.int (k : Int) t].toArray, ⟨0, rfl⟩, .cons ⟨t, rfl⟩ .nil⟩
    exact hq (.ref D) G' h₃ _ ow₃ (stays_refl _) (A₃.perm (pm _ _ _)) ⟨rfl, hR₃⟩
  · rintro L' ao vs' G' h' tk ow' pao hvl ⟨rfl, IT, rfl, rfl, hIT⟩ g' h'' tk' A'
    exact h L' ao IT h'' tk' A' pao hIT

theorem rows_c2 {Q : Flow → Shared → Prop} {ds : List Int} {tt : Tok} (S : Sta mg mb G) (nr : mg "range" = none) (hA : Ar A (rwE L fa cdv :: X.fs) 1 10) (AT : At X G base (rwE L fa cdv) m s.heap) (hm : m (Str.ofString "total") = some (.int ds.sum tt))
    (h : ∀ D ao IT h' tk, At X G ((D, ao) :: (IT ++ base)) (rwE L fa cdv) (upd m (Str.ofString "second") (.ref D)) h' → PlX (IT.map fun p => Value.ref p.1).toArray ao → All2 ItemO IT ((List.range (n2Of ds)).map fun k : Nat => [9, (k : Int)]) → Q .next { s with heap := h', toks := tk }) :
    wpAny (model prog w) A (exec ((fdBody (stm 8)).getD 2 (.Pass default)) (rwE L fa cdv)) Q E s := by
  have hn := n2_le ds
  refine w_compRAssign (cl := []) ?_
  refine w_call ?_
  refine w_builtin AT S nr (by boot_by_name) ?_
  refine w_callType ?_
  refine wpAny_items_cons ?_
  refine wpAny_BinOp ?_
  refine w_int fun t₁ tk₁ => ?_
  refine wpAny_BinOp ?_
  refine wpAny_BinOp ?_
  refine w_local (s := { s with toks := tk₁ }) AT hm ?_
  refine w_int fun t₂ tk₂ => ?_
  refine w_fdiv (by decide) (PyProof.noPylong_small (by decide)) fun t₅ tk₅ => ?_
  refine w_int fun t₆ tk₆ => ?_
  refine w_mod (by decide) fun t₃ tk₃ => ?_
  refine w_add fun t₄ tk₄ => ?_
  rw [← hn.2.2]
  refine wpAny_items_nil ?_
  refine call_range_1 (s := { s with toks := tk₄ }) ?_
  have hsm : Builtin.Range.small 0 ((n2Of ds : Nat) : Int) 1 = true := small_one (by decide) (by decide) (by omega) (by omega)
  refine wpAny_pyIter_range (s := { s with heap := _, toks := _ }) (IsRange.new _ _ _ _ _ _ _) hsm ?_
  have A₁ := AT.keeps (h' := s.heap.push { cls := .type "range", data := .fields #[.int 0 tk₄, .int ((n2Of ds : Nat) : Int) t₄, .int 1 (tk₄ + 1)] }) fun _ _ e => Heap.get?_push_of_some _ e
  generalize s.heap.push { cls := .type "range", data := .fields #[.int 0 tk₄, .int ((n2Of ds : Nat) : Int) t₄, .int 1 (tk₄ + 1)] } = h₁ at *
  have ers : Builtin.Range.rangeSize 0 ((n2Of ds : Nat) : Int) 1 = ((n2Of ds : Nat) : Int) := by
    rw [rangeSize_one]
    split <;> omega
  rw [ers]
  have A₂ := A₁.own_new (h' := h₁.push (rgO 0 (n2Of ds))) (fun _ _ e => Heap.get?_push_of_some _ e) (size_none _) (Heap.get?_push_size _ rfl)
  refine ⟨h₁.objs.size, rgO 0 (n2Of ds), X, G, m, base, fun k io => io = rgO k (n2Of ds), n2Of ds, fun k v => ∃ t, v = .int (k : Int) t, fun k G' ow vs => G' = G ∧ RowItv (fun k : Nat => [9, (k : Int)]) base k ow vs,
    rfl, A₂, src_range hA.hd, rfl, by omega, ⟨rfl, [], rfl, rfl, .nil⟩, ?_, ?_⟩
  · rintro k v C oC L' ao io G' ow' vs' s' Qe Ee hk ⟨t, rfl⟩ ⟨rfl, hR⟩ g' A' ⟨mC, hnC, hmC⟩ hq
    refine w_List ?_
    refine wpAny_items_cons ?_
    refine w_int fun t₈ tk₈ => ?_
    refine wpAny_items_cons ?_
    refine w_ns (s := { s' with toks := tk₈ }) hnC rfl hmC ?_
    refine wpAny_items_nil ?_
    refine w_newListOwn (s := { s' with toks := tk₈ }) A' (by simp) fun D h₃ nD A₃ => ?_
    obtain ⟨ow₃, hR₃, pm⟩ := hR.step (p := (D, lstObj [Value.int 9 t₈, Value.int (k : Int) t].toArray 0)) ⟨[Value.int 9 t₈, Value.int (k : Int) t].toArray, ⟨0, rfl⟩, .cons ⟨t₈, rfl⟩ (.cons ⟨t, rfl⟩ .nil)⟩
    exact hq (.ref D) G' h₃ _ ow₃ (stays_refl _) (A₃.perm (pm _ _ _)) ⟨rfl, hR₃⟩
  · rintro L' ao vs' G' h' tk ow' pao hvl ⟨rfl, IT, rfl, rfl, hIT⟩ g' h'' tk' A'
    exact h L' ao IT h'' tk' A' pao hIT
end

section
variable {prog : Program} {w : World} {mg mb : Str → Option Value} {A : Around} {E : Value → Shared → Prop} {s : Shared} {fs : List Env} {G : Heap} {ow : List (Addr × Obj)} {Q : Value → Shared → Prop}
theorem ints_of {G : Heap} {vs : List Value} {l : List Int} (h : Rds G vs (l.map .int)) : All2 (fun v i => ∃ t, v = Value.int i t) vs l := by
  have := Rds.all2.mp h
  clear h
  induction l generalizing vs with
  | nil => cases this; exact .nil
  | cons x l ih => cases this with | cons a b => exact .cons a.int_inv (ih b)

theorem item_listT {value slice : Expr} {a : Addr} {l : List Value} {k : Int} {u : Tok} {x : Value} (hl : s.heap.IsList a l.toArray) (h0 : 0 ≤ k) (hfit : k < 2 ^ 63) (hx : l[k.toNat]? = some x) (h : Q x s)
    (hs : subscripted slice false (.ref a) (.int k u) = operate [.ref a, .int k u] (getItem (.ref a) (.int k u)) := by with_unfolding_all rfl) :
    wpAny (model prog w) A (subscriptTail value slice (.ref a) (.int k u)) Q E s :=
  tail_any hl.typeIs slot_list_getitem.lookup (wpAny_getItem_list (x := x) hl h0 hfit (by simpa using hx) h) hs

theorem rows_spec {fa da : Addr} {ds : List Int} (F : FnI G 8 fa) (S : Sta mg mb G) (nr : mg "range" = none) (ns : mg "sum" = none) (hA : Ar A fs 3 30) (W : Wd fs G ow s.heap) (hd : Rd G (.ref da) (.list (ds.map .int))) (hb : ∀ d ∈ ds, 0 ≤ d ∧ d < 72) (hz : ds.length ≤ 1000)
    (h : ∀ r rls RL IT G' h' tk, Lf fs G s.heap G' (RL ++ (IT ++ ow)) h' → rls.Nodup → rls.length = 2 → RL.map (·.1) = rls → All2 (RowO IT) RL (sg0 ds).lst → All2 ItemO IT (sg0 ds).items → G'.IsList r ((ixOf ds).map fun i => Value.ref (rls.getD i 0)).toArray → Q (.ref r) { s with heap := h', toks := tk }) :
    wpAny (model prog w) A (call (.ref fa) [.ref da]) Q E s := by
  obtain ⟨_, dv, e, hl, hr⟩ := hd.list_inv
  cases e
  refine call_fn (binds := [(Str.ofString "draws", .ref da)]) W (by have := hA.dp; omega) S.lim F (fun _ _ _ _ _ => rfl) rfl (fun L cdv h₁ hL₁ hk AT => ?_) (by decide +kernel) rfl rfl rfl
  have hA' := (hA.less (d' := 2) (u' := 20) (by omega) (by omega)).deeper (d := 1) (u := 17) (rwE L fa cdv)
  refine wpAny_execs_cons ?_
  refine wpAny_Assign_Name ?_
  refine w_call ?_
  refine w_builtin AT S ns (by boot_by_name) ?_
  refine w_callBuiltin ?_
  refine wpAny_items_cons ?_
  refine w_local AT rfl ?_
  refine wpAny_items_nil ?_
  refine sum_ints hA'.hd (isList_mono hl AT.keep) (ints_of hr) hb hz fun t₂ h₂ tk₂ k₂ => ?_
  have A₂ := AT.keeps k₂
  refine w_set (s := { s with heap := h₂, toks := tk₂ }) A₂ fun h₃ tk₃ A₃ => ?_
  refine wpAny_execs_cons ?_
  refine rows_c1 (s := { s with heap := h₃, toks := tk₃ }) S nr (hA'.less (by omega) (by omega)) A₃ (upd_self _ _ _) fun D1 o1 IT1 h₄ tk₄ A₄ p1 i1 => ?_
  refine wpAny_execs_cons ?_
  refine rows_c2 (s := { s with heap := h₄, toks := tk₄ }) S nr (hA'.less (by omega) (by omega)) A₄ (upd_ne (upd_self _ _ _)) fun D2 o2 IT2 h₅ tk₅ A₅ p2 i2 => ?_
  refine wpAny_execs_cons ?_
  refine wpAny_Return_some ?_
  have m1 : (upd (upd (upd (fun y => List.lookup y [(Str.ofString "draws", Value.ref da)].reverse) (Str.ofString "total") (Value.int ds.sum t₂)) (Str.ofString "first") (Value.ref D1)) (Str.ofString "second") (Value.ref D2)) (Str.ofString "first") = some (.ref D1) := upd_ne (upd_self _ _ _)
  have m2 : (upd (upd (upd (fun y => List.lookup y [(Str.ofString "draws", Value.ref da)].reverse) (Str.ofString "total") (Value.int ds.sum t₂)) (Str.ofString "first") (Value.ref D1)) (Str.ofString "second") (Value.ref D2)) (Str.ofString "second") = some (.ref D2) := upd_self _ _ _
  have m3 : (upd (upd (upd (fun y => List.lookup y [(Str.ofString "draws", Value.ref da)].reverse) (Str.ofString "total") (Value.int ds.sum t₂)) (Str.ofString "first") (Value.ref D1)) (Str.ofString "second") (Value.ref D2)) (Str.ofString "total") = some (.int ds.sum t₂) := upd_ne (upd_ne (upd_self _ _ _))
  refine Subscript_ ?_
  refine w_List ?_
  refine wpAny_items_cons ?_
  refine w_List ?_
  refine wpAny_items_cons ?_
  refine w_local (s := { s with heap := h₅, toks := tk₅ }) A₅ m1 ?_
  refine wpAny_items_nil ?_
  refine w_newList (s := { s with heap := h₅, toks := tk₅ }) A₅ (by simp) fun a1 G₆ h₆ g₆ A₆ l₆ => ?_
  refine wpAny_items_cons ?_
  refine w_List ?_
  refine wpAny_items_cons ?_
  refine w_local (s := { s with heap := h₆, toks := tk₅ }) A₆ m1 ?_
  refine wpAny_items_cons ?_
  refine w_local (s := { s with heap := h₆, toks := tk₅ }) A₆ m2 ?_
  refine wpAny_items_nil ?_
  refine w_newList (s := { s with heap := h₆, toks := tk₅ }) A₆ (by simp) fun a2 G₇ h₇ g₇ A₇ l₇ => ?_
  refine wpAny_items_cons ?_
  refine w_List ?_
  refine wpAny_items_cons ?_
  refine w_local (s := { s with heap := h₇, toks := tk₅ }) A₇ m2 ?_
  refine wpAny_items_cons ?_
  refine w_local (s := { s with heap := h₇, toks := tk₅ }) A₇ m1 ?_
  refine wpAny_items_cons ?_
  refine w_local (s := { s with heap := h₇, toks := tk₅ }) A₇ m1 ?_
  refine wpAny_items_nil ?_
  refine w_newList (s := { s with heap := h₇, toks := tk₅ }) A₇ (by simp) fun a3 G₈ h₈ g₈ A₈ l₈ => ?_
  refine wpAny_items_cons ?_
  refine w_List ?_
  refine wpAny_items_cons ?_
  refine w_local (s := { s with heap := h₈, toks := tk₅ }) A₈ m1 ?_
  refine wpAny_items_cons ?_
  refine w_local (s := { s with heap := h₈, toks := tk₅ }) A₈ m1 ?_
  refine wpAny_items_nil ?_
  refine w_newList (s := { s with heap := h₈, toks := tk₅ }) A₈ (by simp) fun a4 G₉ h₉ g₉ A₉ l₉ => ?_
  refine wpAny_items_nil ?_
  refine w_newList (s := { s with heap := h₉, toks := tk₅ }) A₉ (by simp) fun a5 Gx hx gx Ax lx => ?_
  refine wpAny_BinOp ?_
  refine wpAny_BinOp ?_
  refine w_local (s := { s with heap := hx, toks := tk₅ }) Ax m3 ?_
  refine w_int fun ta tka => ?_
  refine w_fdiv (by decide) (PyProof.noPylong_small (by decide)) fun tb tkb => ?_
  refine w_int fun tc tkc => ?_
  refine w_mod (by decide) fun td tkd => ?_
  have hb4 := fmod_bound (ds.sum.fdiv 16) (b := 4) (by decide)
  -- the row chosen
  have pick : ∃ r, ([Value.ref a1, .ref a2, .ref a3, .ref a4] : List Value)[((ds.sum.fdiv 16).fmod 4).toNat]? = some (.ref r) ∧ Gx.IsList r ((ixOf ds).map fun i => Value.ref ([D1, D2].getD i 0)).toArray := by
    unfold ixOf
    have hk : ((ds.sum.fdiv 16).fmod 4).toNat < 4 := by omega
    generalize ((ds.sum.fdiv 16).fmod 4).toNat = k at hk
    match k, hk with
    | 0, _ => exact ⟨a1, rfl, isList_mono l₆ (stays_trans g₇ (stays_trans g₈ (stays_trans g₉ gx)))⟩
    | 1, _ => exact ⟨a2, rfl, isList_mono l₇ (stays_trans g₈ (stays_trans g₉ gx))⟩
    | 2, _ => exact ⟨a3, rfl, isList_mono l₈ (stays_trans g₉ gx)⟩
    | 3, _ => exact ⟨a4, rfl, isList_mono l₉ gx⟩
  obtain ⟨r, hr1, hr2⟩ := pick
  refine item_listT (s := { s with heap := hx, toks := tkd }) (l := [Value.ref a1, .ref a2, .ref a3, .ref a4]) (isList_mono lx Ax.keep) hb4.1 (by simp; omega) hr1 ?_
  have pm : ((D2, o2) :: (IT2 ++ (D1, o1) :: (IT1 ++ ow))).Perm ([(D1, o1), (D2, o2)] ++ ((IT1 ++ IT2) ++ ow)) := by
    have e1 : (D2, o2) :: (IT2 ++ (D1, o1) :: (IT1 ++ ow)) = ((D2, o2) :: IT2) ++ (D1, o1) :: (IT1 ++ ow) := rfl
    rw [e1]
    refine List.perm_middle.trans (List.Perm.cons _ ?_)
    refine List.Perm.cons _ ?_
    show (IT2 ++ (IT1 ++ ow)).Perm (IT1 ++ IT2 ++ ow)
    rw [← List.append_assoc]
    exact List.Perm.append_right _ List.perm_append_comm
  have Ay := Ax.perm pm
  have nd := Ay.wd.nd
  have l1 : IT1.length = n1Of ds := by have := i1.length; simpa using this
  have l2 : IT2.length = n2Of ds := by have := i2.length; simpa using this
  refine h r [D1, D2] [(D1, o1), (D2, o2)] (IT1 ++ IT2) Gx hx tkd Ay.lf ?_ rfl rfl ?_ ?_ hr2
  · rw [List.map_append] at nd
    exact (List.nodup_append.mp nd).1
  · unfold sg0
    refine .cons ?_ (.cons ?_ .nil)
    · unfold RowO
      have e : (List.range (n1Of ds)).map (fun i => Value.ref (adOf (IT1 ++ IT2) i)) = IT1.map fun p => Value.ref p.1 := by
        rw [row_ads, l1]
        exact List.map_congr_left fun i hi => by rw [ad_left (by rw [l1]; exact List.mem_range.mp hi)]
      rw [e]
      exact p1
    · unfold RowO
      have e : ((List.range (n2Of ds)).map (n1Of ds + ·)).map (fun i => Value.ref (adOf (IT1 ++ IT2) i)) = IT2.map fun p => Value.ref p.1 := by
        rw [row_ads, l2, List.map_map]
        refine List.map_congr_left fun i hi => ?_
        show Value.ref (adOf (IT1 ++ IT2) (n1Of ds + i)) = _
        rw [← l1, ad_right]
      rw [e]
      exact p2
  · unfold sg0
    exact i1.append i2
end

def posOf : Stmt → Pos
  | .FunctionDef _ _ _ _ _ _ _ _ _ p => p
  | _ => default
abbrev haE (L fa : Addr) (cdv : Value) : Env := envX (fdName (stm 11)) (fdScope (stm 11)) L fa cdv (cellsFrom (L + 1) (fdScope (stm 11)).names [])
section
variable {prog : Program} {w : World} {mg mb : Str → Option Value} {A : Around} {E : Value → Shared → Prop} {s : Shared} {fs : List Env} {G : Heap} {ow : List (Addr × Obj)} {Q : Value → Shared → Prop}
/-- what _law_hand leans on -/
structure HandS (mg mb : Str → Option Value) (fa cH PH : Addr) (G : Heap) : Prop where
  st : Sta mg mb G
  b : Bmn mg G
  f : FnI G 11 fa
  c : CodeHd G cH PH
  cd : ∃ o fd, G.get? fa = some o ∧ o.data = .func fd ∧ fd.code = .ref cH
theorem HandS.mono {fa cH PH : Addr} : ∀ G G', HandS mg mb fa cH PH G → G.StaysIn G' → HandS mg mb fa cH PH G' :=
  fun _ _ h k => ⟨h.st.mono k, h.b.mono k, h.f.mono k, h.c.keeps k, let ⟨o, fd, e, r⟩ := h.cd; ⟨o, fd, k _ _ e, r⟩⟩

theorem hand_spec {fa cH PH rl ml kf nl : Addr} {ps : Array Value} (hG : HandS mg mb fa cH PH G) (hA : Ar A fs 3 30) (ht : TabSt (posOf tsS) tsQ G ps) (W : Wd fs G ((PH, tabObj ps) :: ow) s.heap)
    (h : ∀ tf cR cM cK cN G' h' tk ps', Lf fs G s.heap G' ((PH, tabObj ps') :: ow) h' → TabSt (posOf tsS) tsQ G' ps' → FnAt G' tf (fdName tsS) tsQ (fdParams tsS) (fdBody tsS) (fdScope tsS) (tsC cR cM cK cN) →
      G'.IsCell cR (some (.ref rl)) → G'.IsCell cM (some (.ref ml)) → G'.IsCell cK (some (.ref kf)) → G'.IsCell cN (some (.ref nl)) → Q (.ref tf) { s with heap := h', toks := tk }) :
    wpAny (model prog w) A (call (.ref fa) [.ref rl, .ref ml, .ref kf, .ref nl]) Q E s := by
  refine call_fnC (binds := [(Str.ofString "rows", .ref rl), (Str.ofString "moves", .ref ml), (Str.ofString "keep", .ref kf), (Str.ofString "noted", .ref nl)]) W (by have := hA.dp; omega) hG.st.lim hG.f (fun _ _ _ _ _ => rfl) rfl (fun L cdv h₁ tk₁ cells hL hk hcdv CA AT => ?_) (by decide +kernel) rfl rfl rfl
  obtain ⟨o1, fd, e1, e2, e3⟩ := hG.cd
  obtain ⟨o2, pm, doc, an, ct, e4, e5⟩ := hcdv
  rw [e1] at e4; cases e4
  rw [e2] at e5; cases e5
  have hcd : cdv = .ref cH := e3
  subst hcd
  have CA' : CellsAre (bindC (haE L fa (.ref cH)).kindOf [(Str.ofString "rows", .ref rl), (Str.ofString "moves", .ref ml), (Str.ofString "keep", .ref kf), (Str.ofString "noted", .ref nl)] fun _ => none)
    [(Str.ofString "noted", L + 4), (Str.ofString "keep", L + 3), (Str.ofString "moves", L + 2), (Str.ofString "rows", L + 1)] cells := CA
  cases CA' with | @cons _ _ oN _ _ cN CA' =>
  cases CA' with | @cons _ _ oK _ _ cK CA' =>
  obtain ⟨oM, oR, rfl, cM, cR⟩ := CA'.two
  refine wpAny_execs_cons ?_
  refine w_nestDef (s := { s with heap := h₁, toks := tk₁ }) (c := cH) (pre := [(L + 4, oN), (L + 3, oK), (L + 2, oM), (L + 1, oR)]) (clos := tsC (L + 1) (L + 2) (L + 3) (L + 4)) AT hG.st hG.b hG.c ht rfl rfl (by rfl) fun tf G₂ h₂ tk₂ ps₂ le₂ A₂ t₂ f₂ => ?_
  refine wpAny_execs_cons ?_
  refine wpAny_Return_some ?_
  refine w_local (s := { s with heap := h₂, toks := tk₂ }) A₂ (upd_self _ _ _) ?_
  have nd := A₂.wd.nd
  have nd' : (((PH, tabObj ps₂) :: ow).map (·.1)).Nodup := by
    rw [List.map_append] at nd
    exact (List.nodup_append.mp nd).2.1
  obtain ⟨G₉, g9, l₉, q9⟩ := A₂.leave (ow' := (PH, tabObj ps₂) :: ow) (fun p hp => List.mem_append_right _ hp) nd'
  have ne : ∀ p ∈ [(L + 4, oN), (L + 3, oK), (L + 2, oM), (L + 1, oR)], G₉.get? p.1 = some p.2 := fun p hp => q9 p (List.mem_append_left _ hp) (by
    rw [List.map_append] at nd
    exact fun q => (List.nodup_append.mp nd).2.2 _ (List.mem_map.mpr ⟨p, hp, rfl⟩) _ q rfl)
  exact h tf (L + 1) (L + 2) (L + 3) (L + 4) G₉ h₂ tk₂ ps₂ l₉ (t₂.mono g9) (f₂.mono g9) ⟨_, ne (L + 1, oR) (by simp), cR⟩ ⟨_, ne (L + 2, oM) (by simp), cM⟩ ⟨_, ne (L + 3, oK) (by simp), cK⟩ ⟨_, ne (L + 4, oN) (by simp), cN⟩
end

section
variable {M : Model} {A : Around} {E : Value → Shared → Prop} {s : Shared} {X : Ent} {G : Heap} {pre post : List (Addr × Obj)} {env : Env} {m mg mb : Str → Option Value} {c P : Addr} {tab : Obj} {ps : Array Value}
  {qual : Str} {params : Arguments} {body : Expr} {scope : Scope} {pos : Pos} {clos : List (Str × Addr)}

theorem w_lambda {Q : Value → Shared → Prop} (AT : At X G (pre ++ (P, tabObj ps) :: post) env m s.heap) (S : Sta mg mb G) (B : Bmn mg G) (C : CodeHd G c P) (ht : TriplesOk ps.toList) (hnf : codeAmong pos ps.toList = none)
    (hcd : env.code = .ref c) (hge : env.globals = mainGlobals) (hcl : closureFor scope env = pure clos) (hq : env.qual ++ "<lambda>" = qual) (hdef : defaultsOf params env = ([], []))
    (h : ∀ f c' G' h' tk, G.StaysIn G' → At X G' (pre ++ (P, tabObj (ps ++ #[rawInt pos.line, rawInt pos.col, .ref c'])) :: post) env m h' → LamAt G' f "<lambda>" qual params body scope clos → Q (.ref f) { s with heap := h', toks := tk }) :
    wpAny M A (eval (.Lambda params body scope pos) env) Q E s := by
  subst hq
  refine kla_eval hdef ?_
  have hgs := S.g.keeps AT.keep
  have Pn : G.get? P = none := AT.wd.ownG (P, tabObj ps) (by simp)
  have hP := AT.wd.own (P, tabObj ps) (by simp)
  have hgP : mainGlobals ≠ P := fun q => by
    obtain ⟨o, es, ep, e, _⟩ := S.g
    rw [q, Pn] at e; cases e
  obtain ⟨bm, ob, b1, b2, b3, b4, b5, b6⟩ := B.ex
  have hbP : bm ≠ P := fun q => by rw [q, Pn] at b3; cases b3
  have hbG : bm ≠ mainGlobals := fun q => by
    obtain ⟨o, es, ep, e, hd, _⟩ := S.g
    rw [q, e] at b3; cases b3; rw [hd] at b6; cases b6
  have hb : s.heap.BuiltinsAt mg P := ⟨bm, ob, b1, b2, hbG, hbP, AT.keep _ _ b3, b4, b5, b6⟩
  have lts : ∀ p ∈ pre ++ (P, tabObj ps) :: post, p.1 < s.heap.objs.size := fun p hp => Heap.lt_size (AT.wd.own p hp)
  have mapeq : ∀ ps', (pre ++ (P, tabObj ps') :: post).map (·.1) = (pre ++ (P, tabObj ps) :: post).map (·.1) := fun ps' => by simp
  have old : ∀ {b : Addr} ps', s.heap.objs.size ≤ b → b ∉ (pre ++ (P, tabObj ps') :: post).map (·.1) := fun {b} ps' hb mm => by
    rw [mapeq] at mm
    obtain ⟨p, hp, rfl⟩ := List.mem_map.mp mm
    exact absurd (lts p hp) (Nat.not_lt.mpr hb)
  have frn : ∀ {b : Addr}, s.heap.objs.size ≤ b → b ≠ env.locals ∧ ∀ e ∈ X.fs, e.frame ≠ some b := fun {b} hb => by
    refine ⟨fun z => ?_, fun e he hf => ?_⟩
    · obtain ⟨o, _, _, e, _⟩ := AT.ns
      exact absurd (z ▸ Heap.lt_size e) (Nat.not_lt.mpr hb)
    · obtain ⟨o, e1, _⟩ := AT.wd.frameIn (.tail _ he) hf
      exact absurd (Heap.lt_size e1) (Nat.not_lt.mpr hb)
  refine kla_makeFunction hcl hge hgs hcd (C.keeps AT.keep) hP ht hnf hgP hb fun c' ctv h' tk hx hge' hlt hrec htb => ?_
  generalize hko : kla_obj "<lambda>" (env.qual ++ "<lambda>") params body scope clos ((mg "__name__").getD .none) c' ctv = ko
  have e1 := Heap.get?_push_size h' (o := ko) (by subst hko; rfl)
  have A1 := AT.extPut (h' := h'.push ko) (fun b o n e => Heap.get?_push_of_some _ (hx b o n e)) (Heap.get?_push_of_some _ htb)
  obtain ⟨G', g1, A2, g2⟩ := A1.all
  obtain ⟨c₂, oc, vs, t, z, hoc, hd, hv⟩ := hrec
  cases z
  have hc : G'.CodeRec (.ref c') (env.qual ++ "<lambda>") := ⟨c', oc, vs, t, rfl, g2 _ _ (Heap.get?_push_of_some _ hoc) (old _ hge') (frn hge').1 (frn hge').2, hd, hv⟩
  have hsz : s.heap.objs.size ≤ h'.objs.size := Nat.le_of_lt (Nat.lt_of_le_of_lt hge' hlt)
  have hf := g2 _ _ e1 (old _ hsz) (frn hsz).1 (frn hsz).2
  subst hko
  exact h _ c' G' _ tk g1 A2 ⟨_, _, _, _, hf, rfl, hc⟩
end

def lamE (i : Nat) : Expr := match (fdBody (stm 15)).getD i (.Pass default) with
  | .Assign _ (.Call _ (l :: _) _ _) _ => l
  | _ => default
def lamBody : Expr → Expr
  | .Lambda _ b _ _ => b
  | _ => default
def lamScope : Expr → Scope
  | .Lambda _ _ s _ => s
  | _ => default
def lamParams : Expr → Arguments
  | .Lambda p _ _ _ => p
  | _ => default
def lamPos : Expr → Pos
  | .Lambda _ _ _ p => p
  | _ => default
def lamQ : Str := Str.ofString "law.<locals>.<lambda>"
abbrev LamI (G : Heap) (i : Nat) (f : Addr) (cl : List (Str × Addr)) : Prop := LamAt G f "<lambda>" lamQ (lamParams (lamE i)) (lamBody (lamE i)) (lamScope (lamE i)) cl

theorem TV.ow {nl : Addr} {rls : List Addr} {ow₀ ow₁ RL IT : List (Addr × Obj)} {no : Obj} {G : Heap} {σ : Sg} (h : TV nl rls ow₀ RL IT no G σ) : TV nl rls ow₁ RL IT no G σ := ⟨h.n, h.rl, h.rows, h.items⟩
theorem TouchV.more {nl : Addr} {rls : List Addr} {ow₀ ow pre : List (Addr × Obj)} {G : Heap} {σ : Sg} (h : TouchV nl rls ow₀ G σ ow) : TouchV nl rls (ow₀ ++ pre) G σ (ow ++ pre) := by
  obtain ⟨no, RL, IT, rfl, hT⟩ := h
  exact ⟨no, RL, IT, by simp [owOf], hT.ow⟩
theorem TouchV.less {nl : Addr} {rls : List Addr} {ow₀ ow pre : List (Addr × Obj)} {G : Heap} {σ : Sg} (h : TouchV nl rls (ow₀ ++ pre) G σ ow) : ∃ ow', ow = ow' ++ pre ∧ TouchV nl rls ow₀ G σ ow' := by
  obtain ⟨no, RL, IT, rfl, hT⟩ := h
  exact ⟨owOf nl no RL IT ow₀, by simp [owOf], no, RL, IT, rfl, hT.ow⟩
theorem log2_small {k : Int} (h0 : 0 ≤ k) (h : k ≤ 100000) : k.natAbs.log2 < 1920 := by
  by_cases hz : k.natAbs = 0
  · rw [hz]; decide
  · rw [Nat.log2_lt hz]
    have : k.natAbs ≤ 100000 := by omega
    exact Nat.lt_of_le_of_lt this (Nat.lt_of_lt_of_le (show 100000 < 2 ^ 17 by decide) (Nat.pow_le_pow_right (by decide) (by decide)))

section
variable {prog : Program} {w : World} {mg mb : Str → Option Value}
  {tf rl ml kf nl cR cM cK cN df fa c1 c2 : Addr} {rls : List Addr} {ix : List Nat} {moves : List Int} {S : Heap → Prop} {B nf : Nat}

theorem deed_map (N : TouchN prog w mg mb tf rl ml kf nl cR cM cK cN rls ix moves S B (fun th => ∃ l, th = .ids l)) (hnd : rls.Nodup) (hl3 : ix.length ≤ 3)
    (hL : ∀ G, S G → LamI G 4 df [(Str.ofString "touch", c1), (Str.ofString "rows", c2)] ∧ G.IsCell c1 (some (.ref tf)) ∧ G.IsCell c2 (some (.ref rl)) ∧ FnI G 1 fa)
    (nm : mg "mapstar" = some (.ref fa)) (n1 : mg "list" = none) (n2 : mg "map" = none) (n3 : mg "tuple" = none) (hnf : B + moves.length = nf) :
    DeedOk prog w S 15 150 df (fun ow₀ G σ ow => TouchV nl rls ow₀ G σ ow ∧ Ok B moves rls.length ix σ) (fun σ => goP moves ix (mapMore ix) (mapTh ix) nf 0 σ) (fun n σ => σ.noted.length + n * nf ≤ 50000) := by
  intro A fs G pre ow₀ ow n σ s Q E hA hSG hV hi W h hE
  obtain ⟨hTV, hok⟩ := hV
  obtain ⟨lam, h1, h2, F⟩ := hL G hSG
  have S₀ := (N.hSC G hSG).st
  have hrl := (N.hSC G hSG).rl
  have hi' : σ.noted.length + (n * nf + nf) ≤ 50000 := by rw [← Nat.succ_mul]; exact hi
  have hB := N.hB
  obtain ⟨ok', len', cnt', kb'⟩ := go_ok (moves := moves) (more := mapMore ix) (th := mapTh ix) N.hne N.hB2 nf 0 σ hok
  have W' : Wd fs G (ow ++ pre) s.heap := W.perm List.perm_append_comm
  refine call_lam W' (by have := hA.dp; omega) S₀.lim lam (fun _ _ _ => rfl) (fun L cdv h₁ tk₁ AT => ?_) (by decide +kernel) rfl rfl rfl
  have hA' := hA.deeper (d := 14) (u := 147) (envX lamQ (lamScope (lamE 4)) L df cdv [(Str.ofString "touch", c1), (Str.ofString "rows", c2)])
  refine w_call ?_
  refine w_global (s := { s with heap := h₁, toks := tk₁ }) AT S₀ nm ?_
  refine w_callFn F ?_
  refine wpAny_items_cons ?_
  refine w_call ?_
  refine w_builtin (s := { s with heap := h₁, toks := tk₁ }) AT S₀ n3 (by boot_by_name) ?_
  refine w_callType ?_
  refine wpAny_items_cons ?_
  refine wpAny_BinOp ?_
  refine w_List ?_
  refine wpAny_items_cons ?_
  refine w_free (s := { s with heap := h₁, toks := tk₁ }) (c := c1) (v := .ref tf) rfl (h1.keeps AT.keep) ?_
  refine wpAny_items_nil ?_
  refine w_newList (s := { s with heap := h₁, toks := tk₁ }) AT (by simp) fun a2 G₂ h₂ g₂ A₂ l₂ => ?_
  refine w_free (s := { s with heap := h₂, toks := tk₁ }) (c := c2) (v := .ref rl) rfl ((h2.keeps g₂).keeps A₂.keep) ?_
  refine w_addLists (s := { s with heap := h₂, toks := tk₁ }) A₂ (isList_mono l₂ A₂.keep) (isList_mono (isList_mono hrl g₂) A₂.keep) (by simp; omega) fun a3 G₃ h₃ g₃ A₃ l₃ => ?_
  refine wpAny_items_nil ?_
  refine w_tupleOf (s := { s with heap := h₃, toks := tk₁ }) A₃ (isList_mono l₃ A₃.keep) (by simp; omega) fun D G₄ h₄ g₄ A₄ eD => ?_
  have g24 := stays_trans g₂ (stays_trans g₃ g₄)
  refine wpAny_items_nil ⟨stays_trans g24 A₄.keep, ?_⟩
  have S₄ := N.hS _ _ hSG g24
  have eD' : TupG G₄ D (.ref tf :: (lsOf rls ix).map Value.ref) := by
    have e : (.ref tf :: (lsOf rls ix).map Value.ref : List Value) = (([Value.ref tf].toArray ++ (ix.map fun r => Value.ref (rls.getD r 0)).toArray).toList) := by
      simp [lsOf]
    rw [e]; exact eD
  refine mapstar_spec (s := { s with heap := h₄, toks := tk₁ }) (Sx := S) N.hS (hL _ S₄).2.2.2 (N.hSC _ S₄).st n1 n2 (hA'.less (d' := 9) (u' := 70) (by omega) (by omega)) eD' (by unfold lsOf; simpa using N.hne) (by unfold lsOf; simpa using hl3) (map_user (ow₀ := ow₀ ++ pre) N hnd) (map_run (n := nf) hnd N.hne N.hB2 hok (by omega) (by omega)) (by omega) S₄ ⟨(TouchV.mono _ _ _ _ hTV g24).more, hok⟩ (fun _ _ _ _ a k => ⟨TouchV.mono _ _ _ _ a.1 k, a.2⟩) A₄.wd (fun Lr G₅ h₅ tk₅ vs₅ ow₅ hr hV₅ L₅ S₅ l₅ r₅ => ?_) fun k e t G₅ h₅ tk₅ ow₅ hr hV₅ L₅ S₅ F₅ => ?_
  · obtain ⟨ow₆, rfl, V₆⟩ := hV₅.1.less
    have lf := (A₄.back L₅).lf
    exact h (.ref Lr) G₅ h₅ tk₅ ow₆ hr ⟨V₆, hV₅.2⟩ (lf.perm List.perm_append_comm) S₅ (Rd.list l₅ r₅)
  · obtain ⟨ow₆, rfl, V₆⟩ := hV₅.1.less
    have A₅ := A₄.back L₅
    refine fly_out (s := { s with heap := h₅, toks := tk₅ }) hA.fr rfl A₅.wd F₅ fun h₆ F₆ W₆ k₆ => ?_
    have kb := kb' k hr
    refine hE k e t G₅ h₆ tk₅ ow₆ hr ⟨V₆, hV₅.2⟩ (by dsimp only; omega) (log2_small kb.1 (by omega)) ((⟨A₅.lf.gr, W₆, A₅.fk.trans k₆⟩ : Lf fs G s.heap G₅ (ow₆ ++ pre) h₆).perm List.perm_append_comm) S₅ (F₆.sub fun p hp => List.perm_append_comm.mem_iff.mp hp)
end

section
variable {prog : Program} {w : World} {mg mb : Str → Option Value}
  {tf rl ml kf nl cR cM cK cN df fa c1 c2 : Addr} {rls : List Addr} {ix : List Nat} {moves : List Int} {S : Heap → Prop} {B nf : Nat}

theorem deed_turns (N : TouchN prog w mg mb tf rl ml kf nl cR cM cK cN rls ix moves S B (fun th => ∃ l, th = .ids l))
    (hL : ∀ G, S G → LamI G 8 df [(Str.ofString "twin", c1), (Str.ofString "plain", c2)] ∧ G.IsCell c1 (some (.ref tf)) ∧ G.IsCell c2 (some (.ref rl)) ∧ FnI G 12 fa)
    (nm : mg "_law_turns" = some (.ref fa)) (n1 : mg "min" = none) (hnf : B + moves.length = nf) :
    DeedOk prog w S 15 150 df (fun ow₀ G σ ow => TouchV nl rls ow₀ G σ ow ∧ Ok B moves rls.length ix σ) (fun σ => goP moves ix (mapMore ix) (mapTh ix) nf 0 σ) (fun n σ => σ.noted.length + n * nf ≤ 50000) := by
  intro A fs G pre ow₀ ow n σ s Q E hA hSG hV hi W h hE
  obtain ⟨hTV, hok⟩ := hV
  obtain ⟨lam, h1, h2, F⟩ := hL G hSG
  have S₀ := (N.hSC G hSG).st
  have hi' : σ.noted.length + (n * nf + nf) ≤ 50000 := by rw [← Nat.succ_mul]; exact hi
  have hB := N.hB
  obtain ⟨ok', len', cnt', kb'⟩ := go_ok (moves := moves) (more := mapMore ix) (th := mapTh ix) N.hne N.hB2 nf 0 σ hok
  refine call_lam W (by have := hA.dp; omega) S₀.lim lam (fun _ _ _ => rfl) (fun L cdv h₁ tk₁ AT => ?_) (by decide +kernel) rfl rfl rfl
  have hA' := hA.deeper (d := 14) (u := 147) (envX lamQ (lamScope (lamE 8)) L df cdv [(Str.ofString "twin", c1), (Str.ofString "plain", c2)])
  refine w_call ?_
  refine w_global (s := { s with heap := h₁, toks := tk₁ }) AT S₀ nm ?_
  refine w_callFn F ?_
  refine wpAny_items_cons ?_
  refine w_free (s := { s with heap := h₁, toks := tk₁ }) (c := c1) (v := .ref tf) rfl (h1.keeps AT.keep) ?_
  refine wpAny_items_cons ?_
  refine w_free (s := { s with heap := h₁, toks := tk₁ }) (c := c2) (v := .ref rl) rfl (h2.keeps AT.keep) ?_
  refine wpAny_items_nil ⟨AT.keep, ?_⟩
  refine turns_spec (s := { s with heap := h₁, toks := tk₁ }) (nf := nf) N (fun G hG => (hL G hG).2.2.2) n1 (hA'.less (by omega) (by omega)) hSG hTV hok (by omega) (by omega) (by omega) AT.wd (fun r G₅ h₅ tk₅ ow₅ hr hV₅ L₅ S₅ r₅ => ?_) fun k e t G₅ h₅ tk₅ ow₅ hr hV₅ L₅ S₅ F₅ => ?_
  · exact h r G₅ h₅ tk₅ ow₅ hr ⟨hV₅, ok'⟩ (AT.back L₅).lf S₅ r₅
  · have A₅ := AT.back L₅
    refine fly_out (s := { s with heap := h₅, toks := tk₅ }) hA.fr rfl A₅.wd F₅ fun h₆ F₆ W₆ k₆ => ?_
    have kb := kb' k hr
    exact hE k e t G₅ h₆ tk₅ ow₅ hr ⟨hV₅, ok'⟩ (by dsimp only; omega) (log2_small kb.1 (by omega)) ⟨A₅.lf.gr, W₆, A₅.fk.trans k₆⟩ S₅ F₆

theorem deed_spread (N : TouchN prog w mg mb tf rl ml kf nl cR cM cK cN rls [0] moves S B (fun th => ∃ l, th = .nums l))
    (hL : ∀ G, S G → LamI G 18 df [(Str.ofString "sheet", c2), (Str.ofString "pen", c1)] ∧ G.IsCell c1 (some (.ref tf)) ∧ G.IsCell c2 (some (.ref (rls.getD 0 0))) ∧ FnI G 13 fa)
    (nm : mg "_law_spread" = some (.ref fa)) (hnf : B + moves.length = nf) :
    DeedOk prog w S 15 150 df (fun ow₀ G σ ow => TouchV nl rls ow₀ G σ ow ∧ Ok B moves rls.length [0] σ) (fun σ => goP moves [0] starMore starTh nf 0 σ) (fun n σ => σ.noted.length + n * nf ≤ 50000) := by
  intro A fs G pre ow₀ ow n σ s Q E hA hSG hV hi W h hE
  obtain ⟨hTV, hok⟩ := hV
  obtain ⟨lam, h1, h2, F⟩ := hL G hSG
  have S₀ := (N.hSC G hSG).st
  have hi' : σ.noted.length + (n * nf + nf) ≤ 50000 := by rw [← Nat.succ_mul]; exact hi
  have hB := N.hB
  obtain ⟨ok', len', cnt', kb'⟩ := go_ok (moves := moves) (more := starMore) (th := starTh) N.hne N.hB2 nf 0 σ hok
  refine call_lam W (by have := hA.dp; omega) S₀.lim lam (fun _ _ _ => rfl) (fun L cdv h₁ tk₁ AT => ?_) (by decide +kernel) rfl rfl rfl
  have hA' := hA.deeper (d := 14) (u := 147) (envX lamQ (lamScope (lamE 18)) L df cdv [(Str.ofString "sheet", c2), (Str.ofString "pen", c1)])
  refine w_call ?_
  refine w_global (s := { s with heap := h₁, toks := tk₁ }) AT S₀ nm ?_
  refine w_callFn F ?_
  refine wpAny_items_cons ?_
  refine w_free (s := { s with heap := h₁, toks := tk₁ }) (c := c1) (v := .ref tf) rfl (h1.keeps AT.keep) ?_
  refine wpAny_items_cons ?_
  refine w_free (s := { s with heap := h₁, toks := tk₁ }) (c := c2) (v := .ref (rls.getD 0 0)) rfl (h2.keeps AT.keep) ?_
  refine wpAny_items_nil ⟨AT.keep, ?_⟩
  refine spread_spec (s := { s with heap := h₁, toks := tk₁ }) (nf := nf) N (fun G hG => (hL G hG).2.2.2) (hA'.less (by omega) (by omega)) hSG hTV hok (by omega) (by omega) (by omega) AT.wd (fun r G₅ h₅ tk₅ ow₅ hr hV₅ L₅ S₅ r₅ => ?_) fun k e t G₅ h₅ tk₅ ow₅ hr hV₅ L₅ S₅ F₅ => ?_
  · exact h r G₅ h₅ tk₅ ow₅ hr ⟨hV₅, ok'⟩ (AT.back L₅).lf S₅ r₅
  · have A₅ := AT.back L₅
    refine fly_out (s := { s with heap := h₅, toks := tk₅ }) hA.fr rfl A₅.wd F₅ fun h₆ F₆ W₆ k₆ => ?_
    have kb := kb' k hr
    exact hE k e t G₅ h₆ tk₅ ow₅ hr ⟨hV₅, ok'⟩ (by dsimp only; omega) (log2_small kb.1 (by omega)) ⟨A₅.lf.gr, W₆, A₅.fk.trans k₆⟩ S₅ F₆

theorem deed_star {K : Frag} {C fI fT fN pI pF : Addr} (KX : StarK K C fI fT fN pI pF) (N : TouchN prog w mg mb tf rl ml kf nl cR cM cK cN rls [0] moves S B (fun th => ∃ l, th = .nums l))
    (hL : ∀ G, S G → LamI G 14 df [(Str.ofString "table", c2), (Str.ofString "brush", c1)] ∧ G.IsCell c1 (some (.ref tf)) ∧ G.IsCell c2 (some (.ref (rls.getD 0 0))) ∧ FnI G 5 fa ∧ K.In G ∧ FnM G 1 fI (Str.ofString "starmap.__init__") ∧ FnM G 3 fN (Str.ofString "starmap.__next__") ∧ FnM G 2 fT (Str.ofString "starmap.__iter__"))
    (nm : mg "starmapstar" = some (.ref fa)) (n0 : mg "list" = none) (n1 : mg "next" = none) (n2 : mg "type" = none) (n3 : mg "tuple" = none) (n4 : mg "starmap" = some (.ref C)) (n5 : mg "iter" = none) (hnf : B + moves.length = nf) :
    DeedOk prog w S 15 150 df (fun ow₀ G σ ow => TouchV nl rls ow₀ G σ ow ∧ Ok B moves rls.length [0] σ) (fun σ => goP moves [0] starMore starTh nf 0 σ) (fun n σ => σ.noted.length + n * nf ≤ 50000) := by
  intro A fs G pre ow₀ ow n σ s Q E hA hSG hV hi W h hE
  obtain ⟨hTV, hok⟩ := hV
  obtain ⟨lam, h1, h2, F, _⟩ := hL G hSG
  have S₀ := (N.hSC G hSG).st
  have hi' : σ.noted.length + (n * nf + nf) ≤ 50000 := by rw [← Nat.succ_mul]; exact hi
  have hB := N.hB
  obtain ⟨ok', len', cnt', kb'⟩ := go_ok (moves := moves) (more := starMore) (th := starTh) N.hne N.hB2 nf 0 σ hok
  have W' : Wd fs G (ow ++ pre) s.heap := W.perm List.perm_append_comm
  refine call_lam W' (by have := hA.dp; omega) S₀.lim lam (fun _ _ _ => rfl) (fun L cdv h₁ tk₁ AT => ?_) (by decide +kernel) rfl rfl rfl
  have hA' := hA.deeper (d := 14) (u := 147) (envX lamQ (lamScope (lamE 14)) L df cdv [(Str.ofString "table", c2), (Str.ofString "brush", c1)])
  refine w_call ?_
  refine w_global (s := { s with heap := h₁, toks := tk₁ }) AT S₀ nm ?_
  refine w_callFn F ?_
  refine wpAny_items_cons ?_
  refine w_Tuple ?_
  refine wpAny_items_cons ?_
  refine w_free (s := { s with heap := h₁, toks := tk₁ }) (c := c1) (v := .ref tf) rfl (h1.keeps AT.keep) ?_
  refine wpAny_items_cons ?_
  refine w_free (s := { s with heap := h₁, toks := tk₁ }) (c := c2) (v := .ref (rls.getD 0 0)) rfl (h2.keeps AT.keep) ?_
  refine wpAny_items_nil ?_
  refine w_newTuple (s := { s with heap := h₁, toks := tk₁ }) AT (by simp) fun D G₄ h₄ g₄ A₄ eD => ?_
  refine wpAny_items_nil ⟨stays_trans g₄ A₄.keep, ?_⟩
  have S₄ := N.hS _ _ hSG g₄
  obtain ⟨_, _, _, F₄, K₄, I₄, N₄, T₄⟩ := hL _ S₄
  refine starmapstar_spec (s := { s with heap := h₄, toks := tk₁ }) (S := S) KX n0 n1 n2 n3 n4 n5 N.hS (star_user (ow₀ := ow₀ ++ pre) N) (star_run (n := nf) N.hB2 hok (by omega) (by omega)) (by omega) F₄ (hA'.less (by omega) (by omega)) ⟨S₄, (N.hSC _ S₄).st, K₄, I₄, N₄, T₄⟩ (TupG.of eD) ⟨(TouchV.mono _ _ _ _ hTV g₄).more, hok⟩ (fun _ _ _ _ a k => ⟨TouchV.mono _ _ _ _ a.1 k, a.2⟩) A₄.wd (fun Lr G₅ h₅ tk₅ vs₅ ow₅ hr hV₅ L₅ S₅ l₅ r₅ => ?_) fun k e t G₅ h₅ tk₅ ow₅ hr hV₅ L₅ S₅ F₅ => ?_
  · obtain ⟨ow₆, rfl, V₆⟩ := hV₅.1.less
    have lf := (A₄.back L₅).lf
    exact h (.ref Lr) G₅ h₅ tk₅ ow₆ hr ⟨V₆, hV₅.2⟩ (lf.perm List.perm_append_comm) S₅ (Rd.list l₅ r₅)
  · obtain ⟨ow₆, rfl, V₆⟩ := hV₅.1.less
    have A₅ := A₄.back L₅
    refine fly_out (s := { s with heap := h₅, toks := tk₅ }) hA.fr rfl A₅.wd F₅ fun h₆ F₆ W₆ k₆ => ?_
    have kb := kb' k hr
    refine hE k e t G₅ h₆ tk₅ ow₆ hr ⟨V₆, hV₅.2⟩ (by dsimp only; omega) (log2_small kb.1 (by omega)) ((⟨A₅.lf.gr, W₆, A₅.fk.trans k₆⟩ : Lf fs G s.heap G₅ (ow₆ ++ pre) h₆).perm List.perm_append_comm) S₅ (F₆.sub fun p hp => List.perm_append_comm.mem_iff.mp hp)
end

section
variable {prog : Program} {w : World} {A : Around} {E : Value → Shared → Prop} {s : Shared} {X : Ent} {G : Heap} {ow : List (Addr × Obj)} {env : Env} {m : Str → Option Value}

/-- the list comprehension with a pair as its target, over a frozen list of pairs -/
theorem comp_core2 {elt iter : Expr} {x y : Str} {px py tp pos : Pos} {x1 : Nat} {scope : Scope} {cl : List (Str × Addr)} {RR : Value → Addr → Result → Shared → Prop} {I l : Addr} {io : Obj} {G₁ : Heap} {m₁ : Str → Option Value} {ow₁ : List (Addr × Obj)} {xs : Array Value} {inv : Nat → Heap → List (Addr × Obj) → List Value → Prop} {s₂ : Shared}
    (AT : At X G₁ ((I, io) :: ow₁) env m₁ s₂.heap) (hA : A.handled = none) (hl : G₁.IsList l xs) (st0 : IsIt io l 0) (hnz : xs.size ≤ 100000) (i0 : inv 0 G₁ ow₁ [])
    (hp : ∀ (k : Nat) (v : Value), xs[k]? = some v → ∃ t a b, v = .ref t ∧ TupG G₁ t [a, b])
    (elem : ∀ (k : Nat) (t : Addr) (a b : Value) C oC L ao io G' ow' vs (s : Shared) (Qe Ee : Value → Shared → Prop), xs[k]? = some (.ref t) → TupG G₁ t [a, b] → inv k G' ow' vs → G₁.StaysIn G' → At X G' ((C, oC) :: (L, ao) :: (I, io) :: ow') env m₁ s.heap → (∃ mC, s.heap.Ns C mC ∧ mC x = some a ∧ mC y = some b) →
          (∀ r G'' h' tk ow'', G'.StaysIn G'' → At X G'' ((C, oC) :: (L, ao) :: (I, io) :: ow'') env m₁ h' → inv (k + 1) G'' ow'' (vs ++ [r]) → Qe r { s with heap := h', toks := tk }) → wpAny (model prog w) A (eval elt (compEnvC scope cl C env)) Qe Ee s)
    (hRR : ∀ L C oC ao vs G' h' tk ow', At X G' ((C, oC) :: (L, ao) :: ow') env m₁ h' → (∃ mC, h'.Ns C mC) → PlX vs.toArray ao → vs.length = xs.size → inv xs.size G' ow' vs → G₁.StaysIn G' → RR (.ref L) C (.ok .next) { s₂ with heap := h', toks := tk })
    (hkind : scope.kind = .function) (hcell : ∀ y ∈ scope.names, y.2 ≠ .cell) (hx : scope.names.lookup x = some .local) (hy : scope.names.lookup y = some .local) (hxy : x ≠ y) :
    wpAny (model prog w) A (newList []) (fun acc s₃ => wpAny (model prog w) A (newFunctionEnv scope env.globals cl [] env.qual none .none (some env)) (fun cenv s₄ =>
      codeAny (model prog w) A (.compStart (.ListComp elt [⟨.Tuple [.Name x px, .Name y py] x1 tp, iter, [], 0⟩] scope pos) 0 (.ref I) acc { cenv with scope := relabel scope env }) (RR acc cenv.locals) s₄) E s₃) E s₂ := by
  have hsl : sizeLine = 16777216 := rfl
  refine wpAny_newList ?_ (by simp)
  have A₁ := AT.own_new (h' := s₂.heap.push { cls := .type "list", data := .seq ([] : List Value).toArray }) (fun _ _ e => Heap.get?_push_of_some _ e) (size_none _) (Heap.get?_push_size _ rfl)
  generalize hL : s₂.heap.objs.size = L at *
  generalize hh1 : s₂.heap.push { cls := .type "list", data := .seq ([] : List Value).toArray } = h₁' at *
  refine wpAny_newFunctionEnv hcell (by intro y hy; simp at hy) (fun h₃ hns hsb => ?_) hkind
  obtain ⟨oC, es, ep, hoC, hdC, rC⟩ := id hns
  have k₃ : h₁'.StaysIn h₃ := fun b o e => hsb.extBut b o (Nat.ne_of_lt (Heap.lt_size e)) (Heap.get?_push_of_some _ e)
  have A₃ := A₁.own_new k₃ (size_none _) hoC
  show codeAny (model prog w) A (.compStart (.ListComp elt [⟨.Tuple [.Name x px, .Name y py] x1 tp, iter, [], 0⟩] scope pos) 0 (.ref I) (.ref L) (compEnvC scope cl h₁'.objs.size env)) (RR (.ref L) h₁'.objs.size) { s₂ with heap := h₃, toks := s₂.toks + 0 }
  generalize hC : h₁'.objs.size = C at *
  have src : ItSrc prog w A G₁ I (fun k io => IsIt io l k) xs.size (fun k v => xs[k]? = some v) := src_list hA hl
  have loop : codeAny (model prog w) A (.compLoop (.ListComp elt [⟨.Tuple [.Name x px, .Name y py] x1 tp, iter, [], 0⟩] scope pos) 0 (.ref I) (.ref L) (compEnvC scope cl C env)) (RR (.ref L) C) { s₂ with heap := h₃, toks := s₂.toks + 0 } := by
    refine PyProof.Rows.LCp.codeAny_compLoop_pair (fun j s' => ∃ k h' tk G' ow' oC io ao vs, j + k = xs.size ∧ s' = { s₂ with heap := h', toks := tk } ∧ At X G' ((C, oC) :: (L, ao) :: (I, io) :: ow') env m₁ h' ∧ G₁.StaysIn G' ∧ IsIt io l k ∧ inv k G' ow' vs ∧ PlX vs.toArray ao ∧ vs.length = k ∧ (∃ mC, h'.Ns C mC)) ?_ xs.size
      ⟨0, h₃, _, G₁, ow₁, oC, io, _, [], rfl, rfl, A₃, stays_refl _, st0, i0, ⟨0, rfl⟩, rfl, _, hns⟩
    rintro j s' ⟨k, h', tk, G', ow', oC, io, ao, vs, hj, rfl, A', g', st', i', hao, hvs, mC, hnC⟩
    have eI := A'.wd.own (I, io) (by simp)
    rcases Nat.lt_or_ge k xs.size with hk | hk
    · refine src.item (s := { s₂ with heap := h', toks := tk }) hk (stays_trans g' A'.keep) eI st' fun h₄ io₄ v tk₄ e₄ st₄ hsb₄ hpv => ?_
      have A₄ := A'.put (pre := [(C, oC), (L, ao)]) hsb₄ e₄
      have nCI : C ≠ I := by have := A'.wd.nd; simp at this; exact this.1.2.1
      have hnC₄ : h₄.Ns C mC := by
        obtain ⟨o, es, ep, a1, r⟩ := hnC
        exact ⟨o, es, ep, (hsb₄.2 _ nCI).trans a1, r⟩
      obtain ⟨t, a, b, rfl, hta⟩ := hp k v hpv
      refine wpAny_letOwnedTupleGo_listiter (s := { s₂ with heap := h₄, toks := tk₄ }) (st₄.at e₄) ?_
      have hT : IsTup h₄ t #[a, b] := IsTup.keeps (isTup_of (hta.mono g')) A₄.keep
      refine assign_Tuple_tuple (s := { s₂ with heap := h₄, toks := tk₄ }) hA hT rfl rfl fun h₅ hx₅ => ?_
      have k₅ : h₄.StaysIn h₅ := fun b o e => hx₅ b o (Nat.ne_of_lt (Heap.lt_size e)) e
      have A₅ := A₄.keeps k₅
      have hnC₅ : h₅.Ns C mC := by
        obtain ⟨o, es, ep, a1, r⟩ := hnC₄
        exact ⟨o, es, ep, k₅ _ _ a1, r⟩
      show wpAny _ _ (assignInOrder [assign (.Name x px) (compEnvC scope cl C env), assign (.Name y py) (compEnvC scope cl C env)] [a, b]) _ _ _
      unfold assignInOrder
      refine wpAny_bind (wpAny_holding (wpAny_assign_Name (wpAny_storeName_local (s := { s₂ with heap := h₅, toks := tk₄ }) (env := compEnvC scope cl C env) (lookup_relabel_local hx) hnC₅ (fun h₆ hn₆ hs₆ => ?_) (by simp [compEnvC, relabel, hkind]))))
      obtain ⟨oC₆, es₆, ep₆, hoC₆, r₆⟩ := id hn₆
      have A₆ := A₅.put (pre := []) hs₆ hoC₆
      unfold assignInOrder
      refine wpAny_bind (wpAny_holding (wpAny_assign_Name (wpAny_storeName_local (s := { s₂ with heap := h₆, toks := tk₄ + 1 }) (env := compEnvC scope cl C env) (lookup_relabel_local hy) hn₆ (fun h₇ hn₇ hs₇ => ?_) (by simp [compEnvC, relabel, hkind]))))
      obtain ⟨oC₇, es₇, ep₇, hoC₇, r₇⟩ := id hn₇
      have A₇ := A₆.put (pre := []) hs₇ hoC₇
      unfold assignInOrder
      refine wpAny_pure ?_
      refine elem k t a b C oC₇ L ao io₄ G' ow' vs { s₂ with heap := h₇, toks := tk₄ + 1 + 1 } _ _ hpv hta i' g' A₇ ⟨_, hn₇, by simp [hxy], by simp⟩ fun r G₈ h₈ tk₈ ow₈ g₈ A₈ i₈ => ?_
      refine w_appendX (s := { s₂ with heap := h₈, toks := tk₈ }) (pre := [(C, oC₇)]) A₈ hao (by simp; omega) fun h₉ ao₉ A₉ hao₉ hb₉ => ?_
      refine ⟨xs.size - (k + 1), by omega, k + 1, h₉, tk₈, G₈, ow₈, oC₇, io₄, ao₉, vs ++ [r], by omega, rfl, A₉, stays_trans g' g₈, st₄, i₈, by simpa using hao₉, by simp; omega, ?_⟩
      exact ⟨_, oC₇, es₇, ep₇, A₉.wd.own (C, oC₇) (by simp), r₇⟩
    · have hkn : k = xs.size := by omega
      subst hkn
      refine src.done (s := { s₂ with heap := h', toks := tk }) (stays_trans g' A'.keep) eI st' fun h₄ hx₄ => ?_
      have nCI : C ≠ I := by have := A'.wd.nd; simp at this; exact this.1.2.1
      have A₄ := A'.back (Wd.extBut (pre := [(C, oC), (L, ao)]) A'.wd hx₄)
      refine hRR L C oC ao vs G' h₄ tk ow' A₄ ⟨mC, ?_⟩ hao hvs i' g'
      obtain ⟨o, es, ep, a1, r⟩ := hnC
      exact ⟨o, es, ep, hx₄ _ _ nCI a1, r⟩
  refine codeAny_compStart_list loop ?_
  have eI₃ := A₃.wd.own (I, io) (by simp)
  exact src.self (s := { s₂ with heap := h₃, toks := s₂.toks + 0 }) eI₃ st0 loop

/-- over a frozen list whose name is local -/
theorem w_comp2 {elt : Expr} {x y n : Str} {px py pn tp pos : Pos} {x1 : Nat} {scope : Scope} {cl : List (Str × Addr)} {Q : Value → Shared → Prop} {l : Addr} {xs : Array Value} {inv : Nat → Heap → List (Addr × Obj) → List Value → Prop}
    (hA : A.handled = none) (AT : At X G ow env m s.heap) (hn : m n = some (.ref l)) (hl : G.IsList l xs) (hz : xs.size ≤ 100000) (i0 : inv 0 G ow []) (hp : ∀ (k : Nat) (v : Value), xs[k]? = some v → ∃ t a b, v = .ref t ∧ TupG G t [a, b])
    (elem : ∀ (k : Nat) (t : Addr) (a b : Value) C oC L I ao io G' ow' vs (s : Shared) (Qe Ee : Value → Shared → Prop), xs[k]? = some (.ref t) → TupG G t [a, b] → inv k G' ow' vs → G.StaysIn G' → At X G' ((C, oC) :: (L, ao) :: (I, io) :: ow') env m s.heap → (∃ mC, s.heap.Ns C mC ∧ mC x = some a ∧ mC y = some b) →
          (∀ r G'' h' tk ow'', G'.StaysIn G'' → At X G'' ((C, oC) :: (L, ao) :: (I, io) :: ow'') env m h' → inv (k + 1) G'' ow'' (vs ++ [r]) → Qe r { s with heap := h', toks := tk }) → wpAny (model prog w) A (eval elt (compEnvC scope cl C env)) Qe Ee s)
    (fin : ∀ L ao vs G' h' tk ow', PlX vs.toArray ao → vs.length = xs.size → inv xs.size G' ow' vs → G.StaysIn G' → At X G' ((L, ao) :: ow') env m h' → Q (.ref L) { s with heap := h', toks := tk })
    (hclos : closureFor scope env = pure cl := by rfl) (hkind : scope.kind = .function := by rfl) (hnames : ∀ x ∈ scope.names, x.2 = .local → scope.names.lookup x.1 = some .local := by decide +kernel)
    (hcell : ∀ y ∈ scope.names, y.2 ≠ .cell := by decide +kernel) (hx : scope.names.lookup x = some .local := by rfl) (hy : scope.names.lookup y = some .local := by rfl) (hxy : x ≠ y := by decide)
    (hs : ∀ x, foldedSetIterable (.Name n pn) env x = pure x := by intro _; rfl) (hke : env.scope.kind = .function := by rfl) (hnk : env.kindOf n = some .local := by rfl) (hd : (n == ("__debug__" : Str)) = false := by rfl) :
    wpAny (model prog w) A (eval (.ListComp elt [⟨.Tuple [.Name x px, .Name y py] x1 tp, .Name n pn, [], 0⟩] scope pos) env) Q E s := by
  rw [eval_ListComp]
  refine wpAny_comprehension_free (use := none) rfl hs hclos hkind hnames ?_
  refine w_local AT hn ?_ hke hnk hd
  refine wpAny_pyIter_list (isList_mono hl AT.keep) ?_
  have A₂ := AT.own_new (h' := s.heap.push { cls := .type "list_iterator", data := .fields #[.ref l, .int 0 0] }) (fun _ _ e => Heap.get?_push_of_some _ e) (size_none _) (Heap.get?_push_size _ rfl)
  refine comp_core2 (inv := inv) A₂ hA hl ⟨rfl, rfl⟩ hz i0 hp (fun k t a b C oC L ao io G' ow' vs s Qe Ee => elem k t a b C oC L _ ao io G' ow' vs s Qe Ee) (fun L C oC ao vs G' h' tk ow' A' hnC hao hvs i' g' => ?_) hkind hcell hx hy hxy
  obtain ⟨mC, hnC⟩ := hnC
  refine ⟨mC, hnC, fun h₅ hs₅ => ?_⟩
  exact fin L ao vs G' h₅ tk ow' hao hvs i' g' (A'.back (Wd.extBut (pre := []) A'.wd (Heap.SameBut.extBut hs₅)))
end

theorem At.frz {X : Ent} {G h : Heap} {ow ow' : List (Addr × Obj)} {env : Env} {m : Str → Option Value} (AT : At X G ow env m h) (hs : ∀ p ∈ ow', p ∈ ow) (hn : (ow'.map (·.1)).Nodup) :
    ∃ G', G.StaysIn G' ∧ At X G' ow' env m h ∧ ∀ p ∈ ow, p.1 ∉ ow'.map (·.1) → G'.get? p.1 = some p.2 := by
  have A1 : At X G ow' env m h := AT.back ⟨stays_refl _, AT.wd.sub hs hn, FK.refl _ _⟩
  obtain ⟨G', g, A2, q⟩ := A1.all
  exact ⟨G', g, A2, fun p hp hnot => q p.1 p.2 (AT.wd.own p hp) hnot (AT.nO p hp) fun e he => AT.wd.fd p hp e (.tail _ he)⟩
def rowsD (ix : List Nat) (σ : Sg) : List PyData := ix.map fun r => .list ((rowOf σ r).map fun i => intsD (σ.items.getD i []))

theorem touch_freeze {X : Ent} {G h : Heap} {pre ow ow₀ : List (Addr × Obj)} {env : Env} {m : Str → Option Value} {nl : Addr} {rls : List Addr} {σ : Sg} {B : Nat} {moves : List Int} {ix : List Nat} (AT : At X G (pre ++ ow) env m h) (hV : TouchV nl rls ow₀ G σ ow) (hok : Ok B moves rls.length ix σ) :
    ∃ G', G.StaysIn G' ∧ At X G' (pre ++ ow₀) env m h ∧ Rd G' (.ref nl) (.list σ.noted) ∧ ∀ r ∈ ix, Rd G' (.ref (rls.getD r 0)) (.list ((rowOf σ r).map fun i => intsD (σ.items.getD i []))) := by
  obtain ⟨no, RL, IT, rfl, hT⟩ := hV
  have nd := AT.wd.nd
  have e : pre ++ owOf nl no RL IT ow₀ = pre ++ (((nl, no) :: (RL ++ IT)) ++ ow₀) := by simp [owOf]
  rw [e] at nd
  have hmem : ∀ p ∈ (nl, no) :: (RL ++ IT), p ∈ pre ++ owOf nl no RL IT ow₀ := fun p hp => by rw [e]; exact List.mem_append_right _ (List.mem_append_left _ hp)
  have hsub : ∀ p ∈ pre ++ ow₀, p ∈ pre ++ owOf nl no RL IT ow₀ := fun p hp => by
    rw [e]
    rcases List.mem_append.mp hp with hp | hp
    · exact List.mem_append_left _ hp
    · exact List.mem_append_right _ (List.mem_append_right _ hp)
  rw [List.map_append, List.map_append] at nd
  obtain ⟨n1, n2, n3⟩ := List.nodup_append.mp nd
  obtain ⟨n4, n5, n6⟩ := List.nodup_append.mp n2
  have hnd : ((pre ++ ow₀).map (·.1)).Nodup := by
    rw [List.map_append]
    exact List.nodup_append.mpr ⟨n1, n5, fun a ha b hb => n3 a ha b (List.mem_append_right _ hb)⟩
  obtain ⟨G', g, A', q⟩ := AT.frz hsub hnd
  have get : ∀ p ∈ (nl, no) :: (RL ++ IT), G'.get? p.1 = some p.2 := fun p hp => q p (hmem p hp) fun hm => by
    rw [List.map_append] at hm
    rcases List.mem_append.mp hm with hm | hm
    · exact n3 _ hm _ (List.mem_append_left _ (List.mem_map.mpr ⟨p, hp, rfl⟩)) rfl
    · exact n6 _ (List.mem_map.mpr ⟨p, hp, rfl⟩) _ hm rfl
  obtain ⟨nv, pn, rn⟩ := hT.n
  have hIT : IT.length = σ.items.length := hT.items.length
  refine ⟨G', g, A', Rd.list (pn.isList (get (nl, no) (.head _))) (rn.mono g), fun r hr => ?_⟩
  have hrl : r < σ.lst.length := by rw [hok.nls]; exact hok.ixs r hr
  obtain ⟨ro, e1, pr⟩ := row_at hT hrl
  refine Rd.list (pr.isList (get (rls.getD r 0, ro) (.tail _ (List.mem_append_left _ (List.mem_of_getElem? e1))))) ?_
  refine Rds.all2.mpr ?_
  show All2 (Rd G') ((rowOf σ r).map fun i => Value.ref (adOf IT i)) _
  refine All2.map2 fun i hi => ?_
  obtain ⟨o, x, q1, q2, vs, px, ax⟩ := item_at hT.items (i := i) (by rw [hIT]; exact hok.ids _ (row_mem hrl) i hi)
  rw [List.getD_eq_getElem?_getD, q2]
  exact Rd.list (px.isList (get (adOf IT i, o) (.tail _ (List.mem_append_right _ (List.mem_of_getElem? q1))))) (intsV ax)

/-- data that can be compared -/
def Gd (n : Nat) (d : PyData) : Prop := d.canLay0 = true ∧ d.depth ≤ n
theorem gd_all {n : Nat} : ∀ {ds : List PyData}, (∀ d ∈ ds, Gd n d) → PyData.canLayAll0 ds = true ∧ PyData.depthAll ds ≤ n
  | [], _ => ⟨by rw [PyData.canLayAll0], by rw [PyData.depthAll]; omega⟩
  | d :: ds, h => by
    have h1 := h d (.head _)
    have h2 := gd_all (ds := ds) fun x hx => h x (.tail _ hx)
    refine ⟨by rw [PyData.canLayAll0, h1.1, h2.1]; rfl, ?_⟩
    have := h1.2
    rw [PyData.depthAll]
    omega
theorem gd_list {n : Nat} {ds : List PyData} (h : ∀ d ∈ ds, Gd n d) : Gd (n + 1) (.list ds) := by
  obtain ⟨a, b⟩ := gd_all h
  exact ⟨by simpa [PyData.canLay0] using a, by simp only [PyData.depth]; omega⟩
theorem gd_tuple {n : Nat} {ds : List PyData} (h : ∀ d ∈ ds, Gd n d) : Gd (n + 1) (.tuple ds) := by
  obtain ⟨a, b⟩ := gd_all h
  exact ⟨by simpa [PyData.canLay0] using a, by simp only [PyData.depth]; omega⟩
theorem gd_mono {n m : Nat} {d : PyData} (h : Gd n d) (k : n ≤ m) : Gd m d := ⟨h.1, by have := h.2; omega⟩
theorem gd_int (i : Int) : Gd 0 (.int i) := ⟨rfl, by simp [PyData.depth]⟩
theorem gd_str (x : String) : Gd 0 (.str (Str.ofString x)) := by
  refine ⟨?_, by simp [PyData.depth]⟩
  show (Str.ofString x).cps.all (· < 0x110000) = true
  rw [Str.ofString_eq_toList]
  rw [Array.all_eq_true']
  intro n hn
  simp at hn
  obtain ⟨c, _, rfl⟩ := hn
  have hv := c.valid
  refine decide_eq_true ?_
  have : c.toNat = c.val.toNat := rfl
  rw [this]
  rcases hv with hv | hv
  · have hv : c.val.toNat < 0xd800 := hv
    omega
  · have hv : 0xdfff < c.val.toNat ∧ c.val.toNat < 0x110000 := hv
    omega
theorem gd_ints (l : List Int) : Gd 1 (intsD l) := gd_list fun d hd => by
  obtain ⟨i, _, rfl⟩ := List.mem_map.mp hd
  exact gd_int i
theorem gd_kd (σ : Sg) (th : Th) : ∀ d ∈ kd σ th, Gd 1 d := by
  intro d hd
  cases th with
  | ids l =>
    obtain ⟨i, _, rfl⟩ := List.mem_map.mp hd
    exact gd_ints _
  | nums l =>
    obtain ⟨i, _, rfl⟩ := List.mem_map.mp hd
    exact gd_mono (gd_int i) (by omega)
theorem gd_rows (ix : List Nat) (σ : Sg) : Gd 3 (.list (rowsD ix σ)) := gd_list fun d hd => by
  obtain ⟨r, _, rfl⟩ := List.mem_map.mp hd
  exact gd_list fun d hd => by
    obtain ⟨i, _, rfl⟩ := List.mem_map.mp hd
    exact gd_ints _

/-- what was noted is well shaped -/
def NoteOk (σ : Sg) : Prop := ∀ d ∈ σ.noted, ∃ (a : List PyData) (l : List Int), d = .tuple [.list a, intsD l] ∧ l.length ≤ 3 ∧ ∀ x ∈ a, Gd 1 x
theorem gd_noted {σ : Sg} (h : NoteOk σ) : Gd 4 (.list σ.noted) := gd_list fun d hd => by
  obtain ⟨a, l, rfl, _, ha⟩ := h d hd
  refine gd_tuple fun x hx => ?_
  simp at hx
  rcases hx with rfl | rfl
  · exact gd_list ha
  · exact gd_mono (gd_ints l) (by omega)
theorem touch_note_ok {moves : List Int} {ix : List Nat} {σ σ' : Sg} {th : Th} {r : Option (List PyData)} (h : touchP moves ix σ th = (σ', r)) (hn : NoteOk σ) (h3 : ix.length ≤ 3) : NoteOk σ' ∧ ∀ res, r = some res → Gd 2 (.list res) := by
  have e := touch_fst h
  refine ⟨?_, fun res hr => ?_⟩
  · intro d hd
    rw [e, mut_noted] at hd
    unfold noteP at hd
    rcases List.mem_append.mp hd with hd | hd
    · exact hn d hd
    · rw [List.mem_singleton.mp hd]
      exact ⟨_, _, rfl, by simpa [lensOf] using h3, gd_kd σ th⟩
  · subst hr
    unfold touchP at h
    dsimp only at h
    split at h
    · cases h
    · have := congrArg Prod.snd h
      cases this
      refine gd_list fun d hd => ?_
      rcases List.mem_append.mp hd with hd | hd
      · exact gd_kd _ th d hd
      · rw [List.mem_singleton.mp hd]
        exact gd_mono (gd_int _) (by omega)
theorem go_note {moves : List Int} {ix : List Nat} {more : Sg → Nat → Bool} {th : Sg → Nat → Th} (h3 : ix.length ≤ 3) : ∀ (n t : Nat) (σ : Sg), NoteOk σ → NoteOk (goP moves ix more th n t σ).1 ∧ ∀ d ∈ (goP moves ix more th n t σ).2.1, Gd 2 d
  | 0, _, _, h => ⟨h, fun d hd => by cases hd⟩
  | n + 1, t, σ, h => by
    cases hm : more σ t with
    | false =>
      rw [goP_stop hm]
      exact ⟨h, fun d hd => by cases hd⟩
    | true =>
      cases hp : touchP moves ix σ (th σ t) with
      | mk σ' r =>
        obtain ⟨h', hr⟩ := touch_note_ok hp h h3
        cases r with
        | none =>
          rw [goP_fail hm hp]
          exact ⟨h', fun d hd => by cases hd⟩
        | some res =>
          rw [goP_turn hm hp]
          obtain ⟨a, b⟩ := go_note h3 n (t + 1) σ' h'
          refine ⟨a, fun d hd => ?_⟩
          rcases List.mem_cons.mp hd with rfl | hd
          · exact hr res rfl
          · exact b d hd
/-- all about the twelve tries -/
theorem runs_ok {B nf nl : Nat} {moves : List Int} {ix : List Nat} {more : Sg → Nat → Bool} {th : Sg → Nat → Th} (hne : ix ≠ []) (h3 : ix.length ≤ 3) (hB : 2 ≤ B) : ∀ (k : Nat) (σ : Sg), Ok B moves nl ix σ → NoteOk σ →
    Ok B moves nl ix (runsP (fun σ => goP moves ix more th nf 0 σ) k σ).1 ∧ NoteOk (runsP (fun σ => goP moves ix more th nf 0 σ) k σ).1 ∧ (runsP (fun σ => goP moves ix more th nf 0 σ) k σ).1.noted.length ≤ σ.noted.length + k * nf ∧ Gd 4 (.list (runsP (fun σ => goP moves ix more th nf 0 σ) k σ).2)
  | 0, σ, hok, hn => ⟨hok, hn, by show σ.noted.length ≤ _; omega, gd_list fun d hd => by cases hd⟩
  | k + 1, σ, hok, hn => by
    obtain ⟨a, b, c, _⟩ := go_ok (moves := moves) (more := more) (th := th) (nl := nl) hne hB nf 0 σ hok
    obtain ⟨d, e⟩ := go_note (moves := moves) (more := more) (th := th) h3 nf 0 σ hn
    have hmul : (k + 1) * nf = k * nf + nf := Nat.succ_mul k nf
    cases hr : (goP moves ix more th nf 0 σ).2.2 with
    | none =>
      rw [runsP_none hr]
      refine ⟨a, d, by dsimp only; omega, gd_list fun x hx => ?_⟩
      rw [List.mem_singleton.mp hx]
      exact gd_list e
    | some kk =>
      rw [runsP_some hr]
      obtain ⟨a', b', c', d'⟩ := runs_ok hne h3 hB k _ a d (more := more) (th := th) (nf := nf)
      refine ⟨a', b', Nat.le_trans c' (by omega), ?_⟩
      have d2 : ∀ x ∈ (runsP (fun σ => goP moves ix more th nf 0 σ) k (goP moves ix more th nf 0 σ).1).2, Gd 3 x := by
        intro x hx
        have h1 := d'.1
        have h2 := d'.2
        have key : ∀ {l : List PyData}, PyData.canLayAll0 l = true → PyData.depthAll l ≤ 3 → ∀ x ∈ l, Gd 3 x := by
          intro l
          induction l with
          | nil => intro _ _ x hx; cases hx
          | cons y l ih =>
            intro p q x hx
            rw [PyData.canLayAll0] at p
            rw [PyData.depthAll] at q
            have p := (Bool.and_eq_true _ _).mp p
            rcases List.mem_cons.mp hx with rfl | hx
            · exact ⟨p.1, by omega⟩
            · exact ih p.2 (by omega) x hx
        refine key ?_ ?_ x hx
        · simpa [PyData.canLay0] using h1
        · simp only [PyData.depth] at h2; omega
      refine gd_list fun x hx => ?_
      rcases List.mem_cons.mp hx with rfl | hx
      · exact gd_mono (gd_str _) (by omega)
      · exact d2 x hx

/-- the functions' places -/
structure Adr where
  f1 : Addr
  f5 : Addr
  f7 : Addr
  f8 : Addr
  f9 : Addr
  f10 : Addr
  f11 : Addr
  f12 : Addr
  f13 : Addr
  f14 : Addr
structure LawS (K : Frag) (mg mb : Str → Option Value) (a : Adr) (fI fT fN cH PH cL PL : Addr) (G : Heap) : Prop where
  h : HandS mg mb a.f11 cH PH G
  k : K.In G
  cl : CodeHd G cL PL
  f1 : FnI G 1 a.f1
  f5 : FnI G 5 a.f5
  f7 : FnI G 7 a.f7
  f8 : FnI G 8 a.f8
  f9 : FnI G 9 a.f9
  f10 : FnI G 10 a.f10
  f12 : FnI G 12 a.f12
  f13 : FnI G 13 a.f13
  f14 : FnI G 14 a.f14
  i : FnM G 1 fI (Str.ofString "starmap.__init__")
  n : FnM G 3 fN (Str.ofString "starmap.__next__")
  t : FnM G 2 fT (Str.ofString "starmap.__iter__")
theorem LawS.mono {K : Frag} {mg mb : Str → Option Value} {a : Adr} {fI fT fN cH PH cL PL : Addr} : ∀ G G', LawS K mg mb a fI fT fN cH PH cL PL G → G.StaysIn G' → LawS K mg mb a fI fT fN cH PH cL PL G' :=
  fun _ _ h k => ⟨HandS.mono _ _ h.h k, h.k.keeps k, h.cl.keeps k, h.f1.mono k, h.f5.mono k, h.f7.mono k, h.f8.mono k, h.f9.mono k, h.f10.mono k, h.f12.mono k, h.f13.mono k, h.f14.mono k, h.i.mono k, h.n.mono k, h.t.mono k⟩
structure LawN (mg : Str → Option Value) (a : Adr) (C : Addr) : Prop where
  f1 : mg "mapstar" = some (.ref a.f1)
  f5 : mg "starmapstar" = some (.ref a.f5)
  f7 : mg "_law_draws" = some (.ref a.f7)
  f8 : mg "_law_rows" = some (.ref a.f8)
  f9 : mg "_law_copies" = some (.ref a.f9)
  f10 : mg "_law_numbers" = some (.ref a.f10)
  f11 : mg "_law_hand" = some (.ref a.f11)
  f12 : mg "_law_turns" = some (.ref a.f12)
  f13 : mg "_law_spread" = some (.ref a.f13)
  f14 : mg "_law_runs" = some (.ref a.f14)
  starmap : mg "starmap" = some (.ref C)
  list : mg "list" = none
  map : mg "map" = none
  len : mg "len" = none
  next : mg "next" = none
  type : mg "type" = none
  tuple : mg "tuple" = none
  iter : mg "iter" = none
  enum : mg "enumerate" = none
  min : mg "min" = none
  sum : mg "sum" = none
  range : mg "range" = none
  str : mg "str" = none
  ve : mg (Str.ofString "ValueError") = none
abbrev lawE (L fa cL : Addr) : Env := envX (fdName (stm 15)) (fdScope (stm 15)) L fa (.ref cL) (cellsFrom (L + 1) (fdScope (stm 15)).names [])

section
variable {M : Model} {A : Around} {E : Value → Shared → Prop} {s : Shared} {X : Ent} {G : Heap} {pre post : List (Addr × Obj)} {env : Env} {m : Str → Option Value} {c : Addr} {co : Obj} {x : Str} {v : Value} {v0 : Option Value}
/-- a cell is set for good -/
theorem w_setCellF {Q : Unit → Shared → Prop} (AT : At X G (pre ++ (c, co) :: post) env m s.heap) (hco : co.data = .cell v0)
    (h : ∀ G' h', G.StaysIn G' → At X G' (pre ++ post) env m h' → G'.IsCell c (some v) → Q () { s with heap := h' })
    (hx : env.kindOf x = some .cell := by rfl) (hc : env.cells.lookup x = some c := by rfl) (hk : env.scope.kind = .function := by rfl) : wpAny M A (storeName env x v) Q E s := by
  refine wpAny_storeName_cell (c := c) (by first | exact hx | exact hc | exact hk) (by first | exact hx | exact hc | exact hk) (by first | exact hx | exact hc | exact hk) ⟨co, AT.wd.own (c, co) (by simp), hco⟩ fun h₈ hc₈ hs₈ => ?_
  obtain ⟨co', hc1, hc2⟩ := hc₈
  have A₈ := AT.put hs₈ hc1
  have nd := A₈.wd.nd
  have nd2 : (((c, co') :: (pre ++ post)).map (·.1)).Nodup := by
    rw [List.map_append, List.map_cons] at nd
    rw [List.map_cons, List.map_append]
    exact List.perm_middle.nodup_iff.mp nd
  rw [List.map_cons, List.nodup_cons] at nd2
  obtain ⟨G', g, A₉, q⟩ := A₈.frz (ow' := pre ++ post) (fun p hp => by
    rcases List.mem_append.mp hp with hp | hp
    · exact List.mem_append_left _ hp
    · exact List.mem_append_right _ (.tail _ hp)) nd2.2
  exact h G' h₈ g A₉ ⟨co', q (c, co') (by simp) nd2.1, hc2⟩
theorem keeper_lam {f : Addr} {name qual : Str} {params : Arguments} {body : Expr} {scope : Scope} {cl : List (Str × Addr)} (F : LamAt G f name qual params body scope cl) : ∃ k, (k = Keeper.frame ∨ k = Keeper.machine ∨ k = Keeper.boundFrame) ∧ Looks M G (keeperOf (.ref f)) k := by
  obtain ⟨o, pm, cdv, ct, ho, hd, _⟩ := F.ex
  refine ⟨.frame, .inl rfl, fun A Q E s k q => ?_⟩
  unfold keeperOf
  refine wpAny_bind (wpAny_load (k _ _ ho) ?_)
  rw [hd]
  exact wpAny_pure q
end

def D1 (ds : List Int) : Sg → Sg × List PyData × Option Int := fun σ => goP ds (ixOf ds) (mapMore (ixOf ds)) (mapTh (ixOf ds)) (8 + ds.length) 0 σ
def R1 (ds : List Int) : Sg × List PyData := runsP (D1 ds) 12 (sg0 ds)
section
variable {prog : Program} {w : World} {mg mb : Str → Option Value} {A : Around} {E : Value → Shared → Prop} {s : Shared} {X : Ent} {G : Heap} {m : Str → Option Value} {K : Frag} {a : Adr} {C fI fT fN cH PH cL PL L fa da : Addr} {ds : List Int}

theorem law_p1 {Q : Flow → Shared → Prop} {rest : List Stmt} {qs ps : Array Value} {o8 o7 o6 o5 o4 o3 o2 o1 : Obj} (N : LawN mg a C) (hG : LawS K mg mb a fI fT fN cH PH cL PL G) (hA : Ar A (lawE L fa cL :: X.fs) 100 2000)
    (AT : At X G [(PH, tabObj qs), (PL, tabObj (ps)), (L + 8, o8), (L + 7, o7), (L + 6, o6), (L + 5, o5), (L + 4, o4), (L + 3, o3), (L + 2, o2), (L + 1, o1)] (lawE L fa cL) m s.heap) (hc4 : o4.data = .cell none) (hc7 : o7.data = .cell none)
    (hq : TabSt (posOf tsS) tsQ G qs) (hp1 : TriplesOk ps.toList) (hp2 : codeAmong (lamPos (lamE 4)) ps.toList = none) (hm : m (Str.ofString "draws") = some (.ref da)) (hd : Rd G (.ref da) (.list (ds.map .int))) (hb : ∀ d ∈ ds, 0 ≤ d ∧ d < 72) (hz : ds.length ≤ 10)
    (h : ∀ G' h' tk qs' c' nl gl rl, G.StaysIn G' → TabSt (posOf tsS) tsQ G' qs' → At X G' [(PH, tabObj qs'), (PL, tabObj (ps ++ #[rawInt (lamPos (lamE 4)).line, rawInt (lamPos (lamE 4)).col, .ref c'])), (L + 8, o8), (L + 6, o6), (L + 5, o5), (L + 3, o3), (L + 2, o2), (L + 1, o1)] (lawE L fa cL) (upd (upd m (Str.ofString "seen") (.ref nl)) (Str.ofString "got") (.ref gl)) h' →
      Rd G' (.ref gl) (.list (R1 ds).2) → Rd G' (.ref nl) (.list (R1 ds).1.noted) → Rd G' (.ref rl) (.list (rowsD (ixOf ds) (R1 ds).1)) → G'.IsCell (L + 4) (some (.ref rl)) →
      wpAny (model prog w) A (execs rest (lawE L fa cL)) Q E { s with heap := h', toks := tk }) :
    wpAny (model prog w) A (execs ((fdBody (stm 15)).getD 1 (.Pass default) :: (fdBody (stm 15)).getD 2 (.Pass default) :: (fdBody (stm 15)).getD 3 (.Pass default) :: (fdBody (stm 15)).getD 4 (.Pass default) :: rest) (lawE L fa cL)) Q E s := by
  have hx3 : (ixOf ds).length ≤ 3 ∧ ixOf ds ≠ [] := by rcases ixOf_cases ds with e | e | e | e <;> rw [e] <;> decide
  refine wpAny_execs_cons ?_
  refine wpAny_Assign_Name ?_
  refine w_call ?_
  refine w_global AT hG.h.st N.f8 ?_
  refine w_callFn hG.f8 ?_
  refine wpAny_items_cons ?_
  refine w_local AT hm ?_
  refine wpAny_items_nil ⟨AT.keep, ?_⟩
  refine rows_spec hG.f8 hG.h.st N.range N.sum (hA.less (by omega) (by omega)) AT.wd hd hb (by omega) fun rl rls RL IT G₁ h₁ tk₁ L₁ hnd hrl hRL hR hI l₁ => ?_
  have A₁ := (AT.back L₁).perm (show List.Perm _ ([(PH, tabObj qs), (PL, tabObj (ps)), (L + 8, o8), (L + 7, o7), (L + 6, o6), (L + 5, o5)] ++ (L + 4, o4) :: ([(L + 3, o3), (L + 2, o2), (L + 1, o1)] ++ (RL ++ IT))) by
    rw [← List.append_assoc]
    exact List.perm_append_comm)
  refine w_setCellF (s := { s with heap := h₁, toks := tk₁ }) (c := L + 4) A₁ hc4 fun G₂ h₂ g₂ A₂ c₂ => ?_
  refine wpAny_execs_cons ?_
  refine wpAny_Assign_Name ?_
  refine w_List ?_
  refine wpAny_items_nil ?_
  refine w_newListOwn (s := { s with heap := h₂, toks := tk₁ }) A₂ (by simp) fun nl h₃ nd₃ A₃ => ?_
  refine w_set (s := { s with heap := h₃, toks := tk₁ }) A₃ fun h₄ tk₄ A₄ => ?_
  have g12 := stays_trans L₁.gr g₂
  have S₂ := LawS.mono _ _ hG g12
  have A₅ := A₄.perm (show List.Perm _ ((PH, tabObj qs) :: ([(PH, tabObj qs), (PL, tabObj (ps)), (L + 8, o8), (L + 7, o7), (L + 6, o6), (L + 5, o5), (L + 3, o3), (L + 2, o2), (L + 1, o1)].tail ++ owOf nl (lstObj #[] 0) RL IT [])) by
    have e : ((PH, tabObj qs) :: ([(PH, tabObj qs), (PL, tabObj (ps)), (L + 8, o8), (L + 7, o7), (L + 6, o6), (L + 5, o5), (L + 3, o3), (L + 2, o2), (L + 1, o1)].tail ++ owOf nl (lstObj #[] 0) RL IT []) : List (Addr × Obj)) = [(PH, tabObj qs), (PL, tabObj (ps)), (L + 8, o8), (L + 7, o7), (L + 6, o6), (L + 5, o5), (L + 3, o3), (L + 2, o2), (L + 1, o1)] ++ (nl, lstObj #[] 0) :: (RL ++ IT) := by simp [owOf]
    rw [e]
    exact (List.perm_middle (l₁ := [(PH, tabObj qs), (PL, tabObj (ps)), (L + 8, o8), (L + 7, o7), (L + 6, o6), (L + 5, o5), (L + 3, o3), (L + 2, o2), (L + 1, o1)]) (l₂ := RL ++ IT) (a := (nl, lstObj #[] 0))).symm)
  refine wpAny_execs_cons ?_
  refine wpAny_Assign_Name ?_
  refine w_call ?_
  refine w_global (s := { s with heap := h₄, toks := tk₄ }) A₅ S₂.h.st N.f11 ?_
  refine w_callFn S₂.h.f ?_
  refine wpAny_items_cons ?_
  refine w_cell (s := { s with heap := h₄, toks := tk₄ }) (c := L + 4) rfl (c₂.keeps A₅.keep) ?_
  refine wpAny_items_cons ?_
  refine w_local (s := { s with heap := h₄, toks := tk₄ }) A₅ (upd_ne hm) ?_
  refine wpAny_items_cons ?_
  refine w_global (s := { s with heap := h₄, toks := tk₄ }) A₅ S₂.h.st N.f9 ?_
  refine wpAny_items_cons ?_
  refine w_local (s := { s with heap := h₄, toks := tk₄ }) A₅ (upd_self _ _ _) ?_
  refine wpAny_items_nil ⟨A₅.keep, ?_⟩
  refine hand_spec (s := { s with heap := h₄, toks := tk₄ }) S₂.h (hA.less (by omega) (by omega)) (hq.mono g12) A₅.wd fun tf cR cM cK cN G₆ h₆ tk₆ qs₆ L₆ t₆ f₆ iR iM iK iN => ?_
  have A₆ := (A₅.back L₆).perm (show List.Perm _ ([(PH, tabObj qs₆), (PL, tabObj (ps)), (L + 8, o8)] ++ (L + 7, o7) :: ([(L + 6, o6), (L + 5, o5), (L + 3, o3), (L + 2, o2), (L + 1, o1)] ++ owOf nl (lstObj #[] 0) RL IT [])) from List.Perm.refl _)
  refine w_setCellF (s := { s with heap := h₆, toks := tk₆ }) (c := L + 7) A₆ hc7 fun G₇ h₇ g₇ A₇ c₇ => ?_
  have g27 := stays_trans L₆.gr g₇
  have g17 := stays_trans g12 g27
  have S₇ := LawS.mono _ _ S₂ g27
  refine wpAny_execs_cons ?_
  refine wpAny_Assign_Name ?_
  refine w_call ?_
  refine w_global (s := { s with heap := h₇, toks := tk₆ }) A₇ S₇.h.st N.f14 ?_
  refine w_callFn S₇.f14 ?_
  refine wpAny_items_cons ?_
  refine w_lambda (s := { s with heap := h₇, toks := tk₆ }) (pre := [(PH, tabObj qs₆)]) (P := PL) (ps := ps) (post := [(L + 8, o8), (L + 6, o6), (L + 5, o5), (L + 3, o3), (L + 2, o2), (L + 1, o1)] ++ owOf nl (lstObj #[] 0) RL IT []) (c := cL) (clos := [(Str.ofString "touch", L + 7), (Str.ofString "rows", L + 4)]) (qual := lamQ) A₇ S₇.h.st S₇.h.b S₇.cl hp1 hp2 rfl rfl (by rfl) (by rfl) (by rfl) fun df c' G₈ h₈ tk₈ g₈ A₈ F₈ => ?_
  have g78 := stays_trans g27 g₈
  have g18 := stays_trans g17 g₈
  have S₈ := LawS.mono _ _ S₇ g₈
  refine wpAny_items_nil ⟨stays_trans g₈ A₈.keep, ?_⟩
  -- what stays frozen for the runs
  let SS : Heap → Prop := fun G => LawS K mg mb a fI fT fN cH PH cL PL G ∧ TouchC mg mb tf rl da a.f9 nl cR cM cK cN rls (ixOf ds) ds G ∧ LamI G 4 df [(Str.ofString "touch", L + 7), (Str.ofString "rows", L + 4)] ∧ G.IsCell (L + 7) (some (.ref tf)) ∧ G.IsCell (L + 4) (some (.ref rl))
  have hSS : ∀ G G', SS G → G.StaysIn G' → SS G' := fun G G' h k => ⟨LawS.mono _ _ h.1 k, TouchC.mono _ _ h.2.1 k, h.2.2.1.mono k, h.2.2.2.1.keeps k, h.2.2.2.2.keeps k⟩
  have hSS₈ : SS G₈ := ⟨S₈, ⟨S₈.h.st, f₆.mono (stays_trans g₇ g₈), iR.keeps (stays_trans g₇ g₈), iM.keeps (stays_trans g₇ g₈), iK.keeps (stays_trans g₇ g₈), iN.keeps (stays_trans g₇ g₈), isList_mono l₁ (stays_trans g₂ g78), hd.mono g18, fun M => keeper_fn S₈.f9⟩, F₈, c₇.keeps g₈, c₂.keeps g78⟩
  have NT : TouchN prog w mg mb tf rl da a.f9 nl cR cM cK cN rls (ixOf ds) ds SS 8 (fun th => ∃ l, th = .ids l) := ⟨hSS, fun G h => h.2.1, fun th hth => by
      obtain ⟨l, rfl⟩ := hth
      exact copies_ok hSS (fun G h => ⟨h.1.f9, h.1.h.st⟩) N.list, N.len, N.ve, by omega, by decide, hx3.2, by omega, hb⟩
  have hOk : Ok 8 ds rls.length (ixOf ds) (sg0 ds) := by rw [hrl]; exact sg0_ok ds ds
  have hV : TouchV nl rls [] G₈ (sg0 ds) (owOf nl (lstObj #[] 0) RL IT []) := ⟨_, RL, IT, rfl, ⟨#[], ⟨0, rfl⟩, Rds.nil⟩, hRL, hR, hI⟩
  have dd : DeedOk prog w SS 15 150 df (fun ow₀ G σ ow => TouchV nl rls ow₀ G σ ow ∧ Ok 8 ds rls.length (ixOf ds) σ) (D1 ds) (fun n σ => σ.noted.length + n * (8 + ds.length) ≤ 50000) :=
    deed_map NT hnd hx3.1 (fun G h => ⟨h.2.2.1, h.2.2.2.1, h.2.2.2.2, h.1.f1⟩) N.f1 N.list N.map N.tuple rfl
  refine runs_spec (s := { s with heap := h₈, toks := tk₈ }) (S := SS) (V := fun ow₀ G σ ow => TouchV nl rls ow₀ G σ ow ∧ Ok 8 ds rls.length (ixOf ds) σ) (D := D1 ds) (σ := sg0 ds) (pre := (PH, tabObj qs₆) :: (PL, tabObj (ps ++ #[rawInt (lamPos (lamE 4)).line, rawInt (lamPos (lamE 4)).col, .ref c'])) :: [(L + 8, o8), (L + 6, o6), (L + 5, o5), (L + 3, o3), (L + 2, o2), (L + 1, o1)]) (ow₀ := []) (n := 0) hSS (fun o G G' σ ow h k => ⟨TouchV.mono _ _ _ _ h.1 k, h.2⟩) dd (fun G h => keeper_lam h.2.2.1) (fun G h => ⟨h.1.f14, h.1.h.st⟩) N.range N.ve N.str (hA.less (by omega) (by omega)) hSS₈ ⟨hV, hOk⟩ (by show 0 + _ ≤ _; omega) A₈.wd fun gl G₉ h₉ tk₉ ow₉ V₉ L₉ S₉ r₉ => ?_
  have A₉ := A₈.back L₉
  refine w_set (s := { s with heap := h₉, toks := tk₉ }) A₉ fun h₁₀ tk₁₀ A₁₀ => ?_
  obtain ⟨Gx, gx, Ax, n1, n2⟩ := touch_freeze A₁₀ V₉.1 V₉.2
  rw [List.append_nil] at Ax
  have g9x := stays_trans L₉.gr gx
  refine h Gx h₁₀ tk₁₀ qs₆ c' nl gl rl (stays_trans g18 g9x) (t₆.mono (stays_trans (stays_trans g₇ g₈) g9x)) Ax (r₉.mono gx) n1 (Rd.list (isList_mono hSS₈.2.1.rl g9x) ?_) ((c₂.keeps g78).keeps g9x)
  exact Rds.all2.mpr (All2.map2 n2)

theorem law_p2 {Q : Flow → Shared → Prop} {rest : List Stmt} {qs ps : Array Value} {o8 o6 o5 o3 o2 o1 : Obj} (N : LawN mg a C) (hG : LawS K mg mb a fI fT fN cH PH cL PL G) (hA : Ar A (lawE L fa cL :: X.fs) 100 2000)
    (AT : At X G [(PH, tabObj qs), (PL, tabObj (ps)), (L + 8, o8), (L + 6, o6), (L + 5, o5), (L + 3, o3), (L + 2, o2), (L + 1, o1)] (lawE L fa cL) m s.heap) (hc3 : o3.data = .cell none) (hc8 : o8.data = .cell none)
    (hq : TabSt (posOf tsS) tsQ G qs) (hp1 : TriplesOk ps.toList) (hp2 : codeAmong (lamPos (lamE 8)) ps.toList = none) (hm : m (Str.ofString "draws") = some (.ref da)) (hd : Rd G (.ref da) (.list (ds.map .int))) (hb : ∀ d ∈ ds, 0 ≤ d ∧ d < 72) (hz : ds.length ≤ 10)
    (h : ∀ G' h' tk qs' c' nl gl rl, G.StaysIn G' → TabSt (posOf tsS) tsQ G' qs' → At X G' [(PH, tabObj qs'), (PL, tabObj (ps ++ #[rawInt (lamPos (lamE 8)).line, rawInt (lamPos (lamE 8)).col, .ref c'])), (L + 6, o6), (L + 5, o5), (L + 2, o2), (L + 1, o1)] (lawE L fa cL) (upd (upd m (Str.ofString "told") (.ref nl)) (Str.ofString "want") (.ref gl)) h' →
      Rd G' (.ref gl) (.list (R1 ds).2) → Rd G' (.ref nl) (.list (R1 ds).1.noted) → Rd G' (.ref rl) (.list (rowsD (ixOf ds) (R1 ds).1)) → G'.IsCell (L + 3) (some (.ref rl)) →
      wpAny (model prog w) A (execs rest (lawE L fa cL)) Q E { s with heap := h', toks := tk }) :
    wpAny (model prog w) A (execs ((fdBody (stm 15)).getD 5 (.Pass default) :: (fdBody (stm 15)).getD 6 (.Pass default) :: (fdBody (stm 15)).getD 7 (.Pass default) :: (fdBody (stm 15)).getD 8 (.Pass default) :: rest) (lawE L fa cL)) Q E s := by
  have hx3 : (ixOf ds).length ≤ 3 ∧ ixOf ds ≠ [] := by rcases ixOf_cases ds with e | e | e | e <;> rw [e] <;> decide
  refine wpAny_execs_cons ?_
  refine wpAny_Assign_Name ?_
  refine w_call ?_
  refine w_global AT hG.h.st N.f8 ?_
  refine w_callFn hG.f8 ?_
  refine wpAny_items_cons ?_
  refine w_local AT hm ?_
  refine wpAny_items_nil ⟨AT.keep, ?_⟩
  refine rows_spec hG.f8 hG.h.st N.range N.sum (hA.less (by omega) (by omega)) AT.wd hd hb (by omega) fun rl rls RL IT G₁ h₁ tk₁ L₁ hnd hrl hRL hR hI l₁ => ?_
  have A₁ := (AT.back L₁).perm (show List.Perm _ ([(PH, tabObj qs), (PL, tabObj (ps)), (L + 8, o8), (L + 6, o6), (L + 5, o5)] ++ (L + 3, o3) :: ([(L + 2, o2), (L + 1, o1)] ++ (RL ++ IT))) by
    rw [← List.append_assoc]
    exact List.perm_append_comm)
  refine w_setCellF (s := { s with heap := h₁, toks := tk₁ }) (c := L + 3) A₁ hc3 fun G₂ h₂ g₂ A₂ c₂ => ?_
  refine wpAny_execs_cons ?_
  refine wpAny_Assign_Name ?_
  refine w_List ?_
  refine wpAny_items_nil ?_
  refine w_newListOwn (s := { s with heap := h₂, toks := tk₁ }) A₂ (by simp) fun nl h₃ nd₃ A₃ => ?_
  refine w_set (s := { s with heap := h₃, toks := tk₁ }) A₃ fun h₄ tk₄ A₄ => ?_
  have g12 := stays_trans L₁.gr g₂
  have S₂ := LawS.mono _ _ hG g12
  have A₅ := A₄.perm (show List.Perm _ ((PH, tabObj qs) :: ([(PH, tabObj qs), (PL, tabObj (ps)), (L + 8, o8), (L + 6, o6), (L + 5, o5), (L + 2, o2), (L + 1, o1)].tail ++ owOf nl (lstObj #[] 0) RL IT [])) by
    have e : ((PH, tabObj qs) :: ([(PH, tabObj qs), (PL, tabObj (ps)), (L + 8, o8), (L + 6, o6), (L + 5, o5), (L + 2, o2), (L + 1, o1)].tail ++ owOf nl (lstObj #[] 0) RL IT []) : List (Addr × Obj)) = [(PH, tabObj qs), (PL, tabObj (ps)), (L + 8, o8), (L + 6, o6), (L + 5, o5), (L + 2, o2), (L + 1, o1)] ++ (nl, lstObj #[] 0) :: (RL ++ IT) := by simp [owOf]
    rw [e]
    exact (List.perm_middle (l₁ := [(PH, tabObj qs), (PL, tabObj (ps)), (L + 8, o8), (L + 6, o6), (L + 5, o5), (L + 2, o2), (L + 1, o1)]) (l₂ := RL ++ IT) (a := (nl, lstObj #[] 0))).symm)
  refine wpAny_execs_cons ?_
  refine wpAny_Assign_Name ?_
  refine w_call ?_
  refine w_global (s := { s with heap := h₄, toks := tk₄ }) A₅ S₂.h.st N.f11 ?_
  refine w_callFn S₂.h.f ?_
  refine wpAny_items_cons ?_
  refine w_cell (s := { s with heap := h₄, toks := tk₄ }) (c := L + 3) rfl (c₂.keeps A₅.keep) ?_
  refine wpAny_items_cons ?_
  refine w_local (s := { s with heap := h₄, toks := tk₄ }) A₅ (upd_ne hm) ?_
  refine wpAny_items_cons ?_
  refine w_global (s := { s with heap := h₄, toks := tk₄ }) A₅ S₂.h.st N.f9 ?_
  refine wpAny_items_cons ?_
  refine w_local (s := { s with heap := h₄, toks := tk₄ }) A₅ (upd_self _ _ _) ?_
  refine wpAny_items_nil ⟨A₅.keep, ?_⟩
  refine hand_spec (s := { s with heap := h₄, toks := tk₄ }) S₂.h (hA.less (by omega) (by omega)) (hq.mono g12) A₅.wd fun tf cR cM cK cN G₆ h₆ tk₆ qs₆ L₆ t₆ f₆ iR iM iK iN => ?_
  have A₆ := (A₅.back L₆).perm (show List.Perm _ ([(PH, tabObj qs₆), (PL, tabObj (ps))] ++ (L + 8, o8) :: ([(L + 6, o6), (L + 5, o5), (L + 2, o2), (L + 1, o1)] ++ owOf nl (lstObj #[] 0) RL IT [])) from List.Perm.refl _)
  refine w_setCellF (s := { s with heap := h₆, toks := tk₆ }) (c := L + 8) A₆ hc8 fun G₇ h₇ g₇ A₇ c₇ => ?_
  have g27 := stays_trans L₆.gr g₇
  have g17 := stays_trans g12 g27
  have S₇ := LawS.mono _ _ S₂ g27
  refine wpAny_execs_cons ?_
  refine wpAny_Assign_Name ?_
  refine w_call ?_
  refine w_global (s := { s with heap := h₇, toks := tk₆ }) A₇ S₇.h.st N.f14 ?_
  refine w_callFn S₇.f14 ?_
  refine wpAny_items_cons ?_
  refine w_lambda (s := { s with heap := h₇, toks := tk₆ }) (pre := [(PH, tabObj qs₆)]) (P := PL) (ps := ps) (post := [(L + 6, o6), (L + 5, o5), (L + 2, o2), (L + 1, o1)] ++ owOf nl (lstObj #[] 0) RL IT []) (c := cL) (clos := [(Str.ofString "twin", L + 8), (Str.ofString "plain", L + 3)]) (qual := lamQ) A₇ S₇.h.st S₇.h.b S₇.cl hp1 hp2 rfl rfl (by rfl) (by rfl) (by rfl) fun df c' G₈ h₈ tk₈ g₈ A₈ F₈ => ?_
  have g78 := stays_trans g27 g₈
  have g18 := stays_trans g17 g₈
  have S₈ := LawS.mono _ _ S₇ g₈
  refine wpAny_items_nil ⟨stays_trans g₈ A₈.keep, ?_⟩
  -- what stays frozen for the runs
  let SS : Heap → Prop := fun G => LawS K mg mb a fI fT fN cH PH cL PL G ∧ TouchC mg mb tf rl da a.f9 nl cR cM cK cN rls (ixOf ds) ds G ∧ LamI G 8 df [(Str.ofString "twin", L + 8), (Str.ofString "plain", L + 3)] ∧ G.IsCell (L + 8) (some (.ref tf)) ∧ G.IsCell (L + 3) (some (.ref rl))
  have hSS : ∀ G G', SS G → G.StaysIn G' → SS G' := fun G G' h k => ⟨LawS.mono _ _ h.1 k, TouchC.mono _ _ h.2.1 k, h.2.2.1.mono k, h.2.2.2.1.keeps k, h.2.2.2.2.keeps k⟩
  have hSS₈ : SS G₈ := ⟨S₈, ⟨S₈.h.st, f₆.mono (stays_trans g₇ g₈), iR.keeps (stays_trans g₇ g₈), iM.keeps (stays_trans g₇ g₈), iK.keeps (stays_trans g₇ g₈), iN.keeps (stays_trans g₇ g₈), isList_mono l₁ (stays_trans g₂ g78), hd.mono g18, fun M => keeper_fn S₈.f9⟩, F₈, c₇.keeps g₈, c₂.keeps g78⟩
  have NT : TouchN prog w mg mb tf rl da a.f9 nl cR cM cK cN rls (ixOf ds) ds SS 8 (fun th => ∃ l, th = .ids l) := ⟨hSS, fun G h => h.2.1, fun th hth => by
      obtain ⟨l, rfl⟩ := hth
      exact copies_ok hSS (fun G h => ⟨h.1.f9, h.1.h.st⟩) N.list, N.len, N.ve, by omega, by decide, hx3.2, by omega, hb⟩
  have hOk : Ok 8 ds rls.length (ixOf ds) (sg0 ds) := by rw [hrl]; exact sg0_ok ds ds
  have hV : TouchV nl rls [] G₈ (sg0 ds) (owOf nl (lstObj #[] 0) RL IT []) := ⟨_, RL, IT, rfl, ⟨#[], ⟨0, rfl⟩, Rds.nil⟩, hRL, hR, hI⟩
  have dd : DeedOk prog w SS 15 150 df (fun ow₀ G σ ow => TouchV nl rls ow₀ G σ ow ∧ Ok 8 ds rls.length (ixOf ds) σ) (D1 ds) (fun n σ => σ.noted.length + n * (8 + ds.length) ≤ 50000) :=
    deed_turns NT (fun G h => ⟨h.2.2.1, h.2.2.2.1, h.2.2.2.2, h.1.f12⟩) N.f12 N.min rfl
  refine runs_spec (s := { s with heap := h₈, toks := tk₈ }) (S := SS) (V := fun ow₀ G σ ow => TouchV nl rls ow₀ G σ ow ∧ Ok 8 ds rls.length (ixOf ds) σ) (D := D1 ds) (σ := sg0 ds) (pre := (PH, tabObj qs₆) :: (PL, tabObj (ps ++ #[rawInt (lamPos (lamE 8)).line, rawInt (lamPos (lamE 8)).col, .ref c'])) :: [(L + 6, o6), (L + 5, o5), (L + 2, o2), (L + 1, o1)]) (ow₀ := []) (n := 0) hSS (fun o G G' σ ow h k => ⟨TouchV.mono _ _ _ _ h.1 k, h.2⟩) dd (fun G h => keeper_lam h.2.2.1) (fun G h => ⟨h.1.f14, h.1.h.st⟩) N.range N.ve N.str (hA.less (by omega) (by omega)) hSS₈ ⟨hV, hOk⟩ (by show 0 + _ ≤ _; omega) A₈.wd fun gl G₉ h₉ tk₉ ow₉ V₉ L₉ S₉ r₉ => ?_
  have A₉ := A₈.back L₉
  refine w_set (s := { s with heap := h₉, toks := tk₉ }) A₉ fun h₁₀ tk₁₀ A₁₀ => ?_
  obtain ⟨Gx, gx, Ax, n1, n2⟩ := touch_freeze A₁₀ V₉.1 V₉.2
  rw [List.append_nil] at Ax
  have g9x := stays_trans L₉.gr gx
  refine h Gx h₁₀ tk₁₀ qs₆ c' nl gl rl (stays_trans g18 g9x) (t₆.mono (stays_trans (stays_trans g₇ g₈) g9x)) Ax (r₉.mono gx) n1 (Rd.list (isList_mono hSS₈.2.1.rl g9x) ?_) ((c₂.keeps g78).keeps g9x)
  exact Rds.all2.mpr (All2.map2 n2)
end

section
variable {prog : Program} {w : World} {A : Around} {E : Value → Shared → Prop} {s : Shared} {G : Heap} {Q : Value → Shared → Prop}
theorem w_ne {a b : Value} {d : PyData} {n : Nat} (ra : Rd G a d) (rb : Rd G b d) (k : G.StaysIn s.heap) (hg : Gd n d) (hu : A.units + n < cLine) (h : Q (.bool false) s) :
    wpAny (model prog w) A (compareOp .NotEq a b) Q E s := by
  obtain ⟨hl, hd⟩ := hg
  obtain ⟨as, ra⟩ := ra.mono k
  obtain ⟨bs, rb⟩ := rb.mono k
  refine SeqAt.compareNe_reads ra rb hl hl (by omega) ?_
  rw [SeqAt.eqv_refl d hl]
  exact h
theorem w_eq {a b : Value} {d : PyData} {n : Nat} (ra : Rd G a d) (rb : Rd G b d) (k : G.StaysIn s.heap) (hg : Gd n d) (hu : A.units + n < cLine) (h : Q (.bool true) s) :
    wpAny (model prog w) A (compareOp .Eq a b) Q E s := by
  obtain ⟨hl, hd⟩ := hg
  obtain ⟨as, ra⟩ := ra.mono k
  obtain ⟨bs, rb⟩ := rb.mono k
  refine SeqAt.compareEq_reads ra rb hl hl (by omega) ?_
  rw [SeqAt.eqv_refl d hl]
  exact h
end
theorem note0 (ds : List Int) : NoteOk (sg0 ds) := fun d hd => by cases hd
theorem r1_ok {ds : List Int} : NoteOk (R1 ds).1 ∧ (R1 ds).1.noted.length ≤ 12 * (8 + ds.length) ∧ Gd 4 (.list (R1 ds).2) := by
  have hx3 : (ixOf ds).length ≤ 3 ∧ ixOf ds ≠ [] := by rcases ixOf_cases ds with e | e | e | e <;> rw [e] <;> decide
  obtain ⟨a, b, c, d⟩ := runs_ok (more := mapMore (ixOf ds)) (th := mapTh (ixOf ds)) (nf := 8 + ds.length) hx3.2 hx3.1 (by decide) 12 (sg0 ds) (sg0_ok ds ds) (note0 ds)
  refine ⟨b, ?_, d⟩
  have : (sg0 ds).noted.length = 0 := rfl
  rw [this, Nat.zero_add] at c
  exact c
section
variable {prog : Program} {w : World} {mg mb : Str → Option Value} {A : Around} {E : Value → Shared → Prop} {s : Shared} {X : Ent} {G : Heap} {m : Str → Option Value} {L cL : Addr} {ow : List (Addr × Obj)} {Q : Flow → Shared → Prop}

/-- if got != want or seen != told or rows != plain -/
theorem law_s9 {g1 g2 n1 n2 r1 r2 : Addr} {d1 d2 d3 : PyData} (hA : Ar A (lawE L 0 cL :: X.fs) 100 2000 ∨ A.units + 10 < cLine) {fa : Addr} (AT : At X G ow (lawE L fa cL) m s.heap)
    (m1 : m (Str.ofString "got") = some (.ref g1)) (m2 : m (Str.ofString "want") = some (.ref g2)) (m3 : m (Str.ofString "seen") = some (.ref n1)) (m4 : m (Str.ofString "told") = some (.ref n2))
    (c1 : G.IsCell (L + 4) (some (.ref r1))) (c2 : G.IsCell (L + 3) (some (.ref r2)))
    (a1 : Rd G (.ref g1) d1) (a2 : Rd G (.ref g2) d1) (a3 : Rd G (.ref n1) d2) (a4 : Rd G (.ref n2) d2) (a5 : Rd G (.ref r1) d3) (a6 : Rd G (.ref r2) d3) (e1 : Gd 4 d1) (e2 : Gd 4 d2) (e3 : Gd 4 d3)
    (h : Q .next s) : wpAny (model prog w) A (exec ((fdBody (stm 15)).getD 9 (.Pass default)) (lawE L fa cL)) Q E s := by
  have hu : A.units + 4 < cLine := by
    rcases hA with hA | hA
    · have := hA.un; omega
    · omega
  refine wpAny_If ?_
  refine isTrue_or ?_
  refine wpAny_isTrue_Compare1 ?_
  refine w_local AT m1 ?_
  refine w_local AT m2 ?_
  refine w_ne a1 a2 AT.keep e1 hu ?_
  refine w_truthyB ?_
  show (if false = true then _ else _)
  rw [if_neg Bool.false_ne_true]
  refine isTrue_or ?_
  refine wpAny_isTrue_Compare1 ?_
  refine w_local AT m3 ?_
  refine w_local AT m4 ?_
  refine w_ne a3 a4 AT.keep e2 hu ?_
  refine w_truthyB ?_
  show (if false = true then _ else _)
  rw [if_neg Bool.false_ne_true]
  refine isTrue_or ?_
  refine wpAny_isTrue_Compare1 ?_
  refine w_cell (c := L + 4) rfl (c1.keeps AT.keep) ?_
  refine w_cell (c := L + 3) rfl (c2.keeps AT.keep) ?_
  refine w_ne a5 a6 AT.keep e3 hu ?_
  refine w_truthyB ?_
  show (if false = true then _ else _)
  rw [if_neg Bool.false_ne_true]
  refine isTrue_or_nil ?_
  show (if false = true then _ else _)
  rw [if_neg Bool.false_ne_true]
  exact wpAny_execs_nil h

theorem law_s10 {fa da : Addr} {ds : List Int} (AT : At X G ow (lawE L fa cL) m s.heap) (hm : m (Str.ofString "draws") = some (.ref da)) (hd : Rd G (.ref da) (.list (ds.map .int))) (hz : ds.length ≤ 10)
    (h : ∀ r G' h' tk, G.StaysIn G' → At X G' ow (lawE L fa cL) (upd m (Str.ofString "moves") (.ref r)) h' → Rd G' (.ref r) (.list (ds.reverse.map .int)) → Q .next { s with heap := h', toks := tk }) :
    wpAny (model prog w) A (exec ((fdBody (stm 15)).getD 10 (.Pass default)) (lawE L fa cL)) Q E s := by
  obtain ⟨_, vs, e, hl, hr⟩ := hd.list_inv
  cases e
  have hvl : vs.size = ds.length := by have := hr.length; simpa using this
  refine wpAny_Assign_Name ?_
  refine w_sliceRev (w_local AT hm ⟨G, _, _, rfl, isList_mono hl AT.keep, AT, fun l₃ G₃ h₃ tk₃ le₃ A₃ e₃ => ?_⟩) (by omega)
  refine w_set (s := { s with heap := h₃, toks := tk₃ }) A₃ fun h₄ tk₄ A₄ => ?_
  refine h l₃ G₃ h₄ tk₄ le₃ A₄ (Rd.list e₃ ?_)
  have : Rds G vs.toList.reverse (ds.map PyData.int).reverse := Rds.all2.mpr (All2.reverse (Rds.all2.mp hr))
  rw [List.map_reverse]
  simpa using this.mono le₃
end

def sizesOf : PyData → List Int
  | .tuple [_, .list l] => l.map fun | .int i => i | _ => 0
  | _ => []
theorem sizes_at (a : PyData) (l : List Int) : sizesOf (.tuple [a, intsD l]) = l := by
  show (l.map PyData.int).map _ = l
  rw [List.map_map]
  exact (List.map_congr_left fun _ _ => rfl).trans (List.map_id l)
def sg1 (N : List PyData) : Sg := { items := N.map sizesOf, lst := [List.range N.length], noted := [] }
theorem sg1_ok {N : List PyData} {moves : List Int} (h1 : N.length ≤ 232) (h2 : ∀ d ∈ N, ∃ (a : List PyData) (l : List Int), d = .tuple [.list a, intsD l] ∧ l.length ≤ 3 ∧ ∀ x ∈ a, Gd 1 x) : Ok 232 moves 1 [0] (sg1 N) := by
  refine ⟨rfl, fun r hr => ?_, fun row hrow i hi => ?_, fun row hrow => ?_, ?_, fun x hx => ?_⟩
  · simp at hr; omega
  · unfold sg1 at hrow ⊢
    simp at hrow
    subst hrow
    simpa using hi
  · unfold sg1 at hrow
    simp at hrow
    subst hrow
    simp; omega
  · unfold sg1
    simp; omega
  · unfold sg1 at hx
    obtain ⟨d, hd, rfl⟩ := List.mem_map.mp hx
    obtain ⟨a, l, rfl, hl, _⟩ := h2 d hd
    rw [sizes_at]
    omega
def D2 (ds : List Int) : Sg → Sg × List PyData × Option Int := fun σ => goP ds.reverse [0] starMore starTh (232 + ds.reverse.length) 0 σ
def R2 (ds : List Int) : Sg × List PyData := runsP (D2 ds) 12 (sg1 (R1 ds).1.noted)
def tblD (σ : Sg) : PyData := .list ((rowOf σ 0).map fun i => intsD (σ.items.getD i []))
def cmpScope (i : Nat) : Scope := match (fdBody (stm 15)).getD i (.Pass default) with
  | .Assign _ (.ListComp _ _ sc _) _ => sc
  | _ => default
section
variable {prog : Program} {w : World} {mg mb : Str → Option Value} {A : Around} {E : Value → Shared → Prop} {s : Shared} {X : Ent} {G : Heap} {m : Str → Option Value} {K : Frag} {a : Adr} {C fI fT fN pI pF cH PH cL PL L fa sn mv : Addr} {ds : List Int}

/-- [list(sizes) for things, sizes in seen] -/
theorem sizes_elem1 {N : List PyData} {xs : Array Value} {base : List (Addr × Obj)} {k : Nat} {t : Addr} {va vb : Value} {C' L' I : Addr} {oC ao io : Obj} {G' : Heap} {ow' : List (Addr × Obj)} {vs : List Value} {Qe Ee : Value → Shared → Prop} {p1 p2 p3 : Pos}
    (S : Sta mg mb G) (n1 : mg "list" = none) (hN : ∀ d ∈ N, ∃ (a : List PyData) (l : List Int), d = .tuple [.list a, intsD l] ∧ l.length ≤ 3 ∧ ∀ x ∈ a, Gd 1 x) (hr : Rds G xs.toList N)
    (hv : xs[k]? = some (.ref t)) (ht : TupG G t [va, vb]) (hR : RowItv (fun k => sizesOf (N.getD k .none)) base k ow' vs) (g' : G.StaysIn G') (A' : At X G' ((C', oC) :: (L', ao) :: (I, io) ::ow') (lawE L fa cL) m s.heap) (hC : ∃ mC, s.heap.Ns C' mC ∧ mC (Str.ofString "things") = some va ∧ mC (Str.ofString "sizes") = some vb)
    (hq : ∀ r G'' h' tk ow'', G'.StaysIn G'' → At X G'' ((C', oC) :: (L', ao) :: (I, io) :: ow'') (lawE L fa cL) m h' → (G'' = G' ∧ RowItv (fun k => sizesOf (N.getD k .none)) base (k + 1) ow'' (vs ++ [r])) → Qe r { s with heap := h', toks := tk }) :
    wpAny (model prog w) A (eval (.Call (.Name (Str.ofString "list") p1) [.Name (Str.ofString "sizes") p2] [] p3) (compEnvC (cmpScope 11) [] C' (lawE L fa cL))) Qe Ee s := by
  obtain ⟨mC, hnC, _, hmC⟩ := hC
  have hv' : xs.toList[k]? = some (.ref t) := by simpa using hv
  obtain ⟨d, hd1, hd2⟩ := (Rds.all2.mp hr).get hv'
  obtain ⟨al, l, rfl, hl3, _⟩ := hN d (List.mem_of_getElem? hd1)
  have ek : sizesOf (N.getD k .none) = l := by
    rw [List.getD_eq_getElem?_getD, hd1]
    exact sizes_at _ _
  obtain ⟨t', o, ws, n, e, ho, hc, hd, hrs⟩ := hd2.tuple_inv
  cases e
  obtain ⟨o2, n2, ho2, hc2, hdd2⟩ := ht
  rw [ho] at ho2; cases ho2
  rw [hd] at hdd2; cases hdd2
  have hrb : Rd G vb (intsD l) := by
    have := Rds.all2.mp hrs
    cases this with | cons _ q => cases q with | cons q _ => exact q
  obtain ⟨lb, ys, rfl, hly, hry⟩ := hrb.list_inv
  have hyl : ys.size = l.length := by have := hry.length; simpa using this
  refine w_call ?_
  refine w_bltn (G := G) (stays_trans g' A'.keep) S n1 (by boot_by_name) ?_
  refine w_callType ?_
  refine wpAny_items_cons ?_
  refine w_ns hnC rfl hmC ?_
  refine wpAny_items_nil ?_
  obtain ⟨oy, hoy, hcy, ny, hdy⟩ := isList_mono (isList_mono hly g') A'.keep
  refine w_listCopyO A' (.inl rfl) hoy hcy hdy (by omega) fun D h₃ o₃ A₃ p₃ _ => ?_
  obtain ⟨ow₃, hR₃, pm⟩ := hR.step (p := (D, o₃)) ⟨ys, p₃, by
    rw [ek]
    exact ints_of hry⟩
  exact hq (.ref D) G' h₃ s.toks ow₃ (stays_refl _) (A₃.perm (pm _ _ _)) ⟨rfl, hR₃⟩
/-- [list(sizes) for things, sizes in seen] -/
theorem sizes_elem2 {N : List PyData} {xs : Array Value} {base : List (Addr × Obj)} {k : Nat} {t : Addr} {va vb : Value} {C' L' I : Addr} {oC ao io : Obj} {G' : Heap} {ow' : List (Addr × Obj)} {vs : List Value} {Qe Ee : Value → Shared → Prop} {p1 p2 p3 : Pos}
    (S : Sta mg mb G) (n1 : mg "list" = none) (hN : ∀ d ∈ N, ∃ (a : List PyData) (l : List Int), d = .tuple [.list a, intsD l] ∧ l.length ≤ 3 ∧ ∀ x ∈ a, Gd 1 x) (hr : Rds G xs.toList N)
    (hv : xs[k]? = some (.ref t)) (ht : TupG G t [va, vb]) (hR : RowItv (fun k => sizesOf (N.getD k .none)) base k ow' vs) (g' : G.StaysIn G') (A' : At X G' ((C', oC) :: (L', ao) :: (I, io) ::ow') (lawE L fa cL) m s.heap) (hC : ∃ mC, s.heap.Ns C' mC ∧ mC (Str.ofString "things") = some va ∧ mC (Str.ofString "sizes") = some vb)
    (hq : ∀ r G'' h' tk ow'', G'.StaysIn G'' → At X G'' ((C', oC) :: (L', ao) :: (I, io) :: ow'') (lawE L fa cL) m h' → (G'' = G' ∧ RowItv (fun k => sizesOf (N.getD k .none)) base (k + 1) ow'' (vs ++ [r])) → Qe r { s with heap := h', toks := tk }) :
    wpAny (model prog w) A (eval (.Call (.Name (Str.ofString "list") p1) [.Name (Str.ofString "sizes") p2] [] p3) (compEnvC (cmpScope 15) [] C' (lawE L fa cL))) Qe Ee s := by
  obtain ⟨mC, hnC, _, hmC⟩ := hC
  have hv' : xs.toList[k]? = some (.ref t) := by simpa using hv
  obtain ⟨d, hd1, hd2⟩ := (Rds.all2.mp hr).get hv'
  obtain ⟨al, l, rfl, hl3, _⟩ := hN d (List.mem_of_getElem? hd1)
  have ek : sizesOf (N.getD k .none) = l := by
    rw [List.getD_eq_getElem?_getD, hd1]
    exact sizes_at _ _
  obtain ⟨t', o, ws, n, e, ho, hc, hd, hrs⟩ := hd2.tuple_inv
  cases e
  obtain ⟨o2, n2, ho2, hc2, hdd2⟩ := ht
  rw [ho] at ho2; cases ho2
  rw [hd] at hdd2; cases hdd2
  have hrb : Rd G vb (intsD l) := by
    have := Rds.all2.mp hrs
    cases this with | cons _ q => cases q with | cons q _ => exact q
  obtain ⟨lb, ys, rfl, hly, hry⟩ := hrb.list_inv
  have hyl : ys.size = l.length := by have := hry.length; simpa using this
  refine w_call ?_
  refine w_bltn (G := G) (stays_trans g' A'.keep) S n1 (by boot_by_name) ?_
  refine w_callType ?_
  refine wpAny_items_cons ?_
  refine w_ns hnC rfl hmC ?_
  refine wpAny_items_nil ?_
  obtain ⟨oy, hoy, hcy, ny, hdy⟩ := isList_mono (isList_mono hly g') A'.keep
  refine w_listCopyO A' (.inl rfl) hoy hcy hdy (by omega) fun D h₃ o₃ A₃ p₃ _ => ?_
  obtain ⟨ow₃, hR₃, pm⟩ := hR.step (p := (D, o₃)) ⟨ys, p₃, by
    rw [ek]
    exact ints_of hry⟩
  exact hq (.ref D) G' h₃ s.toks ow₃ (stays_refl _) (A₃.perm (pm _ _ _)) ⟨rfl, hR₃⟩
end
theorem two_inv {α β : Type} {R : α → β → Prop} {ws : List α} {a b : β} (h : All2 R ws [a, b]) : ∃ x y, ws = [x, y] := by
  cases h with
  | cons _ h =>
    cases h with
    | cons _ h => cases h; exact ⟨_, _, rfl⟩

theorem range_sizes (N : List PyData) : (List.range N.length).map (fun k => sizesOf (N.getD k .none)) = N.map sizesOf := by
  apply List.ext_getElem?
  intro i
  rw [List.getElem?_map, List.getElem?_map]
  by_cases h : i < N.length
  · rw [List.getElem?_range h, List.getElem?_eq_getElem h]
    simp [List.getD_eq_getElem?_getD, List.getElem?_eq_getElem h]
  · rw [List.getElem?_eq_none (by simpa using h), List.getElem?_eq_none (by omega)]; rfl
section
variable {prog : Program} {w : World} {mg mb : Str → Option Value} {A : Around} {E : Value → Shared → Prop} {s : Shared} {X : Ent} {G : Heap} {m : Str → Option Value} {K : Frag} {a : Adr} {C fI fT fN pI pF cH PH cL PL L fa sn mv : Addr} {ds : List Int}

theorem law_p3 {Q : Flow → Shared → Prop} {rest : List Stmt} {qs ps : Array Value} {o6 o5 o2 o1 : Obj} (KX : StarK K C fI fT fN pI pF) (N : LawN mg a C) (hG : LawS K mg mb a fI fT fN cH PH cL PL G) (hA : Ar A (lawE L fa cL :: X.fs) 100 2000)
    (AT : At X G [(PH, tabObj qs), (PL, tabObj (ps)), (L + 6, o6), (L + 5, o5), (L + 2, o2), (L + 1, o1)] (lawE L fa cL) m s.heap) (hc6 : o6.data = .cell none) (hc1 : o1.data = .cell none)
    (hq : TabSt (posOf tsS) tsQ G qs) (hp1 : TriplesOk ps.toList) (hp2 : codeAmong (lamPos (lamE 14)) ps.toList = none) (hm : m (Str.ofString "seen") = some (.ref sn)) (hmv : m (Str.ofString "moves") = some (.ref mv)) (hrn : Rd G (.ref sn) (.list (R1 ds).1.noted)) (hrm : Rd G (.ref mv) (.list (ds.reverse.map .int))) (hb : ∀ d ∈ ds, 0 ≤ d ∧ d < 72) (hz : ds.length ≤ 10)
    (h : ∀ G' h' tk qs' c' nl gl tl, G.StaysIn G' → TabSt (posOf tsS) tsQ G' qs' → At X G' [(PH, tabObj qs'), (PL, tabObj (ps ++ #[rawInt (lamPos (lamE 14)).line, rawInt (lamPos (lamE 14)).col, .ref c'])), (L + 5, o5), (L + 2, o2)] (lawE L fa cL) (upd (upd m (Str.ofString "heard") (.ref nl)) (Str.ofString "laid") (.ref gl)) h' →
      Rd G' (.ref gl) (.list (R2 ds).2) → Rd G' (.ref nl) (.list (R2 ds).1.noted) → Rd G' (.ref tl) (tblD (R2 ds).1) → G'.IsCell (L + 6) (some (.ref tl)) →
      wpAny (model prog w) A (execs rest (lawE L fa cL)) Q E { s with heap := h', toks := tk }) :
    wpAny (model prog w) A (execs ((fdBody (stm 15)).getD 11 (.Pass default) :: (fdBody (stm 15)).getD 12 (.Pass default) :: (fdBody (stm 15)).getD 13 (.Pass default) :: (fdBody (stm 15)).getD 14 (.Pass default) :: rest) (lawE L fa cL)) Q E s := by
  obtain ⟨hN1, hN2, _⟩ := r1_ok (ds := ds)
  generalize hNN : (R1 ds).1.noted = NN at *
  have hN1 : ∀ d ∈ NN, ∃ (a : List PyData) (l : List Int), d = .tuple [.list a, intsD l] ∧ l.length ≤ 3 ∧ ∀ x ∈ a, Gd 1 x := by rw [← hNN]; exact hN1
  obtain ⟨_, xs, e, hlx, hrx⟩ := hrn.list_inv
  cases e
  have hxl : xs.size = NN.length := by have := hrx.length; simpa using this
  refine wpAny_execs_cons ?_
  refine wpAny_Assign_Name ?_
  refine w_comp2 (inv := fun k G' ow vs => G' = G ∧ RowItv (fun k => sizesOf (NN.getD k .none)) [(PH, tabObj qs), (PL, tabObj (ps)), (L + 6, o6), (L + 5, o5), (L + 2, o2), (L + 1, o1)] k ow vs) (cl := []) hA.hd AT hm hlx (by omega) ⟨rfl, [], rfl, rfl, .nil⟩ (fun k v hv => ?_) (fun k t va vb C' oC L' I ao io G' ow' vs s' Qe Ee hv ht hR g' A' hC hq' => ?_) fun Lc ao vs G₁ h₁ tk₁ ow₁ pao hvl hR g₁ A₁ => ?_
  · have hv' : xs.toList[k]? = some v := by simpa using hv
    obtain ⟨d, hd1, hd2⟩ := (Rds.all2.mp hrx).get hv'
    obtain ⟨al, l, rfl, hl3, _⟩ := hN1 d (List.mem_of_getElem? hd1)
    obtain ⟨t, o, ws, n, rfl, ho, hc, hd, hrs⟩ := hd2.tuple_inv
    obtain ⟨ws⟩ := ws
    have hrs := Rds.all2.mp hrs
    obtain ⟨va, vb, rfl⟩ := two_inv hrs
    exact ⟨t, va, vb, rfl, o, n, ho, hc, hd⟩
  · obtain ⟨rfl, hR⟩ := hR
    exact sizes_elem1 hG.h.st N.list hN1 hrx hv ht hR (stays_refl _) A' hC fun r G'' h' tk ow'' g A'' hR' => hq' r G'' h' tk ow'' g A'' hR'
  obtain ⟨rfl, IT, rfl, rfl, hIT⟩ := hR
  have hITl : IT.length = NN.length := by have := hIT.length; simp at this; omega
  have A₁ := A₁.perm (show List.Perm _ ([(PH, tabObj qs), (PL, tabObj (ps))] ++ (L + 6, o6) :: ([(L + 5, o5), (L + 2, o2), (L + 1, o1)] ++ ((Lc, ao) :: IT))) from List.perm_append_comm (l₁ := (Lc, ao) :: IT) (l₂ := [(PH, tabObj qs), (PL, tabObj (ps)), (L + 6, o6), (L + 5, o5), (L + 2, o2), (L + 1, o1)]))
  refine w_setCellF (s := { s with heap := h₁, toks := tk₁ }) (c := L + 6) A₁ hc6 fun G₂ h₂ g₂ A₂ c₂ => ?_
  refine wpAny_execs_cons ?_
  refine wpAny_Assign_Name ?_
  refine w_List ?_
  refine wpAny_items_nil ?_
  refine w_newListOwn (s := { s with heap := h₂, toks := tk₁ }) A₂ (by simp) fun nl h₃ nd₃ A₃ => ?_
  refine w_set (s := { s with heap := h₃, toks := tk₁ }) A₃ fun h₄ tk₄ A₄ => ?_
  have S₂ := LawS.mono _ _ hG g₂
  have A₅ := A₄.perm (show List.Perm _ ((PH, tabObj qs) :: ([(PH, tabObj qs), (PL, tabObj (ps)), (L + 5, o5), (L + 2, o2), (L + 1, o1)].tail ++ owOf nl (lstObj #[] 0) [(Lc, ao)] IT [])) by
    have e : ((PH, tabObj qs) :: ([(PH, tabObj qs), (PL, tabObj (ps)), (L + 5, o5), (L + 2, o2), (L + 1, o1)].tail ++ owOf nl (lstObj #[] 0) [(Lc, ao)] IT []) : List (Addr × Obj)) = [(PH, tabObj qs), (PL, tabObj (ps)), (L + 5, o5), (L + 2, o2), (L + 1, o1)] ++ (nl, lstObj #[] 0) :: ((Lc, ao) :: IT) := by simp [owOf]
    rw [e]
    exact (List.perm_middle (l₁ := [(PH, tabObj qs), (PL, tabObj (ps)), (L + 5, o5), (L + 2, o2), (L + 1, o1)]) (l₂ := (Lc, ao) :: IT) (a := (nl, lstObj #[] 0))).symm)
  refine wpAny_execs_cons ?_
  refine wpAny_Assign_Name ?_
  refine w_call ?_
  refine w_global (s := { s with heap := h₄, toks := tk₄ }) A₅ S₂.h.st N.f11 ?_
  refine w_callFn S₂.h.f ?_
  refine wpAny_items_cons ?_
  refine w_List ?_
  refine wpAny_items_cons ?_
  refine w_cell (s := { s with heap := h₄, toks := tk₄ }) (c := L + 6) rfl (c₂.keeps A₅.keep) ?_
  refine wpAny_items_nil ?_
  refine w_newList (s := { s with heap := h₄, toks := tk₄ }) A₅ (by simp) fun rl Gl hl gl₂ Al ll => ?_
  have Sl := LawS.mono _ _ S₂ gl₂
  have g1l := stays_trans g₂ gl₂
  refine wpAny_items_cons ?_
  refine w_local (s := { s with heap := hl, toks := tk₄ }) Al (upd_ne hmv) ?_
  refine wpAny_items_cons ?_
  refine w_global (s := { s with heap := hl, toks := tk₄ }) Al Sl.h.st N.f10 ?_
  refine wpAny_items_cons ?_
  refine w_local (s := { s with heap := hl, toks := tk₄ }) Al (upd_self _ _ _) ?_
  refine wpAny_items_nil ⟨stays_trans gl₂ Al.keep, ?_⟩
  refine hand_spec (s := { s with heap := hl, toks := tk₄ }) Sl.h (hA.less (by omega) (by omega)) (hq.mono g1l) Al.wd fun tf cR cM cK cN G₆ h₆ tk₆ qs₆ L₆ t₆ f₆ iR iM iK iN => ?_
  have A₆ := (Al.back L₆).perm (show List.Perm _ ([(PH, tabObj qs₆), (PL, tabObj (ps)), (L + 5, o5), (L + 2, o2)] ++ (L + 1, o1) :: ([] ++ owOf nl (lstObj #[] 0) [(Lc, ao)] IT [])) from List.Perm.refl _)
  refine w_setCellF (s := { s with heap := h₆, toks := tk₆ }) (c := L + 1) A₆ hc1 fun G₇ h₇ g₇ A₇ c₇ => ?_
  have g27 := stays_trans gl₂ (stays_trans L₆.gr g₇)
  have g17 := stays_trans g₂ g27
  have S₇ := LawS.mono _ _ S₂ g27
  refine wpAny_execs_cons ?_
  refine wpAny_Assign_Name ?_
  refine w_call ?_
  refine w_global (s := { s with heap := h₇, toks := tk₆ }) A₇ S₇.h.st N.f14 ?_
  refine w_callFn S₇.f14 ?_
  refine wpAny_items_cons ?_
  refine w_lambda (s := { s with heap := h₇, toks := tk₆ }) (pre := [(PH, tabObj qs₆)]) (P := PL) (ps := ps) (post := [(L + 5, o5), (L + 2, o2)] ++ owOf nl (lstObj #[] 0) [(Lc, ao)] IT []) (c := cL) (clos := [(Str.ofString "table", L + 6), (Str.ofString "brush", L + 1)]) (qual := lamQ) A₇ S₇.h.st S₇.h.b S₇.cl hp1 hp2 rfl rfl (by rfl) (by rfl) (by rfl) fun df c' G₈ h₈ tk₈ g₈ A₈ F₈ => ?_
  have g78 := stays_trans g27 g₈
  have g18 := stays_trans g17 g₈
  have S₈ := LawS.mono _ _ S₇ g₈
  refine wpAny_items_nil ⟨stays_trans g₈ A₈.keep, ?_⟩
  let SS : Heap → Prop := fun G => LawS K mg mb a fI fT fN cH PH cL PL G ∧ TouchC mg mb tf rl mv a.f10 nl cR cM cK cN [Lc] [0] ds.reverse G ∧ LamI G 14 df [(Str.ofString "table", L + 6), (Str.ofString "brush", L + 1)] ∧ G.IsCell (L + 1) (some (.ref tf)) ∧ G.IsCell (L + 6) (some (.ref Lc))
  have hSS : ∀ G G', SS G → G.StaysIn G' → SS G' := fun G G' h k => ⟨LawS.mono _ _ h.1 k, TouchC.mono _ _ h.2.1 k, h.2.2.1.mono k, h.2.2.2.1.keeps k, h.2.2.2.2.keeps k⟩
  have g68 := stays_trans g₇ g₈
  have hSS₈ : SS G₈ := ⟨S₈, ⟨S₈.h.st, f₆.mono g68, iR.keeps g68, iM.keeps g68, iK.keeps g68, iN.keeps g68, isList_mono ll (stays_trans L₆.gr g68), hrm.mono g18, fun M => keeper_fn S₈.f10⟩, F₈, c₇.keeps g₈, c₂.keeps g78⟩
  have NT : TouchN prog w mg mb tf rl mv a.f10 nl cR cM cK cN [Lc] [0] ds.reverse SS 232 (fun th => ∃ l, th = .nums l) := ⟨hSS, fun G h => h.2.1, fun th hth => by
      obtain ⟨l, rfl⟩ := hth
      exact numbers_ok hSS (fun G h => ⟨h.1.f10, h.1.h.st⟩) N.list, N.len, N.ve, by simp; omega, by decide, by simp, by simp, fun d hd => hb d (List.mem_reverse.mp hd)⟩
  have hOk : Ok 232 ds.reverse [Lc].length [0] (sg1 NN) := sg1_ok (by omega) hN1
  have hV : TouchV nl [Lc] [] G₈ (sg1 NN) (owOf nl (lstObj #[] 0) [(Lc, ao)] IT []) := by
    refine ⟨_, [(Lc, ao)], IT, rfl, ⟨#[], ⟨0, rfl⟩, Rds.nil⟩, rfl, .cons ?_ .nil, ?_⟩
    · unfold RowO
      rw [row_ads, hITl] at pao
      exact pao
    · show All2 ItemO IT (NN.map sizesOf)
      rw [hxl, range_sizes] at hIT
      exact hIT
  have dd : DeedOk prog w SS 15 150 df (fun ow₀ G σ ow => TouchV nl [Lc] ow₀ G σ ow ∧ Ok 232 ds.reverse [Lc].length [0] σ) (D2 ds) (fun n σ => σ.noted.length + n * (232 + ds.reverse.length) ≤ 50000) :=
    deed_star KX NT (fun G h => ⟨h.2.2.1, h.2.2.2.1, h.2.2.2.2, h.1.f5, h.1.k, h.1.i, h.1.n, h.1.t⟩) N.f5 N.list N.next N.type N.tuple N.starmap N.iter rfl
  refine runs_spec (s := { s with heap := h₈, toks := tk₈ }) (S := SS) (V := fun ow₀ G σ ow => TouchV nl [Lc] ow₀ G σ ow ∧ Ok 232 ds.reverse [Lc].length [0] σ) (D := D2 ds) (σ := sg1 NN) (pre := (PH, tabObj qs₆) :: (PL, tabObj (ps ++ #[rawInt (lamPos (lamE 14)).line, rawInt (lamPos (lamE 14)).col, .ref c'])) :: [(L + 5, o5), (L + 2, o2)]) (ow₀ := []) (n := 0) hSS (fun o G G' σ ow h k => ⟨TouchV.mono _ _ _ _ h.1 k, h.2⟩) dd (fun G h => keeper_lam h.2.2.1) (fun G h => ⟨h.1.f14, h.1.h.st⟩) N.range N.ve N.str (hA.less (by omega) (by omega)) hSS₈ ⟨hV, hOk⟩ (by show 0 + 12 * (232 + ds.reverse.length) ≤ _; simp; omega) A₈.wd fun gl G₉ h₉ tk₉ ow₉ V₉ L₉ S₉ r₉ => ?_
  have A₉ := A₈.back L₉
  refine w_set (s := { s with heap := h₉, toks := tk₉ }) A₉ fun h₁₀ tk₁₀ A₁₀ => ?_
  obtain ⟨Gx, gx, Ax, n1, n2⟩ := touch_freeze A₁₀ V₉.1 V₉.2
  rw [List.append_nil] at Ax
  have g9x := stays_trans L₉.gr gx
  have eR : R2 ds = runsP (D2 ds) 12 (sg1 NN) := by unfold R2; rw [hNN]
  rw [eR] at h
  exact h Gx h₁₀ tk₁₀ qs₆ c' nl gl Lc (stays_trans g18 g9x) (t₆.mono (stays_trans g68 g9x)) Ax (r₉.mono gx) n1 (n2 0 (.head _)) ((c₂.keeps g78).keeps g9x)

theorem law_p4 {Q : Flow → Shared → Prop} {rest : List Stmt} {qs ps : Array Value} {o5 o2 : Obj} (KX : StarK K C fI fT fN pI pF) (N : LawN mg a C) (hG : LawS K mg mb a fI fT fN cH PH cL PL G) (hA : Ar A (lawE L fa cL :: X.fs) 100 2000)
    (AT : At X G [(PH, tabObj qs), (PL, tabObj (ps)), (L + 5, o5), (L + 2, o2)] (lawE L fa cL) m s.heap) (hc5 : o5.data = .cell none) (hc2 : o2.data = .cell none)
    (hq : TabSt (posOf tsS) tsQ G qs) (hp1 : TriplesOk ps.toList) (hp2 : codeAmong (lamPos (lamE 18)) ps.toList = none) (hm : m (Str.ofString "told") = some (.ref sn)) (hmv : m (Str.ofString "moves") = some (.ref mv)) (hrn : Rd G (.ref sn) (.list (R1 ds).1.noted)) (hrm : Rd G (.ref mv) (.list (ds.reverse.map .int))) (hb : ∀ d ∈ ds, 0 ≤ d ∧ d < 72) (hz : ds.length ≤ 10)
    (h : ∀ G' h' tk qs' c' nl gl tl, G.StaysIn G' → TabSt (posOf tsS) tsQ G' qs' → At X G' [(PH, tabObj qs'), (PL, tabObj (ps ++ #[rawInt (lamPos (lamE 18)).line, rawInt (lamPos (lamE 18)).col, .ref c']))] (lawE L fa cL) (upd (upd m (Str.ofString "read") (.ref nl)) (Str.ofString "wanted") (.ref gl)) h' →
      Rd G' (.ref gl) (.list (R2 ds).2) → Rd G' (.ref nl) (.list (R2 ds).1.noted) → Rd G' (.ref tl) (tblD (R2 ds).1) → G'.IsCell (L + 5) (some (.ref tl)) →
      wpAny (model prog w) A (execs rest (lawE L fa cL)) Q E { s with heap := h', toks := tk }) :
    wpAny (model prog w) A (execs ((fdBody (stm 15)).getD 15 (.Pass default) :: (fdBody (stm 15)).getD 16 (.Pass default) :: (fdBody (stm 15)).getD 17 (.Pass default) :: (fdBody (stm 15)).getD 18 (.Pass default) :: rest) (lawE L fa cL)) Q E s := by
  obtain ⟨hN1, hN2, _⟩ := r1_ok (ds := ds)
  generalize hNN : (R1 ds).1.noted = NN at *
  have hN1 : ∀ d ∈ NN, ∃ (a : List PyData) (l : List Int), d = .tuple [.list a, intsD l] ∧ l.length ≤ 3 ∧ ∀ x ∈ a, Gd 1 x := by rw [← hNN]; exact hN1
  obtain ⟨_, xs, e, hlx, hrx⟩ := hrn.list_inv
  cases e
  have hxl : xs.size = NN.length := by have := hrx.length; simpa using this
  refine wpAny_execs_cons ?_
  refine wpAny_Assign_Name ?_
  refine w_comp2 (inv := fun k G' ow vs => G' = G ∧ RowItv (fun k => sizesOf (NN.getD k .none)) [(PH, tabObj qs), (PL, tabObj (ps)), (L + 5, o5), (L + 2, o2)] k ow vs) (cl := []) hA.hd AT hm hlx (by omega) ⟨rfl, [], rfl, rfl, .nil⟩ (fun k v hv => ?_) (fun k t va vb C' oC L' I ao io G' ow' vs s' Qe Ee hv ht hR g' A' hC hq' => ?_) fun Lc ao vs G₁ h₁ tk₁ ow₁ pao hvl hR g₁ A₁ => ?_
  · have hv' : xs.toList[k]? = some v := by simpa using hv
    obtain ⟨d, hd1, hd2⟩ := (Rds.all2.mp hrx).get hv'
    obtain ⟨al, l, rfl, hl3, _⟩ := hN1 d (List.mem_of_getElem? hd1)
    obtain ⟨t, o, ws, n, rfl, ho, hc, hd, hrs⟩ := hd2.tuple_inv
    obtain ⟨ws⟩ := ws
    have hrs := Rds.all2.mp hrs
    obtain ⟨va, vb, rfl⟩ := two_inv hrs
    exact ⟨t, va, vb, rfl, o, n, ho, hc, hd⟩
  · obtain ⟨rfl, hR⟩ := hR
    exact sizes_elem2 hG.h.st N.list hN1 hrx hv ht hR (stays_refl _) A' hC fun r G'' h' tk ow'' g A'' hR' => hq' r G'' h' tk ow'' g A'' hR'
  obtain ⟨rfl, IT, rfl, rfl, hIT⟩ := hR
  have hITl : IT.length = NN.length := by have := hIT.length; simp at this; omega
  have A₁ := A₁.perm (show List.Perm _ ([(PH, tabObj qs), (PL, tabObj (ps))] ++ (L + 5, o5) :: ([(L + 2, o2)] ++ ((Lc, ao) :: IT))) from List.perm_append_comm (l₁ := (Lc, ao) :: IT) (l₂ := [(PH, tabObj qs), (PL, tabObj (ps)), (L + 5, o5), (L + 2, o2)]))
  refine w_setCellF (s := { s with heap := h₁, toks := tk₁ }) (c := L + 5) A₁ hc5 fun G₂ h₂ g₂ A₂ c₂ => ?_
  refine wpAny_execs_cons ?_
  refine wpAny_Assign_Name ?_
  refine w_List ?_
  refine wpAny_items_nil ?_
  refine w_newListOwn (s := { s with heap := h₂, toks := tk₁ }) A₂ (by simp) fun nl h₃ nd₃ A₃ => ?_
  refine w_set (s := { s with heap := h₃, toks := tk₁ }) A₃ fun h₄ tk₄ A₄ => ?_
  have S₂ := LawS.mono _ _ hG g₂
  have A₅ := A₄.perm (show List.Perm _ ((PH, tabObj qs) :: ([(PH, tabObj qs), (PL, tabObj (ps)), (L + 2, o2)].tail ++ owOf nl (lstObj #[] 0) [(Lc, ao)] IT [])) by
    have e : ((PH, tabObj qs) :: ([(PH, tabObj qs), (PL, tabObj (ps)), (L + 2, o2)].tail ++ owOf nl (lstObj #[] 0) [(Lc, ao)] IT []) : List (Addr × Obj)) = [(PH, tabObj qs), (PL, tabObj (ps)), (L + 2, o2)] ++ (nl, lstObj #[] 0) :: ((Lc, ao) :: IT) := by simp [owOf]
    rw [e]
    exact (List.perm_middle (l₁ := [(PH, tabObj qs), (PL, tabObj (ps)), (L + 2, o2)]) (l₂ := (Lc, ao) :: IT) (a := (nl, lstObj #[] 0))).symm)
  refine wpAny_execs_cons ?_
  refine wpAny_Assign_Name ?_
  refine w_call ?_
  refine w_global (s := { s with heap := h₄, toks := tk₄ }) A₅ S₂.h.st N.f11 ?_
  refine w_callFn S₂.h.f ?_
  refine wpAny_items_cons ?_
  refine w_List ?_
  refine wpAny_items_cons ?_
  refine w_cell (s := { s with heap := h₄, toks := tk₄ }) (c := L + 5) rfl (c₂.keeps A₅.keep) ?_
  refine wpAny_items_nil ?_
  refine w_newList (s := { s with heap := h₄, toks := tk₄ }) A₅ (by simp) fun rl Gl hl gl₂ Al ll => ?_
  have Sl := LawS.mono _ _ S₂ gl₂
  have g1l := stays_trans g₂ gl₂
  refine wpAny_items_cons ?_
  refine w_local (s := { s with heap := hl, toks := tk₄ }) Al (upd_ne hmv) ?_
  refine wpAny_items_cons ?_
  refine w_global (s := { s with heap := hl, toks := tk₄ }) Al Sl.h.st N.f10 ?_
  refine wpAny_items_cons ?_
  refine w_local (s := { s with heap := hl, toks := tk₄ }) Al (upd_self _ _ _) ?_
  refine wpAny_items_nil ⟨stays_trans gl₂ Al.keep, ?_⟩
  refine hand_spec (s := { s with heap := hl, toks := tk₄ }) Sl.h (hA.less (by omega) (by omega)) (hq.mono g1l) Al.wd fun tf cR cM cK cN G₆ h₆ tk₆ qs₆ L₆ t₆ f₆ iR iM iK iN => ?_
  have A₆ := (Al.back L₆).perm (show List.Perm _ ([(PH, tabObj qs₆), (PL, tabObj (ps))] ++ (L + 2, o2) :: ([] ++ owOf nl (lstObj #[] 0) [(Lc, ao)] IT [])) from List.Perm.refl _)
  refine w_setCellF (s := { s with heap := h₆, toks := tk₆ }) (c := L + 2) A₆ hc2 fun G₇ h₇ g₇ A₇ c₇ => ?_
  have g27 := stays_trans gl₂ (stays_trans L₆.gr g₇)
  have g17 := stays_trans g₂ g27
  have S₇ := LawS.mono _ _ S₂ g27
  refine wpAny_execs_cons ?_
  refine wpAny_Assign_Name ?_
  refine w_call ?_
  refine w_global (s := { s with heap := h₇, toks := tk₆ }) A₇ S₇.h.st N.f14 ?_
  refine w_callFn S₇.f14 ?_
  refine wpAny_items_cons ?_
  refine w_lambda (s := { s with heap := h₇, toks := tk₆ }) (pre := [(PH, tabObj qs₆)]) (P := PL) (ps := ps) (post := [] ++ owOf nl (lstObj #[] 0) [(Lc, ao)] IT []) (c := cL) (clos := [(Str.ofString "sheet", L + 5), (Str.ofString "pen", L + 2)]) (qual := lamQ) A₇ S₇.h.st S₇.h.b S₇.cl hp1 hp2 rfl rfl (by rfl) (by rfl) (by rfl) fun df c' G₈ h₈ tk₈ g₈ A₈ F₈ => ?_
  have g78 := stays_trans g27 g₈
  have g18 := stays_trans g17 g₈
  have S₈ := LawS.mono _ _ S₇ g₈
  refine wpAny_items_nil ⟨stays_trans g₈ A₈.keep, ?_⟩
  let SS : Heap → Prop := fun G => LawS K mg mb a fI fT fN cH PH cL PL G ∧ TouchC mg mb tf rl mv a.f10 nl cR cM cK cN [Lc] [0] ds.reverse G ∧ LamI G 18 df [(Str.ofString "sheet", L + 5), (Str.ofString "pen", L + 2)] ∧ G.IsCell (L + 2) (some (.ref tf)) ∧ G.IsCell (L + 5) (some (.ref Lc))
  have hSS : ∀ G G', SS G → G.StaysIn G' → SS G' := fun G G' h k => ⟨LawS.mono _ _ h.1 k, TouchC.mono _ _ h.2.1 k, h.2.2.1.mono k, h.2.2.2.1.keeps k, h.2.2.2.2.keeps k⟩
  have g68 := stays_trans g₇ g₈
  have hSS₈ : SS G₈ := ⟨S₈, ⟨S₈.h.st, f₆.mono g68, iR.keeps g68, iM.keeps g68, iK.keeps g68, iN.keeps g68, isList_mono ll (stays_trans L₆.gr g68), hrm.mono g18, fun M => keeper_fn S₈.f10⟩, F₈, c₇.keeps g₈, c₂.keeps g78⟩
  have NT : TouchN prog w mg mb tf rl mv a.f10 nl cR cM cK cN [Lc] [0] ds.reverse SS 232 (fun th => ∃ l, th = .nums l) := ⟨hSS, fun G h => h.2.1, fun th hth => by
      obtain ⟨l, rfl⟩ := hth
      exact numbers_ok hSS (fun G h => ⟨h.1.f10, h.1.h.st⟩) N.list, N.len, N.ve, by simp; omega, by decide, by simp, by simp, fun d hd => hb d (List.mem_reverse.mp hd)⟩
  have hOk : Ok 232 ds.reverse [Lc].length [0] (sg1 NN) := sg1_ok (by omega) hN1
  have hV : TouchV nl [Lc] [] G₈ (sg1 NN) (owOf nl (lstObj #[] 0) [(Lc, ao)] IT []) := by
    refine ⟨_, [(Lc, ao)], IT, rfl, ⟨#[], ⟨0, rfl⟩, Rds.nil⟩, rfl, .cons ?_ .nil, ?_⟩
    · unfold RowO
      rw [row_ads, hITl] at pao
      exact pao
    · show All2 ItemO IT (NN.map sizesOf)
      rw [hxl, range_sizes] at hIT
      exact hIT
  have dd : DeedOk prog w SS 15 150 df (fun ow₀ G σ ow => TouchV nl [Lc] ow₀ G σ ow ∧ Ok 232 ds.reverse [Lc].length [0] σ) (D2 ds) (fun n σ => σ.noted.length + n * (232 + ds.reverse.length) ≤ 50000) :=
    deed_spread NT (fun G h => ⟨h.2.2.1, h.2.2.2.1, h.2.2.2.2, h.1.f13⟩) N.f13 rfl
  refine runs_spec (s := { s with heap := h₈, toks := tk₈ }) (S := SS) (V := fun ow₀ G σ ow => TouchV nl [Lc] ow₀ G σ ow ∧ Ok 232 ds.reverse [Lc].length [0] σ) (D := D2 ds) (σ := sg1 NN) (pre := (PH, tabObj qs₆) :: (PL, tabObj (ps ++ #[rawInt (lamPos (lamE 18)).line, rawInt (lamPos (lamE 18)).col, .ref c'])) :: []) (ow₀ := []) (n := 0) hSS (fun o G G' σ ow h k => ⟨TouchV.mono _ _ _ _ h.1 k, h.2⟩) dd (fun G h => keeper_lam h.2.2.1) (fun G h => ⟨h.1.f14, h.1.h.st⟩) N.range N.ve N.str (hA.less (by omega) (by omega)) hSS₈ ⟨hV, hOk⟩ (by show 0 + 12 * (232 + ds.reverse.length) ≤ _; simp; omega) A₈.wd fun gl G₉ h₉ tk₉ ow₉ V₉ L₉ S₉ r₉ => ?_
  have A₉ := A₈.back L₉
  refine w_set (s := { s with heap := h₉, toks := tk₉ }) A₉ fun h₁₀ tk₁₀ A₁₀ => ?_
  obtain ⟨Gx, gx, Ax, n1, n2⟩ := touch_freeze A₁₀ V₉.1 V₉.2
  rw [List.append_nil] at Ax
  have g9x := stays_trans L₉.gr gx
  have eR : R2 ds = runsP (D2 ds) 12 (sg1 NN) := by unfold R2; rw [hNN]
  rw [eR] at h
  exact h Gx h₁₀ tk₁₀ qs₆ c' nl gl Lc (stays_trans g18 g9x) (t₆.mono (stays_trans g68 g9x)) Ax (r₉.mono gx) n1 (n2 0 (.head _)) ((c₂.keeps g78).keeps g9x)
end

theorem gd_tbl (σ : Sg) : Gd 2 (tblD σ) := gd_list fun d hd => by
  obtain ⟨i, _, rfl⟩ := List.mem_map.mp hd
  exact gd_ints _
theorem r2_ok {ds : List Int} (hz : ds.length ≤ 10) : Gd 4 (.list (R2 ds).1.noted) ∧ Gd 4 (.list (R2 ds).2) := by
  obtain ⟨hN1, hN2, _⟩ := r1_ok (ds := ds)
  obtain ⟨a, b, c, d⟩ := runs_ok (more := starMore) (th := starTh) (nf := 232 + ds.reverse.length) (B := 232) (nl := 1) (ix := [0]) (moves := ds.reverse) (by simp) (by simp) (by decide) 12 (sg1 (R1 ds).1.noted) (sg1_ok (by omega) hN1) (fun d hd => by cases hd)
  exact ⟨gd_noted b, d⟩
section
variable {prog : Program} {w : World} {mg mb : Str → Option Value} {A : Around} {E : Value → Shared → Prop} {s : Shared} {X : Ent} {G : Heap} {m : Str → Option Value} {K : Frag} {a : Adr} {C fI fT fN pI pF cH PH cL PL L fa sa : Addr} {ow : List (Addr × Obj)} {Q : Flow → Shared → Prop}

theorem law_s19 {g1 g2 n1 n2 r1 r2 : Addr} {d1 d2 d3 : PyData} (hA : Ar A (lawE L fa cL :: X.fs) 100 2000) (AT : At X G ow (lawE L fa cL) m s.heap)
    (m1 : m (Str.ofString "laid") = some (.ref g1)) (m2 : m (Str.ofString "wanted") = some (.ref g2)) (m3 : m (Str.ofString "heard") = some (.ref n1)) (m4 : m (Str.ofString "read") = some (.ref n2))
    (c1 : G.IsCell (L + 6) (some (.ref r1))) (c2 : G.IsCell (L + 5) (some (.ref r2)))
    (a1 : Rd G (.ref g1) d1) (a2 : Rd G (.ref g2) d1) (a3 : Rd G (.ref n1) d2) (a4 : Rd G (.ref n2) d2) (a5 : Rd G (.ref r1) d3) (a6 : Rd G (.ref r2) d3) (e1 : Gd 4 d1) (e2 : Gd 4 d2) (e3 : Gd 4 d3)
    (h : Q (.ret (.bool true)) s) : wpAny (model prog w) A (exec ((fdBody (stm 15)).getD 19 (.Pass default)) (lawE L fa cL)) Q E s := by
  have hu : A.units + 4 < cLine := by have := hA.un; omega
  refine wpAny_Return_some ?_
  refine BoolOp_and ?_
  refine wpAny_Compare1 ?_
  refine w_local AT m1 ?_
  refine w_local AT m2 ?_
  refine w_eq a1 a2 AT.keep e1 hu ?_
  refine w_truthyB ?_
  show (if true = true then _ else _)
  rw [if_pos rfl]
  refine BoolOp_and ?_
  refine wpAny_Compare1 ?_
  refine w_local AT m3 ?_
  refine w_local AT m4 ?_
  refine w_eq a3 a4 AT.keep e2 hu ?_
  refine w_truthyB ?_
  show (if true = true then _ else _)
  rw [if_pos rfl]
  refine BoolOp_one ?_
  refine wpAny_Compare1 ?_
  refine w_cell (c := L + 6) rfl (c1.keeps AT.keep) ?_
  refine w_cell (c := L + 5) rfl (c2.keeps AT.keep) ?_
  exact w_eq a5 a6 AT.keep e3 hu h
end

section
variable {prog : Program} {w : World} {mg mb : Str → Option Value} {A : Around} {E : Value → Shared → Prop} {s : Shared} {X : Ent} {G : Heap} {m : Str → Option Value} {K : Frag} {a : Adr} {C fI fT fN pI pF cH PH cL PL L fa sa : Addr} {Q : Flow → Shared → Prop}
theorem law_walk {sv : Array Value} {o1 o2 o3 o4 o5 o6 o7 o8 : Obj} (KX : StarK K C fI fT fN pI pF) (N : LawN mg a C) (hG : LawS K mg mb a fI fT fN cH PH cL PL G) (hA : Ar A (lawE L fa cL :: X.fs) 100 2000)
    (AT : At X G [(PH, tabObj #[]), (PL, tabObj #[]), (L + 8, o8), (L + 7, o7), (L + 6, o6), (L + 5, o5), (L + 4, o4), (L + 3, o3), (L + 2, o2), (L + 1, o1)] (lawE L fa cL) m s.heap)
    (hc1 : o1.data = .cell none) (hc2 : o2.data = .cell none) (hc3 : o3.data = .cell none) (hc4 : o4.data = .cell none) (hc5 : o5.data = .cell none) (hc6 : o6.data = .cell none) (hc7 : o7.data = .cell none) (hc8 : o8.data = .cell none)
    (hm : m (Str.ofString "script") = some (.ref sa)) (hl : G.IsList sa sv) (hi : ∀ (k : Nat) (v : Value), sv[k]? = some v → ∃ i t, v = .int i t) (hz : sv.size ≤ 100000)
    (h : ∀ G' h' tk m' qs ps, At X G' [(PH, tabObj qs), (PL, tabObj ps)] (lawE L fa cL) m' h' → Q (.ret (.bool true)) { s with heap := h', toks := tk }) :
    wpAny (model prog w) A (execs (fdBody (stm 15)) (lawE L fa cL)) Q E s := by
  refine wpAny_execs_cons ?_
  refine wpAny_Assign_Name ?_
  refine w_call ?_
  refine w_global AT hG.h.st N.f7 ?_
  refine w_callFn hG.f7 ?_
  refine wpAny_items_cons ?_
  refine w_local AT hm ?_
  refine wpAny_items_nil ⟨AT.keep, ?_⟩
  refine draws_spec hG.f7 hG.h.st N.enum (hA.less (by omega) (by omega)) AT.wd hl hi hz fun da G₁ h₁ tk₁ ds L₁ r₁ hdl hdb => ?_
  have A₁ := AT.back L₁
  refine w_set (s := { s with heap := h₁, toks := tk₁ }) A₁ fun h₂ tk₂ A₂ => ?_
  have S₁ := LawS.mono _ _ hG L₁.gr
  refine law_p1 (s := { s with heap := h₂, toks := tk₂ }) N S₁ hA A₂ hc4 hc7 (.inl rfl) trivial rfl (upd_self _ _ _) r₁ hdb hdl fun G₃ h₃ tk₃ qs₃ c₃ n₃ g₃ l₃ le₃ t₃ A₃ a1 a2 a3 a4 => ?_
  have S₃ := LawS.mono _ _ S₁ le₃
  refine law_p2 (s := { s with heap := h₃, toks := tk₃ }) N S₃ hA A₃ hc3 hc8 t₃ (by simp [TriplesOk, rawInt]) (by simp only [Array.toList_append, List.nil_append]; rfl) (upd_ne (upd_ne (upd_self _ _ _))) (r₁.mono le₃) hdb hdl fun G₄ h₄ tk₄ qs₄ c₄ n₄ g₄ l₄ le₄ t₄ A₄ b1 b2 b3 b4 => ?_
  have S₄ := LawS.mono _ _ S₃ le₄
  have k1 := r1_ok (ds := ds)
  refine wpAny_execs_cons ?_
  refine law_s9 (s := { s with heap := h₄, toks := tk₄ }) (.inr (by have := hA.un; omega)) A₄ (upd_ne (upd_ne (upd_self _ _ _))) (upd_self _ _ _) (upd_ne (upd_ne (upd_ne (upd_self _ _ _)))) (upd_ne (upd_self _ _ _)) (a4.keeps le₄) b4 (a1.mono le₄) b1 (a2.mono le₄) b2 (a3.mono le₄) b3 k1.2.2 (gd_noted k1.1) (gd_mono (gd_rows _ _) (by omega)) ?_
  refine wpAny_execs_cons ?_
  refine law_s10 (s := { s with heap := h₄, toks := tk₄ }) A₄ (upd_ne (upd_ne (upd_ne (upd_ne (upd_self _ _ _))))) (r₁.mono (stays_trans le₃ le₄)) hdl fun mv G₅ h₅ tk₅ le₅ A₅ r₅ => ?_
  have S₅ := LawS.mono _ _ S₄ le₅
  refine law_p3 (s := { s with heap := h₅, toks := tk₅ }) KX N S₅ hA A₅ hc6 hc1 (t₄.mono le₅) (by simp [TriplesOk, rawInt]) (by simp only [Array.toList_append, List.nil_append]; rfl) (upd_ne (upd_ne (upd_ne (upd_ne (upd_self _ _ _))))) (upd_self _ _ _) (a2.mono (stays_trans le₄ le₅)) r₅ hdb hdl fun G₆ h₆ tk₆ qs₆ c₆ n₆ g₆ l₆ le₆ t₆ A₆ d1 d2 d3 d4 => ?_
  have S₆ := LawS.mono _ _ S₅ le₆
  refine law_p4 (s := { s with heap := h₆, toks := tk₆ }) KX N S₆ hA A₆ hc5 hc2 t₆ (by simp [TriplesOk, rawInt]) (by simp only [Array.toList_append, List.nil_append]; rfl) (upd_ne (upd_ne (upd_ne (upd_ne (upd_self _ _ _))))) (upd_ne (upd_ne (upd_self _ _ _))) (b2.mono (stays_trans le₅ le₆)) (r₅.mono le₆) hdb hdl fun G₇ h₇ tk₇ qs₇ c₇ n₇ g₇ l₇ le₇ t₇ A₇ e1 e2 e3 e4 => ?_
  have k2 := r2_ok hdl
  refine wpAny_execs_cons ?_
  refine law_s19 (s := { s with heap := h₇, toks := tk₇ }) hA A₇ (upd_ne (upd_ne (upd_self _ _ _))) (upd_self _ _ _) (upd_ne (upd_ne (upd_ne (upd_self _ _ _)))) (upd_ne (upd_self _ _ _)) (d4.keeps le₇) e4 (d1.mono le₇) e1 (d2.mono le₇) e2 (d3.mono le₇) e3 k2.2 k2.1 (gd_mono (gd_tbl _) (by omega)) ?_
  exact h G₇ h₇ tk₇ _ qs₇ _ A₇
end

def FnK (K : Frag) (f : Addr) (st : Stmt) (qual : Str) : Prop :=
  ∃ oc od sl pm doc an cdv ct, K.lookup f = some ⟨oc, od, .func (fnX (fdName st) qual (fdParams st) (fdBody st) (fdScope st) [] .none .none doc pm an cdv ct), sl⟩ ∧ codeIn K cdv qual = true
theorem FnK.at {K : Frag} {G : Heap} {f : Addr} {st : Stmt} {qual : Str} (F : FnK K f st qual) (X : K.In G) : FnAt G f (fdName st) qual (fdParams st) (fdBody st) (fdScope st) [] := by
  obtain ⟨oc, od, sl, pm, doc, an, cdv, ct, e, hc⟩ := F
  exact ⟨⟨_, pm, doc, an, cdv, ct, X _ _ e, rfl, codeRec_of X hc⟩⟩
def nmK (K : Frag) (x : Str) (f : Addr) : Prop := nsIn K mainGlobals x = some (some (.ref f))
def noK (K : Frag) (x : Str) : Prop := nsIn K mainGlobals x = some none
structure KFacts (K : Frag) : Prop where
  star : StarK K 54 36 43 50 56 55
  n1 : nmK K "mapstar" 21
  n3 : nmK K "starmap" 54
  n5 : nmK K "starmapstar" 65
  n7 : nmK K "_law_draws" 72
  n8 : nmK K "_law_rows" 77
  n9 : nmK K "_law_copies" 82
  n10 : nmK K "_law_numbers" 89
  n11 : nmK K "_law_hand" 96
  n12 : nmK K "_law_turns" 101
  n13 : nmK K "_law_spread" 108
  n14 : nmK K "_law_runs" 115
  o1 : noK K "list"
  o2 : noK K "map"
  o3 : noK K "len"
  o4 : noK K "next"
  o5 : noK K "type"
  o6 : noK K "tuple"
  o7 : noK K "iter"
  o8 : noK K "enumerate"
  o9 : noK K "min"
  o10 : noK K "range"
  o11 : noK K "sum"
  o12 : noK K "str"
  o13 : noK K "ValueError"
  f1 : FnK K 21 (stm 1) (fdName (stm 1))
  f5 : FnK K 65 (stm 5) (fdName (stm 5))
  f7 : FnK K 72 (stm 7) (fdName (stm 7))
  f8 : FnK K 77 (stm 8) (fdName (stm 8))
  f9 : FnK K 82 (stm 9) (fdName (stm 9))
  f10 : FnK K 89 (stm 10) (fdName (stm 10))
  f11 : FnK K 96 (stm 11) (fdName (stm 11))
  f12 : FnK K 101 (stm 12) (fdName (stm 12))
  f13 : FnK K 108 (stm 13) (fdName (stm 13))
  f14 : FnK K 115 (stm 14) (fdName (stm 14))
  i : FnK K 36 (clsM 1) (Str.ofString "starmap.__init__")
  t : FnK K 43 (clsM 2) (Str.ofString "starmap.__iter__")
  n : FnK K 50 (clsM 3) (Str.ofString "starmap.__next__")
  cd : ∃ oc od sl fd, K.lookup 96 = some ⟨oc, od, .func fd, sl⟩ ∧ fd.code = .ref 95
def adr1 : Adr := ⟨21, 65, 72, 77, 82, 89, 96, 101, 108, 115⟩

theorem finish1 {prog : Program} {w : World} {K : Frag} {G h₁ : Heap} {p : Program} {loose : List Str} {mean : ExcName → Option Value} {mg mb m : Str → Option Value} {L fa sa : Addr} {o1 o2 o3 o4 o5 o6 o7 o8 : Obj} {vs : List Value} {ns : List Int}
    {gens : Array GenState} {drawn : Drawn} {tk : Nat} {os : OsState} {Q : Flow → Shared → Prop} {E : Value → Shared → Prop}
    (X' : K.In G) (T' : Top p loose mean mg mb G) (F' : Fr G L h₁ m) (N' : News G L h₁ [(L + 8, o8), (L + 7, o7), (L + 6, o6), (L + 5, o5), (L + 4, o4), (L + 3, o3), (L + 2, o2), (L + 1, o1), (91, tabObj #[]), (117, tabObj #[])]) (l0 : 91 < L ∧ 117 < L) (lifted : G.IsList sa vs.toArray) (hI : IntsAre vs ns) (hlen : ns.length ≤ 63) (cH : CodeHd G 95 91) (cL : CodeHd G 119 117) (KF : KFacts K)
    (hco : CellsAre (bindC (lawE L fa 119).kindOf [(Str.ofString "script", .ref sa)] fun _ => none) [(Str.ofString "twin", L + 8), (Str.ofString "touch", L + 7), (Str.ofString "table", L + 6), (Str.ofString "sheet", L + 5), (Str.ofString "rows", L + 4), (Str.ofString "plain", L + 3), (Str.ofString "pen", L + 2), (Str.ofString "brush", L + 1)] [(L + 8, o8), (L + 7, o7), (L + 6, o6), (L + 5, o5), (L + 4, o4), (L + 3, o3), (L + 2, o2), (L + 1, o1)])
    (hm : m (Str.ofString "script") = some (.ref sa))
    (h : ∀ h' tk' m', Fr G L h' m' → GrownAt 91 h' → GrownAt 117 h' → Q (.ret (.bool true)) ⟨h', gens, drawn, tk', os⟩) :
    wpAny (model prog w) (callerA.deeper (lawE L fa 119)) (execs (fdBody (stm 15)) (lawE L fa 119)) Q E ⟨h₁, gens, drawn, tk, os⟩ := by
  have nm : ∀ {x f}, nmK K x f → mg x = some (.ref f) := fun e => mg_of X' T'.g e
  have no : ∀ {x}, noK K x → mg x = none := fun e => ns_none_of X' T'.g e
  have GL : G.get? L = none := Heap.get?_none_of_le F'.above
  have N2 : ∀ q ∈ [(91, tabObj #[]), (117, tabObj #[]), (L + 8, o8), (L + 7, o7), (L + 6, o6), (L + 5, o5), (L + 4, o4), (L + 3, o3), (L + 2, o2), (L + 1, o1)], q ∈ [(L + 8, o8), (L + 7, o7), (L + 6, o6), (L + 5, o5), (L + 4, o4), (L + 3, o3), (L + 2, o2), (L + 1, o1), (91, tabObj #[]), (117, tabObj #[])] := fun q hq => by
    simp only [List.mem_cons, List.not_mem_nil, or_false] at hq ⊢
    rcases hq with e | e | e | e | e | e | e | e | e | e <;> simp [e]
  have AT : At ⟨G, h₁, []⟩ G [(91, tabObj #[]), (117, tabObj #[]), (L + 8, o8), (L + 7, o7), (L + 6, o6), (L + 5, o5), (L + 4, o4), (L + 3, o3), (L + 2, o2), (L + 1, o1)] (lawE L fa 119) m h₁ := by
    obtain ⟨o, es, ep, ho, hd, r⟩ := id F'.ns
    refine ⟨stays_refl _, ⟨F'.keep, fun q hq => (N' q (N2 q hq)).1, fun q hq => (N' q (N2 q hq)).2.2, ?_, ⟨by show ScopeKind.function ≠ ScopeKind.module; decide, ⟨L, o, rfl, GL, ho, fun vs q => by rw [hd] at q; cases q⟩, trivial⟩, fun q hq e he hf => ?_⟩, (fun e he => by cases he), F'.ns, rfl, (fun e he => by cases he)⟩
    · have h1 := l0.1
      have h2 := l0.2
      simp only [List.map_cons, List.map_nil, List.nodup_cons, List.mem_cons, List.not_mem_nil, or_false, not_or, not_false_eq_true, List.nodup_nil, and_true]
      refine ⟨?_, ?_, ?_, ?_, ?_, ?_, ?_, ?_, ?_⟩
      all_goals (simp only [Addr] at *; omega)
    · rw [List.mem_singleton.mp he] at hf
      exact (N' q (N2 q hq)).2.1 (Option.some.inj hf).symm
  have S : Sta mg mb G := ⟨T'.g, T'.b, T'.nolimit, T'.builtins⟩
  have hints : ∀ (k : Nat) (v : Value), vs.toArray[k]? = some v → ∃ i t, v = .int i t := by
    clear lifted
    induction hI with
    | nil => intro k v e; simp at e
    | cons n t _ ih =>
      intro k v e
      cases k with
      | zero => simp at e; exact ⟨n, t, e.symm⟩
      | succ k => exact ih (by simpa using hlen |> Nat.le_of_succ_le) k v (by simpa using e)
  have hvl : vs.length = ns.length := hI.length
  cases hco with | cons c8 hco =>
  cases hco with | cons c7 hco =>
  cases hco with | cons c6 hco =>
  cases hco with | cons c5 hco =>
  cases hco with | cons c4 hco =>
  cases hco with | cons c3 hco =>
  cases hco with | cons c2 hco =>
  cases hco with | cons c1 hco =>
  refine law_walk (K := K) (a := adr1) (m := m) (sv := vs.toArray) (sa := sa) KF.star ⟨nm KF.n1, nm KF.n5, nm KF.n7, nm KF.n8, nm KF.n9, nm KF.n10, nm KF.n11, nm KF.n12, nm KF.n13, nm KF.n14, nm KF.n3, no KF.o1, no KF.o2, no KF.o3, no KF.o4, no KF.o5, no KF.o6, no KF.o7, no KF.o8, no KF.o9, no KF.o11, no KF.o10, no KF.o12, no KF.o13⟩
    ⟨⟨S, ⟨T'.bmain⟩, KF.f11.at X', cH, ?_⟩, X', cL, KF.f1.at X', KF.f5.at X', KF.f7.at X', KF.f8.at X', KF.f9.at X', KF.f10.at X', KF.f12.at X', KF.f13.at X', KF.f14.at X', KF.i.at X', KF.n.at X', KF.t.at X'⟩
    ⟨Around.frames_deeper (by rfl), rfl, ?_, ?_⟩ AT c1 c2 c3 c4 c5 c6 c7 c8 hm lifted hints (by simp; omega) ?_
  · obtain ⟨oc, od, sl, fd, e, hc⟩ := KF.cd
    exact ⟨_, fd, X' _ _ e, rfl, hc⟩
  · show 1 + claimMargin + 1 + 100 < recursionLimit
    decide
  · show 4 + 3 + 2000 < cLine
    decide
  · intro G' h' tk' m' qs ps A'
    exact h h' tk' m' ⟨A'.ns, stays_trans A'.gr A'.keep, F'.above⟩ ⟨qs, A'.wd.own (91, tabObj qs) (by simp)⟩ ⟨ps, A'.wd.own (117, tabObj ps) (by simp)⟩

end Mine
open Mine
set_option maxHeartbeats 16000000 in
theorem PySem.Challenge.cw_kl0054_01_holds : PySem.Challenge.rw_kl0054_01.Holds := by
  w_on
  o_law
  k_head
  (case hw => w_witness2)
  w_strict (
    k_go0
    rename Frag.In _ (ghostOf _ _) => X'
    rename Top _ _ _ _ _ (ghostOf _ _) => T'
    rename Fr (ghostOf _ _) _ _ _ => F'
    rename News (ghostOf _ _) _ _ _ => N'
    rename IntsAre _ _ => hI
    rename ¬ (_ < _) => hc
    rename CellsAre _ _ _ => hco
    rename CodeHd _ (95, 91).1 _ => cH1
    rename 91 < _ ∧ 117 < _ => l0
    refine finish1 X' T' F' N' l0 lifted hI (by omega) cH1 codeHd ?kf hco (by rfl) fun h' tk' m' F'' g1 g2 => ?_
    case kf =>
      constructor
      case star => constructor <;> kernel_rfl
      case cd => exact ⟨_, _, _, _, rfl, rfl⟩
      case f1 => exact ⟨_, _, _, _, _, _, _, _, rfl, by kernel_rfl⟩
      case f5 => exact ⟨_, _, _, _, _, _, _, _, rfl, by kernel_rfl⟩
      case f7 => exact ⟨_, _, _, _, _, _, _, _, rfl, by kernel_rfl⟩
      case f8 => exact ⟨_, _, _, _, _, _, _, _, rfl, by kernel_rfl⟩
      case f9 => exact ⟨_, _, _, _, _, _, _, _, rfl, by kernel_rfl⟩
      case f10 => exact ⟨_, _, _, _, _, _, _, _, rfl, by kernel_rfl⟩
      case f11 => exact ⟨_, _, _, _, _, _, _, _, rfl, by kernel_rfl⟩
      case f12 => exact ⟨_, _, _, _, _, _, _, _, rfl, by kernel_rfl⟩
      case f13 => exact ⟨_, _, _, _, _, _, _, _, rfl, by kernel_rfl⟩
      case f14 => exact ⟨_, _, _, _, _, _, _, _, rfl, by kernel_rfl⟩
      case i => exact ⟨_, _, _, _, _, _, _, _, rfl, by kernel_rfl⟩
      case t => exact ⟨_, _, _, _, _, _, _, _, rfl, by kernel_rfl⟩
      case n => exact ⟨_, _, _, _, _, _, _, _, rfl, by kernel_rfl⟩
      all_goals (first | (unfold nmK; kernel_rfl) | (unfold noK; kernel_rfl))
    refine ⟨?_, g1, g2, trivial⟩
    wrow_close)

