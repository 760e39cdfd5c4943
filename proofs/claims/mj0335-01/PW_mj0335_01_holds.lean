import PyProof.Rows.All
import Wide.All
import OpenK.AllK
import Wide.FinOn
import PySem.Challenge.RW_mj0335_01
set_option Elab.async false
section
/-! ## HdX -/
open PySem PySem.W PySem.W.X PyProof.Rows
namespace Mine
set_option maxRecDepth 100000 in
set_option maxHeartbeats 8000000 in
open_top hx for PySem.Challenge.rw_mj0335_01
end Mine
end
section
/-! ## M1 -/
open PySem PySem.W PySem.Calls PyProof.Rows
namespace Mine
abbrev prog : Program := PySem.Challenge.pw_mj0335_01
/-- a generous surrounding: no exception handled, the frames known -/
abbrev AA (d u : Nat) (fs : List Env) : Around := { handled := none, depth := d, frames := some fs, guards := some [], units := u }
/-- for leaves: the frames not known -/
abbrev AL : Around := { handled := none, depth := 500, frames := none, guards := none, units := 300 }

theorem weaken {α : Type} {M : Model} {A A' : Around} {t : Sem α} {Q : α → Shared → Prop} {E : Value → Shared → Prop} {s : Shared} (h : wpAny M A' t Q E s)
    (h1 : A.handled = A'.handled) (h2 : A.depth ≤ A'.depth) (h3 : A'.frames = none ∨ A'.frames = A.frames) (h4 : A'.guards = none ∨ A'.guards = A.guards) (h5 : A.units ≤ A'.units) : wpAny M A t Q E s :=
  fun Γ p hΓ => h Γ p ⟨hΓ.1.trans h1, Nat.le_trans hΓ.2.1 h2, fun l hl => hΓ.2.2.1 l (by rcases h3 with e | e <;> rw [e] at hl; (· cases hl); exact hl),
    fun g hg => hΓ.2.2.2.1 g (by rcases h4 with e | e <;> rw [e] at hg; (· cases hg); exact hg), Nat.le_trans hΓ.2.2.2.2 h5⟩

theorem enter {w : World} {A : Around} {E : Value → Shared → Prop} {s : Shared} {K : Frag} {f : Addr} {oc : Value} {od : Option Addr} {osl : Array (Option Value)}
    {name qual : Str} {params : Arguments} {body : List Stmt} {scope : Scope} {dV kV doc pm : Value} {an : Option Addr} {cdv ct : Value} {args : List Value} {Q : Value → Shared → Prop} (binds : List (Str × Value))
    (X : K.In s.heap) (hlim : s.heap.NoLimit) (ho : K.lookup f = some ⟨oc, od, .func (fnOf name qual params body scope dV kV doc pm an cdv ct), osl⟩) (hcd : codeIn K cdv qual = true) (hroom : A.depth < recursionLimit)
    (hbind : bindArgs (fnOf name qual params body scope dV kV doc pm an cdv ct) ⟨args, []⟩ = pure binds) (hloc : ∀ y ∈ binds, scope.names.lookup y.1 = some .local)
    (hcell : ∀ x ∈ scope.names, x.2 ≠ .cell) (hco : scope.isCoroutine = false) (hgen : scope.isGenerator = false) (hk : scope.kind = .function)
    (h : ∀ L h₁, L = s.heap.objs.size → h₁.Ns L (fun x => binds.reverse.lookup x) → (∀ b o, s.heap.get? b = some o → h₁.get? b = some o) →
      wpAny (model prog w) (A.deeper (envOf qual scope L f cdv)) (execs body (envOf qual scope L f cdv)) (fun fl s' => Q (match fl with | .ret v => v | _ => .none) s')
        (fun e s' => wpAny (model prog w) (A.deeper (envOf qual scope L f cdv)) (leaving (envOf qual scope L f cdv) e) (fun _ s'' => E e s'') (fun e' s'' => E e' s'') s')
        { s with heap := h₁, toks := s.toks + binds.length }) :
    wpAny (model prog w) A (call (.ref f) args []) Q E s :=
  wpAny_call (codeAny_call_def (fd := fnOf name qual params body scope dV kV doc pm an cdv ct) (body := body) (binds := binds) hroom (X _ _ ho) rfl hlim (codeRec_of X hcd) rfl (BindsTo.of_eq hbind) hcell hloc
    (fun h₁ hns hk₁ => h _ h₁ rfl hns hk₁) hco hgen hk)

/-! An exception in flight, whose object bears a dict of its own: P is the part of the heap that stays as it is -/
def TrAt (P : Heap) (e : Addr) (cls : Value) (od : Option Addr) (fl : Value) (h : Heap) : Prop :=
  ∃ oe vs T oT ts, h.get? e = some oe ∧ oe.cls = cls ∧ oe.dict = od ∧ oe.data = .fields vs ∧ vs[1]? = some (.ref T) ∧ P.get? T = none ∧ T ≠ e ∧ h.get? T = some oT ∧ oT.data = .fields ts ∧ ts[3]? = some fl
structure Fly (P : Heap) (l : List Env) (e : Addr) (cls : Value) (od : Option Addr) (fl : Value) (h : Heap) : Prop where
  stays : P.StaysIn h
  fresh : P.get? e = none
  frames : h.FunFrames P l
  tr : TrAt P e cls od fl h
theorem dict_mapFields (o : Obj) (f) : (o.mapFields f).dict = o.dict := by
  obtain ⟨c, d, dt, sl⟩ := o
  cases dt <;> rfl
theorem Fly.there {P h : Heap} {l : List Env} {e : Addr} {cls : Value} {od : Option Addr} {fl : Value} (x : Fly P l e cls od fl h) : ∃ oe vs, h.get? e = some oe ∧ oe.cls = cls ∧ oe.dict = od ∧ oe.data = .fields vs := by
  obtain ⟨oe, vs, _, _, _, he, hc, hd, hv, _⟩ := x.tr
  exact ⟨oe, vs, he, hc, hd, hv⟩

section
variable {M : Model} {A : Around} {E : Value → Shared → Prop} {s : Shared} {P : Heap} {env : Env} {outer l : List Env} {L e : Addr} {cls : Value} {od : Option Addr} {fl : Value} {Q : Unit → Shared → Prop}

theorem fly_entry {oe : Obj} {vs : Array Value} {head : Value} {hadNext : Bool}
    (hfr : A.frames = some (env :: outer)) (hl : s.heap.FunFrames P (env :: outer)) (hf : env.frame = some L)
    (he : s.heap.get? e = some oe) (hkb : P.StaysIn s.heap) (hen : P.get? e = none) (hd : oe.data = .fields vs) (hsz : 1 < vs.size)
    (h : ∀ h', Fly P (env :: outer) e oe.cls oe.dict (rawInt L) h' → s.heap.UpToSlots h' → Q () { s with heap := h' }) :
    wpAny M A (do let a ← frameOf env; let pl ← entryPlaceOf L hadNext; let b ← EntryCells.newEntry head a .none (rawInt L) .none pl; setField (.ref e) 1 b) Q E s := by
  have hene : e ∉ (env :: outer).filterMap (·.frame) := fun hm => by
    obtain ⟨_, o, ho, hnf⟩ := hl.mem hm
    rw [he] at ho; injection ho with ho; subst ho; exact hnf vs hd
  refine wpAny_bind (wpAny_frameOf_fun hfr hl hf fun h₁ hs₁ => ?_)
  refine wpAny_bind (wpAny_entryPlaceOf fun pl hpl => ?_)
  unfold EntryCells.newEntry newFields
  refine wpAny_bind (wpAny_newObj_type ?_ (hpl.sizeOk5 _ _ _ _ _))
  have he₁ : h₁.get? e = some oe := (hs₁.2.1 e hene).trans he
  have kb₁ : P.StaysIn h₁ := fun b o hbo => (hs₁.2.1 b fun hm => by rw [(hl.mem hm).1] at hbo; cases hbo).trans (hkb b o hbo)
  generalize hTo : ({ cls := .type "traceback", dict := none, data := .fields ([head, .ref L, .none, rawInt L, .none] ++ (if pl.isEmpty then List.replicate 6 Value.none else pl)).toArray } : Obj) = To
  have hTd : To.data = .fields ([head, .ref L, .none, rawInt L, .none] ++ (if pl.isEmpty then List.replicate 6 Value.none else pl)).toArray := by rw [← hTo]
  have hTf : To.isFreed = false := by rw [← hTo]; rfl
  have he₂ := Heap.get?_push_of_some (h := h₁) To he₁
  refine wpAny_setField he₂ hd hsz (h _ ?_ ?_)
  · have hTe : h₁.objs.size ≠ e := Nat.ne_of_gt (Heap.lt_size he₁)
    have hd₃ := Obj.data_mapFields hd (·.setIfInBounds 1 (Value.ref h₁.objs.size))
    have he₃ := Heap.get?_update_self (Obj.mapFields (·.setIfInBounds 1 (Value.ref h₁.objs.size))) he₂ (Obj.isFreed_of_fields hd₃)
    have hT₃ := (Heap.get?_update_other (h₁.push To) (Obj.mapFields (·.setIfInBounds 1 (Value.ref h₁.objs.size))) (Ne.symm hTe)).trans (Heap.get?_push_size h₁ hTf)
    have keep : ∀ b o, b ≠ e → h₁.get? b = some o → ((h₁.push To).update e (Obj.mapFields (·.setIfInBounds 1 (Value.ref h₁.objs.size)))).get? b = some o := fun b o hbe hb => by
      rw [Heap.get?_update_other _ _ (Ne.symm hbe)]; exact Heap.get?_push_of_some _ hb
    have noRecord : ∀ b o, s.heap.get? b = some o → (∀ vs, o.data ≠ .fields vs) → b ≠ e := fun b o hb hnf q => by
      rw [q, he] at hb; injection hb with hb; subst hb; exact hnf vs hd
    refine ⟨fun b o hbo => keep b o (fun q => by rw [q, hen] at hbo; cases hbo) (kb₁ b o hbo), hen, hl.of_keeps fun b o hb hnf => ?_, ?_⟩
    · obtain ⟨sl, hs⟩ := hs₁.2.2 b o hb
      exact ⟨_, keep b _ (noRecord b o hb hnf) hs, rfl⟩
    · exact ⟨_, _, h₁.objs.size, _, _, he₃, Obj.cls_mapFields _ _, dict_mapFields _ _, hd₃, by simp [hsz], kb₁.fresh, hTe, hT₃, hTd, by simp⟩
  · intro b o hb hnf
    obtain ⟨sl, hs⟩ := hs₁.2.2 b o hb
    refine ⟨sl, ?_⟩
    rw [Heap.get?_update_other _ _ (fun q => by rw [← q, he] at hb; injection hb with hb; subst hb; exact hnf vs hd)]
    exact Heap.get?_push_of_some _ hs

/-- its first frame is noted -/
theorem fly_first {oe : Obj} {vs : Array Value}
    (hfr : A.frames = some (env :: outer)) (hl : s.heap.FunFrames P (env :: outer)) (hf : env.frame = some L)
    (he : s.heap.get? e = some oe) (hkb : P.StaysIn s.heap) (hen : P.get? e = none) (hd : oe.data = .fields vs) (h1 : vs[1]? = some .none)
    (h : ∀ h', Fly P (env :: outer) e oe.cls oe.dict (rawInt L) h' → s.heap.UpToSlots h' → Q () { s with heap := h' }) : wpAny M A (noteFrame (.ref e) env) Q E s := by
  unfold noteFrame
  simp only [hf]
  refine wpAny_bind (wpAny_field he hd h1 ?_)
  rw [if_neg (by decide)]
  exact fly_entry hfr hl hf he hkb hen hd (Array.getElem?_eq_some_iff.mp h1).1 h

theorem fly_set {v : Option Addr} (x : Fly P l e cls od fl s.heap)
    (h : ∀ h', Fly P l e cls od (v.elim .none fun f => rawInt f) h' → s.heap.UpToSlots h' → Q () { s with heap := h' }) : wpAny M A (setFlight (.ref e) v) Q E s := by
  obtain ⟨hkb, hen, hl, oe, vs, T, oT, ts, he, hc, hdd, hd, h1, hnT, hTe, hT, hdT, h3⟩ := x
  have hsz3 : 3 < ts.size := (Array.getElem?_eq_some_iff.mp h3).1
  have other : ∀ b, b ≠ T → (s.heap.update T (Obj.mapFields (·.setIfInBounds 3 (v.elim Value.none fun f => rawInt f)))).get? b = s.heap.get? b :=
    fun b hb => Heap.get?_update_other _ _ (Ne.symm hb)
  have noRecord : ∀ b o, s.heap.get? b = some o → (∀ vs, o.data ≠ .fields vs) → b ≠ T := fun b o hb hnf q => by
    rw [q, hT] at hb; injection hb with hb; subst hb; exact hnf ts hdT
  unfold setFlight
  refine wpAny_bind (wpAny_field he hd h1 ?_)
  rw [if_pos (show (Value.ref T != Value.none) = true from by simp)]
  refine wpAny_setField hT hdT hsz3 (h _ ⟨fun b o hbo => (other b fun q => by rw [q, hnT] at hbo; cases hbo).trans (hkb b o hbo), hen,
    hl.of_keeps fun b o hb hnf => ⟨o, (other b (noRecord b o hb hnf)).trans hb, rfl⟩, ?_⟩ fun b o hb hnf => ⟨o.slots, (other b (noRecord b o hb hnf)).trans hb⟩)
  exact ⟨oe, vs, T, _, _, (other e (Ne.symm hTe)).trans he, hc, hdd, hd, h1, hnT, hTe, Heap.get?_update_self _ hT (Obj.isFreed_of_fields (Obj.data_mapFields hdT _)), Obj.data_mapFields hdT _, by simp [hsz3]⟩

/-- the next frame is noted -/
theorem fly_next (hfr : A.frames = some (env :: outer)) (hf : env.frame = some L) (x : Fly P (env :: outer) e cls od .none s.heap)
    (h : ∀ h', Fly P (env :: outer) e cls od (rawInt L) h' → s.heap.UpToSlots h' → Q () { s with heap := h' }) : wpAny M A (noteFrame (.ref e) env) Q E s := by
  obtain ⟨hkb, hen, hl, oe, vs, T, oT, ts, he, hc, hdd, hd, h1, hnT, hTe, hT, hdT, h3⟩ := x
  subst hc hdd
  unfold noteFrame
  simp only [hf]
  refine wpAny_bind (wpAny_field he hd h1 ?_)
  rw [if_pos (show (Value.ref T != Value.none) = true from by simp)]
  refine wpAny_bind (wpAny_field hT hdT h3 ?_)
  rw [if_neg (show ¬ ((Value.none == rawInt L) = true) from by simp [rawInt])]
  refine wpAny_bind (wpAny_setField hT hdT (Array.getElem?_eq_some_iff.mp h3).1 ?_)
  have other : ∀ b, b ≠ T → (s.heap.update T (Obj.mapFields (·.setIfInBounds 3 Value.none))).get? b = s.heap.get? b := fun b hb => Heap.get?_update_other _ _ (Ne.symm hb)
  have noRecord : ∀ b o, s.heap.get? b = some o → (∀ vs, o.data ≠ .fields vs) → b ≠ T := fun b o hb hnf q => by
    rw [q, hT] at hb; injection hb with hb; subst hb; exact hnf ts hdT
  refine fly_entry hfr (hl.of_keeps fun b o hb hnf => ⟨o, (other b (noRecord b o hb hnf)).trans hb, rfl⟩) hf ((other e (Ne.symm hTe)).trans he)
    (fun b o hbo => (other b fun q => by rw [q, hnT] at hbo; cases hbo).trans (hkb b o hbo)) hen hd (Array.getElem?_eq_some_iff.mp h1).1
    fun h' x up => h h' x (Heap.UpToSlots.trans (fun b o hb hnf => ⟨o.slots, (other b (noRecord b o hb hnf)).trans hb⟩) up)

/-- a frame that is noted already -/
theorem fly_again (hf : env.frame = some L) (x : Fly P l e cls od (rawInt L) s.heap) (h : Q () s) : wpAny M A (noteFrame (.ref e) env) Q E s := by
  obtain ⟨hkb, hen, hl, oe, vs, T, oT, ts, he, hc, hdd, hd, h1, hnT, hTe, hT, hdT, h3⟩ := x
  unfold noteFrame
  simp only [hf]
  refine wpAny_bind (wpAny_field he hd h1 ?_)
  rw [if_pos (show (Value.ref T != Value.none) = true from by simp)]
  refine wpAny_bind (wpAny_field hT hdT h3 ?_)
  rw [if_pos (show (rawInt L == rawInt L) = true from by simp)]
  exact wpAny_pure h

theorem Fly.drop (x : Fly P (env :: outer) e cls od fl s.heap) : Fly P outer e cls od fl s.heap := ⟨x.stays, x.fresh, x.frames.2.2, x.tr⟩

/-- out of the frame that raises -/
theorem fly_leave {oe : Obj} {vs : Array Value}
    (hfr : A.frames = some (env :: outer)) (hl : s.heap.FunFrames P (env :: outer)) (hf : env.frame = some L)
    (he : s.heap.get? e = some oe) (hkb : P.StaysIn s.heap) (hen : P.get? e = none) (hd : oe.data = .fields vs) (h1 : vs[1]? = some .none)
    (h : ∀ h', Fly P outer e oe.cls oe.dict .none h' → s.heap.UpToSlots h' → Q () { s with heap := h' }) : wpAny M A (leaving env (.ref e)) Q E s := by
  unfold leaving
  refine wpAny_bind (fly_first hfr hl hf he hkb hen hd h1 fun h₁ x up => ?_)
  exact fly_set (s := { s with heap := h₁ }) x fun h₂ x₂ up₂ => h h₂ (Fly.drop (s := { s with heap := h₂ }) x₂) (up.trans up₂)
end

theorem fr_on {h₀ h h' : Heap} {L : Addr} {m : Str → Option Value} (F : Fr h₀ L h m) (k : h.StaysIn h') : Fr h₀ L h' m := ⟨F.ns.at' fun o e => k L o e, fun b o e => k b o (F.keep b o e), F.above⟩
theorem news_on {h₀ h h' : Heap} {L : Addr} {m : Str → Option Value} {nl nw : List (Addr × Obj)} (F : Fr h₀ L h m) (N : News h₀ L h nl) (k : h.StaysIn h') (hn : ∀ p ∈ nw, h'.get? p.1 = some p.2 ∧ h.get? p.1 = none) : News h₀ L h' (nw ++ nl) := by
  intro p hp
  rcases List.mem_append.mp hp with q | q
  · refine ⟨(hn p q).1, fun e => ?_, ?_⟩
    · obtain ⟨oL, _, _, hL, _⟩ := F.ns
      have := (hn p q).2
      rw [e, hL] at this
      cases this
    · cases e : h₀.get? p.1 with
      | none => rfl
      | some o => have := F.keep _ _ e; rw [(hn p q).2] at this; cases this
  · exact ⟨k _ _ (N p q).1, (N p q).2⟩
/-- a goal at which the walk stops -/
structure Stop (P : Prop) : Prop where
  out : P
theorem stop {P : Prop} (h : Stop P) : P := h.out
end Mine
end
local macro_rules | `(tactic| walk_at "call type:range") => `(tactic| refine' Mine.stop ?_)
local macro_rules | `(tactic| walk_at "call type:bytes") => `(tactic| refine' Mine.stop ?_)
local macro_rules | `(tactic| walk_at "setItem ref") => `(tactic| refine' Mine.stop ?_)
local macro_rules | `(tactic| walk_at "call ref") => `(tactic| refine' Mine.stop ?_)
local macro_rules | `(tactic| walk_at "call builtin:len") => `(tactic| refine' Mine.stop ?_)
local macro_rules | `(tactic| walk_at "getAttr ref") => `(tactic| refine' Mine.stop ?_)
section
/-! ## M3a -/
open PySem PySem.W PySem.Calls PyProof.Rows
namespace Mine
/-- what is wanted behind a statement: opened by no line of the walk -/
structure Fin1 (R : Shared → Prop) (fl : Flow) (s : Shared) : Prop where
  fl : fl = .next
  out : R s
/-- a hypothesis that a line of the walk finds by its head -/
structure Hk (P : Prop) : Prop where
  out : P
structure Got (R : Value → Shared → Prop) (v : Value) (s : Shared) : Prop where
  out : R v s
theorem cut {M : Model} {A : Around} {E : Value → Shared → Prop} {s : Shared} {env : Env} {st : Stmt} {rest : List Stmt} {Q : Flow → Shared → Prop} (R : Shared → Prop)
    (h : wpAny M A (exec st env) (Fin1 R) E s) (k : ∀ s', R s' → wpAny M A (execs rest env) Q E s') : wpAny M A (execs (st :: rest) env) Q E s := by
  rw [execs]
  refine wpAny_bind (wpAny_mono h (fun fl s' hh => ?_) fun _ _ x => x)
  obtain ⟨rfl, hR⟩ := hh
  exact k s' hR
theorem evcut {M : Model} {A : Around} {E : Value → Shared → Prop} {s : Shared} {t : Sem Value} {Q : Value → Shared → Prop} (R : Value → Shared → Prop)
    (h : wpAny M A t (Got R) E s) (k : ∀ v s', R v s' → Q v s') : wpAny M A t Q E s := wpAny_mono h (fun v s' hh => k v s' hh.out) fun _ _ x => x
theorem b_in {v : Int} : KBa.In [97 + Int.fmod v 26] := by
  intro n hn
  rw [List.mem_singleton] at hn
  have := Int.fmod_nonneg_of_pos v (show (0:Int) < 26 by decide)
  have := Int.fmod_lt_of_pos v (show (0:Int) < 26 by decide)
  omega
theorem allLt_mem {d : Nat} {l : List (Addr × Obj)} (h : AllLt d l) {p : Addr × Obj} (hp : p ∈ l) : p.1 < d := by
  induction l with
  | nil => cases hp
  | cons q r ih =>
    rcases List.mem_cons.mp hp with e | e
    · rw [e]; exact h.1
    · exact ih h.2 e
/-- a loop over range(n) by an invariant -/
theorem iter_range {w : World} {A : Around} {E : Value → Shared → Prop} {s : Shared} {env : Env} {h₀ : Heap} {x : Str} {body : List Stmt} {Q : Flow → Shared → Prop} {r : Addr} {b₀ : Int} {t₀ u₀ v₀ : Tok} {n : Nat} {m₀ : Str → Option Value} {news : List (Addr × Obj)}
    (J : Nat → (Str → Option Value) → List (Addr × Obj) → Prop) (hh : A.handled = none) (hr : IsRange s.heap r 0 b₀ 1 t₀ u₀ v₀) (hb : b₀ = (n : Int)) (hn : n ≤ 3)
    (F : Fr h₀ env.locals s.heap m₀) (N : News h₀ env.locals s.heap news) (hj : J 0 m₀ news)
    (turn : ∀ i t m₁ news₁ h tk own, i < n → J i m₁ news₁ → (∀ q ∈ own, ∀ p ∈ news₁, q.1 ≠ p.1) → (∀ p ∈ news₁, p.1 ∉ [s.heap.objs.size]) → (∃ oI, (s.heap.objs.size, oI) ∈ own) → Fr h₀ env.locals h (fun y => if y = x then some (.int (i : Int) t) else m₁ y) → News h₀ env.locals h (own ++ news₁) →
      wpAny (model prog w) A (execs body env) (LoopStepV h₀ env.locals [s.heap.objs.size] own (J (i + 1)) { s with heap := h, toks := tk } (fun v s' => Q (.ret v) s') fun s' => Q .next s') E { s with heap := h, toks := tk })
    (done : ∀ m₁ news₁ h tk, J n m₁ news₁ → Fr h₀ env.locals h m₁ → News h₀ env.locals h news₁ → Q .next { s with heap := h, toks := tk }) :
    wpAny (model prog w) A (pyIter (.ref r)) (fun it s₂ => LoopAtV prog w A h₀ env x body Q E it s₂) E s := by
  subst hb
  have hsmall : Builtin.Range.small 0 (n : Int) 1 = true := by
    have : n = 0 ∨ n = 1 ∨ n = 2 ∨ n = 3 := by omega
    rcases this with rfl | rfl | rfl | rfl <;> rfl
  refine wpAny_pyIter_range hr hsmall ?_
  have W := Walks.range (prog := prog) (w := w) hh s.heap.objs.size 0 1 n
  have hsize : Builtin.Range.rangeSize 0 (n : Int) 1 = (n : Int) := by
    have : n = 0 ∨ n = 1 ∨ n = 2 ∨ n = 3 := by omega
    rcases this with rfl | rfl | rfl | rfl <;> rfl
  refine ⟨_, _, _, n, _, _, m₀, news, J, rfl, W, ?_, ?_, ?_, by show IsRangeIter _ _ _ _ _; rw [hsize]; simpa using Heap.get?_push_size _ rfl, F.push _, (fun p hp => ⟨Heap.get?_push_of_some _ (N p hp).1, (N p hp).2⟩), hj, ?_, ?_⟩
  · intro hm
    exact absurd F.ns.lt ((List.mem_singleton.mp hm) ▸ Nat.lt_irrefl _)
  · intro b hb
    rw [List.mem_singleton.mp hb]
    exact next_is_new F
  · intro p hp hI
    exact absurd (Heap.lt_size (N p hp).1) ((List.mem_singleton.mp hI) ▸ Nat.lt_irrefl _)
  · rintro i v m₁ news₁ s₁ own ⟨hh', tk', rfl⟩ hin ⟨t, rfl⟩ hJ hoff hsub _ hmem hst F₁ N₁
    have e : (0 : Int) + (i : Int) * 1 = (i : Int) := by omega
    rw [e] at F₁
    exact turn i t m₁ news₁ hh' tk' own hin hJ (fun q hq p hp e => hoff p hp (by rw [← e]; exact hsub q hq)) hoff ⟨_, hmem _ (List.mem_singleton.mpr rfl) (next_is_new F) _ hst⟩ F₁ N₁
  · intro h' tk m' news' F' N' _ hJ
    exact done m' news' h' tk hJ F' N'
end Mine
end
section
/-! ## M2 -/
open PySem PySem.W PySem.W.X PySem.Calls PyProof.Rows
namespace Mine
/-- an exception of the text's own, as OSError's maker lays it: class, own dict, no traceback yet -/
def ExcAt (h : Heap) (e C : Addr) (od : Option Addr) : Prop := ∃ vs, h.get? e = some { cls := .ref C, dict := od, data := .fields vs } ∧ vs[1]? = some .none
theorem mem_keep {h₀ h : Heap} {news : List (Addr × Obj)} (D : Mem h₀ h [] news) : h₀.StaysIn h := fun b o e => D.keep b o e (by unfold away; simp)
theorem mem_new {h₀ h : Heap} {news : List (Addr × Obj)} (D : Mem h₀ h [] news) (i : Nat) {a : Addr} {o : Obj} (hi : news[i]? = some (a, o)) : h₀.get? a = none := (D.nw _ (List.mem_of_getElem? hi)).2
theorem mem_at {h₀ h : Heap} {news : List (Addr × Obj)} (D : Mem h₀ h [] news) (i : Nat) {a : Addr} {o : Obj} (hi : news[i]? = some (a, o)) : h.get? a = some o := (D.nw _ (List.mem_of_getElem? hi)).1
theorem mem_exc {h₀ h : Heap} {news : List (Addr × Obj)} (D : Mem h₀ h [] news) (i : Nat) {e C : Addr} {od : Option Addr} {vs : Array Value} (hi : news[i]? = some (e, { cls := .ref C, dict := od, data := .fields vs })) (h1 : vs[1]? = some .none) : ExcAt h e C od :=
  ⟨vs, mem_at D i hi, h1⟩
section
variable {w : World} {s : Shared} {Q : Value → Shared → Prop} {E : Value → Shared → Prop}
theorem fin2 {C : Addr} {c : Int} {t1 t2 : Tok} {bs : Array UInt8}
   (hQ : Hk (∀ e dx h' tk hs0 k0 hs1 k1, s.heap.StaysIn h' → s.heap.get? e = none → ExcAt h' e C (some dx) → s.heap.get? dx = none →
     h'.get? dx = some (dictOf [⟨hs0, .str (Str.ofString "smtp_code") k0, .int c t1⟩, ⟨hs1, .str (Str.ofString "smtp_error") k1, .bytes bs t2⟩] 2) → Q (.ref e) { s with heap := h', toks := tk }))
   {hs0 hs1 : Int} {k0 k1 : Tok} {dx : Addr} {e : Addr} {h : Heap} {tk : Nat} {vs : Array Value} {news : List (Addr × Obj)} (D : Mem s.heap h [] news) (he : news[3]? = some (e, { cls := .ref C, dict := some dx, data := .fields vs })) (hv : vs[1]? = some .none) (hd : news[1]? = some (dx, dictOf [⟨hs0, .str (Str.ofString "smtp_code") k0, .int c t1⟩, ⟨hs1, .str (Str.ofString "smtp_error") k1, .bytes bs t2⟩] 2)) :
   Q (.ref e) { s with heap := h, toks := tk } :=
  hQ.out _ _ _ _ _ _ _ _ (mem_keep D) (mem_new D 3 he) (mem_exc D 3 he hv) (mem_new D 1 hd) (mem_at D 1 hd)
local macro_rules | `(tactic| x_close) => `(tactic| exact fin2 (by assumption) (by assumption) rfl rfl rfl)
set_option maxRecDepth 100000 in
set_option maxHeartbeats 8000000 in
theorem mk_resp (X : (Mine.hx.heap_39 w.params).In s.heap) {C N : Addr} {nm qn : Str} {bss : List Value} {v0 v2 v3 : Option Value} {ka kb kc kd : Tok} {u0 u1 u2 u3 : Value} {nu : Nat}
   (hC : s.heap.get? C = some { cls := .type "type", data := .cls { name := nm, bases := bss, mro := [.ref C, .ref 68, .ref 24, .type "OSError", .type "Exception", .type "BaseException", .type "object"], ns := N, qualname := qn }, slots := #[v0, none, v2, v3, some (.builtin "OSError.__new__"), some (.bool true)] })
   (hN : s.heap.get? N = some { cls := .type "dict", data := .dict #[⟨PyData.keyHash w.params (Str.ofString "__module__"), .str (Str.ofString "__module__") ka, u0⟩, ⟨PyData.keyHash w.params (Str.ofString "__firstlineno__"), .str (Str.ofString "__firstlineno__") kb, u1⟩, ⟨PyData.keyHash w.params (Str.ofString "__static_attributes__"), .str (Str.ofString "__static_attributes__") kc, u2⟩, ⟨PyData.keyHash w.params (Str.ofString "__doc__"), .str (Str.ofString "__doc__") kd, u3⟩] nu })
   {c : Int} {t1 t2 : Tok} {bs : Array UInt8}
   (hQ : Hk (∀ e dx h' tk hs0 k0 hs1 k1, s.heap.StaysIn h' → s.heap.get? e = none → ExcAt h' e C (some dx) → s.heap.get? dx = none →
     h'.get? dx = some (dictOf [⟨hs0, .str (Str.ofString "smtp_code") k0, .int c t1⟩, ⟨hs1, .str (Str.ofString "smtp_error") k1, .bytes bs t2⟩] 2) → Q (.ref e) { s with heap := h', toks := tk })) :
   wpAny (model PySem.Challenge.pw_mj0335_01 w) AL (call (.ref C) [.int c t1, .bytes bs t2] []) Q E s := by
  x_run
set_option maxRecDepth 100000 in
set_option maxHeartbeats 8000000 in
theorem mk_data (X : (Mine.hx.heap_39 w.params).In s.heap) {c : Int} {t1 t2 : Tok} {bs : Array UInt8}
   (hQ : Hk (∀ e dx h' tk hs0 k0 hs1 k1, s.heap.StaysIn h' → s.heap.get? e = none → ExcAt h' e 118 (some dx) → s.heap.get? dx = none →
     h'.get? dx = some (dictOf [⟨hs0, .str (Str.ofString "smtp_code") k0, .int c t1⟩, ⟨hs1, .str (Str.ofString "smtp_error") k1, .bytes bs t2⟩] 2) → Q (.ref e) { s with heap := h', toks := tk })) :
   wpAny (model PySem.Challenge.pw_mj0335_01 w) AL (call (.ref 118) [.int c t1, .bytes bs t2] []) Q E s :=
  mk_resp X (X 118 _ rfl) (X 117 _ rfl) hQ
set_option maxRecDepth 100000 in
set_option maxHeartbeats 8000000 in
theorem mk_conn (X : (Mine.hx.heap_39 w.params).In s.heap) {c : Int} {t1 t2 : Tok} {bs : Array UInt8}
   (hQ : Hk (∀ e dx h' tk hs0 k0 hs1 k1, s.heap.StaysIn h' → s.heap.get? e = none → ExcAt h' e 130 (some dx) → s.heap.get? dx = none →
     h'.get? dx = some (dictOf [⟨hs0, .str (Str.ofString "smtp_code") k0, .int c t1⟩, ⟨hs1, .str (Str.ofString "smtp_error") k1, .bytes bs t2⟩] 2) → Q (.ref e) { s with heap := h', toks := tk })) :
   wpAny (model PySem.Challenge.pw_mj0335_01 w) AL (call (.ref 130) [.int c t1, .bytes bs t2] []) Q E s :=
  mk_resp X (X 130 _ rfl) (X 129 _ rfl) hQ
set_option maxRecDepth 100000 in
set_option maxHeartbeats 8000000 in
theorem mk_helo (X : (Mine.hx.heap_39 w.params).In s.heap) {c : Int} {t1 t2 : Tok} {bs : Array UInt8}
   (hQ : Hk (∀ e dx h' tk hs0 k0 hs1 k1, s.heap.StaysIn h' → s.heap.get? e = none → ExcAt h' e 142 (some dx) → s.heap.get? dx = none →
     h'.get? dx = some (dictOf [⟨hs0, .str (Str.ofString "smtp_code") k0, .int c t1⟩, ⟨hs1, .str (Str.ofString "smtp_error") k1, .bytes bs t2⟩] 2) → Q (.ref e) { s with heap := h', toks := tk })) :
   wpAny (model PySem.Challenge.pw_mj0335_01 w) AL (call (.ref 142) [.int c t1, .bytes bs t2] []) Q E s :=
  mk_resp X (X 142 _ rfl) (X 141 _ rfl) hQ
set_option maxRecDepth 100000 in
set_option maxHeartbeats 8000000 in
theorem mk_auth (X : (Mine.hx.heap_39 w.params).In s.heap) {c : Int} {t1 t2 : Tok} {bs : Array UInt8}
   (hQ : Hk (∀ e dx h' tk hs0 k0 hs1 k1, s.heap.StaysIn h' → s.heap.get? e = none → ExcAt h' e 154 (some dx) → s.heap.get? dx = none →
     h'.get? dx = some (dictOf [⟨hs0, .str (Str.ofString "smtp_code") k0, .int c t1⟩, ⟨hs1, .str (Str.ofString "smtp_error") k1, .bytes bs t2⟩] 2) → Q (.ref e) { s with heap := h', toks := tk })) :
   wpAny (model PySem.Challenge.pw_mj0335_01 w) AL (call (.ref 154) [.int c t1, .bytes bs t2] []) Q E s :=
  mk_resp X (X 154 _ rfl) (X 153 _ rfl) hQ
end
section
variable {w : World} {s : Shared} {Q : Value → Shared → Prop} {E : Value → Shared → Prop}
theorem fin3 {C : Addr} {c : Int} {t1 t2 t3 : Tok} {bs : Array UInt8} {sv : Str}
   (hQ : Hk (∀ e dx h' tk hs0 k0 hs1 k1 hs2 k2, s.heap.StaysIn h' → s.heap.get? e = none → ExcAt h' e C (some dx) → s.heap.get? dx = none →
     h'.get? dx = some (dictOf [⟨hs0, .str (Str.ofString "smtp_code") k0, .int c t1⟩, ⟨hs1, .str (Str.ofString "smtp_error") k1, .bytes bs t2⟩, ⟨hs2, .str (Str.ofString "sender") k2, .str sv t3⟩] 3) → Q (.ref e) { s with heap := h', toks := tk }))
   {hs0 hs1 hs2 : Int} {k0 k1 k2 : Tok} {dx : Addr} {e : Addr} {h : Heap} {tk : Nat} {vs : Array Value} {news : List (Addr × Obj)} (D : Mem s.heap h [] news) (he : news[3]? = some (e, { cls := .ref C, dict := some dx, data := .fields vs })) (hv : vs[1]? = some .none) (hd : news[1]? = some (dx, dictOf [⟨hs0, .str (Str.ofString "smtp_code") k0, .int c t1⟩, ⟨hs1, .str (Str.ofString "smtp_error") k1, .bytes bs t2⟩, ⟨hs2, .str (Str.ofString "sender") k2, .str sv t3⟩] 3)) :
   Q (.ref e) { s with heap := h, toks := tk } :=
  hQ.out _ _ _ _ _ _ _ _ _ _ (mem_keep D) (mem_new D 3 he) (mem_exc D 3 he hv) (mem_new D 1 hd) (mem_at D 1 hd)
local macro_rules | `(tactic| x_close) => `(tactic| exact fin3 (by assumption) (by assumption) rfl rfl rfl)
set_option maxRecDepth 100000 in
set_option maxHeartbeats 8000000 in
theorem mk_send (X : (Mine.hx.heap_39 w.params).In s.heap) {c : Int} {t1 t2 t3 : Tok} {bs : Array UInt8} {sv : Str}
   (hQ : Hk (∀ e dx h' tk hs0 k0 hs1 k1 hs2 k2, s.heap.StaysIn h' → s.heap.get? e = none → ExcAt h' e 87 (some dx) → s.heap.get? dx = none →
     h'.get? dx = some (dictOf [⟨hs0, .str (Str.ofString "smtp_code") k0, .int c t1⟩, ⟨hs1, .str (Str.ofString "smtp_error") k1, .bytes bs t2⟩, ⟨hs2, .str (Str.ofString "sender") k2, .str sv t3⟩] 3) → Q (.ref e) { s with heap := h', toks := tk })) :
   wpAny (model PySem.Challenge.pw_mj0335_01 w) AL (call (.ref 87) [.int c t1, .bytes bs t2, .str sv t3] []) Q E s := by
  x_run
end
section
variable {w : World} {s : Shared} {Q : Value → Shared → Prop} {E : Value → Shared → Prop}
theorem fin1 {C : Addr} {rd : Addr}
   (hQ : Hk (∀ e dx h' tk hs0 k0, s.heap.StaysIn h' → s.heap.get? e = none → ExcAt h' e C (some dx) → s.heap.get? dx = none →
     h'.get? dx = some (dictOf [⟨hs0, .str (Str.ofString "recipients") k0, .ref rd⟩] 1) → Q (.ref e) { s with heap := h', toks := tk }))
   {hs0 : Int} {k0 : Tok} {dx : Addr} {e : Addr} {h : Heap} {tk : Nat} {vs : Array Value} {news : List (Addr × Obj)} (D : Mem s.heap h [] news) (he : news[3]? = some (e, { cls := .ref C, dict := some dx, data := .fields vs })) (hv : vs[1]? = some .none) (hd : news[1]? = some (dx, dictOf [⟨hs0, .str (Str.ofString "recipients") k0, .ref rd⟩] 1)) :
   Q (.ref e) { s with heap := h, toks := tk } :=
  hQ.out _ _ _ _ _ _ (mem_keep D) (mem_new D 3 he) (mem_exc D 3 he hv) (mem_new D 1 hd) (mem_at D 1 hd)
local macro_rules | `(tactic| x_close) => `(tactic| exact fin1 (by assumption) (by assumption) rfl rfl rfl)
set_option maxRecDepth 100000 in
set_option maxHeartbeats 8000000 in
theorem mk_rcpt (X : (Mine.hx.heap_39 w.params).In s.heap) {rd : Addr}
   (hQ : Hk (∀ e dx h' tk hs0 k0, s.heap.StaysIn h' → s.heap.get? e = none → ExcAt h' e 106 (some dx) → s.heap.get? dx = none →
     h'.get? dx = some (dictOf [⟨hs0, .str (Str.ofString "recipients") k0, .ref rd⟩] 1) → Q (.ref e) { s with heap := h', toks := tk })) :
   wpAny (model PySem.Challenge.pw_mj0335_01 w) AL (call (.ref 106) [.ref rd] []) Q E s := by
  x_run
end
section
variable {w : World} {s : Shared} {Q : Value → Shared → Prop} {E : Value → Shared → Prop}
theorem fin0 {C : Addr}
   (hQ : Hk (∀ e h' tk, s.heap.StaysIn h' → s.heap.get? e = none → ExcAt h' e C none → Q (.ref e) { s with heap := h', toks := tk }))
   {e : Addr} {h : Heap} {tk : Nat} {vs : Array Value} {news : List (Addr × Obj)} (D : Mem s.heap h [] news) (he : news[1]? = some (e, { cls := .ref C, dict := none, data := .fields vs })) (hv : vs[1]? = some .none) :
   Q (.ref e) { s with heap := h, toks := tk } :=
  hQ.out _ _ _ (mem_keep D) (mem_new D 1 he) (mem_exc D 1 he hv)
local macro_rules | `(tactic| x_close) => `(tactic| exact fin0 (by assumption) (by assumption) rfl rfl)
set_option maxRecDepth 100000 in
set_option maxHeartbeats 8000000 in
theorem mk_plain (X : (Mine.hx.heap_39 w.params).In s.heap) {C N : Addr} {nm qn : Str} {bss : List Value} {v0 v2 v3 : Option Value} {ka kb kc kd : Tok} {u0 u1 u2 u3 : Value} {nu : Nat}
   (hC : s.heap.get? C = some { cls := .type "type", data := .cls { name := nm, bases := bss, mro := [.ref C, .ref 24, .type "OSError", .type "Exception", .type "BaseException", .type "object"], ns := N, qualname := qn }, slots := #[v0, none, v2, v3, some (.builtin "OSError.__new__"), some (.bool true)] })
   (hN : s.heap.get? N = some { cls := .type "dict", data := .dict #[⟨PyData.keyHash w.params (Str.ofString "__module__"), .str (Str.ofString "__module__") ka, u0⟩, ⟨PyData.keyHash w.params (Str.ofString "__firstlineno__"), .str (Str.ofString "__firstlineno__") kb, u1⟩, ⟨PyData.keyHash w.params (Str.ofString "__static_attributes__"), .str (Str.ofString "__static_attributes__") kc, u2⟩, ⟨PyData.keyHash w.params (Str.ofString "__doc__"), .str (Str.ofString "__doc__") kd, u3⟩] nu })
   {t1 : Tok} {sv : Str}
   (hQ : Hk (∀ e h' tk, s.heap.StaysIn h' → s.heap.get? e = none → ExcAt h' e C none → Q (.ref e) { s with heap := h', toks := tk })) :
   wpAny (model PySem.Challenge.pw_mj0335_01 w) AL (call (.ref C) [.str sv t1] []) Q E s := by
  x_run
set_option maxRecDepth 100000 in
set_option maxHeartbeats 8000000 in
theorem mk_gone (X : (Mine.hx.heap_39 w.params).In s.heap) {t1 : Tok}
   (hQ : Hk (∀ e h' tk, s.heap.StaysIn h' → s.heap.get? e = none → ExcAt h' e 49 none → Q (.ref e) { s with heap := h', toks := tk })) :
   wpAny (model PySem.Challenge.pw_mj0335_01 w) AL (call (.ref 49) [.str (Str.ofString "gone") t1] []) Q E s :=
  mk_plain X (X 49 _ rfl) (X 48 _ rfl) hQ
set_option maxRecDepth 100000 in
set_option maxHeartbeats 8000000 in
theorem mk_what (X : (Mine.hx.heap_39 w.params).In s.heap) {t1 : Tok}
   (hQ : Hk (∀ e h' tk, s.heap.StaysIn h' → s.heap.get? e = none → ExcAt h' e 37 none → Q (.ref e) { s with heap := h', toks := tk })) :
   wpAny (model PySem.Challenge.pw_mj0335_01 w) AL (call (.ref 37) [.str (Str.ofString "what") t1] []) Q E s :=
  mk_plain X (X 37 _ rfl) (X 36 _ rfl) hQ
end
end Mine
end
section
/-! ## M3 -/
open PySem PySem.W PySem.Calls PyProof.Rows
namespace Mine
abbrev yy (x : Int) : Int := Int.fdiv x 8
abbrev wd (x : Int) : Array UInt8 := byteArr [97 + Int.fmod (yy x) 26]
abbrev cnt (x : Int) : Int := 1 + Int.fmod (Int.fdiv (yy x) 4) 3
theorem cnt_lo (x : Int) : 1 ≤ cnt x := by
  have c0 := Int.fmod_nonneg_of_pos (Int.fdiv (yy x) 4) (show (0:Int) < 3 by decide)
  show 1 ≤ 1 + _; omega
theorem cnt_hi (x : Int) : cnt x ≤ 3 := by
  have c0 := Int.fmod_lt_of_pos (Int.fdiv (yy x) 4) (show (0:Int) < 3 by decide)
  show 1 + _ ≤ 3; omega
abbrev tupO (vs : List Value) : Obj := { cls := .type "tuple", data := .seq vs.toArray }
/-- bit k of what is said to recipient k -/
abbrev bit (x : Int) (k : Nat) : Prop := Int.fmod (Int.fdiv (Int.fdiv (yy x) 12) (2 ^ ((k : Int)).toNat)) 2 = 1
abbrev rk (k : Nat) : Str := Str.ofString "r" ++ Str.ofString (toString (k : Int))
def SenderIn (news : List (Addr × Obj)) (x : Int) (v : Value) : Prop :=
  (Int.fmod (yy x) 4 = 3 ∧ ∃ a t1 t2, v = .ref a ∧ (a, tupO [.int (550 + Int.fmod x 5) t1, .bytes (wd x) t2]) ∈ news) ∨ (Int.fmod (yy x) 4 ≠ 3 ∧ v = .none)
theorem SenderIn.mono {news news' : List (Addr × Obj)} {x : Int} {v : Value} (h : SenderIn news x v) (k : ∀ p ∈ news, p ∈ news') : SenderIn news' x v :=
  h.imp (fun ⟨a, b, t1, t2, c, d⟩ => ⟨a, b, t1, t2, c, k _ d⟩) id
def DataIn (news : List (Addr × Obj)) (x : Int) (v : Value) : Prop :=
  (Int.fmod (Int.fdiv (yy x) 96) 2 = 1 ∧ ∃ a t1 t2, v = .ref a ∧ (a, tupO [.int 554 t1, .bytes (wd x ++ #[33]) t2]) ∈ news) ∨ (Int.fmod (Int.fdiv (yy x) 96) 2 ≠ 1 ∧ v = .none)
theorem DataIn.mono {news news' : List (Addr × Obj)} {x : Int} {v : Value} (h : DataIn news x v) (k : ∀ p ∈ news, p ∈ news') : DataIn news' x v :=
  h.imp (fun ⟨a, b, t1, t2, c, d⟩ => ⟨a, b, t1, t2, c, k _ d⟩) id
inductive RefIs (news : List (Addr × Obj)) (x : Int) : Nat → List (Str × Value) → Prop
  | zero : RefIs news x 0 []
  | skip {i kvs} : ¬ bit x i → RefIs news x i kvs → RefIs news x (i + 1) kvs
  | put {i kvs a t1 t2} : bit x i → RefIs news x i kvs → (a, tupO [.int (551 + (i : Int)) t1, .bytes (wd x) t2]) ∈ news → RefIs news x (i + 1) (stored kvs (rk i) (.ref a))
theorem RefIs.mono {news news' : List (Addr × Obj)} {x : Int} {i : Nat} {kvs : List (Str × Value)} (h : RefIs news x i kvs) (k : ∀ p ∈ news, p ∈ news') : RefIs news' x i kvs := by
  induction h with
  | zero => exact .zero
  | skip hb _ ih => exact .skip hb ih
  | put hb _ hm ih => exact .put hb ih (k _ hm)
theorem stored_length (kvs : List (Str × Value)) (k : Str) (v : Value) : (stored kvs k v).length ≤ kvs.length + 1 := by
  unfold stored
  split <;> simp
theorem RefIs.length {news : List (Addr × Obj)} {x : Int} {i : Nat} {kvs : List (Str × Value)} (h : RefIs news x i kvs) : kvs.length ≤ i := by
  induction h with
  | zero => exact Nat.le_refl _
  | skip _ _ ih => omega
  | put _ _ _ ih => exact Nat.le_trans (stored_length _ _ _) (by omega)
theorem turn_news {h₀ h : Heap} {L rd D : Addr} {o tup : Obj} {nl own R : List (Addr × Obj)} (N : News h₀ L h ((D, tup) :: (rd, o) :: R)) (e : nl ++ own = R) : News h₀ L h (own ++ (rd, o) :: (D, tup) :: nl) := by
  subst e
  intro p hp
  refine N p ?_
  simp only [List.mem_append, List.mem_cons] at hp ⊢
  rcases hp with h | h | h | h <;> simp [h]
theorem turn_out {rd D I : Addr} {o o' tup oI : Obj} {nl own R : List (Addr × Obj)} (h : rd < D ∧ AllLt D R) (e : nl ++ own = R) (hI : (I, oI) ∈ own) (ho : ∀ p ∈ (rd, o') :: nl, p.1 ∉ [I]) : ∀ p ∈ (rd, o) :: (D, tup) :: nl, p.1 ∉ [I] := by
  intro p hp
  rcases List.mem_cons.mp hp with q | q
  · rw [q]; exact ho (rd, o') (.head _)
  · rcases List.mem_cons.mp q with q | q
    · rw [q]
      intro hm
      have := allLt_mem h.2 (p := (I, oI)) (by rw [← e]; exact List.mem_append_right _ hI)
      exact absurd this (by rw [← List.mem_singleton.mp hm]; exact Nat.lt_irrefl _)
    · exact ho p (.tail _ q)
def PlanIs (w : World) (news : List (Addr × Obj)) (x : Int) (r : Addr) : Prop := ∃ t0 tW vs rd tC vd o kvs,
  (r, tupO [.int (Int.fmod x 8) t0, .bytes (wd x) tW, vs, .ref rd, .int (cnt x) tC, vd]) ∈ news ∧ SenderIn news x vs ∧ (rd, o) ∈ news ∧ (rd == sysModules) = false ∧ o.IsDictOf (strKind prog w) kvs ∧ RefIs news x (cnt x).toNat kvs ∧ DataIn news x vd
abbrev mS (x : Int) (t tY tW : Tok) (v : Value) : Str → Option Value := fun z => if z = Str.ofString "sender" then some v else if z = Str.ofString "words" then some (.bytes (wd x) tW) else if z = Str.ofString "y" then some (.int (yy x) tY) else [(Str.ofString "x", Value.int x t)].reverse.lookup z
abbrev mC (x : Int) (t tY tW tC : Tok) (v : Value) (rd : Addr) : Str → Option Value := fun z => if z = Str.ofString "count" then some (.int (cnt x) tC) else if z = Str.ofString "refused" then some (.ref rd) else mS x t tY tW v z
local macro_rules | `(tactic| k_all) => `(tactic| assumption)
set_option maxRecDepth 100000 in
set_option maxHeartbeats 8000000 in
theorem plan_spec (w : World) {mg mb : Str → Option Value} {mean : ExcName → Option Value} {s : Shared} {fs : List Env}
    (T : Top Mine.hx.view_39 (looseW Mine.hx.view_39 []) mean mg mb s.heap) (X : (Mine.hx.heap_39 w.params).In s.heap) {x : Int} {t : Tok} (hx0 : 0 ≤ x) (hx1 : x < 1000003)
    {Q : Value → Shared → Prop} {E : Value → Shared → Prop}
    (hQ : Hk (∀ r h' tk news, s.heap.StaysIn h' → (∀ p ∈ news, h'.get? p.1 = some p.2 ∧ s.heap.get? p.1 = none) → PlanIs w news x r → Q (.ref r) { s with heap := h', toks := tk })) :
    wpAny (model prog w) (AA 450 200 fs) (call (.ref 163) [.int x t] []) Q E s := by
  have hfill : (fun (_ : OpenLaw) (_ : Params → Frag) => True) PySem.Challenge.rw_mj0335_01 Mine.hx.heap_39 := by k_fill; trivial
  refine' enter (K := Mine.hx.heap_39 w.params) [(Str.ofString "x", .int x t)] X T.nolimit ?k1 ?k2 ?k3 ?k4 ?k5 ?k6 ?k7 ?k8 ?k9 ?_
  case k1 => k_is
  case k2 => k_is
  case k3 => exact (by decide : 450 < 1000)
  case k4 => exact rfl
  case k5 => exact locs rfl
  case k6 => decide
  case k7 => exact rfl
  case k8 => exact rfl
  case k9 => exact rfl
  intro L h₁ hL hns hk₁
  have F : Fr s.heap L h₁ _ := ⟨hns, hk₁, by rw [hL]; exact Nat.le_refl _⟩
  have N : News s.heap L h₁ [] := News.nil
  clear hns hk₁
  refine' cut (fun s' => ∃ h' tk tY, s' = { s with heap := h', toks := tk } ∧ Fr s.heap L h' (fun z => if z = Str.ofString "y" then some (.int (yy x) tY) else [(Str.ofString "x", Value.int x t)].reverse.lookup z) ∧ News s.heap L h' []) ?_ ?_
  · k_steps
    exact ⟨rfl, _, _, _, rfl, by assumption, News.nil⟩
  clear F N
  rintro s1 ⟨h1, tk1, tY, rfl, F, N⟩
  refine' cut (fun s' => ∃ h' tk tW, s' = { s with heap := h', toks := tk } ∧ Fr s.heap L h' (fun z => if z = Str.ofString "words" then some (.bytes (wd x) tW) else if z = Str.ofString "y" then some (.int (yy x) tY) else [(Str.ofString "x", Value.int x t)].reverse.lookup z) ∧ News s.heap L h' []) ?_ ?_
  · k_steps
    (rename Fr _ _ _ _ => kF)
    (rename News _ _ _ _ => kN)
    refine ⟨KBa.make_K kF kN rfl (News.isList kN (by k_mem)) (IntsAre.cons _ _ IntsAre.nil) b_in (by decide : 1 ≤ 16777216) ?_⟩
    intro h' t' tk' F' N' _
    clear kF kN
    try k_sweep
    k_steps
    exact ⟨rfl, _, _, _, rfl, by assumption, News.nil⟩
  clear F N
  rintro s1 ⟨h1, tk1, tW, rfl, F, N⟩
  refine' cut (fun s' => ∃ h' tk v news, s' = { s with heap := h', toks := tk } ∧ Fr s.heap L h' (mS x t tY tW v) ∧ News s.heap L h' news ∧ SenderIn news x v) ?_ ?_
  · k_steps
    · exact ⟨rfl, _, _, _, _, rfl, by assumption, by assumption, .inl ⟨by assumption, _, _, _, rfl, List.Mem.head _⟩⟩
    · exact ⟨rfl, _, _, _, _, rfl, by assumption, by assumption, .inr ⟨by assumption, rfl⟩⟩
  clear F N
  rintro s1 ⟨h1, tk1, v, nl, rfl, F, N, hS⟩
  refine' cut (fun s' => ∃ h' tk rd o, s' = { s with heap := h', toks := tk } ∧ Fr s.heap L h' (fun z => if z = Str.ofString "refused" then some (.ref rd) else mS x t tY tW v z) ∧ News s.heap L h' ((rd, o) :: nl) ∧ (∀ p ∈ nl, p.1 ≠ rd) ∧ (rd == sysModules) = false ∧ o.IsDictOf (strKind prog w) []) ?_ ?_
  · k_steps
    exact ⟨rfl, _, _, _, _, rfl, by assumption, by assumption, fun p hp => Nat.ne_of_lt (by rename ∀ (p : Addr × Obj), p ∈ nl → p.1 < _ => l1; exact l1 p hp), by assumption, by assumption⟩
  clear F N
  rintro s1 ⟨h1, tk1, rd, o, rfl, F, N, hne, hlo, hd⟩
  refine' cut (fun s' => ∃ h' tk tC, s' = { s with heap := h', toks := tk } ∧ Fr s.heap L h' (mC x t tY tW tC v rd) ∧ News s.heap L h' ((rd, o) :: nl)) ?_ ?_
  · k_steps
    exact ⟨rfl, _, _, _, rfl, by assumption, by assumption⟩
  clear F N
  rintro s1 ⟨h1, tk1, tC, rfl, F, N⟩
  refine' cut (fun s' => ∃ h' tk u o kvs nl, s' = { s with heap := h', toks := tk } ∧ Fr s.heap L h' (fun z => if z = Str.ofString "k" then u else mC x t tY tW tC v rd z) ∧ News s.heap L h' ((rd, o) :: nl) ∧ (∀ p ∈ nl, p.1 ≠ rd) ∧ o.IsDictOf (strKind prog w) kvs ∧ SenderIn nl x v ∧ RefIs nl x (cnt x).toNat kvs) ?_ ?_
  · refine For_invV s.heap rfl rfl ?_
    refine evcut (fun xv s' => ∃ h' tk r t1 t2 t3, xv = .ref r ∧ s' = { s with heap := h', toks := tk } ∧ IsRange h' r 0 (cnt x) 1 t1 t2 t3 ∧ Fr s.heap L h' (mC x t tY tW tC v rd) ∧ News s.heap L h' ((rd, o) :: nl)) ?_ ?_
    · k_steps
      (rename Fr _ _ _ _ => kF)
      (rename News _ _ _ _ => kN)
      refine ⟨range1_rows kF kN ?_⟩
      intro h' tk' t1' u1' v1' R' F' N' K'
      clear kF kN
      k_steps
      exact ⟨_, _, _, _, _, _, rfl, rfl, by assumption, by assumption, by assumption⟩
    clear F N
    rintro xv s1 ⟨h1, tk1, r, t1, t2, t3, rfl, rfl, R, F, N⟩
    have hc : cnt x = ((cnt x).toNat : Int) := by have := cnt_lo x; omega
    have hc3 : (cnt x).toNat ≤ 3 := by have := cnt_hi x; omega
    refine iter_range (fun i m news => ∃ u o kvs nl, m = (fun z => if z = Str.ofString "k" then u else mC x t tY tW tC v rd z) ∧ news = (rd, o) :: nl ∧ (∀ p ∈ nl, p.1 ≠ rd) ∧ o.IsDictOf (strKind prog w) kvs ∧ SenderIn nl x v ∧ RefIs nl x i kvs)
      rfl R hc hc3 F N ⟨none, o, [], nl, ?_, rfl, hne, hd, hS, .zero⟩ ?_ ?_
    · funext z
      by_cases hz : z = Str.ofString "k"
      · subst hz; rfl
      · rw [if_neg hz]
    · clear F N R hne hS hd
      clear o nl
      rintro i tk2 m₁ news₁ h tk own hi ⟨u, o, kvs, nl, rfl, rfl, hne, hd, hS, hR⟩ hown hout ⟨oI, hI⟩ F N
      have N2 : News s.heap L h ((rd, o) :: (nl ++ own)) := fun p hp => N p (by simp only [List.mem_append, List.mem_cons] at hp ⊢; rcases hp with h | h | h <;> simp [h])
      have hne2 : ∀ p ∈ nl ++ own, p.1 ≠ rd := fun p hp => (List.mem_append.mp hp).elim (hne p) fun q => hown p q _ (List.Mem.head _)
      clear N
      have hi2 : (i : Int) ≤ 2 := by omega
      have hi0 : 0 ≤ (i : Int) := by omega
      have hz : kvs.length ≤ sizeLine := by have := hR.length; rw [sizeLine_eq]; omega
      generalize hRR : nl ++ own = R at N2 hne2
      k_steps
      · (rename Fr _ _ _ _ => kF)
        (rename News _ _ _ _ => kN)
        refine ⟨kda_set (knd := PySem.strKind _ _) kF kN (by k_updF) hd (strKind_is _ _ _ _) hz ?_⟩
        intro h' o' F' N' hd'
        clear kF kN
        k_steps
        (rename _ ∧ AllLt _ _ => hlt)
        (rename Fr _ _ _ _ => F2)
        (rename News _ _ _ _ => N3)
        have N4 := turn_news N3 hRR
        refine ⟨rfl, _, _, _, _, rfl, F2, N4, turn_out (o' := o) hlt hRR hI hout, some (.int (i : Int) tk2), _, _, _, ?_, rfl, ?_, by assumption, hS.mono fun p hp => .tail _ hp, .put (by assumption) (hR.mono fun p hp => .tail _ hp) (.head _)⟩
        · funext z
          by_cases hz : z = Str.ofString "k"
          · subst hz; rfl
          · simp only [if_neg hz]
        · intro p hp
          rcases List.mem_cons.mp hp with h | h
          · rw [h]; exact Nat.ne_of_gt hlt.1
          · exact hne p h
      · refine ⟨rfl, _, _, _, (rd, o) :: nl, rfl, F, fun p hp => N2 p ?_, hout, some (.int (i : Int) tk2), o, kvs, nl, ?_, rfl, hne, hd, hS, .skip (by assumption) hR⟩
        · rcases List.mem_append.mp hp with h | h
          · rw [← hRR]; exact .tail _ (List.mem_append_right _ h)
          · rcases List.mem_cons.mp h with h | h
            · rw [h]; exact .head _
            · rw [← hRR]; exact .tail _ (List.mem_append_left _ h)
        · funext z
          by_cases hz : z = Str.ofString "k"
          · subst hz; rfl
          · simp only [if_neg hz]
    · rintro m₁ news₁ h tk ⟨u, o, kvs, nl, rfl, rfl, hne, hd, hS, hR⟩ F N
      exact ⟨rfl, _, _, _, _, _, _, rfl, F, N, hne, hd, hS, hR⟩
  clear F N hd hS hne
  clear o nl
  rintro s1 ⟨h1, tk1, u, o, kvs, nl, rfl, F, N, hne, hd, hS, hR⟩
  refine' cut (fun s' => ∃ h' tk vd nl', s' = { s with heap := h', toks := tk } ∧ Fr s.heap L h' (fun z => if z = Str.ofString "data" then some vd else if z = Str.ofString "k" then u else mC x t tY tW tC v rd z) ∧ News s.heap L h' nl' ∧ (∀ p ∈ (rd, o) :: nl, p ∈ nl') ∧ DataIn nl' x vd) ?_ ?_
  · k_steps
    · exact ⟨rfl, _, _, _, _, rfl, by assumption, by assumption, fun p hp => .tail _ hp, .inl ⟨by assumption, _, _, _, rfl, List.Mem.head _⟩⟩
    · exact ⟨rfl, _, _, _, _, rfl, by assumption, by assumption, fun p hp => hp, .inr ⟨by assumption, rfl⟩⟩
  clear F N
  rintro s1 ⟨h1, tk1, vd, nl', rfl, F, N, hsub, hD⟩
  k_steps
  (rename Fr _ _ _ _ => F2)
  (rename News _ _ _ _ => N2)
  exact hQ.out _ _ _ _ F2.keep (fun p hp => ⟨(N2 p hp).1, (N2 p hp).2.2⟩)
    ⟨_, _, _, _, _, _, _, _, .head _, (hS.mono fun p hp => hsub p (.tail _ hp)).mono fun p hp => .tail _ hp, .tail _ (hsub _ (.head _)), hlo, hd, (hR.mono fun p hp => hsub p (.tail _ hp)).mono fun p hp => .tail _ hp, hD.mono fun p hp => .tail _ hp⟩
end Mine
end
section
/-! ## M4a -/
open PySem PySem.W PySem.Calls PyProof.Rows
namespace Mine
inductive Kind
  | helo | conn | auth | gone | line | sender | nobody | data | sent
/-- how many recipients below i are refused -/
def nref (x : Int) : Nat → Nat
  | 0 => 0
  | i + 1 => nref x i + if bit x i then 1 else 0
/-- what becomes of mail x -/
def kindOf (x : Int) : Kind :=
  if Int.fmod x 8 = 0 then .helo else if Int.fmod x 8 = 1 then .conn else if Int.fmod x 8 = 2 then .auth else if Int.fmod x 8 = 3 then .gone else if Int.fmod x 8 = 4 then .line
  else if Int.fmod (yy x) 4 = 3 then .sender else if (nref x (cnt x).toNat : Int) = cnt x then .nobody else if Int.fmod (Int.fdiv (yy x) 96) 2 = 1 then .data else .sent
theorem kind_helo {x : Int} (h : Int.fmod x 8 = 0) : kindOf x = .helo := by unfold kindOf; rw [if_pos h]
theorem kind_conn {x : Int} (h : Int.fmod x 8 = 1) : kindOf x = .conn := by unfold kindOf; rw [if_neg (by omega), if_pos h]
theorem kind_auth {x : Int} (h : Int.fmod x 8 = 2) : kindOf x = .auth := by unfold kindOf; rw [if_neg (by omega), if_neg (by omega), if_pos h]
theorem kind_gone {x : Int} (h : Int.fmod x 8 = 3) : kindOf x = .gone := by unfold kindOf; rw [if_neg (by omega), if_neg (by omega), if_neg (by omega), if_pos h]
theorem kind_line {x : Int} (h : Int.fmod x 8 = 4) : kindOf x = .line := by unfold kindOf; rw [if_neg (by omega), if_neg (by omega), if_neg (by omega), if_neg (by omega), if_pos h]
theorem kind_sender {x : Int} (h : ¬ Int.fmod x 8 < 5) (hs : Int.fmod (yy x) 4 = 3) : kindOf x = .sender := by
  unfold kindOf; rw [if_neg (by omega), if_neg (by omega), if_neg (by omega), if_neg (by omega), if_neg (by omega), if_pos hs]
theorem kind_nobody {x : Int} (h : ¬ Int.fmod x 8 < 5) (hs : Int.fmod (yy x) 4 ≠ 3) (hn : (nref x (cnt x).toNat : Int) = cnt x) : kindOf x = .nobody := by
  unfold kindOf; rw [if_neg (by omega), if_neg (by omega), if_neg (by omega), if_neg (by omega), if_neg (by omega), if_neg hs, if_pos hn]
theorem kind_data {x : Int} (h : ¬ Int.fmod x 8 < 5) (hs : Int.fmod (yy x) 4 ≠ 3) (hn : (nref x (cnt x).toNat : Int) ≠ cnt x) (hd : Int.fmod (Int.fdiv (yy x) 96) 2 = 1) : kindOf x = .data := by
  unfold kindOf; rw [if_neg (by omega), if_neg (by omega), if_neg (by omega), if_neg (by omega), if_neg (by omega), if_neg hs, if_neg hn, if_pos hd]
theorem kind_sent {x : Int} (h : ¬ Int.fmod x 8 < 5) (hs : Int.fmod (yy x) 4 ≠ 3) (hn : (nref x (cnt x).toNat : Int) ≠ cnt x) (hd : Int.fmod (Int.fdiv (yy x) 96) 2 ≠ 1) : kindOf x = .sent := by
  unfold kindOf; rw [if_neg (by omega), if_neg (by omega), if_neg (by omega), if_neg (by omega), if_neg (by omega), if_neg hs, if_neg hn, if_neg hd]

theorem rk_inj : ∀ i j : Nat, i < 3 → j < 3 → rk i = rk j → i = j := by
  intro i j hi hj e
  have h1 : i = 0 ∨ i = 1 ∨ i = 2 := by omega
  have h2 : j = 0 ∨ j = 1 ∨ j = 2 := by omega
  rcases h1 with rfl | rfl | rfl <;> rcases h2 with rfl | rfl | rfl <;> first | rfl | (exact absurd e (by decide +kernel))
theorem stored_new {kvs : List (Str × Value)} {k : Str} {v : Value} (h : ∀ p ∈ kvs, p.1 ≠ k) : stored kvs k v = kvs ++ [(k, v)] := by
  unfold stored
  rw [if_neg]
  simp only [List.any_eq_true, decide_eq_true_eq, not_exists, not_and]
  exact fun p hp => h p hp
theorem RefIs.keys {news : List (Addr × Obj)} {x : Int} {i : Nat} {kvs : List (Str × Value)} (h : RefIs news x i kvs) (hi : i ≤ 3) : kvs.length = nref x i ∧ ∀ p ∈ kvs, ∃ j, j < i ∧ p.1 = rk j := by
  induction h with
  | zero => exact ⟨rfl, fun _ hp => nomatch hp⟩
  | skip hb _ ih =>
    obtain ⟨a, b⟩ := ih (by omega)
    refine ⟨?_, fun p hp => ?_⟩
    · rw [nref, if_neg hb]; exact a
    · obtain ⟨j, hj, e⟩ := b p hp
      exact ⟨j, by omega, e⟩
  | put hb _ _ ih =>
    obtain ⟨a, b⟩ := ih (by omega)
    rw [stored_new fun p hp e => by
      obtain ⟨j, hj, e'⟩ := b p hp
      have := rk_inj _ _ (by omega) (by omega) (e'.symm.trans e)
      omega]
    refine ⟨?_, fun p hp => ?_⟩
    · rw [nref, if_pos hb, List.length_append, a]; rfl
    · rcases List.mem_append.mp hp with q | q
      · obtain ⟨j, hj, e⟩ := b p q
        exact ⟨j, by omega, e⟩
      · rw [List.mem_singleton.mp q]; exact ⟨_, by omega, rfl⟩
theorem cnt_toNat (x : Int) : (cnt x).toNat ≤ 3 := by have := cnt_hi x; omega

abbrev listO (vs : List Value) : Obj := { cls := .type "list", data := .seq vs.toArray }
/-- the table of the refused -/
def RefD (w : World) (news : List (Addr × Obj)) (x : Int) (rd : Addr) : Prop := ∃ o kvs, (rd, o) ∈ news ∧ (rd == sysModules) = false ∧ o.IsDictOf (strKind prog w) kvs ∧ RefIs news x (cnt x).toNat kvs
theorem RefD.mono {w : World} {news news' : List (Addr × Obj)} {x : Int} {rd : Addr} (h : RefD w news x rd) (k : ∀ p ∈ news, p ∈ news') : RefD w news' x rd :=
  let ⟨o, kvs, a, b, c, d⟩ := h; ⟨o, kvs, k _ a, b, c, d.mono k⟩
abbrev sText (x : Int) : Str := Str.ofString "s" ++ Str.ofString (toString x)
/-- an account: the list that the law reckons, and that the narrow reader writes -/
inductive AccIs (w : World) (news : List (Addr × Obj)) (x : Int) : Kind → Addr → Prop
  | helo {a t1 t2 t3} : (a, listO [.str (Str.ofString "reply") t1, .int 501 t2, .bytes (wd x) t3]) ∈ news → AccIs w news x .helo a
  | conn {a t1 t2 t3} : (a, listO [.str (Str.ofString "reply") t1, .int 421 t2, .bytes (wd x) t3]) ∈ news → AccIs w news x .conn a
  | auth {a t1 t2 t3} : (a, listO [.str (Str.ofString "reply") t1, .int 535 t2, .bytes (wd x) t3]) ∈ news → AccIs w news x .auth a
  | gone {a t1} : (a, listO [.str (Str.ofString "gone") t1]) ∈ news → AccIs w news x .gone a
  | line {a t1} : (a, listO [.str (Str.ofString "line") t1]) ∈ news → AccIs w news x .line a
  | sender {a t1 t2 t3 t4} : (a, listO [.str (Str.ofString "sender") t1, .int (550 + Int.fmod x 5) t2, .bytes (wd x) t3, .str (sText x) t4]) ∈ news → AccIs w news x .sender a
  | nobody {a t1 rd} : (a, listO [.str (Str.ofString "nobody") t1, .ref rd]) ∈ news → RefD w news x rd → AccIs w news x .nobody a
  | data {a t1 t2 t3} : (a, listO [.str (Str.ofString "data") t1, .int 554 t2, .bytes (wd x ++ #[33]) t3]) ∈ news → AccIs w news x .data a
  | sent {a t1 rd} : (a, listO [.str (Str.ofString "sent") t1, .ref rd]) ∈ news → RefD w news x rd → AccIs w news x .sent a
theorem AccIs.mono {w : World} {news news' : List (Addr × Obj)} {x : Int} {k : Kind} {a : Addr} (h : AccIs w news x k a) (s : ∀ p ∈ news, p ∈ news') : AccIs w news' x k a := by
  cases h with
  | helo h => exact .helo (s _ h)
  | conn h => exact .conn (s _ h)
  | auth h => exact .auth (s _ h)
  | gone h => exact .gone (s _ h)
  | line h => exact .line (s _ h)
  | sender h => exact .sender (s _ h)
  | nobody h r => exact .nobody (s _ h) (r.mono s)
  | data h => exact .data (s _ h)
  | sent h r => exact .sent (s _ h) (r.mono s)
def armOf : Kind → Str
  | .gone | .line | .nobody => Str.ofString "other"
  | .sent => Str.ofString "sent"
  | _ => Str.ofString "reply"
end Mine
end
section
/-! ## M4 -/
open PySem PySem.W PySem.Calls PyProof.Rows
namespace Mine
abbrev mP (x : Int) (t t0 tW : Tok) (vs : Value) (rd : Addr) (tC : Tok) (vd : Value) : Str → Option Value := fun z => if z = Str.ofString "data" then some vd else if z = Str.ofString "count" then some (.int (cnt x) tC) else if z = Str.ofString "refused" then some (.ref rd) else if z = Str.ofString "sender" then some vs else if z = Str.ofString "words" then some (.bytes (wd x) tW) else if z = Str.ofString "breaks" then some (.int (Int.fmod x 8) t0) else [(Str.ofString "x", Value.int x t)].reverse.lookup z
/-- behind the unpacking of the plan -/
def Unp (w : World) (h₀ : Heap) (L : Addr) (s : Shared) (x : Int) (t : Tok) (s' : Shared) : Prop := ∃ h' tk t0 tW vs rd tC vd nl, s' = { s with heap := h', toks := tk } ∧ Fr h₀ L h' (mP x t t0 tW vs rd tC vd) ∧ News h₀ L h' nl ∧ SenderIn nl x vs ∧ RefD w nl x rd ∧ DataIn nl x vd
theorem news_head {h₀ h : Heap} {L a : Addr} {o : Obj} {nl : List (Addr × Obj)} (N : News h₀ L h nl) (hm : (a, o) ∈ nl) : News h₀ L h ((a, o) :: nl) := fun p hp => (List.mem_cons.mp hp).elim (fun e => e ▸ N _ hm) (N p)
theorem news_facts {h₀ h : Heap} {L : Addr} {nl : List (Addr × Obj)} (N : News h₀ L h nl) : ∀ p ∈ nl, h.get? p.1 = some p.2 ∧ h₀.get? p.1 = none := fun p hp => ⟨(N p hp).1, (N p hp).2.2⟩
def ToldIs (w : World) (news : List (Addr × Obj)) (x : Int) (r : Addr) : Prop := ∃ acc ta, (r, tupO [.ref acc, .str (armOf (kindOf x)) ta]) ∈ news ∧ AccIs w news x (kindOf x) acc
set_option maxRecDepth 100000 in
set_option maxHeartbeats 8000000 in
theorem told_spec (w : World) {mg mb : Str → Option Value} {mean : ExcName → Option Value} {s : Shared} {fs : List Env}
    (T : Top Mine.hx.view_39 (looseW Mine.hx.view_39 []) mean mg mb s.heap) (X : (Mine.hx.heap_39 w.params).In s.heap) {x : Int} {t : Tok} (hx0 : 0 ≤ x) (hx1 : x < 1000003)
    {Q : Value → Shared → Prop} {E : Value → Shared → Prop}
    (hQ : Hk (∀ r h' tk news, s.heap.StaysIn h' → (∀ p ∈ news, h'.get? p.1 = some p.2 ∧ s.heap.get? p.1 = none) → ToldIs w news x r → Q (.ref r) { s with heap := h', toks := tk })) :
    wpAny (model prog w) (AA 440 170 fs) (call (.ref 177) [.int x t] []) Q E s := by
  have hfill : (fun (_ : OpenLaw) (_ : Params → Frag) => True) PySem.Challenge.rw_mj0335_01 Mine.hx.heap_39 := by k_fill; trivial
  refine' enter (K := Mine.hx.heap_39 w.params) [(Str.ofString "x", .int x t)] X T.nolimit ?k1 ?k2 ?k3 ?k4 ?k5 ?k6 ?k7 ?k8 ?k9 ?_
  case k1 => k_is
  case k2 => k_is
  case k3 => exact (by decide : 440 < 1000)
  case k4 => exact rfl
  case k5 => exact locs rfl
  case k6 => decide
  case k7 => exact rfl
  case k8 => exact rfl
  case k9 => exact rfl
  intro L h₁ hL hns hk₁
  have F : Fr s.heap L h₁ _ := ⟨hns, hk₁, by rw [hL]; exact Nat.le_refl _⟩
  have N : News s.heap L h₁ [] := News.nil
  clear hns hk₁
  refine' cut (Unp w s.heap L s x t) ?_ ?_
  · k_steps
    (rename Fr _ _ _ _ => kF)
    (rename News _ _ _ _ => kN)
    (rename Frag.In _ _ => kX)
    (rename Top _ _ _ _ _ _ => kT)
    refine ⟨weaken (plan_spec _ (Top.keeps kT kF.keep) (Frag.In.keeps kX kF.keep) hx0 hx1 ⟨fun r' h' tk' nw' kp' hn' hP' => ?_⟩) rfl (by decide : 441 ≤ 450) (.inr rfl) (.inr rfl) (by decide : 173 ≤ 200)⟩
    have N' := news_on kF kN kp' hn'
    have F' := fr_on kF kp'
    clear kF kN
    obtain ⟨t0', tW', vs', rd', tC', vd', o', kvs', hr', hS', hrd', hlo', hd', hR', hD'⟩ := hP'
    replace N' := news_head N' (List.mem_append_left _ hr')
    k_steps
    (rename Fr _ _ _ _ => F2)
    (rename News _ _ _ _ => N2)
    (rename SenderIn _ _ _ => hS)
    (rename DataIn _ _ _ => hD)
    (rename RefIs _ _ _ _ => hR)
    (rename (_, _) ∈ _ => hrd)
    exact ⟨rfl, _, _, _, _, _, _, _, _, _, rfl, F2, N2, hS.mono fun p hp => .tail _ (List.mem_append_left _ hp), ⟨_, _, .tail _ (List.mem_append_left _ hrd), by assumption, by assumption, hR.mono fun p hp => .tail _ (List.mem_append_left _ hp)⟩, hD.mono fun p hp => .tail _ (List.mem_append_left _ hp)⟩
  clear F N
  rintro s1 ⟨h1, tk1, t0, tW, vs, rd, tC, vd, nl, rfl, F, N, hS, ⟨o, kvs, hrd, hlo, hd, hR⟩, hD⟩
  have hk := hR.keys (cnt_toNat x)
  have hfit : kvs.length ≤ 16777216 := by have := hR.length; have := cnt_toNat x; omega
  have b0 := Int.fmod_nonneg_of_pos x (show (0:Int) < 8 by decide)
  have b1 := Int.fmod_lt_of_pos x (show (0:Int) < 8 by decide)
  k_steps
  · (rename Fr _ _ _ _ => F2)
    (rename News _ _ _ _ => N2)
    (rename Int.fmod x 8 < 3 => hb)
    have hc : Int.fmod x 8 = 0 ∨ Int.fmod x 8 = 1 ∨ Int.fmod x 8 = 2 := by omega
    rcases hc with hc | hc | hc
    · rw [show ([501, 421, 535] : List Int).getD (Int.fmod x 8).toNat 0 = 501 from by rw [hc]; rfl] at N2
      exact hQ.out _ _ _ _ F2.keep (news_facts N2) ⟨_, _, by rw [kind_helo hc]; exact .head _, by rw [kind_helo hc]; exact .helo (.tail _ (.head _))⟩
    · rw [show ([501, 421, 535] : List Int).getD (Int.fmod x 8).toNat 0 = 421 from by rw [hc]; rfl] at N2
      exact hQ.out _ _ _ _ F2.keep (news_facts N2) ⟨_, _, by rw [kind_conn hc]; exact .head _, by rw [kind_conn hc]; exact .conn (.tail _ (.head _))⟩
    · rw [show ([501, 421, 535] : List Int).getD (Int.fmod x 8).toNat 0 = 535 from by rw [hc]; rfl] at N2
      exact hQ.out _ _ _ _ F2.keep (news_facts N2) ⟨_, _, by rw [kind_auth hc]; exact .head _, by rw [kind_auth hc]; exact .auth (.tail _ (.head _))⟩
  · (rename Int.fmod x 8 < 5 => hb)
    (rename ¬ Int.fmod x 8 < 3 => hb')
    have hc : Int.fmod x 8 = 3 ∨ Int.fmod x 8 = 4 := by omega
    rcases hc with hc | hc
    · rw [show Int.fmod x 8 - 3 = 0 from by omega]
      k_steps
      (rename Fr _ _ _ _ => F2)
      (rename News _ _ _ _ => N2)
      exact hQ.out _ _ _ _ F2.keep (news_facts N2) ⟨_, _, by rw [kind_gone hc]; exact .head _, by rw [kind_gone hc]; exact .gone (.tail _ (.tail _ (.tail _ (.head _))))⟩
    · rw [show Int.fmod x 8 - 3 = 1 from by omega]
      k_steps
      (rename Fr _ _ _ _ => F2)
      (rename News _ _ _ _ => N2)
      exact hQ.out _ _ _ _ F2.keep (news_facts N2) ⟨_, _, by rw [kind_line hc]; exact .head _, by rw [kind_line hc]; exact .line (.tail _ (.tail _ (.head _)))⟩
  · (rename ¬ Int.fmod x 8 < 5 => hb)
    rcases hS with ⟨hs3, a, t1, t2, rfl, ha⟩ | ⟨hs3, rfl⟩
    · replace N := news_head N ha
      k_steps
      (rename Fr _ _ _ _ => F2)
      (rename News _ _ _ _ => N2)
      exact hQ.out _ _ _ _ F2.keep (news_facts N2) ⟨_, _, by rw [kind_sender hb hs3]; exact .head _, by rw [kind_sender hb hs3]; exact .sender (.tail _ (.head _))⟩
    · replace N := news_head N hrd
      k_steps
      (rename News _ _ _ _ => N)
      refine ⟨kda_len (knd := PySem.strKind _ _) N (by k_mem) hd hlo hfit ?_⟩
      k_steps
      · (rename Fr _ _ _ _ => F2)
        (rename News _ _ _ _ => N2)
        (rename _ = cnt x => hn)
        rw [hk.1] at hn
        exact hQ.out _ _ _ _ F2.keep (news_facts N2) ⟨_, _, by rw [kind_nobody hb hs3 hn]; exact .head _, by rw [kind_nobody hb hs3 hn]; exact .nobody (.tail _ (.head _)) ⟨o, kvs, .tail _ (.tail _ (.head _)), hlo, hd, hR.mono fun p hp => .tail _ (.tail _ (.tail _ hp))⟩⟩
      · (rename _ ≠ cnt x => hn)
        rw [hk.1] at hn
        rcases hD with ⟨hd1, a, t1, t2, rfl, ha⟩ | ⟨hd1, rfl⟩
        · replace N := news_head N (.tail _ ha)
          k_steps
          (rename Fr _ _ _ _ => F2)
          (rename News _ _ _ _ => N2)
          exact hQ.out _ _ _ _ F2.keep (news_facts N2) ⟨_, _, by rw [kind_data hb hs3 hn hd1]; exact .head _, by rw [kind_data hb hs3 hn hd1]; exact .data (.tail _ (.head _))⟩
        · k_steps
          (rename Fr _ _ _ _ => F2)
          (rename News _ _ _ _ => N2)
          exact hQ.out _ _ _ _ F2.keep (news_facts N2) ⟨_, _, by rw [kind_sent hb hs3 hn hd1]; exact .head _, by rw [kind_sent hb hs3 hn hd1]; exact .sent (.tail _ (.head _)) ⟨o, kvs, .tail _ (.tail _ (.head _)), hlo, hd, hR.mono fun p hp => .tail _ (.tail _ (.tail _ hp))⟩⟩
end Mine
end
section
/-! ## M5a -/
open PySem PySem.W PySem.Calls PyProof.Rows
namespace Mine
/-- C is an exception class of the text's own, of the plain metaclass -/
def excC (K : Frag) (C : Addr) : Bool := mroIn K C (.type "BaseException") == some true && typeIn K (.ref C) == some (.type "type")
section
variable {w : World} {A : Around} {E : Value → Shared → Prop} {s : Shared} {env : Env} {K : Frag}
theorem looks_excType {M : Model} {h : Heap} {e C : Addr} {od : Option Addr} {vs : Array Value} {sl : Array (Option Value)} (he : h.get? e = some ⟨.ref C, od, .fields vs, sl⟩) : Looks M h (typeOf (.ref e)) (.ref C) :=
  fun A Q E s k q => wpAny_bind (wpAny_loadPart (k _ _ he) (wpAny_pure q))
theorem looks_noType {M : Model} {h : Heap} {e C : Addr} {od : Option Addr} {vs : Array Value} {sl : Array (Option Value)} (he : h.get? e = some ⟨.ref C, od, .fields vs, sl⟩) : Looks M h (isType (.ref e)) false :=
  fun A Q E s k q => wpAny_bind (wpAny_loadPart (k _ _ he) (wpAny_pure q))
theorem raise_exc {x : Expr} {pos : Pos} {Q : Flow → Shared → Prop} {h₀ : Heap} (_X₀ : K.In h₀) (hh : A.handled = none)
    (h : wpAny (model prog w) A (eval x env) (Got fun v s₁ => ∃ e C od, v = .ref e ∧ K.In s₁.heap ∧ excC K C = true ∧ ExcAt s₁.heap e C od ∧ E (.ref e) s₁) E s) :
    wpAny (model prog w) A (exec (.Raise (some x) none pos) env) Q E s := by
  rw [arm_exec_Raise]
  refine wpAny_bind (wpAny_standAt ?_)
  unfold raiseStmt
  simp only [evalOpt, Option.map]
  refine wpAny_bind (wpAny_bind (wpAny_mono h (fun v s₁ h₁ => wpAny_bind (wpAny_standAt (wpAny_pure ?_))) fun _ _ x => x))
  obtain ⟨e, C, od, rfl, X, hC, ⟨vs, he, h1⟩, hE⟩ := h₁.out
  unfold excC at hC
  simp only [Bool.and_eq_true, beq_iff_eq] at hC
  have tE := looks_excType (M := model prog w) he
  have nT := looks_noType (M := model prog w) he
  have sB : Looks (model prog w) s₁.heap (isSubtype (.ref C) (.type "BaseException")) true := looks_mroIn X hC.1
  have tC : Looks (model prog w) s₁.heap (typeOf (.ref C)) (.type "type") := looks_typeIn X hC.2
  refine wpAny_bind (wpAny_pure ?_)
  refine wpAny_bind (wpAny_holding ?_)
  unfold excFromValue isExcClass
  refine wpAny_bind (wpAny_bind (nT.here ?_))
  refine wpAny_pure ?_
  simp only [Bool.false_eq_true, if_false]
  unfold isInstance
  refine wpAny_bind (wpAny_bind (tE.here (sB.here ?_)))
  simp only [if_true]
  refine wpAny_pure ?_
  refine wpAny_bind (nT.here ?_)
  simp only [Bool.false_eq_true, if_false]
  unfold raisedInstance
  refine wpAny_bind (wpAny_bind (tE.here (wpAny_bind (tC.here ?_))))
  rw [if_pos (by decide)]
  refine wpAny_pure ?_
  unfold setFlight
  refine wpAny_bind (wpAny_bind (wpAny_field he rfl h1 ?_))
  rw [if_neg (by decide)]
  exact wpAny_pure (wpAny_raiseNew_none hh hE)
end
end Mine
end
section
/-! ## M5 -/
open PySem PySem.W PySem.Calls PyProof.Rows
namespace Mine
/-- the exception that mail x raises: its class, its dict -/
inductive ExcIs (w : World) (news : List (Addr × Obj)) (x : Int) : Kind → Addr → Option Addr → Prop
  | helo {dx h0 k0 h1 k1 t1 t2} : (dx, dictOf [⟨h0, .str (Str.ofString "smtp_code") k0, .int 501 t1⟩, ⟨h1, .str (Str.ofString "smtp_error") k1, .bytes (wd x) t2⟩] 2) ∈ news → ExcIs w news x .helo 142 (some dx)
  | conn {dx h0 k0 h1 k1 t1 t2} : (dx, dictOf [⟨h0, .str (Str.ofString "smtp_code") k0, .int 421 t1⟩, ⟨h1, .str (Str.ofString "smtp_error") k1, .bytes (wd x) t2⟩] 2) ∈ news → ExcIs w news x .conn 130 (some dx)
  | auth {dx h0 k0 h1 k1 t1 t2} : (dx, dictOf [⟨h0, .str (Str.ofString "smtp_code") k0, .int 535 t1⟩, ⟨h1, .str (Str.ofString "smtp_error") k1, .bytes (wd x) t2⟩] 2) ∈ news → ExcIs w news x .auth 154 (some dx)
  | gone : ExcIs w news x .gone 49 none
  | line : ExcIs w news x .line 37 none
  | sender {dx h0 k0 h1 k1 h2 k2 t1 t2 t3} : (dx, dictOf [⟨h0, .str (Str.ofString "smtp_code") k0, .int (550 + Int.fmod x 5) t1⟩, ⟨h1, .str (Str.ofString "smtp_error") k1, .bytes (wd x) t2⟩, ⟨h2, .str (Str.ofString "sender") k2, .str (sText x) t3⟩] 3) ∈ news → ExcIs w news x .sender 87 (some dx)
  | nobody {dx h0 k0 rd} : (dx, dictOf [⟨h0, .str (Str.ofString "recipients") k0, .ref rd⟩] 1) ∈ news → RefD w news x rd → ExcIs w news x .nobody 106 (some dx)
  | data {dx h0 k0 h1 k1 t1 t2} : (dx, dictOf [⟨h0, .str (Str.ofString "smtp_code") k0, .int 554 t1⟩, ⟨h1, .str (Str.ofString "smtp_error") k1, .bytes (wd x ++ #[33]) t2⟩] 2) ∈ news → ExcIs w news x .data 118 (some dx)
theorem ExcIs.mono {w : World} {news news' : List (Addr × Obj)} {x : Int} {k : Kind} {C : Addr} {od : Option Addr} (h : ExcIs w news x k C od) (s : ∀ p ∈ news, p ∈ news') : ExcIs w news' x k C od := by
  cases h with
  | helo h => exact .helo (s _ h)
  | conn h => exact .conn (s _ h)
  | auth h => exact .auth (s _ h)
  | gone => exact .gone
  | line => exact .line
  | sender h => exact .sender (s _ h)
  | nobody h r => exact .nobody (s _ h) (r.mono s)
  | data h => exact .data (s _ h)
/-- an exception that came out of a call made over the heap h₀, whose callers' frames are fs -/
structure Out (w : World) (h₀ : Heap) (fs : List Env) (x : Int) (e : Addr) (C : Addr) (od : Option Addr) (P h' : Heap) (news : List (Addr × Obj)) : Prop where
  fly : Fly P fs e (.ref C) od .none h'
  old : ∀ b o, h₀.get? b = some o → b ∉ fs.filterMap (·.frame) → P.get? b = some o
  up : h₀.UpToSlots h'
  new : h₀.get? e = none
  nw : ∀ p ∈ news, P.get? p.1 = some p.2 ∧ h₀.get? p.1 = none
  is : ExcIs w news x (kindOf x) C od
theorem out_leave {w : World} {A : Around} {E E' : Value → Shared → Prop} {s : Shared} {fs : List Env} {B h : Heap} {L e C f : Addr} {od : Option Addr} {m : Str → Option Value} {qual : Str} {scope : Scope} {cdv : Value} {tk : Nat} {x : Int} {news : List (Addr × Obj)}
    (hfr : A.frames = some fs) (hF : s.heap.FunFrames B fs) (F : Fr s.heap L h m) (N : News s.heap L h news) (he : ExcAt h e C od) (hne : ∀ p ∈ news, p.1 ≠ e) (hnew : s.heap.get? e = none) (is : ExcIs w news x (kindOf x) C od)
    (hE : ∀ h' tk P C od news, Out w s.heap fs x e C od P h' news → E (.ref e) { s with heap := h', toks := tk }) (hk : scope.kind = .function) :
    wpAny (model prog w) (A.deeper (envOf qual scope L f cdv)) (leaving (envOf qual scope L f cdv) (.ref e)) (fun _ s'' => E (.ref e) s'') E' { s with heap := h, toks := tk } := by
  obtain ⟨vs, he, h1⟩ := he
  have sL : s.heap.get? L = none := by
    cases q : s.heap.get? L with
    | none => rfl
    | some o => exact absurd (Nat.lt_of_lt_of_le (Heap.lt_size q) F.above) (Nat.lt_irrefl _)
  have hin : ∀ env ∈ (envOf qual scope L f cdv :: fs), ∀ b, env.frame = some b → b ∈ e :: (envOf qual scope L f cdv :: fs).filterMap (·.frame) := fun env he b hb => .tail _ (List.mem_filterMap.mpr ⟨env, he, hb⟩)
  have hfs : h.FunFrames B fs := hF.of_keeps fun b o q _ => ⟨o, F.keep b o q, rfl⟩
  have hall : h.FunFrames (hideAll h (e :: (envOf qual scope L f cdv :: fs).filterMap (·.frame))) (envOf qual scope L f cdv :: fs) := by
    refine .cons (by show scope.kind ≠ .module; rw [hk]; decide) rfl F.ns (hideAll_none _ (hin _ (.head _) L rfl)) ?_
    exact funFrames_hide hfs fun env he b hb => hin env (.tail _ he) b hb
  have hin2 : ∀ b, b ∈ fs.filterMap (·.frame) → ∃ o, s.heap.get? b = some o := fun b hb => let ⟨_, o, ho, _⟩ := hF.mem hb; ⟨o, ho⟩
  have hmem : ∀ b, b ∈ e :: (envOf qual scope L f cdv :: fs).filterMap (·.frame) → b = e ∨ b = L ∨ b ∈ fs.filterMap (·.frame) := fun b hb => by
    rcases List.mem_cons.mp hb with q | q
    · exact .inl q
    · exact .inr (kts_mem q)
  refine fly_leave (s := { s with heap := h, toks := tk }) (P := hideAll h (e :: (envOf qual scope L f cdv :: fs).filterMap (·.frame))) (Around.frames_deeper hfr) hall rfl he (fun b o q => of_hideAll _ q) (hideAll_none _ (.head _)) rfl h1 fun h' x' up => ?_
  refine hE h' tk _ C od news ⟨x', fun b o q nf => hideAll_get _ (F.keep b o q) fun hb => ?_, (Heap.UpToSlots.of_keeps F.keep).trans up, hnew, fun p hp => ⟨hideAll_get _ (N p hp).1 fun hb => ?_, (N p hp).2.2⟩, is⟩
  · rcases hmem b hb with rfl | rfl | z
    · rw [hnew] at q; cases q
    · rw [sL] at q; cases q
    · exact nf z
  · rcases hmem _ hb with z | z | z
    · exact hne p hp z
    · exact (N p hp).2.1 z
    · obtain ⟨o, ho⟩ := hin2 _ z
      rw [(N p hp).2.2] at ho; cases ho
end Mine
end
section
/-! ## M6 -/
open PySem PySem.W PySem.Calls PyProof.Rows
namespace Mine
theorem one_fact {h h' : Heap} {a : Addr} {o : Obj} (h1 : h'.get? a = some o) (h2 : h.get? a = none) : ∀ p ∈ [(a, o)], h'.get? p.1 = some p.2 ∧ h.get? p.1 = none := fun p hp => by rw [List.mem_singleton.mp hp]; exact ⟨h1, h2⟩
theorem ne_exc {h₀ h h' : Heap} {L e C dx : Addr} {od : Option Addr} {nl : List (Addr × Obj)} {es : List DictEntry} {n : Nat} (N : News h₀ L h nl) (ne : h.get? e = none) (ex : ExcAt h' e C od) (dd : h'.get? dx = some (dictOf es n)) : ∀ p ∈ (dx, dictOf es n) :: nl, p.1 ≠ e := by
  intro p hp q
  obtain ⟨vs, he, _⟩ := ex
  rcases List.mem_cons.mp hp with z | z
  · rw [z] at q; dsimp only at q; rw [q, he] at dd; cases dd
  · have := (N p z).1; rw [q, ne] at this; cases this
theorem ne_exc0 {h₀ h : Heap} {L e : Addr} {nl : List (Addr × Obj)} (N : News h₀ L h nl) (ne : h.get? e = none) : ∀ p ∈ nl, p.1 ≠ e := by
  intro p hp q
  have := (N p hp).1; rw [q, ne] at this; cases this
theorem new_up {h₀ h : Heap} {L e : Addr} {m : Str → Option Value} (F : Fr h₀ L h m) (ne : h.get? e = none) : h₀.get? e = none := by
  cases q : h₀.get? e with
  | none => rfl
  | some o => have := F.keep _ _ q; rw [ne] at this; cases this
theorem exc142 (p : Params) : excC (Mine.hx.heap_39 p) 142 = true := by kernel_rfl
theorem exc130 (p : Params) : excC (Mine.hx.heap_39 p) 130 = true := by kernel_rfl
theorem exc154 (p : Params) : excC (Mine.hx.heap_39 p) 154 = true := by kernel_rfl
theorem exc118 (p : Params) : excC (Mine.hx.heap_39 p) 118 = true := by kernel_rfl
theorem exc87 (p : Params) : excC (Mine.hx.heap_39 p) 87 = true := by kernel_rfl
theorem exc106 (p : Params) : excC (Mine.hx.heap_39 p) 106 = true := by kernel_rfl
theorem exc49 (p : Params) : excC (Mine.hx.heap_39 p) 49 = true := by kernel_rfl
theorem exc37 (p : Params) : excC (Mine.hx.heap_39 p) 37 = true := by kernel_rfl
local macro_rules | `(tactic| walk_at "exec Raise some none") => `(tactic| (k_here; (rename Frag.In _ _ => kX); refine raise_exc kX rfl ?_))
set_option maxRecDepth 100000 in
set_option maxHeartbeats 8000000 in
theorem send_spec (w : World) {mg mb : Str → Option Value} {mean : ExcName → Option Value} {s : Shared} {fs : List Env} {B : Heap}
    (T : Top Mine.hx.view_39 (looseW Mine.hx.view_39 []) mean mg mb s.heap) (X : (Mine.hx.heap_39 w.params).In s.heap) (hF : s.heap.FunFrames B fs) {x : Int} {t : Tok} (hx0 : 0 ≤ x) (hx1 : x < 1000003)
    {Q : Value → Shared → Prop} {E : Value → Shared → Prop}
    (hQ : Hk (kindOf x = .sent → ∀ rd h' tk news, s.heap.StaysIn h' → (∀ p ∈ news, h'.get? p.1 = some p.2 ∧ s.heap.get? p.1 = none) → RefD w news x rd → Q (.ref rd) { s with heap := h', toks := tk }))
    (hE : ∀ e h' tk P C od news, Out w s.heap fs x e C od P h' news → E (.ref e) { s with heap := h', toks := tk }) :
    wpAny (model prog w) (AA 440 170 fs) (call (.ref 170) [.int x t] []) Q E s := by
  have hfill : (fun (_ : OpenLaw) (_ : Params → Frag) => True) PySem.Challenge.rw_mj0335_01 Mine.hx.heap_39 := by k_fill; trivial
  refine' enter (K := Mine.hx.heap_39 w.params) [(Str.ofString "x", .int x t)] X T.nolimit ?k1 ?k2 ?k3 ?k4 ?k5 ?k6 ?k7 ?k8 ?k9 ?_
  case k1 => k_is
  case k2 => k_is
  case k3 => exact (by decide : 440 < 1000)
  case k4 => exact rfl
  case k5 => exact locs rfl
  case k6 => decide
  case k7 => exact rfl
  case k8 => exact rfl
  case k9 => exact rfl
  intro L h₁ hL hns hk₁
  have F : Fr s.heap L h₁ _ := ⟨hns, hk₁, by rw [hL]; exact Nat.le_refl _⟩
  have N : News s.heap L h₁ [] := News.nil
  clear hns hk₁
  refine' cut (Unp w s.heap L s x t) ?_ ?_
  · k_steps
    (rename Fr _ _ _ _ => kF)
    (rename News _ _ _ _ => kN)
    (rename Frag.In _ _ => kX)
    (rename Top _ _ _ _ _ _ => kT)
    refine ⟨weaken (plan_spec _ (Top.keeps kT kF.keep) (Frag.In.keeps kX kF.keep) hx0 hx1 ⟨fun r' h' tk' nw' kp' hn' hP' => ?_⟩) rfl (by decide : 441 ≤ 450) (.inr rfl) (.inr rfl) (by decide : 173 ≤ 200)⟩
    have N' := news_on kF kN kp' hn'
    have F' := fr_on kF kp'
    clear kF kN
    obtain ⟨t0', tW', vs', rd', tC', vd', o', kvs', hr', hS', hrd', hlo', hd', hR', hD'⟩ := hP'
    replace N' := news_head N' (List.mem_append_left _ hr')
    k_steps
    (rename Fr _ _ _ _ => F2)
    (rename News _ _ _ _ => N2)
    (rename SenderIn _ _ _ => hS)
    (rename DataIn _ _ _ => hD)
    (rename RefIs _ _ _ _ => hR)
    (rename (_, _) ∈ _ => hrd)
    exact ⟨rfl, _, _, _, _, _, _, _, _, _, rfl, F2, N2, hS.mono fun p hp => .tail _ (List.mem_append_left _ hp), ⟨_, _, .tail _ (List.mem_append_left _ hrd), by assumption, by assumption, hR.mono fun p hp => .tail _ (List.mem_append_left _ hp)⟩, hD.mono fun p hp => .tail _ (List.mem_append_left _ hp)⟩
  clear F N
  rintro s1 ⟨h1, tk1, t0, tW, vs, rd, tC, vd, nl, rfl, F, N, hS, ⟨o, kvs, hrd, hlo, hd, hR⟩, hD⟩
  have hk := hR.keys (cnt_toNat x)
  have hfit : kvs.length ≤ 16777216 := by have := hR.length; have := cnt_toNat x; omega
  have b0 := Int.fmod_nonneg_of_pos x (show (0:Int) < 8 by decide)
  have b1 := Int.fmod_lt_of_pos x (show (0:Int) < 8 by decide)
  k_steps
  · (rename Int.fmod x 8 = 0 => hc)
    (rename Fr _ _ _ _ => kF)
    (rename News _ _ _ _ => kN)
    (rename Frag.In _ _ => kX)
    refine ⟨weaken (mk_helo (Frag.In.keeps kX kF.keep) ⟨fun e' dx' h' tk' hs0' k0' hs1' k1' kp' ne' ex' nd' dd' => ?_⟩) rfl (by decide : 441 ≤ 500) (.inl rfl) (.inl rfl) (by decide : 173 ≤ 300)⟩
    have N' := news_on kF kN kp' (one_fact dd' nd')
    have F' := fr_on kF kp'
    have nx' := ne_exc kN ne' ex' dd'
    have nu' := new_up kF ne'
    clear kF kN ne'
    k_steps
    (rename Fr _ _ _ _ => F2)
    (rename News _ _ _ _ => N2)
    (rename ExcAt _ _ _ _ => ex2)
    exact ⟨_, _, _, rfl, Frag.In.keeps (by assumption) F2.keep, exc142 _, ex2, out_leave (s := s) rfl hF F2 N2 ex2 (by assumption) (by assumption) (by rw [kind_helo hc]; exact .helo (.head _)) (hE _) rfl⟩
  · (rename Int.fmod x 8 = 1 => hc)
    (rename Fr _ _ _ _ => kF)
    (rename News _ _ _ _ => kN)
    (rename Frag.In _ _ => kX)
    refine ⟨weaken (mk_conn (Frag.In.keeps kX kF.keep) ⟨fun e' dx' h' tk' hs0' k0' hs1' k1' kp' ne' ex' nd' dd' => ?_⟩) rfl (by decide : 441 ≤ 500) (.inl rfl) (.inl rfl) (by decide : 173 ≤ 300)⟩
    have N' := news_on kF kN kp' (one_fact dd' nd')
    have F' := fr_on kF kp'
    have nx' := ne_exc kN ne' ex' dd'
    have nu' := new_up kF ne'
    clear kF kN ne'
    k_steps
    (rename Fr _ _ _ _ => F2)
    (rename News _ _ _ _ => N2)
    (rename ExcAt _ _ _ _ => ex2)
    exact ⟨_, _, _, rfl, Frag.In.keeps (by assumption) F2.keep, exc130 _, ex2, out_leave (s := s) rfl hF F2 N2 ex2 (by assumption) (by assumption) (by rw [kind_conn hc]; exact .conn (.head _)) (hE _) rfl⟩
  · (rename Int.fmod x 8 = 2 => hc)
    (rename Fr _ _ _ _ => kF)
    (rename News _ _ _ _ => kN)
    (rename Frag.In _ _ => kX)
    refine ⟨weaken (mk_auth (Frag.In.keeps kX kF.keep) ⟨fun e' dx' h' tk' hs0' k0' hs1' k1' kp' ne' ex' nd' dd' => ?_⟩) rfl (by decide : 441 ≤ 500) (.inl rfl) (.inl rfl) (by decide : 173 ≤ 300)⟩
    have N' := news_on kF kN kp' (one_fact dd' nd')
    have F' := fr_on kF kp'
    have nx' := ne_exc kN ne' ex' dd'
    have nu' := new_up kF ne'
    clear kF kN ne'
    k_steps
    (rename Fr _ _ _ _ => F2)
    (rename News _ _ _ _ => N2)
    (rename ExcAt _ _ _ _ => ex2)
    exact ⟨_, _, _, rfl, Frag.In.keeps (by assumption) F2.keep, exc154 _, ex2, out_leave (s := s) rfl hF F2 N2 ex2 (by assumption) (by assumption) (by rw [kind_auth hc]; exact .auth (.head _)) (hE _) rfl⟩
  · (rename Int.fmod x 8 = 3 => hc)
    (rename Fr _ _ _ _ => kF)
    (rename News _ _ _ _ => kN)
    (rename Frag.In _ _ => kX)
    refine ⟨weaken (mk_gone (Frag.In.keeps kX kF.keep) ⟨fun e' h' tk' kp' ne' ex' => ?_⟩) rfl (by decide : 441 ≤ 500) (.inl rfl) (.inl rfl) (by decide : 173 ≤ 300)⟩
    have N' := news_on (nw := []) kF kN kp' (fun p hp => nomatch hp)
    have F' := fr_on kF kp'
    have nx' := ne_exc0 kN ne'
    have nu' := new_up kF ne'
    clear kF kN ne'
    k_steps
    (rename Fr _ _ _ _ => F2)
    (rename News _ _ _ _ => N2)
    (rename ExcAt _ _ _ _ => ex2)
    exact ⟨_, _, _, rfl, Frag.In.keeps (by assumption) F2.keep, exc49 _, ex2, out_leave (s := s) rfl hF F2 N2 ex2 (by assumption) (by assumption) (by rw [kind_gone hc]; exact .gone) (hE _) rfl⟩
  · (rename Int.fmod x 8 = 4 => hc)
    (rename Fr _ _ _ _ => kF)
    (rename News _ _ _ _ => kN)
    (rename Frag.In _ _ => kX)
    refine ⟨weaken (mk_what (Frag.In.keeps kX kF.keep) ⟨fun e' h' tk' kp' ne' ex' => ?_⟩) rfl (by decide : 441 ≤ 500) (.inl rfl) (.inl rfl) (by decide : 173 ≤ 300)⟩
    have N' := news_on (nw := []) kF kN kp' (fun p hp => nomatch hp)
    have F' := fr_on kF kp'
    have nx' := ne_exc0 kN ne'
    have nu' := new_up kF ne'
    clear kF kN ne'
    k_steps
    (rename Fr _ _ _ _ => F2)
    (rename News _ _ _ _ => N2)
    (rename ExcAt _ _ _ _ => ex2)
    exact ⟨_, _, _, rfl, Frag.In.keeps (by assumption) F2.keep, exc37 _, ex2, out_leave (s := s) rfl hF F2 N2 ex2 (by assumption) (by assumption) (by rw [kind_line hc]; exact .line) (hE _) rfl⟩
  · have hb : ¬ Int.fmod x 8 < 5 := by
      simp only [ne_eq] at *
      omega
    rcases hS with ⟨hs3, a, t1, t2, rfl, ha⟩ | ⟨hs3, rfl⟩
    · replace N := news_head N ha
      k_steps
      (rename Fr _ _ _ _ => kF)
      (rename News _ _ _ _ => kN)
      (rename Frag.In _ _ => kX)
      refine ⟨weaken (mk_send (Frag.In.keeps kX kF.keep) ⟨fun e' dx' h' tk' hs0' k0' hs1' k1' hs2' k2' kp' ne' ex' nd' dd' => ?_⟩) rfl (by decide : 441 ≤ 500) (.inl rfl) (.inl rfl) (by decide : 173 ≤ 300)⟩
      have N' := news_on kF kN kp' (one_fact dd' nd')
      have F' := fr_on kF kp'
      have nx' := ne_exc kN ne' ex' dd'
      have nu' := new_up kF ne'
      clear kF kN ne'
      k_steps
      (rename Fr _ _ _ _ => F2)
      (rename News _ _ _ _ => N2)
      (rename ExcAt _ _ _ _ => ex2)
      exact ⟨_, _, _, rfl, Frag.In.keeps (by assumption) F2.keep, exc87 _, ex2, out_leave (s := s) rfl hF F2 N2 ex2 (by assumption) (by assumption) (by rw [kind_sender hb hs3]; exact .sender (.head _)) (hE _) rfl⟩
    · replace N := news_head N hrd
      k_steps
      (rename News _ _ _ _ => N)
      refine ⟨kda_len (knd := PySem.strKind _ _) N (by k_mem) hd hlo hfit ?_⟩
      k_steps
      · (rename _ = cnt x => hn)
        rw [hk.1] at hn
        (rename Fr _ _ _ _ => kF)
        (rename News _ _ _ _ => kN)
        (rename Frag.In _ _ => kX)
        refine ⟨weaken (mk_rcpt (Frag.In.keeps kX kF.keep) ⟨fun e' dx' h' tk' hs0' k0' kp' ne' ex' nd' dd' => ?_⟩) rfl (by decide : 441 ≤ 500) (.inl rfl) (.inl rfl) (by decide : 173 ≤ 300)⟩
        have N' := news_on kF kN kp' (one_fact dd' nd')
        have F' := fr_on kF kp'
        have nx' := ne_exc kN ne' ex' dd'
        have nu' := new_up kF ne'
        clear kF kN ne'
        k_steps
        (rename Fr _ _ _ _ => F2)
        (rename News _ _ _ _ => N2)
        (rename ExcAt _ _ _ _ => ex2)
        exact ⟨_, _, _, rfl, Frag.In.keeps (by assumption) F2.keep, exc106 _, ex2, out_leave (s := s) rfl hF F2 N2 ex2 (by assumption) (by assumption) (by rw [kind_nobody hb hs3 hn]; exact .nobody (.head _) ⟨o, kvs, .tail _ (.head _), hlo, hd, hR.mono fun p hp => .tail _ (.tail _ hp)⟩) (hE _) rfl⟩
      · (rename _ ≠ cnt x => hn)
        rw [hk.1] at hn
        rcases hD with ⟨hd1, a, t1, t2, rfl, ha⟩ | ⟨hd1, rfl⟩
        · replace N := news_head N (.tail _ ha)
          k_steps
          (rename Fr _ _ _ _ => kF)
          (rename News _ _ _ _ => kN)
          (rename Frag.In _ _ => kX)
          refine ⟨weaken (mk_data (Frag.In.keeps kX kF.keep) ⟨fun e' dx' h' tk' hs0' k0' hs1' k1' kp' ne' ex' nd' dd' => ?_⟩) rfl (by decide : 441 ≤ 500) (.inl rfl) (.inl rfl) (by decide : 173 ≤ 300)⟩
          have N' := news_on kF kN kp' (one_fact dd' nd')
          have F' := fr_on kF kp'
          have nx' := ne_exc kN ne' ex' dd'
          have nu' := new_up kF ne'
          clear kF kN ne'
          k_steps
          (rename Fr _ _ _ _ => F2)
          (rename News _ _ _ _ => N2)
          (rename ExcAt _ _ _ _ => ex2)
          exact ⟨_, _, _, rfl, Frag.In.keeps (by assumption) F2.keep, exc118 _, ex2, out_leave (s := s) rfl hF F2 N2 ex2 (by assumption) (by assumption) (by rw [kind_data hb hs3 hn hd1]; exact .data (.head _)) (hE _) rfl⟩
        · k_steps
          (rename Fr _ _ _ _ => F2)
          (rename News _ _ _ _ => N2)
          exact hQ.out (kind_sent hb hs3 hn hd1) _ _ _ _ F2.keep (news_facts N2) ⟨o, kvs, .head _, hlo, hd, hR.mono fun p hp => .tail _ hp⟩
end Mine
end
section
/-! ## M7a -/
open PySem PySem.W PySem.Calls PyProof.Rows
namespace Mine
section
variable {K : Frag} {M : Model} {h : Heap}
theorem looks_isType {D : Addr} (X : K.In h) (hc : (clsIn K D).isSome = true) : Looks M h (isType (.ref D)) true := by
  intro A Q E s k q
  unfold clsIn at hc
  split at hc
  · rename_i o c ho
    exact wpAny_bind (wpAny_loadPart (k _ _ (X _ _ ho)) (wpAny_pure q))
  · cases hc
theorem looks_typeCls {e : Addr} {oe : Obj} {c : Value} (he : h.get? e = some oe) (hc : oe.cls = c) : Looks M h (typeOf (.ref e)) c :=
  fun A Q E s k q => wpAny_bind (wpAny_loadPart (k _ _ he) (wpAny_pure (by rw [hc]; exact q)))
theorem looks_matches {e C D : Addr} {oe : Obj} {b : Bool} (X : K.In h) (he : h.get? e = some oe) (hc : oe.cls = .ref C) (hD : excC K D = true) (hDc : (clsIn K D).isSome = true) (hs : mroIn K C (.ref D) = some b) :
    Looks M h (excMatches (.ref e) (.ref D)) b := by
  intro A Q E s k q
  unfold excC at hD
  simp only [Bool.and_eq_true, beq_iff_eq] at hD
  have tD : Looks M h (typeOf (.ref D)) (.type "type") := looks_typeIn X hD.2
  have iT := looks_isType (M := M) X hDc
  have sB : Looks M h (isSubtype (.ref D) (.type "BaseException")) true := looks_mroIn X hD.1
  have tE := looks_typeCls (M := M) he hc
  have sD : Looks M h (isSubtype (.ref C) (.ref D)) b := looks_mroIn X hs
  unfold excMatches isInstance isExcClass
  refine wpAny_bind (wpAny_bind (tD _ _ _ _ k ?_))
  rw [tc_notTuple]
  refine wpAny_pure ?_
  simp only [Bool.false_eq_true, if_false]
  refine wpAny_bind (wpAny_pure ?_)
  refine wpAny_bind ?_
  rw [List.forIn_cons]
  refine wpAny_bind (wpAny_bind (wpAny_bind (iT _ _ _ _ k ?_)))
  simp only [if_true]
  refine sB _ _ _ _ k ?_
  simp only [Bool.not_true, Bool.false_eq_true, if_false]
  refine wpAny_pure ?_
  simp only [List.forIn_nil]
  refine wpAny_pure ?_
  refine wpAny_bind (tE _ _ _ _ k ?_)
  refine wpAny_bind ?_
  rw [List.forIn_cons]
  refine wpAny_bind (wpAny_bind (sD _ _ _ _ k ?_))
  cases b with
  | true => exact wpAny_pure (wpAny_pure (wpAny_pure q))
  | false =>
    simp only [Bool.false_eq_true, if_false]
    refine wpAny_pure ?_
    simp only [List.forIn_nil]
    exact wpAny_pure (wpAny_pure q)
end
end Mine
end
section
/-! ## M7b -/
open PySem PySem.W PySem.Calls PyProof.Rows Builtin Builtin.ObjectAttr
set_option maxRecDepth 100000
set_option maxHeartbeats 400000
namespace Mine
theorem slot_bga : Slot "BaseException" "__getattribute__" "BaseException.__getattribute__" :=
  .of (owner := "BaseException") (n := "__getattribute__") (by rw [typeLookup_type, builtinLookup_eq_fast]; kernel_rfl) (by decide +kernel) (by decide +kernel) (by decide +kernel)
    (by first | exact .inl (by decide +kernel) | exact .inr (by decide +kernel)) (by rw [isSubtype_type]; kernel_rfl)
theorem entry_bga : entryFor table "BaseException.__getattribute__" = some Builtin.«object.__getattribute__» :=
  entryFor_alias (id' := "object.__getattribute__") (by kernel_rfl) (by first | rfl | decide +kernel) (by decide +kernel) (by kernel_rfl)
theorem args_bga (a b : Value) : argsOk "BaseException.__getattribute__" ⟨[a, b], []⟩ := by unfold argsOk; kernel_rfl
/-- attributes of an exception of the text's own -/
def readsE (K : Frag) (C : Addr) : Bool := findIn K (.ref C) "__getattribute__" == some (some (.builtin "BaseException.__getattribute__")) && findIn K (.ref C) "__getattr__" == some none && mroIn K C (.type "BaseException") == some true
theorem get_exc {w : World} {A : Around} {E : Value → Shared → Prop} {s : Shared} {K : Frag} {x C : Addr} {ox : Obj} {od : Option Obj} {name : Str} {expr : Bool} {Q : Value → Shared → Prop} {v : Value}
    (X : K.In s.heap) (I : InstAt s.heap x ox C od) (hr : readsE K C = true) (hf : findObj K C od name = some (.value v)) (hv : handedIn v = true) (h : Q v { s with toks := s.toks + 1 }) :
    wpAny (model prog w) A (getAttr (.ref x) name expr) Q E s := by
  unfold readsE at hr
  simp only [Bool.and_eq_true, beq_iff_eq] at hr
  obtain ⟨⟨hga, hgt⟩, hb⟩ := hr
  have ht := I.type (M := model prog w)
  have L1 := looks_find (M := model prog w) X I hf
  refine wpAny_bind (wpAny_mkText (wpAny_holding (wpAny_bind (ht _ _ _ _ (fun _ _ e => e) (wpAny_bind (looks_findIn X hga _ _ _ _ (fun _ _ e => e) ?_))))))
  dsimp only
  rw [show (onTheHeap (.ref C) && Value.builtin "BaseException.__getattribute__" == Value.builtin "object.__getattribute__") = false from by rw [show (Value.builtin "BaseException.__getattribute__" == Value.builtin "object.__getattribute__") = false from by decide +kernel, Bool.and_false], if_neg (by decide)]
  have hbk : Looks (model prog w) s.heap (hookBefore (.ref C)) none := by
    show Looks _ _ (typeLookup (.ref C) "__getattr__") none
    exact looks_findIn X hgt
  refine wpAny_bind (hbk _ _ _ _ (fun _ _ e => e) (wpAny_bind (wpAny_attempt (wpAny_holding ?_))))
  unfold callGetattribute
  rw [show (expr && onTheHeap (Value.builtin "BaseException.__getattribute__")) = false from Bool.and_false _, if_neg (by decide)]
  unfold boundAndCalled
  rw [slot_bga.bind]
  refine wpAny_bind (wpAny_pure ?_)
  show wpAny _ _ (call (.builtin "BaseException.__getattribute__") [.ref x, .str name s.toks]) _ _ _
  refine wpAny_call ?_
  refine codeAny_call_builtin slot_bga.plain entry_bga ?_
  refine @check_slot (model prog w) _ _ { s with toks := s.toks + 1 } "BaseException.__getattribute__" "BaseException" "__getattribute__" (.ref x) [.str name s.toks] [] _ (by decide +kernel) (by decide +kernel) (ht.andThen (looks_mroIn X hb)) (args_bga (.ref x) (.str name s.toks)) ?_
  unfold Builtin.«object.__getattribute__»
  refine wpAny_bind (wpAny_pure (wpAny_bind (wpAny_pure (wpAny_bind (ht _ _ _ _ (fun _ _ e => e) (wpAny_bind (L1 _ _ _ _ (fun _ _ e => e) ?_)))))))
  refine wpAny_pure ?_
  show wpAny _ _ (handedOut v) _ _ _
  rw [handedOut_of hv]; exact wpAny_pure h
theorem rd118 (p : Params) : readsE (Mine.hx.heap_39 p) 118 = true := by kernel_rfl
theorem fc118 (p : Params) (h0 h1 : Int) (k0 k1 : Tok) (v0 v1 : Value) (n : Nat) : findObj (Mine.hx.heap_39 p) 118 (some (dictOf [⟨h0, .str (Str.ofString "smtp_code") k0, v0⟩, ⟨h1, .str (Str.ofString "smtp_error") k1, v1⟩] n)) (Str.ofString "smtp_code") = some (.value v0) := by kernel_rfl
theorem fe118 (p : Params) (h0 h1 : Int) (k0 k1 : Tok) (v0 v1 : Value) (n : Nat) : findObj (Mine.hx.heap_39 p) 118 (some (dictOf [⟨h0, .str (Str.ofString "smtp_code") k0, v0⟩, ⟨h1, .str (Str.ofString "smtp_error") k1, v1⟩] n)) (Str.ofString "smtp_error") = some (.value v1) := by kernel_rfl
theorem rd130 (p : Params) : readsE (Mine.hx.heap_39 p) 130 = true := by kernel_rfl
theorem fc130 (p : Params) (h0 h1 : Int) (k0 k1 : Tok) (v0 v1 : Value) (n : Nat) : findObj (Mine.hx.heap_39 p) 130 (some (dictOf [⟨h0, .str (Str.ofString "smtp_code") k0, v0⟩, ⟨h1, .str (Str.ofString "smtp_error") k1, v1⟩] n)) (Str.ofString "smtp_code") = some (.value v0) := by kernel_rfl
theorem fe130 (p : Params) (h0 h1 : Int) (k0 k1 : Tok) (v0 v1 : Value) (n : Nat) : findObj (Mine.hx.heap_39 p) 130 (some (dictOf [⟨h0, .str (Str.ofString "smtp_code") k0, v0⟩, ⟨h1, .str (Str.ofString "smtp_error") k1, v1⟩] n)) (Str.ofString "smtp_error") = some (.value v1) := by kernel_rfl
theorem rd142 (p : Params) : readsE (Mine.hx.heap_39 p) 142 = true := by kernel_rfl
theorem fc142 (p : Params) (h0 h1 : Int) (k0 k1 : Tok) (v0 v1 : Value) (n : Nat) : findObj (Mine.hx.heap_39 p) 142 (some (dictOf [⟨h0, .str (Str.ofString "smtp_code") k0, v0⟩, ⟨h1, .str (Str.ofString "smtp_error") k1, v1⟩] n)) (Str.ofString "smtp_code") = some (.value v0) := by kernel_rfl
theorem fe142 (p : Params) (h0 h1 : Int) (k0 k1 : Tok) (v0 v1 : Value) (n : Nat) : findObj (Mine.hx.heap_39 p) 142 (some (dictOf [⟨h0, .str (Str.ofString "smtp_code") k0, v0⟩, ⟨h1, .str (Str.ofString "smtp_error") k1, v1⟩] n)) (Str.ofString "smtp_error") = some (.value v1) := by kernel_rfl
theorem rd154 (p : Params) : readsE (Mine.hx.heap_39 p) 154 = true := by kernel_rfl
theorem fc154 (p : Params) (h0 h1 : Int) (k0 k1 : Tok) (v0 v1 : Value) (n : Nat) : findObj (Mine.hx.heap_39 p) 154 (some (dictOf [⟨h0, .str (Str.ofString "smtp_code") k0, v0⟩, ⟨h1, .str (Str.ofString "smtp_error") k1, v1⟩] n)) (Str.ofString "smtp_code") = some (.value v0) := by kernel_rfl
theorem fe154 (p : Params) (h0 h1 : Int) (k0 k1 : Tok) (v0 v1 : Value) (n : Nat) : findObj (Mine.hx.heap_39 p) 154 (some (dictOf [⟨h0, .str (Str.ofString "smtp_code") k0, v0⟩, ⟨h1, .str (Str.ofString "smtp_error") k1, v1⟩] n)) (Str.ofString "smtp_error") = some (.value v1) := by kernel_rfl
theorem rd87 (p : Params) : readsE (Mine.hx.heap_39 p) 87 = true := by kernel_rfl
theorem rd106 (p : Params) : readsE (Mine.hx.heap_39 p) 106 = true := by kernel_rfl
theorem fc87 (p : Params) (h0 h1 h2 : Int) (k0 k1 k2 : Tok) (v0 v1 v2 : Value) (n : Nat) : findObj (Mine.hx.heap_39 p) 87 (some (dictOf [⟨h0, .str (Str.ofString "smtp_code") k0, v0⟩, ⟨h1, .str (Str.ofString "smtp_error") k1, v1⟩, ⟨h2, .str (Str.ofString "sender") k2, v2⟩] n)) (Str.ofString "smtp_code") = some (.value v0) := by kernel_rfl
theorem fe87 (p : Params) (h0 h1 h2 : Int) (k0 k1 k2 : Tok) (v0 v1 v2 : Value) (n : Nat) : findObj (Mine.hx.heap_39 p) 87 (some (dictOf [⟨h0, .str (Str.ofString "smtp_code") k0, v0⟩, ⟨h1, .str (Str.ofString "smtp_error") k1, v1⟩, ⟨h2, .str (Str.ofString "sender") k2, v2⟩] n)) (Str.ofString "smtp_error") = some (.value v1) := by kernel_rfl
theorem fs87 (p : Params) (h0 h1 h2 : Int) (k0 k1 k2 : Tok) (v0 v1 v2 : Value) (n : Nat) : findObj (Mine.hx.heap_39 p) 87 (some (dictOf [⟨h0, .str (Str.ofString "smtp_code") k0, v0⟩, ⟨h1, .str (Str.ofString "smtp_error") k1, v1⟩, ⟨h2, .str (Str.ofString "sender") k2, v2⟩] n)) (Str.ofString "sender") = some (.value v2) := by kernel_rfl
theorem fr106 (p : Params) (h0 : Int) (k0 : Tok) (v0 : Value) (n : Nat) : findObj (Mine.hx.heap_39 p) 106 (some (dictOf [⟨h0, .str (Str.ofString "recipients") k0, v0⟩] n)) (Str.ofString "recipients") = some (.value v0) := by kernel_rfl
end Mine
end
section
/-! ## M7c -/
open PySem PySem.W PySem.Calls PyProof.Rows
namespace Mine
structure Fl (R : Flow → Shared → Prop) (f : Flow) (s : Shared) : Prop where
  out : R f s
structure Er (R : Value → Shared → Prop) (e : Value) (s : Shared) : Prop where
  out : R e s
section
variable {w : World} {A : Around} {E : Value → Shared → Prop} {s : Shared} {env : Env}
theorem execs_one {M : Model} {st : Stmt} {Q : Flow → Shared → Prop} (h : wpAny M A (exec st env) Q E s) : wpAny M A (execs [st] env) Q E s := by
  rw [execs]
  refine wpAny_bind (wpAny_mono h (fun f s' hq => ?_) fun _ _ x => x)
  cases f with
  | next => rw [execs]; exact wpAny_pure hq
  | brk => exact wpAny_pure hq
  | cont => exact wpAny_pure hq
  | ret v => exact wpAny_pure hq
theorem handle_miss {e : Addr} {t : Expr} {c : Value} {nm : Option Str} {body : List Stmt} {pos : Pos} {rest : List ExceptHandler} {Q : Flow → Shared → Prop}
    (hev : ∀ (Q' : Value → Shared → Prop) (E' : Value → Shared → Prop), Q' c s → wpAny (model prog w) (A.mark (some (.ref e))) (eval t env) Q' E' s) (hm : Looks (model prog w) s.heap (excMatches (.ref e) c) false)
    (h : wpAny (model prog w) A (handleBy (.ref e) env rest) Q E s) : wpAny (model prog w) A (handleBy (.ref e) env (.ExceptHandler (some t) nm body pos :: rest)) Q E s :=
  wpAny_handleBy_cons (codeAny_handlers_test (hev _ _ (hm.here h))) (by intro q; cases q)
theorem handle_hit {e : Addr} {t : Expr} {c : Value} {b₀ : Stmt} {body : List Stmt} {pos : Pos} {rest : List ExceptHandler} {Q : Flow → Shared → Prop}
    (hev : ∀ (Q' : Value → Shared → Prop) (E' : Value → Shared → Prop), Q' c s → wpAny (model prog w) (A.mark (some (.ref e))) (eval t env) Q' E' s) (hm : Looks (model prog w) s.heap (excMatches (.ref e) c) true)
    (h : wpAny (model prog w) (A.mark (some (.ref e))) (setFlight (.ref e) none) (fun _ s₁ => wpAny (model prog w) (A.mark (some (.ref e))) (execs (b₀ :: body) env) Q (fun _ _ => False) s₁) (fun _ _ => False) s) :
    wpAny (model prog w) A (handleBy (.ref e) env (.ExceptHandler (some t) none (b₀ :: body) pos :: rest)) Q E s :=
  wpAny_handleBy_cons (codeAny_handlers_test (hev _ _ (hm.here (codeAny_handlers_suite (wpAny_mono h (fun _ _ h₁ => wpAny_mono h₁ (fun _ _ q => q) fun _ _ q => q.elim) fun _ _ q => q.elim))))) (by intro q; cases q)
theorem handle_as {e : Addr} {t : Expr} {c : Value} {n : Str} {b₀ : Stmt} {body : List Stmt} {pos : Pos} {rest : List ExceptHandler} {Q : Flow → Shared → Prop}
    (hev : ∀ (Q' : Value → Shared → Prop) (E' : Value → Shared → Prop), Q' c s → wpAny (model prog w) (A.mark (some (.ref e))) (eval t env) Q' E' s) (hm : Looks (model prog w) s.heap (excMatches (.ref e) c) true)
    (h : wpAny (model prog w) (A.mark (some (.ref e))) (setFlight (.ref e) none) (fun _ s₁ => wpAny (model prog w) (A.mark (some (.ref e))) (storeName env n (.ref e)) (fun _ s₂ =>
      wpAny (model prog w) (A.mark (some (.ref e))) (execs (b₀ :: body) env) (fun f s₃ => wpAny (model prog w) A (do bindName env n .none; unbindBehindTheSuite env n pos) (fun _ s₅ => Q f s₅) (fun _ _ => False) s₃) (fun _ _ => False) s₂) (fun _ _ => False) s₁) (fun _ _ => False) s) :
    wpAny (model prog w) A (handleBy (.ref e) env (.ExceptHandler (some t) (some n) (b₀ :: body) pos :: rest)) Q E s :=
  wpAny_handleBy_cons (codeAny_handlers_test (hev _ _ (hm.here (codeAny_handlers_suite_as (wpAny_mono h (fun _ _ h₁ => wpAny_mono h₁ (fun _ _ h₂ => wpAny_mono h₂ (fun _ _ q => wpAny_mono q (fun _ _ z => z) fun _ _ z => z.elim) fun _ _ q => q.elim) fun _ _ q => q.elim) fun _ _ q => q.elim))))) (by intro q; cases q)
end

/-- in a frame L over P₀, under the frame L₀ of the law: an exception is held here -/
structure Held (w : World) (P₀ : Heap) (L L₀ : Addr) (oL : Obj) (m : Str → Option Value) (env envL : Env) (x : Int) (e C : Addr) (od : Option Addr) (fl : Value) (P : Heap) (news : List (Addr × Obj)) (h : Heap) : Prop where
  fr : Fr P₀ L h m
  fly : Fly P [env, envL] e (.ref C) od fl h
  nw : ∀ p ∈ news, P.get? p.1 = some p.2 ∧ p.1 ≠ L ∧ P₀.get? p.1 = none
  sl : ∃ sl, h.get? L₀ = some { oL with slots := sl }
  st : P₀.StaysIn P
  eL : e ≠ L
  e0 : P₀.get? e = none
  is : ExcIs w news x (kindOf x) C od
section
variable {w : World} {A : Around} {E : Value → Shared → Prop} {s : Shared} {P₀ P h₀ h' : Heap} {L L₀ e C : Addr} {oL : Obj} {m : Str → Option Value} {env envL : Env} {x : Int} {od : Option Addr} {fl : Value} {news : List (Addr × Obj)}
theorem Held.on {fl' : Value} {h : Heap} (H : Held w P₀ L L₀ oL m env envL x e C od fl P news h) (hd : ∀ vs, oL.data ≠ .fields vs) (f : Fly P [env, envL] e (.ref C) od fl' h') (up : h.UpToSlots h') : Held w P₀ L L₀ oL m env envL x e C od fl' P news h' :=
  ⟨⟨up.ns H.fr.ns, fun b o q => f.stays b o (H.st b o q), H.fr.above⟩, f, H.nw, by
    obtain ⟨sl, q⟩ := H.sl
    obtain ⟨sl', q'⟩ := up L₀ _ q hd
    exact ⟨sl', q'⟩, H.st, H.eL, H.e0, H.is⟩
theorem Out.held (O : Out w h₀ [env, envL] x e C od P h' news) (F : Fr P₀ L h₀ m) (hf : env.frame = some L) (hfL : envL.frame = some L₀) (h0 : P₀.get? L₀ = none) (hL : h₀.get? L₀ = some oL) (hd : ∀ vs, oL.data ≠ .fields vs) :
    Held w P₀ L L₀ oL m env envL x e C od .none P news h' := by
  have hfr : [env, envL].filterMap (·.frame) = [L, L₀] := by simp [List.filterMap, hf, hfL]
  have st : P₀.StaysIn P := fun b o q => O.old b o (F.keep b o q) (by
    rw [hfr]
    intro hm
    rcases List.mem_cons.mp hm with z | z
    · rw [z] at q; exact absurd (Nat.lt_of_lt_of_le (Heap.lt_size q) F.above) (Nat.lt_irrefl _)
    · rw [List.mem_singleton.mp z, h0] at q; cases q)
  obtain ⟨oo, _, _, hLL, _⟩ := F.ns
  have nn : ∀ b, h₀.get? b = none → b ≠ L ∧ P₀.get? b = none := fun b q => ⟨fun z => (by rw [z, hLL] at q; cases q), new_up F q⟩
  exact ⟨⟨O.up.ns F.ns, fun b o q => O.fly.stays b o (st b o q), F.above⟩, O.fly, fun p hp => ⟨(O.nw p hp).1, nn _ (O.nw p hp).2⟩, by
    obtain ⟨sl, q⟩ := O.up L₀ _ hL hd
    exact ⟨sl, q⟩, st, (nn e O.new).1, (nn e O.new).2, O.is⟩
/-- the exception comes to a try -/
theorem held_try {hs : List ExceptHandler} {Q : Flow → Shared → Prop} {h : Heap} {tk : Nat} (H : Held w P₀ L L₀ oL m env envL x e C od .none P news h) (hf : env.frame = some L) (hd : ∀ vs, oL.data ≠ .fields vs) (hfr : A.frames = some [env, envL])
    (k : ∀ h', Held w P₀ L L₀ oL m env envL x e C od .none P news h' → wpAny (model prog w) A (handleBy (.ref e) env hs) Q E { s with heap := h', toks := tk }) :
    wpAny (model prog w) A (noteFrame (.ref e) env) (fun _ s₂ => wpAny (model prog w) A (setFlight (.ref e) none) (fun _ s₃ => wpAny (model prog w) A (handleBy (.ref e) env hs) Q E s₃) E s₂) E { s with heap := h, toks := tk } := by
  refine fly_next (s := { s with heap := h, toks := tk }) hfr hf H.fly fun h₁ f₁ up₁ => ?_
  have H₁ := H.on hd f₁ up₁
  refine fly_set (s := { s with heap := h₁, toks := tk }) (v := none) H₁.fly fun h₂ f₂ up₂ => ?_
  exact k h₂ (H₁.on hd f₂ up₂)
/-- no clause takes it: it comes to the try around, of the same frame -/
theorem held_on {hs : List ExceptHandler} {Q Q' : Flow → Shared → Prop} {E' : Value → Shared → Prop} {h : Heap} {tk : Nat} (H : Held w P₀ L L₀ oL m env envL x e C od .none P news h) (hf : env.frame = some L) (hd : ∀ vs, oL.data ≠ .fields vs)
    (hE : ∀ ev s', (wpAny (model prog w) A (noteFrame ev env) (fun _ s₂ => wpAny (model prog w) A (setFlight ev none) (fun _ s₃ => wpAny (model prog w) A (handleBy ev env hs) Q E s₃) E s₂) E s') → E' ev s')
    (k : ∀ h', Held w P₀ L L₀ oL m env envL x e C od .none P news h' → wpAny (model prog w) A (handleBy (.ref e) env hs) Q E { s with heap := h', toks := tk }) :
    wpAny (model prog w) A (handleBy (.ref e) env []) Q' E' { s with heap := h, toks := tk } := by
  refine wpAny_handleBy_nil ?_
  unfold PySem.passOn
  obtain ⟨oe, vs, T, oT, ts, he, hc, hdd, hv, h1, _⟩ := H.fly.tr
  refine wpAny_bind (wpAny_field he hv h1 ?_)
  rw [if_neg (by simp)]
  refine wpAny_bind ?_
  rw [hf]
  refine fly_set (s := { s with heap := h, toks := tk }) (v := some L) H.fly fun h₁ f₁ up₁ => ?_
  have H₁ := H.on hd f₁ up₁
  refine wpAny_throw (hE _ _ ?_)
  refine fly_again (s := { s with heap := h₁, toks := tk }) hf H₁.fly ?_
  refine fly_set (s := { s with heap := h₁, toks := tk }) (v := none) H₁.fly fun h₂ f₂ up₂ => ?_
  exact k h₂ (H₁.on hd f₂ up₂)
theorem Held.obj {h : Heap} (H : Held w P₀ L L₀ oL m env envL x e C od fl P news h) : ∃ vs sl, h.get? e = some ⟨.ref C, od, .fields vs, sl⟩ := by
  obtain ⟨⟨c, d, dt, sl⟩, vs, he, hc, hd, hv⟩ := H.fly.there
  dsimp only at hc hd hv
  subst hc hd hv
  exact ⟨vs, sl, he⟩
theorem Held.led {h : Heap} (H : Held w P₀ L L₀ oL m env envL x e C od fl P news h) (hne : L₀ ≠ L) (h0 : P₀.get? L₀ = none) : ∃ vs sl sl', News P₀ L h ((e, ⟨.ref C, od, .fields vs, sl⟩) :: (L₀, { oL with slots := sl' }) :: news) := by
  obtain ⟨vs, sl, he⟩ := H.obj
  obtain ⟨sl', q⟩ := H.sl
  refine ⟨vs, sl, sl', fun p hp => ?_⟩
  rcases List.mem_cons.mp hp with z | z
  · rw [z]; exact ⟨he, H.eL, H.e0⟩
  · rcases List.mem_cons.mp z with z | z
    · rw [z]; exact ⟨q, hne, h0⟩
    · exact ⟨H.fly.stays _ _ (H.nw p z).1, (H.nw p z).2⟩
end
end Mine
end
section
/-! ## M7d -/
open PySem PySem.W PySem.Calls PyProof.Rows
namespace Mine
section
variable {w : World} {A : Around} {E : Value → Shared → Prop} {s : Shared} {P₀ P : Heap} {L L₀ e C a : Addr} {oL : Obj} {m mg mb : Str → Option Value} {envL : Env} {x : Int} {od : Option Addr} {news : List (Addr × Obj)} {name : Str} {scope : Scope} {cd : Value}
  {p : Program} {loose : List Str} {mean : ExcName → Option Value} {K : Frag} {cn : Str} {np pos : Pos} {nm : Option Str} {body : List Stmt} {b₀ : Stmt} {rest : List ExceptHandler} {Q : Flow → Shared → Prop} {h : Heap} {tk : Nat} {D : Addr} {n : Str}
theorem hev_own (F : Fr P₀ L h m) (X : K.In P₀) (T : Top p loose mean mg mb P₀) (hns : nsIn K mainGlobals cn = some (some (.ref D))) (hk : scope.kind = .function) (hx : (envOf name scope L a cd).kindOf cn = some .globalImplicit) (hd : (cn == ("__debug__" : Str)) = false) {A' : Around} :
    ∀ (Q' : Value → Shared → Prop) (E' : Value → Shared → Prop), Q' (.ref D) { s with heap := h, toks := tk } → wpAny (model prog w) A' (eval (.Name cn np) (envOf name scope L a cd)) Q' E' { s with heap := h, toks := tk } :=
  fun _ _ hq => name_K (s := { s with heap := h, toks := tk }) F X (topRead_of T) hns hq hk hx hd
theorem miss_own (H : Held w P₀ L L₀ oL m (envOf name scope L a cd) envL x e C od .none P news h) (X : K.In P₀) (T : Top p loose mean mg mb P₀) (hns : nsIn K mainGlobals cn = some (some (.ref D))) (hD : excC K D = true) (hDc : (clsIn K D).isSome = true) (hs : mroIn K C (.ref D) = some false)
    (hk : scope.kind = .function) (hx : (envOf name scope L a cd).kindOf cn = some .globalImplicit) (hd : (cn == ("__debug__" : Str)) = false)
    (k : wpAny (model prog w) A (handleBy (.ref e) (envOf name scope L a cd) rest) Q E { s with heap := h, toks := tk }) :
    wpAny (model prog w) A (handleBy (.ref e) (envOf name scope L a cd) (.ExceptHandler (some (.Name cn np)) nm body pos :: rest)) Q E { s with heap := h, toks := tk } := by
  obtain ⟨vs, sl, he⟩ := H.obj
  exact handle_miss (hev_own H.fr X T hns hk hx hd) (looks_matches (X.keeps H.fr.keep) he rfl hD hDc hs) k
theorem hit_own (H : Held w P₀ L L₀ oL m (envOf name scope L a cd) envL x e C od .none P news h) (X : K.In P₀) (T : Top p loose mean mg mb P₀) (hns : nsIn K mainGlobals cn = some (some (.ref D))) (hD : excC K D = true) (hDc : (clsIn K D).isSome = true) (hs : mroIn K C (.ref D) = some true)
    (hdL : ∀ vs, oL.data ≠ .fields vs) (hne : L₀ ≠ L) (h0 : P₀.get? L₀ = none)
    (hk : scope.kind = .function) (hx : (envOf name scope L a cd).kindOf cn = some .globalImplicit) (hd : (cn == ("__debug__" : Str)) = false)
    (k : ∀ h' vs sl sl', Fr P₀ L h' m → News P₀ L h' ((e, ⟨.ref C, od, .fields vs, sl⟩) :: (L₀, { oL with slots := sl' }) :: news) → wpAny (model prog w) (A.mark (some (.ref e))) (execs (b₀ :: body) (envOf name scope L a cd)) Q (fun _ _ => False) { s with heap := h', toks := tk }) :
    wpAny (model prog w) A (handleBy (.ref e) (envOf name scope L a cd) (.ExceptHandler (some (.Name cn np)) none (b₀ :: body) pos :: rest)) Q E { s with heap := h, toks := tk } := by
  obtain ⟨vs, sl, he⟩ := H.obj
  refine handle_hit (hev_own H.fr X T hns hk hx hd) (looks_matches (X.keeps H.fr.keep) he rfl hD hDc hs) ?_
  refine fly_set (s := { s with heap := h, toks := tk }) (v := none) H.fly fun h₂ f₂ up₂ => ?_
  have H₂ := H.on hdL f₂ up₂
  obtain ⟨vs, sl, sl', N⟩ := H₂.led hne h0
  exact k h₂ vs sl sl' H₂.fr N
theorem hit_no (H : Held w P₀ L L₀ oL m (envOf name scope L a cd) envL x e C od .none P news h) (X : K.In P₀) (T : Top p loose mean mg mb P₀) (hns : nsIn K mainGlobals cn = some (some (.ref D))) (hD : excC K D = true) (hDc : (clsIn K D).isSome = true) (hs : mroIn K C (.ref D) = some true)
    (hdL : ∀ vs, oL.data ≠ .fields vs) (hne : L₀ ≠ L) (h0 : P₀.get? L₀ = none)
    (hk : scope.kind = .function) (hx : (envOf name scope L a cd).kindOf cn = some .globalImplicit) (hd : (cn == ("__debug__" : Str)) = false) (Z : Flow → List (Addr × Obj) → Prop)
    (k : ∀ h' vs sl sl', Fr P₀ L h' m → News P₀ L h' ((e, ⟨.ref C, od, .fields vs, sl⟩) :: (L₀, { oL with slots := sl' }) :: news) →
      wpAny (model prog w) (A.mark (some (.ref e))) (execs (b₀ :: body) (envOf name scope L a cd)) (Fl fun f s₃ => ∃ h₃ tk₃ m₃ nl, s₃ = { s with heap := h₃, toks := tk₃ } ∧ Fr P₀ L h₃ m₃ ∧ News P₀ L h₃ nl ∧ Z f nl) (fun _ _ => False) { s with heap := h', toks := tk })
    (q : ∀ f h₃ tk₃ m₃ nl, Fr P₀ L h₃ m₃ → News P₀ L h₃ nl → Z f nl → Q f { s with heap := h₃, toks := tk₃ }) :
    wpAny (model prog w) A (handleBy (.ref e) (envOf name scope L a cd) (.ExceptHandler (some (.Name cn np)) none (b₀ :: body) pos :: rest)) Q E { s with heap := h, toks := tk } :=
  hit_own H X T hns hD hDc hs hdL hne h0 hk hx hd fun h' vs sl sl' F N => wpAny_mono (k h' vs sl sl' F N) (fun f _ r => by
    obtain ⟨h₄, tk₄, m₄, nl, rfl, F₄, N₄, hz⟩ := r.out
    exact q f h₄ tk₄ m₄ nl F₄ N₄ hz) fun _ _ z => z
theorem as_core (H : Held w P₀ L L₀ oL m (envOf name scope L a cd) envL x e C od .none P news h) {t : Expr} {c : Value}
    (hev : ∀ (Q' : Value → Shared → Prop) (E' : Value → Shared → Prop), Q' c { s with heap := h, toks := tk } → wpAny (model prog w) (A.mark (some (.ref e))) (eval t (envOf name scope L a cd)) Q' E' { s with heap := h, toks := tk })
    (hm : Looks (model prog w) h (excMatches (.ref e) c) true)
    (hdL : ∀ vs, oL.data ≠ .fields vs) (hne : L₀ ≠ L) (h0 : P₀.get? L₀ = none)
    (hk : scope.kind = .function) (hl : (envOf name scope L a cd).kindOf n = some .local) (Z : Flow → List (Addr × Obj) → Prop)
    (k : ∀ h' tk' vs sl sl', Fr P₀ L h' (fun y => if y = n then some (.ref e) else m y) → News P₀ L h' ((e, ⟨.ref C, od, .fields vs, sl⟩) :: (L₀, { oL with slots := sl' }) :: news) →
      wpAny (model prog w) (A.mark (some (.ref e))) (execs (b₀ :: body) (envOf name scope L a cd)) (Fl fun f s₃ => ∃ h₃ tk₃ m₃ nl, s₃ = { s with heap := h₃, toks := tk₃ } ∧ Fr P₀ L h₃ m₃ ∧ News P₀ L h₃ nl ∧ Z f nl) (fun _ _ => False) { s with heap := h', toks := tk' })
    (q : ∀ f h₃ tk₃ m₃ nl, Fr P₀ L h₃ m₃ → News P₀ L h₃ nl → Z f nl → Q f { s with heap := h₃, toks := tk₃ }) :
    wpAny (model prog w) A (handleBy (.ref e) (envOf name scope L a cd) (.ExceptHandler (some t) (some n) (b₀ :: body) pos :: rest)) Q E { s with heap := h, toks := tk } := by
  refine handle_as hev hm ?_
  refine fly_set (s := { s with heap := h, toks := tk }) (v := none) H.fly fun h₂ f₂ up₂ => ?_
  have H₂ := H.on hdL f₂ up₂
  obtain ⟨vs, sl, sl', N⟩ := H₂.led hne h0
  refine stN (s := { s with heap := h₂, toks := tk }) H₂.fr N (fun h₃ F₃ N₃ => ?_) hk hl
  refine wpAny_mono (k h₃ _ vs sl sl' F₃ N₃) (fun f s₃ r => ?_) fun _ _ z => z
  obtain ⟨h₄, tk₄, m₄, nl, rfl, F₄, N₄, hz⟩ := r.out
  have hp : ((envOf name scope L a cd).scope.kind == .class || ((envOf name scope L a cd).scope.kind == .module && (envOf name scope L a cd).locals != (envOf name scope L a cd).globals)) = false := by
    show (scope.kind == .class || (scope.kind == .module && L != mainGlobals)) = false; rw [hk]; rfl
  exact wpAny_nameGoes hl F₄.ns hp fun h₅ m₅ hn hs => q f h₅ _ m₅ nl (F₄.set hn hs) (N₄.set hs) hz
theorem hit_as (H : Held w P₀ L L₀ oL m (envOf name scope L a cd) envL x e C od .none P news h) (X : K.In P₀) (T : Top p loose mean mg mb P₀) (hns : nsIn K mainGlobals cn = some (some (.ref D))) (hD : excC K D = true) (hDc : (clsIn K D).isSome = true) (hs : mroIn K C (.ref D) = some true)
    (hdL : ∀ vs, oL.data ≠ .fields vs) (hne : L₀ ≠ L) (h0 : P₀.get? L₀ = none)
    (hk : scope.kind = .function) (hx : (envOf name scope L a cd).kindOf cn = some .globalImplicit) (hd : (cn == ("__debug__" : Str)) = false) (hl : (envOf name scope L a cd).kindOf n = some .local) (Z : Flow → List (Addr × Obj) → Prop)
    (k : ∀ h' tk' vs sl sl', Fr P₀ L h' (fun y => if y = n then some (.ref e) else m y) → News P₀ L h' ((e, ⟨.ref C, od, .fields vs, sl⟩) :: (L₀, { oL with slots := sl' }) :: news) →
      wpAny (model prog w) (A.mark (some (.ref e))) (execs (b₀ :: body) (envOf name scope L a cd)) (Fl fun f s₃ => ∃ h₃ tk₃ m₃ nl, s₃ = { s with heap := h₃, toks := tk₃ } ∧ Fr P₀ L h₃ m₃ ∧ News P₀ L h₃ nl ∧ Z f nl) (fun _ _ => False) { s with heap := h', toks := tk' })
    (q : ∀ f h₃ tk₃ m₃ nl, Fr P₀ L h₃ m₃ → News P₀ L h₃ nl → Z f nl → Q f { s with heap := h₃, toks := tk₃ }) :
    wpAny (model prog w) A (handleBy (.ref e) (envOf name scope L a cd) (.ExceptHandler (some (.Name cn np)) (some n) (b₀ :: body) pos :: rest)) Q E { s with heap := h, toks := tk } := by
  obtain ⟨vs, sl, he⟩ := H.obj
  exact as_core H (hev_own H.fr X T hns hk hx hd) (looks_matches (X.keeps H.fr.keep) he rfl hD hDc hs) hdL hne h0 hk hl Z k q
theorem Held.apart {fl : Value} {env : Env} (H : Held w P₀ L L₀ oL m env envL x e C od fl P news h) (hfL : envL.frame = some L₀) : ∀ p ∈ news, p.1 ≠ L₀ := by
  intro p hp z
  have := (H.nw p hp).1
  rw [z, (H.fly.frames.mem (List.mem_filterMap.mpr ⟨envL, .tail _ (.head _), hfL⟩)).1] at this
  cases this
theorem inst_exc {h₀ : Heap} {nl : List (Addr × Obj)} {dx : Addr} {vs : Array Value} {sl : Array (Option Value)} {o : Obj} (N : News h₀ L h nl) (h1 : (e, (⟨.ref C, some dx, .fields vs, sl⟩ : Obj)) ∈ nl) (h2 : (dx, o) ∈ nl) : PySem.W.InstAt h e ⟨.ref C, some dx, .fields vs, sl⟩ C (some o) :=
  ⟨(N _ h1).1, rfl, rfl, (N _ h2).1⟩
theorem ne_new {h₀ h' : Heap} {nl nw : List (Addr × Obj)} {b : Addr} {o : Obj} (N : News h₀ L h nl) (hm : (b, o) ∈ nl) (hn : ∀ p ∈ nw, h'.get? p.1 = some p.2 ∧ h.get? p.1 = none) : ∀ p ∈ nw, p.1 ≠ b := fun p hp z => by
  have := (hn p hp).2
  rw [z, (N _ hm).1] at this
  cases this
end
end Mine
end
section
/-! ## M8f -/
open PySem PySem.W PySem.Calls PyProof.Rows
namespace Mine
theorem cls118 (p : Params) : (clsIn (Mine.hx.heap_39 p) 118).isSome = true := by kernel_rfl
theorem cls87 (p : Params) : (clsIn (Mine.hx.heap_39 p) 87).isSome = true := by kernel_rfl
theorem cls68 (p : Params) : (clsIn (Mine.hx.heap_39 p) 68).isSome = true := by kernel_rfl
theorem cls49 (p : Params) : (clsIn (Mine.hx.heap_39 p) 49).isSome = true := by kernel_rfl
theorem cls106 (p : Params) : (clsIn (Mine.hx.heap_39 p) 106).isSome = true := by kernel_rfl
theorem cls24 (p : Params) : (clsIn (Mine.hx.heap_39 p) 24).isSome = true := by kernel_rfl
theorem exc68 (p : Params) : excC (Mine.hx.heap_39 p) 68 = true := by kernel_rfl
theorem exc24 (p : Params) : excC (Mine.hx.heap_39 p) 24 = true := by kernel_rfl
theorem ns118 (p : Params) : nsIn (Mine.hx.heap_39 p) mainGlobals (Str.ofString "SMTPDataError") = some (some (.ref 118)) := by kernel_rfl
theorem ns87 (p : Params) : nsIn (Mine.hx.heap_39 p) mainGlobals (Str.ofString "SMTPSenderRefused") = some (some (.ref 87)) := by kernel_rfl
theorem ns68 (p : Params) : nsIn (Mine.hx.heap_39 p) mainGlobals (Str.ofString "SMTPResponseException") = some (some (.ref 68)) := by kernel_rfl
theorem ns49 (p : Params) : nsIn (Mine.hx.heap_39 p) mainGlobals (Str.ofString "SMTPServerDisconnected") = some (some (.ref 49)) := by kernel_rfl
theorem ns106 (p : Params) : nsIn (Mine.hx.heap_39 p) mainGlobals (Str.ofString "SMTPRecipientsRefused") = some (some (.ref 106)) := by kernel_rfl
theorem ns24 (p : Params) : nsIn (Mine.hx.heap_39 p) mainGlobals (Str.ofString "SMTPException") = some (some (.ref 24)) := by kernel_rfl
end Mine
end
section
/-! ## M8 -/
open PySem PySem.W PySem.Calls PyProof.Rows
namespace Mine
/-- what a call made by the law leaves: all but the law's own frame as it was, that one up to its slots -/
structure Back (B h : Heap) (L₀ : Addr) (oL : Obj) (h' : Heap) (news : List (Addr × Obj)) : Prop where
  keep : ∀ b o, h.get? b = some o → b ≠ L₀ → h'.get? b = some o
  fr : ∃ sl, h'.get? L₀ = some { oL with slots := sl }
  nw : ∀ p ∈ news, h'.get? p.1 = some p.2 ∧ B.get? p.1 = none ∧ p.1 ≠ L₀
  fresh : ∀ p ∈ news, h.get? p.1 = none
/-- the heap without the law's frame -/
theorem hidden (h : Heap) (L₀ : Addr) : ∃ P₀ : Heap, P₀.StaysIn h ∧ P₀.get? L₀ = none ∧ (∀ b o, h.get? b = some o → b ≠ L₀ → P₀.get? b = some o) ∧ P₀.objs.size = h.objs.size :=
  ⟨hideAll h [L₀], fun _ _ q => of_hideAll _ q, hideAll_none _ (.head _), fun b o q n => hideAll_get _ q fun z => n (List.mem_singleton.mp z), hideAll_size _ _⟩
theorem none_down {B P : Heap} {b : Addr} (k : B.StaysIn P) (h : P.get? b = none) : B.get? b = none := by
  cases q : B.get? b with
  | none => rfl
  | some o => have := k _ _ q; rw [h] at this; cases this
theorem back_of {B P₀ h h' : Heap} {L L₀ : Addr} {oL : Obj} {m : Str → Option Value} {nl nl' : List (Addr × Obj)} {sl : Array (Option Value)} (hB : B.StaysIn P₀) (hP : ∀ b o, h.get? b = some o → b ≠ L₀ → P₀.get? b = some o) (F : Fr P₀ L h' m) (N : News P₀ L h' nl)
    (hL : (L₀, { oL with slots := sl }) ∈ nl) (hn : ∀ p ∈ nl', p ∈ nl ∧ p.1 ≠ L₀) : Back B h L₀ oL h' nl' :=
  ⟨fun b o q n => F.keep b o (hP b o q n), ⟨sl, (N _ hL).1⟩, fun p hp => ⟨(N p (hn p hp).1).1, none_down hB (N p (hn p hp).1).2.2, (hn p hp).2⟩, fun p hp => by
    cases q : h.get? p.1 with
    | none => rfl
    | some o => have := hP _ _ q (hn p hp).2; rw [(N p (hn p hp).1).2.2] at this; cases this⟩
def NarZ (w : World) (x : Int) (L₀ : Addr) (oL : Obj) (f : Flow) (nl : List (Addr × Obj)) : Prop := ∃ l nl' sl, f = .ret (.ref l) ∧ (∀ p ∈ nl', p ∈ nl ∧ p.1 ≠ L₀) ∧ (L₀, { oL with slots := sl }) ∈ nl ∧ AccIs w nl' x (kindOf x) l
theorem wp_split {M : Model} {A : Around} {env : Env} {b : List Stmt} {s : Shared} {Q : Flow → Shared → Prop} {E : Value → Shared → Prop} (R1 : Flow → Shared → Prop) (R2 : Env → Value → Shared → Prop) (h : wpAny M A (execs b env) (Fl R1) (Er (R2 env)) s) (q : ∀ f s', R1 f s' → Q f s') (e : ∀ ev s', R2 env ev s' → E ev s') : wpAny M A (execs b env) Q E s :=
  wpAny_mono h (fun f s' z => q f s' z.out) fun ev s' z => e ev s' z.out
theorem frames2 {P₀ h : Heap} {L L₀ a : Addr} {oL : Obj} {m : Str → Option Value} {name : Str} {scope : Scope} {cd : Value} {envL : Env} (F : Fr P₀ L h m) (hk : scope.kind = .function) (hkL : envL.scope.kind ≠ .module) (hfL : envL.frame = some L₀) (h0 : P₀.get? L₀ = none) (q : h.get? L₀ = some oL) (hd : ∀ vs, oL.data ≠ .fields vs) :
    h.FunFrames P₀ [envOf name scope L a cd, envL] :=
  .cons (by show scope.kind ≠ .module; rw [hk]; decide) rfl F.ns (by
    cases q : P₀.get? L with
    | none => rfl
    | some o => exact absurd (Nat.lt_of_lt_of_le (Heap.lt_size q) F.above) (Nat.lt_irrefl _)) ⟨hkL, ⟨L₀, oL, hfL, h0, q, hd⟩, trivial⟩
set_option maxRecDepth 100000 in
set_option maxHeartbeats 8000000 in
theorem narrow_spec (w : World) {mg mb : Str → Option Value} {mean : ExcName → Option Value} {s : Shared} {envL : Env} {B : Heap} {L₀ : Addr} {oL : Obj}
    (T : Top Mine.hx.view_39 (looseW Mine.hx.view_39 []) mean mg mb B) (X : (Mine.hx.heap_39 w.params).In B) (hB : B.StaysIn s.heap) (hkL : envL.scope.kind ≠ .module) (hfL : envL.frame = some L₀) (hBL : B.get? L₀ = none) (hoL : s.heap.get? L₀ = some oL) (hdL : ∀ vs, oL.data ≠ .fields vs)
    {x : Int} {t : Tok} (hx0 : 0 ≤ x) (hx1 : x < 1000003) {Q : Value → Shared → Prop} {E : Value → Shared → Prop}
    (hQ : ∀ r h' tk news, Back B s.heap L₀ oL h' news → AccIs w news x (kindOf x) r → Q (.ref r) { s with heap := h', toks := tk }) :
    wpAny (model prog w) (AA 430 140 [envL]) (call (.ref 184) [.int x t] []) Q E s := by
  have hfill : (fun (_ : OpenLaw) (_ : Params → Frag) => True) PySem.Challenge.rw_mj0335_01 Mine.hx.heap_39 := by k_fill; trivial
  obtain ⟨P₀, hPs, hP0, hP, hPz⟩ := hidden s.heap L₀
  have hBP : B.StaysIn P₀ := fun b o q => hP b o (hB b o q) fun z => by rw [z, hBL] at q; cases q
  refine' enter (K := Mine.hx.heap_39 w.params) [(Str.ofString "x", .int x t)] (X.keeps hB) (T.keeps hB).nolimit ?k1 ?k2 ?k3 ?k4 ?k5 ?k6 ?k7 ?k8 ?k9 ?_
  case k1 => k_is
  case k2 => k_is
  case k3 => exact (by decide : 430 < 1000)
  case k4 => exact rfl
  case k5 => exact locs rfl
  case k6 => decide
  case k7 => exact rfl
  case k8 => exact rfl
  case k9 => exact rfl
  intro L h₁ hL hns hk₁
  have F : Fr P₀ L h₁ _ := ⟨hns, fun b o q => hk₁ b o (hPs b o q), by rw [hL, hPz]; exact Nat.le_refl _⟩
  have hne : L₀ ≠ L := by rw [hL]; exact Nat.ne_of_lt (Heap.lt_size hoL)
  have N : News P₀ L h₁ [(L₀, oL)] := fun p hp => by rw [List.mem_singleton.mp hp]; exact ⟨hk₁ _ _ hoL, hne, hP0⟩
  have X0 : (Mine.hx.heap_39 w.params).In P₀ := X.keeps hBP
  have T0 := T.keeps hBP
  clear hns hk₁ X T
  refine execs_one ?_
  refine wpAny_Try_except ?_
  refine execs_one ?_
  refine wpAny_Try_except ?_
  refine wp_split (fun f s' => ∃ l h' tk nl, f = .ret (.ref l) ∧ s' = { s with heap := h', toks := tk } ∧ Fr P₀ L h' (fun y => [(Str.ofString "x", Value.int x t)].reverse.lookup y) ∧ News P₀ L h' (nl ++ [(L₀, oL)]) ∧ (∀ p ∈ nl, p.1 ≠ L₀) ∧ AccIs w nl x (kindOf x) l)
    (fun env ev s' => ∃ e h' tk P C od news h₀, ev = .ref e ∧ s' = { s with heap := h', toks := tk } ∧ Out w h₀ [env, envL] x e C od P h' news ∧ Fr P₀ L h₀ (fun y => [(Str.ofString "x", Value.int x t)].reverse.lookup y) ∧ h₀.get? L₀ = some oL) ?body ?q ?e
  case body =>
    k_steps
    (rename Fr _ _ _ _ => kF)
    (rename News _ _ _ _ => kN)
    (rename Top _ _ _ _ _ _ => kT)
    (rename Frag.In _ _ => kX)
    refine ⟨weaken (send_spec _ (Top.keeps kT kF.keep) (Frag.In.keeps kX kF.keep) (frames2 kF rfl hkL hfL hP0 (kN _ (List.Mem.head _)).1 hdL) hx0 hx1 ⟨fun ks' rd' h' tk' nw' kp' hn' hR' => ?_⟩ ?ke) rfl (by decide : 431 ≤ 440) (.inr rfl) (.inr rfl) (by decide : 143 ≤ 170)⟩
    case ke => exact fun e' h' tk' P' C' od' nw' O' => ⟨⟨_, _, _, _, _, _, _, _, rfl, rfl, O', kF, (kN _ (List.Mem.head _)).1⟩⟩
    have hz' := ne_new kN (List.Mem.head _) hn'
    have N' := news_on kF kN kp' hn'
    have F' := fr_on kF kp'
    clear kF kN
    k_steps
    (rename Fr _ _ _ _ => F2)
    (rename News _ _ _ _ => N2)
    (rename kindOf x = Kind.sent => hks)
    (rename RefD _ _ _ _ => hR)
    (rename ∀ (p : Addr × Obj), p ∈ _ → p.1 ≠ L₀ => hz)
    (rename ∀ (p : Addr × Obj), p ∈ _ → p.1 < _ => hlt)
    exact ⟨_, _, _, (_, _) :: _, rfl, rfl, F2, N2, fun p hp => (List.mem_cons.mp hp).elim (fun q => by rw [q]; exact Nat.ne_of_gt (hlt (L₀, oL) (List.mem_append_right _ (.head _)))) (hz p), by rw [hks]; exact .sent (.head _) (hR.mono fun p hp => .tail _ hp)⟩
  case q =>
    rintro f s' ⟨l, h', tk, nl, rfl, rfl, F2, N2, hz, hA⟩
    exact hQ _ _ _ _ (back_of (sl := oL.slots) hBP hP F2 N2 (List.mem_append_right _ (.head _)) fun p hp => ⟨List.mem_append_left _ hp, hz p hp⟩) hA
  case e =>
    rintro ev s' ⟨e, h', tk, P, C, od, news, h₀, rfl, rfl, O, F2, hL0⟩
    have H := O.held F2 rfl hfL hP0 hL0 hdL
    clear O
    refine held_try H rfl hdL rfl fun h₂ H => ?_
    have hap := H.apart hfL
    have hI := H.is
    generalize hk : kindOf x = k at hI
    cases hI with
    | data hdx =>
      refine hit_as H X0 T0 (ns118 _) (exc118 _) (cls118 _) (by kernel_rfl) hdL hne hP0 rfl rfl (by decide) rfl (NarZ w x L₀ oL) ?_ ?_
      · intro h3 tk3 vs sl sl' F3 N3
        replace N3 := news_head N3 (.tail _ (.tail _ hdx))
        k_steps
        (rename Fr _ _ _ _ => kF)
        (rename News _ _ _ _ => kN)
        (rename Frag.In _ _ => kX)
        refine ⟨get_exc (kX.keeps kF.keep) (inst_exc kN (.tail _ (.head _)) (.head _)) (rd118 _) (fc118 _ _ _ _ _ _ _ _) rfl ?_⟩
        k_steps
        (rename Fr _ _ _ _ => kF)
        (rename News _ _ _ _ => kN)
        (rename Frag.In _ _ => kX)
        refine ⟨get_exc (kX.keeps kF.keep) (inst_exc kN (.tail _ (.head _)) (.head _)) (rd118 _) (fe118 _ _ _ _ _ _ _ _) rfl ?_⟩
        k_steps
        (rename Fr _ _ _ _ => F4)
        (rename News _ _ _ _ => N4)
        (rename _ ∧ _ => hlt)
        exact ⟨_, _, _, _, rfl, F4, N4, _, (_, _) :: news, _, rfl, fun p hp => (List.mem_cons.mp hp).elim (fun q => by rw [q]; exact ⟨.head _, Nat.ne_of_gt hlt.2.2.1⟩) fun q => ⟨.tail _ (.tail _ (.tail _ (.tail _ q))), hap p q⟩, .tail _ (.tail _ (.tail _ (.head _))), by rw [hk]; exact .data (.head _)⟩
      · rintro f h3 tk3 m3 nl F3 N3 ⟨l, nl', sl, rfl, hn, hL, hA⟩
        exact hQ _ _ _ _ (back_of hBP hP F3 N3 hL hn) hA
    | sender hdx =>
      refine miss_own H X0 T0 (ns118 _) (exc118 _) (cls118 _) (by kernel_rfl) rfl rfl (by decide) ?_
      refine hit_as H X0 T0 (ns87 _) (exc87 _) (cls87 _) (by kernel_rfl) hdL hne hP0 rfl rfl (by decide) rfl (NarZ w x L₀ oL) ?_ ?_
      · intro h3 tk3 vs sl sl' F3 N3
        replace N3 := news_head N3 (.tail _ (.tail _ hdx))
        k_steps
        (rename Fr _ _ _ _ => kF)
        (rename News _ _ _ _ => kN)
        (rename Frag.In _ _ => kX)
        refine ⟨get_exc (kX.keeps kF.keep) (inst_exc kN (.tail _ (.head _)) (.head _)) (rd87 _) (fc87 _ _ _ _ _ _ _ _ _ _ _) rfl ?_⟩
        k_steps
        (rename Fr _ _ _ _ => kF)
        (rename News _ _ _ _ => kN)
        (rename Frag.In _ _ => kX)
        refine ⟨get_exc (kX.keeps kF.keep) (inst_exc kN (.tail _ (.head _)) (.head _)) (rd87 _) (fe87 _ _ _ _ _ _ _ _ _ _ _) rfl ?_⟩
        k_steps
        (rename Fr _ _ _ _ => kF)
        (rename News _ _ _ _ => kN)
        (rename Frag.In _ _ => kX)
        refine ⟨get_exc (kX.keeps kF.keep) (inst_exc kN (.tail _ (.head _)) (.head _)) (rd87 _) (fs87 _ _ _ _ _ _ _ _ _ _ _) rfl ?_⟩
        k_steps
        (rename Fr _ _ _ _ => F4)
        (rename News _ _ _ _ => N4)
        (rename _ ∧ _ => hlt)
        exact ⟨_, _, _, _, rfl, F4, N4, _, (_, _) :: news, _, rfl, fun p hp => (List.mem_cons.mp hp).elim (fun q => by rw [q]; exact ⟨.head _, Nat.ne_of_gt hlt.2.2.1⟩) fun q => ⟨.tail _ (.tail _ (.tail _ (.tail _ q))), hap p q⟩, .tail _ (.tail _ (.tail _ (.head _))), by rw [hk]; exact .sender (.head _)⟩
      · rintro f h3 tk3 m3 nl F3 N3 ⟨l, nl', sl, rfl, hn, hL, hA⟩
        exact hQ _ _ _ _ (back_of hBP hP F3 N3 hL hn) hA
    | helo hdx =>
      refine miss_own H X0 T0 (ns118 _) (exc118 _) (cls118 _) (by kernel_rfl) rfl rfl (by decide) ?_
      refine miss_own H X0 T0 (ns87 _) (exc87 _) (cls87 _) (by kernel_rfl) rfl rfl (by decide) ?_
      refine held_on (E := _) H rfl hdL (fun _ _ z => z) fun h₃ H => ?_
      refine hit_as H X0 T0 (ns68 _) (exc68 _) (cls68 _) (by kernel_rfl) hdL hne hP0 rfl rfl (by decide) rfl (NarZ w x L₀ oL) ?_ ?_
      · intro h3 tk3 vs sl sl' F3 N3
        replace N3 := news_head N3 (.tail _ (.tail _ hdx))
        k_steps
        (rename Fr _ _ _ _ => kF)
        (rename News _ _ _ _ => kN)
        (rename Frag.In _ _ => kX)
        refine ⟨get_exc (kX.keeps kF.keep) (inst_exc kN (.tail _ (.head _)) (.head _)) (rd142 _) (fc142 _ _ _ _ _ _ _ _) rfl ?_⟩
        k_steps
        (rename Fr _ _ _ _ => kF)
        (rename News _ _ _ _ => kN)
        (rename Frag.In _ _ => kX)
        refine ⟨get_exc (kX.keeps kF.keep) (inst_exc kN (.tail _ (.head _)) (.head _)) (rd142 _) (fe142 _ _ _ _ _ _ _ _) rfl ?_⟩
        k_steps
        (rename Fr _ _ _ _ => F4)
        (rename News _ _ _ _ => N4)
        (rename _ ∧ _ => hlt)
        exact ⟨_, _, _, _, rfl, F4, N4, _, (_, _) :: news, _, rfl, fun p hp => (List.mem_cons.mp hp).elim (fun q => by rw [q]; exact ⟨.head _, Nat.ne_of_gt hlt.2.2.1⟩) fun q => ⟨.tail _ (.tail _ (.tail _ (.tail _ q))), hap p q⟩, .tail _ (.tail _ (.tail _ (.head _))), by rw [hk]; exact .helo (.head _)⟩
      · rintro f h3 tk3 m3 nl F3 N3 ⟨l, nl', sl, rfl, hn, hL, hA⟩
        exact hQ _ _ _ _ (back_of hBP hP F3 N3 hL hn) hA
    | conn hdx =>
      refine miss_own H X0 T0 (ns118 _) (exc118 _) (cls118 _) (by kernel_rfl) rfl rfl (by decide) ?_
      refine miss_own H X0 T0 (ns87 _) (exc87 _) (cls87 _) (by kernel_rfl) rfl rfl (by decide) ?_
      refine held_on (E := _) H rfl hdL (fun _ _ z => z) fun h₃ H => ?_
      refine hit_as H X0 T0 (ns68 _) (exc68 _) (cls68 _) (by kernel_rfl) hdL hne hP0 rfl rfl (by decide) rfl (NarZ w x L₀ oL) ?_ ?_
      · intro h3 tk3 vs sl sl' F3 N3
        replace N3 := news_head N3 (.tail _ (.tail _ hdx))
        k_steps
        (rename Fr _ _ _ _ => kF)
        (rename News _ _ _ _ => kN)
        (rename Frag.In _ _ => kX)
        refine ⟨get_exc (kX.keeps kF.keep) (inst_exc kN (.tail _ (.head _)) (.head _)) (rd130 _) (fc130 _ _ _ _ _ _ _ _) rfl ?_⟩
        k_steps
        (rename Fr _ _ _ _ => kF)
        (rename News _ _ _ _ => kN)
        (rename Frag.In _ _ => kX)
        refine ⟨get_exc (kX.keeps kF.keep) (inst_exc kN (.tail _ (.head _)) (.head _)) (rd130 _) (fe130 _ _ _ _ _ _ _ _) rfl ?_⟩
        k_steps
        (rename Fr _ _ _ _ => F4)
        (rename News _ _ _ _ => N4)
        (rename _ ∧ _ => hlt)
        exact ⟨_, _, _, _, rfl, F4, N4, _, (_, _) :: news, _, rfl, fun p hp => (List.mem_cons.mp hp).elim (fun q => by rw [q]; exact ⟨.head _, Nat.ne_of_gt hlt.2.2.1⟩) fun q => ⟨.tail _ (.tail _ (.tail _ (.tail _ q))), hap p q⟩, .tail _ (.tail _ (.tail _ (.head _))), by rw [hk]; exact .conn (.head _)⟩
      · rintro f h3 tk3 m3 nl F3 N3 ⟨l, nl', sl, rfl, hn, hL, hA⟩
        exact hQ _ _ _ _ (back_of hBP hP F3 N3 hL hn) hA
    | auth hdx =>
      refine miss_own H X0 T0 (ns118 _) (exc118 _) (cls118 _) (by kernel_rfl) rfl rfl (by decide) ?_
      refine miss_own H X0 T0 (ns87 _) (exc87 _) (cls87 _) (by kernel_rfl) rfl rfl (by decide) ?_
      refine held_on (E := _) H rfl hdL (fun _ _ z => z) fun h₃ H => ?_
      refine hit_as H X0 T0 (ns68 _) (exc68 _) (cls68 _) (by kernel_rfl) hdL hne hP0 rfl rfl (by decide) rfl (NarZ w x L₀ oL) ?_ ?_
      · intro h3 tk3 vs sl sl' F3 N3
        replace N3 := news_head N3 (.tail _ (.tail _ hdx))
        k_steps
        (rename Fr _ _ _ _ => kF)
        (rename News _ _ _ _ => kN)
        (rename Frag.In _ _ => kX)
        refine ⟨get_exc (kX.keeps kF.keep) (inst_exc kN (.tail _ (.head _)) (.head _)) (rd154 _) (fc154 _ _ _ _ _ _ _ _) rfl ?_⟩
        k_steps
        (rename Fr _ _ _ _ => kF)
        (rename News _ _ _ _ => kN)
        (rename Frag.In _ _ => kX)
        refine ⟨get_exc (kX.keeps kF.keep) (inst_exc kN (.tail _ (.head _)) (.head _)) (rd154 _) (fe154 _ _ _ _ _ _ _ _) rfl ?_⟩
        k_steps
        (rename Fr _ _ _ _ => F4)
        (rename News _ _ _ _ => N4)
        (rename _ ∧ _ => hlt)
        exact ⟨_, _, _, _, rfl, F4, N4, _, (_, _) :: news, _, rfl, fun p hp => (List.mem_cons.mp hp).elim (fun q => by rw [q]; exact ⟨.head _, Nat.ne_of_gt hlt.2.2.1⟩) fun q => ⟨.tail _ (.tail _ (.tail _ (.tail _ q))), hap p q⟩, .tail _ (.tail _ (.tail _ (.head _))), by rw [hk]; exact .auth (.head _)⟩
      · rintro f h3 tk3 m3 nl F3 N3 ⟨l, nl', sl, rfl, hn, hL, hA⟩
        exact hQ _ _ _ _ (back_of hBP hP F3 N3 hL hn) hA
    | gone =>
      refine miss_own H X0 T0 (ns118 _) (exc118 _) (cls118 _) (by kernel_rfl) rfl rfl (by decide) ?_
      refine miss_own H X0 T0 (ns87 _) (exc87 _) (cls87 _) (by kernel_rfl) rfl rfl (by decide) ?_
      refine held_on (E := _) H rfl hdL (fun _ _ z => z) fun h₃ H => ?_
      refine miss_own H X0 T0 (ns68 _) (exc68 _) (cls68 _) (by kernel_rfl) rfl rfl (by decide) ?_
      refine hit_no H X0 T0 (ns49 _) (exc49 _) (cls49 _) (by kernel_rfl) hdL hne hP0 rfl rfl (by decide) (NarZ w x L₀ oL) ?_ ?_
      · intro h3 vs sl sl' F3 N3
        k_steps
        (rename Fr _ _ _ _ => F4)
        (rename News _ _ _ _ => N4)
        (rename _ ∧ _ => hlt)
        exact ⟨_, _, _, _, rfl, F4, N4, _, (_, _) :: news, _, rfl, fun p hp => (List.mem_cons.mp hp).elim (fun q => by rw [q]; exact ⟨.head _, Nat.ne_of_gt hlt.2.1⟩) fun q => ⟨.tail _ (.tail _ (.tail _ q)), hap p q⟩, .tail _ (.tail _ (.head _)), by rw [hk]; exact .gone (.head _)⟩
      · rintro f h3 tk3 m3 nl F3 N3 ⟨l, nl', sl, rfl, hn, hL, hA⟩
        exact hQ _ _ _ _ (back_of hBP hP F3 N3 hL hn) hA
    | line =>
      refine miss_own H X0 T0 (ns118 _) (exc118 _) (cls118 _) (by kernel_rfl) rfl rfl (by decide) ?_
      refine miss_own H X0 T0 (ns87 _) (exc87 _) (cls87 _) (by kernel_rfl) rfl rfl (by decide) ?_
      refine held_on (E := _) H rfl hdL (fun _ _ z => z) fun h₃ H => ?_
      refine miss_own H X0 T0 (ns68 _) (exc68 _) (cls68 _) (by kernel_rfl) rfl rfl (by decide) ?_
      refine miss_own H X0 T0 (ns49 _) (exc49 _) (cls49 _) (by kernel_rfl) rfl rfl (by decide) ?_
      refine miss_own H X0 T0 (ns106 _) (exc106 _) (cls106 _) (by kernel_rfl) rfl rfl (by decide) ?_
      refine hit_no H X0 T0 (ns24 _) (exc24 _) (cls24 _) (by kernel_rfl) hdL hne hP0 rfl rfl (by decide) (NarZ w x L₀ oL) ?_ ?_
      · intro h3 vs sl sl' F3 N3
        k_steps
        (rename Fr _ _ _ _ => F4)
        (rename News _ _ _ _ => N4)
        (rename _ ∧ _ => hlt)
        exact ⟨_, _, _, _, rfl, F4, N4, _, (_, _) :: news, _, rfl, fun p hp => (List.mem_cons.mp hp).elim (fun q => by rw [q]; exact ⟨.head _, Nat.ne_of_gt hlt.2.1⟩) fun q => ⟨.tail _ (.tail _ (.tail _ q)), hap p q⟩, .tail _ (.tail _ (.head _)), by rw [hk]; exact .line (.head _)⟩
      · rintro f h3 tk3 m3 nl F3 N3 ⟨l, nl', sl, rfl, hn, hL, hA⟩
        exact hQ _ _ _ _ (back_of hBP hP F3 N3 hL hn) hA
    | nobody hdx hR =>
      refine miss_own H X0 T0 (ns118 _) (exc118 _) (cls118 _) (by kernel_rfl) rfl rfl (by decide) ?_
      refine miss_own H X0 T0 (ns87 _) (exc87 _) (cls87 _) (by kernel_rfl) rfl rfl (by decide) ?_
      refine held_on (E := _) H rfl hdL (fun _ _ z => z) fun h₃ H => ?_
      refine miss_own H X0 T0 (ns68 _) (exc68 _) (cls68 _) (by kernel_rfl) rfl rfl (by decide) ?_
      refine miss_own H X0 T0 (ns49 _) (exc49 _) (cls49 _) (by kernel_rfl) rfl rfl (by decide) ?_
      refine hit_as H X0 T0 (ns106 _) (exc106 _) (cls106 _) (by kernel_rfl) hdL hne hP0 rfl rfl (by decide) rfl (NarZ w x L₀ oL) ?_ ?_
      · intro h3 tk3 vs sl sl' F3 N3
        replace N3 := news_head N3 (.tail _ (.tail _ hdx))
        k_steps
        (rename Fr _ _ _ _ => kF)
        (rename News _ _ _ _ => kN)
        (rename Frag.In _ _ => kX)
        refine ⟨get_exc (kX.keeps kF.keep) (inst_exc kN (.tail _ (.head _)) (.head _)) (rd106 _) (fr106 _ _ _ _ _) rfl ?_⟩
        k_steps
        (rename Fr _ _ _ _ => F4)
        (rename News _ _ _ _ => N4)
        (rename _ ∧ _ => hlt)
        exact ⟨_, _, _, _, rfl, F4, N4, _, (_, _) :: news, _, rfl, fun p hp => (List.mem_cons.mp hp).elim (fun q => by rw [q]; exact ⟨.head _, Nat.ne_of_gt hlt.2.2.1⟩) fun q => ⟨.tail _ (.tail _ (.tail _ (.tail _ q))), hap p q⟩, .tail _ (.tail _ (.tail _ (.head _))), by rw [hk]; exact .nobody (.head _) (hR.mono fun p hp => .tail _ hp)⟩
      · rintro f h3 tk3 m3 nl F3 N3 ⟨l, nl', sl, rfl, hn, hL, hA⟩
        exact hQ _ _ _ _ (back_of hBP hP F3 N3 hL hn) hA
end Mine
end
section
/-! ## M9a -/
open PySem PySem.W PySem.Calls PyProof.Rows
namespace Mine
theorem execs_two {M : Model} {A : Around} {E : Value → Shared → Prop} {s : Shared} {env : Env} {st : Stmt} {rest : List Stmt} {Q : Flow → Shared → Prop}
    (h : wpAny M A (exec st env) (fun f s' => match f with | .next => wpAny M A (execs rest env) Q E s' | f => Q f s') E s) : wpAny M A (execs (st :: rest) env) Q E s := by
  rw [execs]
  refine wpAny_bind (wpAny_mono h (fun f s' hq => ?_) fun _ _ x => x)
  cases f with
  | next => exact hq
  | brk => exact wpAny_pure hq
  | cont => exact wpAny_pure hq
  | ret v => exact wpAny_pure hq
section
variable {K : Frag} {M : Model} {h : Heap}
theorem looks_matchesT {e C : Addr} {oe : Obj} {b : Bool} {T : String} (X : K.In h) (he : h.get? e = some oe) (hc : oe.cls = .ref C) (hexc : isSubtype (.type T) (.type "BaseException") = pure true)
    (hnt : isSubtype (.type ((Manifest.find? T).elim "type" fun y => y.metatype)) (.type "tuple") = pure false) (hs : mroIn K C (.type T) = some b) :
    Looks M h (excMatches (.ref e) (.type T)) b := by
  intro A Q E s k q
  have tE := looks_typeCls (M := M) he hc
  have sD : Looks M h (isSubtype (.ref C) (.type T)) b := looks_mroIn X hs
  unfold excMatches isInstance isExcClass
  refine wpAny_bind (wpAny_bind (wpAny_pure ?_))
  rw [hnt]
  refine wpAny_pure ?_
  simp only [Bool.false_eq_true, if_false]
  refine wpAny_bind (wpAny_pure ?_)
  refine wpAny_bind ?_
  rw [List.forIn_cons]
  refine wpAny_bind (wpAny_bind (wpAny_bind (wpAny_pure ?_)))
  simp only [if_true]
  rw [hexc]
  refine wpAny_pure ?_
  simp only [Bool.not_true, Bool.false_eq_true, if_false]
  refine wpAny_pure ?_
  simp only [List.forIn_nil]
  refine wpAny_pure ?_
  refine wpAny_bind (tE _ _ _ _ k ?_)
  refine wpAny_bind ?_
  rw [List.forIn_cons]
  refine wpAny_bind (wpAny_bind (sD _ _ _ _ k ?_))
  cases b with
  | true => exact wpAny_pure (wpAny_pure (wpAny_pure q))
  | false =>
    simp only [Bool.false_eq_true, if_false]
    refine wpAny_pure ?_
    simp only [List.forIn_nil]
    exact wpAny_pure (wpAny_pure q)
end
section
variable {w : World} {A : Around} {E : Value → Shared → Prop} {s : Shared} {P₀ P : Heap} {L L₀ e C a : Addr} {oL : Obj} {m mg mb : Str → Option Value} {envL : Env} {x : Int} {od : Option Addr} {news : List (Addr × Obj)} {name : Str} {scope : Scope} {cd : Value}
  {p : Program} {loose : List Str} {mean : ExcName → Option Value} {K : Frag} {cn : Str} {np pos : Pos} {body : List Stmt} {b₀ : Stmt} {rest : List ExceptHandler} {Q : Flow → Shared → Prop} {h : Heap} {tk : Nat} {n : Str} {T' : String}
theorem hit_asT (H : Held w P₀ L L₀ oL m (envOf name scope L a cd) envL x e C od .none P news h) (X : K.In P₀) (T : Top p loose mean mg mb P₀) (hns : nsIn K mainGlobals cn = some none) (hv : bootBuiltins cn = some (.type T')) (hn' : cn ≠ "__name__")
    (hexc : isSubtype (.type T') (.type "BaseException") = pure true) (hnt : isSubtype (.type ((Manifest.find? T').elim "type" fun y => y.metatype)) (.type "tuple") = pure false) (hs : mroIn K C (.type T') = some true)
    (hdL : ∀ vs, oL.data ≠ .fields vs) (hne : L₀ ≠ L) (h0 : P₀.get? L₀ = none)
    (hk : scope.kind = .function) (hx : (envOf name scope L a cd).kindOf cn = some .globalImplicit) (hd : (cn == ("__debug__" : Str)) = false) (hl : (envOf name scope L a cd).kindOf n = some .local) (Z : Flow → List (Addr × Obj) → Prop)
    (k : ∀ h' tk' vs sl sl', Fr P₀ L h' (fun y => if y = n then some (.ref e) else m y) → News P₀ L h' ((e, ⟨.ref C, od, .fields vs, sl⟩) :: (L₀, { oL with slots := sl' }) :: news) →
      wpAny (model prog w) (A.mark (some (.ref e))) (execs (b₀ :: body) (envOf name scope L a cd)) (Fl fun f s₃ => ∃ h₃ tk₃ m₃ nl, s₃ = { s with heap := h₃, toks := tk₃ } ∧ Fr P₀ L h₃ m₃ ∧ News P₀ L h₃ nl ∧ Z f nl) (fun _ _ => False) { s with heap := h', toks := tk' })
    (q : ∀ f h₃ tk₃ m₃ nl, Fr P₀ L h₃ m₃ → News P₀ L h₃ nl → Z f nl → Q f { s with heap := h₃, toks := tk₃ }) :
    wpAny (model prog w) A (handleBy (.ref e) (envOf name scope L a cd) (.ExceptHandler (some (.Name cn np)) (some n) (b₀ :: body) pos :: rest)) Q E { s with heap := h, toks := tk } := by
  obtain ⟨vs, sl, he⟩ := H.obj
  exact as_core H (fun Q' E' hq => name_B (s := { s with heap := h, toks := tk }) H.fr X (topRead_of T) hns hv hn' hq hk hx hd) (looks_matchesT (X.keeps H.fr.keep) he rfl hexc hnt hs) hdL hne h0 hk hl Z k q
theorem exc_ne {h₀ : Heap} {nl : List (Addr × Obj)} {vs : Array Value} {sl sl' : Array (Option Value)} (N : News h₀ L h ((e, ⟨.ref C, od, .fields vs, sl⟩) :: (L₀, { oL with slots := sl' }) :: nl)) (hd : ∀ vs, oL.data ≠ .fields vs) : e ≠ L₀ := by
  intro z
  have h1 := (N _ (.head _)).1
  have h2 := (N _ (.tail _ (.head _))).1
  dsimp only at h1 h2
  rw [z, h2] at h1
  injection h1 with h1
  injection h1 with _ _ h3
  exact hd vs h3
end
/-- what the law keeps of mail x: the error, or None -/
def FaultIs (w : World) (news : List (Addr × Obj)) (x : Int) (v : Value) : Prop :=
  (kindOf x = .sent ∧ v = .none) ∨ ∃ e C od vs sl, v = .ref e ∧ (e, (⟨.ref C, od, .fields vs, sl⟩ : Obj)) ∈ news ∧ ExcIs w news x (kindOf x) C od
theorem FaultIs.mono {w : World} {news news' : List (Addr × Obj)} {x : Int} {v : Value} (h : FaultIs w news x v) (k : ∀ p ∈ news, p ∈ news') : FaultIs w news' x v :=
  h.imp id fun ⟨e, C, od, vs, sl, a, b, c⟩ => ⟨e, C, od, vs, sl, a, k _ b, c.mono k⟩
def MetIs (w : World) (news : List (Addr × Obj)) (x : Int) (r : Addr) : Prop := ∃ ta fv, (r, tupO [.str (armOf (kindOf x)) ta, fv]) ∈ news ∧ FaultIs w news x fv
def isSent : Kind → Bool
  | .sent => true
  | _ => false
theorem nsOS (p : Params) : nsIn (Mine.hx.heap_39 p) mainGlobals (Str.ofString "OSError") = some none := by kernel_rfl
theorem os_exc : isSubtype (.type "OSError") (.type "BaseException") = pure true := by rw [isSubtype_type]; kernel_rfl
theorem os_meta : isSubtype (.type ((Manifest.find? "OSError").elim "type" fun y => y.metatype)) (.type "tuple") = pure false := by
  rw [show ((Manifest.find? "OSError").elim "type" fun y => y.metatype) = "type" from by kernel_rfl, isSubtype_type]; kernel_rfl
theorem os_boot : bootBuiltins (Str.ofString "OSError") = some (.type "OSError") := by kernel_rfl
/-- which arm takes what was raised -/
theorem ExcIs.any {w : World} {news : List (Addr × Obj)} {x : Int} {k : Kind} {C : Addr} {od : Option Addr} (h : ExcIs w news x k C od) (p : Params) : mroIn (Mine.hx.heap_39 p) C (.ref 24) = some true ∧ isSent k = false := by
  cases h <;> exact ⟨by kernel_rfl, rfl⟩
theorem ExcIs.arm {w : World} {news : List (Addr × Obj)} {x : Int} {k : Kind} {C : Addr} {od : Option Addr} (h : ExcIs w news x k C od) (p : Params) :
    (mroIn (Mine.hx.heap_39 p) C (.ref 68) = some true ∧ armOf k = Str.ofString "reply") ∨ (mroIn (Mine.hx.heap_39 p) C (.ref 68) = some false ∧ mroIn (Mine.hx.heap_39 p) C (.type "OSError") = some true ∧ armOf k = Str.ofString "other") := by
  cases h <;> first | exact .inl ⟨by kernel_rfl, rfl⟩ | exact .inr ⟨by kernel_rfl, by kernel_rfl, rfl⟩
end Mine
end
section
/-! ## M9 -/
open PySem PySem.W PySem.Calls PyProof.Rows
namespace Mine
def MetZ (w : World) (x : Int) (L₀ : Addr) (oL : Obj) (f : Flow) (nl : List (Addr × Obj)) : Prop := ∃ r nl' sl, f = .ret (.ref r) ∧ (∀ p ∈ nl', p ∈ nl ∧ p.1 ≠ L₀) ∧ (L₀, { oL with slots := sl }) ∈ nl ∧ MetIs w nl' x r
set_option maxRecDepth 100000 in
set_option maxHeartbeats 8000000 in
theorem reply_spec (w : World) {mg mb : Str → Option Value} {mean : ExcName → Option Value} {s : Shared} {envL : Env} {B : Heap} {L₀ : Addr} {oL : Obj}
    (T : Top Mine.hx.view_39 (looseW Mine.hx.view_39 []) mean mg mb B) (X : (Mine.hx.heap_39 w.params).In B) (hB : B.StaysIn s.heap) (hkL : envL.scope.kind ≠ .module) (hfL : envL.frame = some L₀) (hBL : B.get? L₀ = none) (hoL : s.heap.get? L₀ = some oL) (hdL : ∀ vs, oL.data ≠ .fields vs)
    {x : Int} {t : Tok} (hx0 : 0 ≤ x) (hx1 : x < 1000003) {Q : Value → Shared → Prop} {E : Value → Shared → Prop}
    (hQ : ∀ r h' tk news, Back B s.heap L₀ oL h' news → MetIs w news x r → Q (.ref r) { s with heap := h', toks := tk }) :
    wpAny (model prog w) (AA 430 140 [envL]) (call (.ref 191) [.int x t] []) Q E s := by
  have hfill : (fun (_ : OpenLaw) (_ : Params → Frag) => True) PySem.Challenge.rw_mj0335_01 Mine.hx.heap_39 := by k_fill; trivial
  obtain ⟨P₀, hPs, hP0, hP, hPz⟩ := hidden s.heap L₀
  have hBP : B.StaysIn P₀ := fun b o q => hP b o (hB b o q) fun z => by rw [z, hBL] at q; cases q
  refine' enter (K := Mine.hx.heap_39 w.params) [(Str.ofString "x", .int x t)] (X.keeps hB) (T.keeps hB).nolimit ?k1 ?k2 ?k3 ?k4 ?k5 ?k6 ?k7 ?k8 ?k9 ?_
  case k1 => k_is
  case k2 => k_is
  case k3 => exact (by decide : 430 < 1000)
  case k4 => exact rfl
  case k5 => exact locs rfl
  case k6 => decide
  case k7 => exact rfl
  case k8 => exact rfl
  case k9 => exact rfl
  intro L h₁ hL hns hk₁
  have F : Fr P₀ L h₁ _ := ⟨hns, fun b o q => hk₁ b o (hPs b o q), by rw [hL, hPz]; exact Nat.le_refl _⟩
  have hne : L₀ ≠ L := by rw [hL]; exact Nat.ne_of_lt (Heap.lt_size hoL)
  have N : News P₀ L h₁ [(L₀, oL)] := fun p hp => by rw [List.mem_singleton.mp hp]; exact ⟨hk₁ _ _ hoL, hne, hP0⟩
  have X0 : (Mine.hx.heap_39 w.params).In P₀ := X.keeps hBP
  have T0 := T.keeps hBP
  clear hns hk₁ X T
  refine execs_two ?_
  refine wpAny_Try_except ?_
  refine wp_split (fun f s' => ∃ h' tk nl, f = .next ∧ s' = { s with heap := h', toks := tk } ∧ Fr P₀ L h' (fun y => [(Str.ofString "x", Value.int x t)].reverse.lookup y) ∧ News P₀ L h' (nl ++ [(L₀, oL)]) ∧ kindOf x = .sent)
    (fun env ev s' => ∃ e h' tk P C od news h₀, ev = .ref e ∧ s' = { s with heap := h', toks := tk } ∧ Out w h₀ [env, envL] x e C od P h' news ∧ Fr P₀ L h₀ (fun y => [(Str.ofString "x", Value.int x t)].reverse.lookup y) ∧ h₀.get? L₀ = some oL) ?body ?q ?e
  case body =>
    k_steps
    (rename Fr _ _ _ _ => kF)
    (rename News _ _ _ _ => kN)
    (rename Top _ _ _ _ _ _ => kT)
    (rename Frag.In _ _ => kX)
    refine ⟨weaken (send_spec _ (Top.keeps kT kF.keep) (Frag.In.keeps kX kF.keep) (frames2 kF rfl hkL hfL hP0 (kN _ (List.Mem.head _)).1 hdL) hx0 hx1 ⟨fun ks' rd' h' tk' nw' kp' hn' hR' => ?_⟩ ?ke) rfl (by decide : 431 ≤ 440) (.inr rfl) (.inr rfl) (by decide : 143 ≤ 170)⟩
    case ke => exact fun e' h' tk' P' C' od' nw' O' => ⟨⟨_, _, _, _, _, _, _, _, rfl, rfl, O', kF, (kN _ (List.Mem.head _)).1⟩⟩
    have hz' := ne_new kN (List.Mem.head _) hn'
    have N' := news_on kF kN kp' hn'
    have F' := fr_on kF kp'
    clear kF kN
    k_steps
    (rename Fr _ _ _ _ => F2)
    (rename News _ _ _ _ => N2)
    (rename kindOf x = Kind.sent => hks)
    exact ⟨_, _, _, rfl, rfl, F2, N2, hks⟩
  case q =>
    clear F N
    rintro f s' ⟨h', tk, nl, rfl, rfl, F, N, hks⟩
    dsimp only
    refine wpAny_execs_nil ?_
    dsimp only
    k_steps
    (rename Fr _ _ _ _ => F2)
    (rename News _ _ _ _ => N2)
    (rename ∀ (p : Addr × Obj), p ∈ _ → p.1 < _ => hlt)
    exact hQ _ _ _ [(_, _)] (back_of (sl := oL.slots) hBP hP F2 N2 (.tail _ (List.mem_append_right _ (.head _))) fun p hp => by rw [List.mem_singleton.mp hp]; exact ⟨.head _, Nat.ne_of_gt (hlt (L₀, oL) (List.mem_append_right _ (.head _)))⟩) ⟨_, _, by rw [hks]; exact .head _, .inl ⟨hks, rfl⟩⟩
  case e =>
    rintro ev s' ⟨e, h', tk, P, C, od, news, h₀, rfl, rfl, O, F2, hL0⟩
    have H := O.held F2 rfl hfL hP0 hL0 hdL
    clear O
    refine held_try H rfl hdL rfl fun h₂ H => ?_
    have hap := H.apart hfL
    have hI := H.is
    rcases hI.arm w.params with ⟨hm, ha⟩ | ⟨hm, hT, ha⟩
    · refine hit_as H X0 T0 (ns68 _) (exc68 _) (cls68 _) hm hdL hne hP0 rfl rfl (by decide) rfl (MetZ w x L₀ oL) ?_ ?_
      · intro h3 tk3 vs sl sl' F3 N3
        have hen := exc_ne N3 hdL
        k_steps
        (rename Fr _ _ _ _ => F4)
        (rename News _ _ _ _ => N4)
        (rename _ ∧ _ => hlt)
        exact ⟨_, _, _, _, rfl, F4, N4, _, (_, _) :: (_, _) :: news, _, rfl, fun p hp => (List.mem_cons.mp hp).elim (fun q => by rw [q]; exact ⟨.head _, Nat.ne_of_gt hlt.2.1⟩) fun q => (List.mem_cons.mp q).elim (fun q => by rw [q]; exact ⟨.tail _ (.head _), hen⟩) fun q => ⟨.tail _ (.tail _ (.tail _ q)), hap p q⟩, .tail _ (.tail _ (.head _)),
          _, _, by rw [ha]; exact .head _, .inr ⟨_, _, _, _, _, rfl, .tail _ (.head _), hI.mono fun p hp => .tail _ (.tail _ hp)⟩⟩
      · rintro f h3 tk3 m3 nl F3 N3 ⟨l, nl', sl, rfl, hn, hL, hA⟩
        exact hQ _ _ _ _ (back_of hBP hP F3 N3 hL hn) hA
    · refine miss_own H X0 T0 (ns68 _) (exc68 _) (cls68 _) hm rfl rfl (by decide) ?_
      refine hit_asT H X0 T0 (nsOS _) os_boot (by decide) os_exc os_meta hT hdL hne hP0 rfl rfl (by decide) rfl (MetZ w x L₀ oL) ?_ ?_
      · intro h3 tk3 vs sl sl' F3 N3
        have hen := exc_ne N3 hdL
        k_steps
        (rename Fr _ _ _ _ => F4)
        (rename News _ _ _ _ => N4)
        (rename _ ∧ _ => hlt)
        exact ⟨_, _, _, _, rfl, F4, N4, _, (_, _) :: (_, _) :: news, _, rfl, fun p hp => (List.mem_cons.mp hp).elim (fun q => by rw [q]; exact ⟨.head _, Nat.ne_of_gt hlt.2.1⟩) fun q => (List.mem_cons.mp q).elim (fun q => by rw [q]; exact ⟨.tail _ (.head _), hen⟩) fun q => ⟨.tail _ (.tail _ (.tail _ q)), hap p q⟩, .tail _ (.tail _ (.head _)),
          _, _, by rw [ha]; exact .head _, .inr ⟨_, _, _, _, _, rfl, .tail _ (.head _), hI.mono fun p hp => .tail _ (.tail _ hp)⟩⟩
      · rintro f h3 tk3 m3 nl F3 N3 ⟨l, nl', sl, rfl, hn, hL, hA⟩
        exact hQ _ _ _ _ (back_of hBP hP F3 N3 hL hn) hA
set_option maxRecDepth 100000 in
set_option maxHeartbeats 8000000 in
theorem any_spec (w : World) {mg mb : Str → Option Value} {mean : ExcName → Option Value} {s : Shared} {envL : Env} {B : Heap} {L₀ : Addr} {oL : Obj}
    (T : Top Mine.hx.view_39 (looseW Mine.hx.view_39 []) mean mg mb B) (X : (Mine.hx.heap_39 w.params).In B) (hB : B.StaysIn s.heap) (hkL : envL.scope.kind ≠ .module) (hfL : envL.frame = some L₀) (hBL : B.get? L₀ = none) (hoL : s.heap.get? L₀ = some oL) (hdL : ∀ vs, oL.data ≠ .fields vs)
    {x : Int} {t : Tok} (hx0 : 0 ≤ x) (hx1 : x < 1000003) {Q : Value → Shared → Prop} {E : Value → Shared → Prop}
    (hQ : ∀ h' tk, Back B s.heap L₀ oL h' [] → Q (.bool (!isSent (kindOf x))) { s with heap := h', toks := tk }) :
    wpAny (model prog w) (AA 430 140 [envL]) (call (.ref 198) [.int x t] []) Q E s := by
  have hfill : (fun (_ : OpenLaw) (_ : Params → Frag) => True) PySem.Challenge.rw_mj0335_01 Mine.hx.heap_39 := by k_fill; trivial
  obtain ⟨P₀, hPs, hP0, hP, hPz⟩ := hidden s.heap L₀
  have hBP : B.StaysIn P₀ := fun b o q => hP b o (hB b o q) fun z => by rw [z, hBL] at q; cases q
  refine' enter (K := Mine.hx.heap_39 w.params) [(Str.ofString "x", .int x t)] (X.keeps hB) (T.keeps hB).nolimit ?k1 ?k2 ?k3 ?k4 ?k5 ?k6 ?k7 ?k8 ?k9 ?_
  case k1 => k_is
  case k2 => k_is
  case k3 => exact (by decide : 430 < 1000)
  case k4 => exact rfl
  case k5 => exact locs rfl
  case k6 => decide
  case k7 => exact rfl
  case k8 => exact rfl
  case k9 => exact rfl
  intro L h₁ hL hns hk₁
  have F : Fr P₀ L h₁ _ := ⟨hns, fun b o q => hk₁ b o (hPs b o q), by rw [hL, hPz]; exact Nat.le_refl _⟩
  have hne : L₀ ≠ L := by rw [hL]; exact Nat.ne_of_lt (Heap.lt_size hoL)
  have N : News P₀ L h₁ [(L₀, oL)] := fun p hp => by rw [List.mem_singleton.mp hp]; exact ⟨hk₁ _ _ hoL, hne, hP0⟩
  have X0 : (Mine.hx.heap_39 w.params).In P₀ := X.keeps hBP
  have T0 := T.keeps hBP
  clear hns hk₁ X T
  refine execs_two ?_
  refine wpAny_Try_except ?_
  refine wp_split (fun f s' => ∃ h' tk nl, f = .next ∧ s' = { s with heap := h', toks := tk } ∧ Fr P₀ L h' (fun y => [(Str.ofString "x", Value.int x t)].reverse.lookup y) ∧ News P₀ L h' (nl ++ [(L₀, oL)]) ∧ kindOf x = .sent)
    (fun env ev s' => ∃ e h' tk P C od news h₀, ev = .ref e ∧ s' = { s with heap := h', toks := tk } ∧ Out w h₀ [env, envL] x e C od P h' news ∧ Fr P₀ L h₀ (fun y => [(Str.ofString "x", Value.int x t)].reverse.lookup y) ∧ h₀.get? L₀ = some oL) ?body ?q ?e
  case body =>
    k_steps
    (rename Fr _ _ _ _ => kF)
    (rename News _ _ _ _ => kN)
    (rename Top _ _ _ _ _ _ => kT)
    (rename Frag.In _ _ => kX)
    refine ⟨weaken (send_spec _ (Top.keeps kT kF.keep) (Frag.In.keeps kX kF.keep) (frames2 kF rfl hkL hfL hP0 (kN _ (List.Mem.head _)).1 hdL) hx0 hx1 ⟨fun ks' rd' h' tk' nw' kp' hn' hR' => ?_⟩ ?ke) rfl (by decide : 431 ≤ 440) (.inr rfl) (.inr rfl) (by decide : 143 ≤ 170)⟩
    case ke => exact fun e' h' tk' P' C' od' nw' O' => ⟨⟨_, _, _, _, _, _, _, _, rfl, rfl, O', kF, (kN _ (List.Mem.head _)).1⟩⟩
    have hz' := ne_new kN (List.Mem.head _) hn'
    have N' := news_on kF kN kp' hn'
    have F' := fr_on kF kp'
    clear kF kN
    k_steps
    (rename Fr _ _ _ _ => F2)
    (rename News _ _ _ _ => N2)
    (rename kindOf x = Kind.sent => hks)
    exact ⟨_, _, _, rfl, rfl, F2, N2, hks⟩
  case q =>
    clear F N
    rintro f s' ⟨h', tk, nl, rfl, rfl, F, N, hks⟩
    dsimp only
    refine wpAny_execs_nil ?_
    dsimp only
    k_steps
    rw [hks] at hQ
    exact hQ _ _ (back_of (sl := oL.slots) hBP hP F N (List.mem_append_right _ (.head _)) fun p hp => nomatch hp)
  case e =>
    rintro ev s' ⟨e, h', tk, P, C, od, news, h₀, rfl, rfl, O, F2, hL0⟩
    have H := O.held F2 rfl hfL hP0 hL0 hdL
    clear O
    refine held_try H rfl hdL rfl fun h₂ H => ?_
    obtain ⟨hm, hs⟩ := H.is.any w.params
    refine hit_no H X0 T0 (ns24 _) (exc24 _) (cls24 _) hm hdL hne hP0 rfl rfl (by decide) (fun f nl => f = .ret (.bool true) ∧ ∃ sl, (L₀, { oL with slots := sl }) ∈ nl) ?_ ?_
    · intro h3 vs sl sl' F3 N3
      k_steps
      exact ⟨_, _, _, _, rfl, F3, N3, rfl, _, .tail _ (.head _)⟩
    · rintro f h3 tk3 m3 nl F3 N3 ⟨rfl, sl, hL⟩
      rw [hs] at hQ
      exact hQ _ _ (back_of hBP hP F3 N3 hL fun p hp => nomatch hp)
end Mine
end
section
/-! ## M10a -/
open PySem PySem.W PySem.Calls PyProof.Rows
namespace Mine
section
variable {A : Around} {s : Shared}
theorem eq_i (n : Int) (t u : Tok) : SeqAt.EqAt A s (.int n t) (.int n u) true := by
  have := SeqAt.EqAt.int_int (A := A) (s := s) n t n u
  rwa [beq_self_eq_true] at this
theorem eq_s (n : Str) (t u : Tok) : SeqAt.EqAt A s (.str n t) (.str n u) true := by
  have := SeqAt.EqAt.str_str (A := A) (s := s) n t n u
  rwa [beq_self_eq_true] at this
theorem eq_b (n : Array UInt8) (t u : Tok) : SeqAt.EqAt A s (.bytes n t) (.bytes n u) true := fun prog w E Q h => by
  unfold eqBool
  refine wpAny_holding ?_
  refine wpAny_ite_split (fun _ => ?_) (fun _ => ?_)
  · exact wpAny_bind (wpAny_rule (wpAny_pure h))
  · refine wpAny_bind ?_
    refine PySem.W.eq_bytes (w := w) ?_
    rw [beq_self_eq_true]
    exact wpAny_truthy_bool h
theorem eq_tup {a b : Addr} {n : Int} {t1 t2 u1 u2 : Tok} {bs : Array UInt8} (ha : s.heap.get? a = some (tupO [.int n t1, .bytes bs t2])) (hb : s.heap.get? b = some (tupO [.int n u1, .bytes bs u2])) (hu : A.units < cLine) : SeqAt.EqAt A s (.ref a) (.ref b) true := by
  by_cases e : a = b
  · subst e; exact .same _
  · have h1 : s.heap.IsTuple a #[.int n t1, .bytes bs t2] := ⟨_, ha, rfl, _, rfl⟩
    have h2 : s.heap.IsTuple b #[.int n u1, .bytes bs u2] := ⟨_, hb, rfl, _, rfl⟩
    have := SeqAt.RcAt.tuples (e := fun _ => true) h1 h2 hu (fun j g1 g2 => by
      match j, g1 with
      | 0, _ => exact eq_i _ _ _
      | 1, _ => exact eq_b _ _ _)
    exact .of_refs e this
end
/-- the refused, key by key -/
theorem RefIs.pairs {news : List (Addr × Obj)} {x : Int} {i : Nat} {kvs : List (Str × Value)} (h : RefIs news x i kvs) (hi : i ≤ 3) :
    (∀ p ∈ kvs, ∃ j, j < i ∧ bit x j ∧ p.1 = rk j ∧ ∃ a t1 t2, p.2 = .ref a ∧ (a, tupO [.int (551 + (j : Int)) t1, .bytes (wd x) t2]) ∈ news) ∧
    (∀ j, j < i → bit x j → ∃ a t1 t2, valueAt kvs (rk j) = some (.ref a) ∧ (a, tupO [.int (551 + (j : Int)) t1, .bytes (wd x) t2]) ∈ news) := by
  induction h with
  | zero => exact ⟨(fun _ hp => nomatch hp), fun j hj => absurd hj (Nat.not_lt_zero _)⟩
  | skip hb _ ih =>
    obtain ⟨a, b⟩ := ih (by omega)
    refine ⟨fun p hp => ?_, fun j hj hbj => ?_⟩
    · obtain ⟨j, hj, r⟩ := a p hp
      exact ⟨j, by omega, r⟩
    · rcases Nat.lt_succ_iff_lt_or_eq.mp hj with z | z
      · exact b j z hbj
      · rw [z] at hbj; exact absurd hbj hb
  | put hb hr hm ih =>
    obtain ⟨a, b⟩ := ih (by omega)
    have ks := (hr.keys (by omega)).2
    rename_i i kvs ad t1 t2
    have hnew : ∀ p ∈ kvs, p.1 ≠ rk i := fun p hp e => by
      obtain ⟨j, hj, e'⟩ := ks p hp
      have := rk_inj _ _ (by omega) (by omega) (e'.symm.trans e)
      omega
    rw [stored_new hnew]
    refine ⟨fun p hp => ?_, fun j hj hbj => ?_⟩
    · rcases List.mem_append.mp hp with q | q
      · obtain ⟨j, hj, r⟩ := a p q
        exact ⟨j, by omega, r⟩
      · rw [List.mem_singleton.mp q]; exact ⟨i, by omega, hb, rfl, _, _, _, rfl, hm⟩
    · rcases Nat.lt_succ_iff_lt_or_eq.mp hj with z | z
      · obtain ⟨c, u1, u2, e, m⟩ := b j z hbj
        refine ⟨c, u1, u2, ?_, m⟩
        unfold valueAt at e ⊢
        rw [List.find?_append]
        cases q : List.find? (fun kv => decide (kv.1 = rk j)) kvs with
        | none => rw [q] at e; cases e
        | some y => rw [q] at e; exact e
      · subst z
        refine ⟨_, _, _, ?_, hm⟩
        unfold valueAt
        rw [List.find?_append, List.find?_eq_none.mpr (fun p hp => by simpa using hnew p hp)]
        simp
section
variable {w : World} {A : Around} {E : Value → Shared → Prop} {s : Shared} {nl : List (Addr × Obj)} {x : Int} {r1 r2 : Addr}
theorem ref_hits {ka kb : List (Str × Value)} (h1 : RefIs nl x (cnt x).toNat ka) (h2 : RefIs nl x (cnt x).toNat kb) (hn : ∀ p ∈ nl, s.heap.get? p.1 = some p.2) (hu : A.units < cLine) : KeqHits A s kb ka true := by
  have p1 := (h1.pairs (cnt_toNat x)).1
  have p2 := (h2.pairs (cnt_toNat x)).2
  clear h1 h2
  induction ka with
  | nil => exact .nil
  | cons p r ih =>
    obtain ⟨j, hj, hb, e, a, t1, t2, ev, m⟩ := p1 p (.head _)
    obtain ⟨a', u1, u2, e', m'⟩ := p2 j hj hb
    obtain ⟨k, v⟩ := p
    dsimp only at e ev
    subst e ev
    exact KeqHits.hit (e := true) (b := true) e' (eq_tup (hn _ m) (hn _ m') hu) (ih fun p hp => p1 p (.tail _ hp))
theorem ref_eq {Q : Value → Shared → Prop} (h1 : RefD w nl x r1) (h2 : RefD w nl x r2) (hn : ∀ p ∈ nl, s.heap.get? p.1 = some p.2) (hu : A.units + 1 < cLine) (h : Q (.bool true) s) : wpAny (model prog w) A (compareOp .Eq (.ref r1) (.ref r2)) Q E s := by
  obtain ⟨o1, k1, m1, l1, d1, R1⟩ := h1
  obtain ⟨o2, k2, m2, l2, d2, R2⟩ := h2
  have hl : k1.length = k2.length := by rw [(R1.keys (cnt_toNat x)).1, (R2.keys (cnt_toNat x)).1]
  refine keq_eq (r := true) l1 l2 (Heap.dictOf_iff.mpr ⟨o1, hn _ m1, d1⟩) (Heap.dictOf_iff.mpr ⟨o2, hn _ m2, d2⟩) (by omega) (fun _ => ref_hits R1 R2 hn (by show A.units + 1 < cLine; exact hu)) ?_
  rw [hl, beq_self_eq_true]; exact h
end
/-- equal, in this world -/
def EqW (w : World) (A : Around) (s : Shared) (y x : Value) : Prop :=
  ∀ (E : Value → Shared → Prop) (Q : Bool → Shared → Prop), Q true s → wpAny (model prog w) A (eqBool y x) Q E s
theorem EqW.of {w : World} {A : Around} {s : Shared} {y x : Value} (h : SeqAt.EqAt A s y x true) : EqW w A s y x := fun E Q q => h prog w E Q q
section
variable {w : World} {A : Around} {E : Value → Shared → Prop} {s : Shared} {nl : List (Addr × Obj)} {x : Int} {r1 r2 : Addr}
theorem ref_w (h1 : RefD w nl x r1) (h2 : RefD w nl x r2) (hn : ∀ p ∈ nl, s.heap.get? p.1 = some p.2) (hu : A.units + 1 < cLine) : EqW w A s (.ref r1) (.ref r2) := fun E Q q => by
  unfold eqBool
  refine wpAny_holding ?_
  refine wpAny_ite_split (fun _ => wpAny_bind (wpAny_rule (wpAny_pure q))) (fun _ => ?_)
  exact wpAny_bind (ref_eq (E := E) h1 h2 hn hu (wpAny_truthy_bool q))
end
section
open AutoSeq1 MeetsSeq MeetsSeq2 MeetsSeq3
theorem ne_loopW (w : World) (l b : Addr) (items items2 : Array Value) (n n2 : Nat) (dd dd2 : Option Addr) (sl sl2 : Array (Option Value)) (hsz : items.size = items2.size) (k : Nat) (A : Around) (R : Result → Shared → Prop) (s : Shared)
    (hl : s.heap.get? l = some { cls := .type "list", dict := dd, data := .seq items n, slots := sl }) (hb : s.heap.get? b = some { cls := .type "list", dict := dd2, data := .seq items2 n2, slots := sl2 })
    (he : ∀ j (h1 : j < items.size) (h2 : j < items2.size), EqW w A.in1 s items[j] items2[j]) (h : R (.ok (.ret (.bool false))) s) :
    ∀ i : Nat, items.size - i = k → wpAny (model prog w) A.in1 (Builtin.«list.__eq__.loop» ⟨[.ref l, .ref b, rawInt i, rawInt 3], []⟩) (fun fin s' => match fin with | .done f => R (.ok f) s' | .again c' => c'.quiet = true ∧ codeAny (model prog w) A c' R s') (fun e s' => R (.error e) s') s := by
  induction k with
  | zero =>
    intro i hk
    obtain ⟨hp, g, d, tk, os⟩ := s
    wp_walk using wpAny_loadPart' hl, wpAny_loadPart' hb
    have hi1 : items[((i : Nat) : Int).toNat]? = none := by simp; omega
    have hi2 : items2[((i : Nat) : Int).toNat]? = none := by simp; omega
    rw [hi1, hi2]
    wp_walk using wpAny_loadPart' hl, wpAny_loadPart' hb
    show R (.ok (.ret (.bool (items.size != items2.size)))) _
    rw [hsz]
    simpa using h
  | succ k ih =>
    intro i hk
    obtain ⟨hp, g, d, tk, os⟩ := s
    wp_walk using wpAny_loadPart' hl, wpAny_loadPart' hb
    have hlt : i < items.size := by omega
    have hlt2 : i < items2.size := by omega
    have hi1 : items[((i : Nat) : Int).toNat]? = some items[i] := by simp [hlt]
    have hi2 : items2[((i : Nat) : Int).toNat]? = some items2[i] := by simp [hlt2]
    have hc : ((i : Int) + 1) = ((i + 1 : Nat) : Int) := by push_cast; rfl
    rw [hi1, hi2]
    refine wpAny_bind (he i hlt hlt2 _ _ ?_)
    wp_walk
    rw [hc]
    exact ⟨plainId_quiet plain_eq_loop _, codeAny_builtin entry_eq_loop (by
        rw [Around.under_plainId plain_eq_loop _]
        exact ih (i + 1) (by omega))⟩
theorem list_neW (w : World) (l b : Addr) (items items2 : Array Value) (n n2 : Nat) (dd dd2 : Option Addr) (sl sl2 : Array (Option Value)) (hsz : items.size = items2.size) (A : Around) (R : Result → Shared → Prop) (s : Shared)
    (hl : s.heap.get? l = some { cls := .type "list", dict := dd, data := .seq items n, slots := sl }) (hb : s.heap.get? b = some { cls := .type "list", dict := dd2, data := .seq items2 n2, slots := sl2 })
    (he : ∀ j (h1 : j < items.size) (h2 : j < items2.size), EqW w A.in1 s items[j] items2[j]) (h : R (.ok (.ret (.bool false))) s) :
    wpAny (model prog w) A.in1 (Builtin.«list.__ne__» ⟨[.ref l, .ref b], []⟩) (fun fin s' => match fin with | .done f => R (.ok f) s' | .again c' => c'.quiet = true ∧ codeAny (model prog w) A c' R s') (fun e s' => R (.error e) s') s := by
  obtain ⟨hp, g, d, tk, os⟩ := s
  have f3 := AutoSeq1.sub_list_list
  have hne : ¬ (items.size != items2.size) = true := by simp [hsz]
  wp_walk using wpAny_loadPart' hl, wpAny_loadPart' hb
  exact ⟨plainId_quiet plain_eq_loop _, codeAny_builtin entry_eq_loop (by
    rw [Around.under_plainId plain_eq_loop _]
    exact ne_loopW w l b items items2 n n2 dd dd2 sl sl2 hsz _ A R _ hl hb he h 0 rfl)⟩
theorem lists_ne {w : World} {A : Around} {E : Value → Shared → Prop} {s : Shared} {l b : Addr} {items items2 : List Value} {Q : Value → Shared → Prop} (hl : s.heap.get? l = some (listO items)) (hb : s.heap.get? b = some (listO items2)) (hsz : items.length = items2.length) (hu : A.units < cLine)
    (he : ∀ j (h1 : j < items.toArray.size) (h2 : j < items2.toArray.size), EqW w A.in1 s items.toArray[j] items2.toArray[j]) (h : Q (.bool false) s) : wpAny (model prog w) A (compareOp .NotEq (.ref l) (.ref b)) Q E s := by
  have g := list_neW w l b items.toArray items2.toArray _ _ none none _ _ (by simpa using hsz) A (wants (fun v s' => v ≠ .notImplemented ∧ Q v s') E) s hl hb he (show Value.bool false ≠ Value.notImplemented ∧ Q (.bool false) s from ⟨(fun x => nomatch x), h⟩)
  exact wpAny_richCompare_same_room (op := .NotEq) ⟨_, hl, rfl⟩ ⟨_, hb, rfl⟩ F.slot_list_ne (wpAny_call (codeAny_call_builtin F.slot_list_ne.plain F.entry_list_ne (F.slot_list_ne.check _ _ _ _ _ _ _ _ ⟨_, hl, rfl⟩ (F.args_list_ne_2 _ _) g))) hu
end
section
variable {w : World} {A : Around} {E : Value → Shared → Prop} {s : Shared} {nl : List (Addr × Obj)} {x : Int} {a b : Addr} {k : Kind}
theorem eqw_i (n : Int) (t u : Tok) : EqW w A s (.int n t) (.int n u) := .of (eq_i n t u)
theorem eqw_s (n : Str) (t u : Tok) : EqW w A s (.str n t) (.str n u) := .of (eq_s n t u)
theorem eqw_b (n : Array UInt8) (t u : Tok) : EqW w A s (.bytes n t) (.bytes n u) := .of (eq_b n t u)
/-- two accounts of one mail are equal -/
theorem acc_ne {Q : Value → Shared → Prop} (h1 : AccIs w nl x k a) (h2 : AccIs w nl x k b) (hn : ∀ p ∈ nl, s.heap.get? p.1 = some p.2) (hu : A.in1.units + 1 < cLine) (hu' : A.units < cLine) (h : Q (.bool false) s) : wpAny (model prog w) A (compareOp .NotEq (.ref a) (.ref b)) Q E s := by
  cases h1 with
  | helo m1 =>
    cases h2 with | helo m2 =>
    exact lists_ne (hn _ m1) (hn _ m2) rfl hu' (fun j g1 g2 => by
      match j, g1 with
      | 0, _ => exact eqw_s _ _ _
      | 1, _ => exact eqw_i _ _ _
      | 2, _ => exact eqw_b _ _ _) h
  | conn m1 =>
    cases h2 with | conn m2 =>
    exact lists_ne (hn _ m1) (hn _ m2) rfl hu' (fun j g1 g2 => by
      match j, g1 with
      | 0, _ => exact eqw_s _ _ _
      | 1, _ => exact eqw_i _ _ _
      | 2, _ => exact eqw_b _ _ _) h
  | auth m1 =>
    cases h2 with | auth m2 =>
    exact lists_ne (hn _ m1) (hn _ m2) rfl hu' (fun j g1 g2 => by
      match j, g1 with
      | 0, _ => exact eqw_s _ _ _
      | 1, _ => exact eqw_i _ _ _
      | 2, _ => exact eqw_b _ _ _) h
  | data m1 =>
    cases h2 with | data m2 =>
    exact lists_ne (hn _ m1) (hn _ m2) rfl hu' (fun j g1 g2 => by
      match j, g1 with
      | 0, _ => exact eqw_s _ _ _
      | 1, _ => exact eqw_i _ _ _
      | 2, _ => exact eqw_b _ _ _) h
  | sender m1 =>
    cases h2 with | sender m2 =>
    exact lists_ne (hn _ m1) (hn _ m2) rfl hu' (fun j g1 g2 => by
      match j, g1 with
      | 0, _ => exact eqw_s _ _ _
      | 1, _ => exact eqw_i _ _ _
      | 2, _ => exact eqw_b _ _ _
      | 3, _ => exact eqw_s _ _ _) h
  | gone m1 =>
    cases h2 with | gone m2 =>
    exact lists_ne (hn _ m1) (hn _ m2) rfl hu' (fun j g1 g2 => by
      match j, g1 with
      | 0, _ => exact eqw_s _ _ _) h
  | line m1 =>
    cases h2 with | line m2 =>
    exact lists_ne (hn _ m1) (hn _ m2) rfl hu' (fun j g1 g2 => by
      match j, g1 with
      | 0, _ => exact eqw_s _ _ _) h
  | nobody m1 r1 =>
    cases h2 with | nobody m2 r2 =>
    exact lists_ne (hn _ m1) (hn _ m2) rfl hu' (fun j g1 g2 => by
      match j, g1 with
      | 0, _ => exact eqw_s _ _ _
      | 1, _ => exact ref_w r1 r2 hn hu) h
  | sent m1 r1 =>
    cases h2 with | sent m2 r2 =>
    exact lists_ne (hn _ m1) (hn _ m2) rfl hu' (fun j g1 g2 => by
      match j, g1 with
      | 0, _ => exact eqw_s _ _ _
      | 1, _ => exact ref_w r1 r2 hn hu) h
end
end Mine
end
section
/-! ## M10 -/
open PySem PySem.W PySem.Calls PyProof.Rows
namespace Mine
section
/-- the heap without some of its objects -/
theorem hidden_all (h : Heap) (nl : List (Addr × Obj)) (hn : ∀ p ∈ nl, h.get? p.1 = some p.2) : ∃ P : Heap, P.StaysIn h ∧ (∀ p ∈ nl, P.get? p.1 = none) ∧ (∀ b o, h.get? b = some o → (∀ p ∈ nl, p.1 ≠ b) → P.get? b = some o) ∧ P.objs.size = h.objs.size ∧
    (∀ h' : Heap, P.StaysIn h' → (∀ p ∈ nl, h'.get? p.1 = some p.2) → h.StaysIn h') := by
  refine ⟨hideAll h (nl.map (·.1)), fun _ _ q => of_hideAll _ q, fun p hp => hideAll_none _ (List.mem_map.mpr ⟨p, hp, rfl⟩), fun b o q n => hideAll_get _ q fun z => ?_, hideAll_size _ _, fun h' k g b o q => ?_⟩
  · obtain ⟨p, hp, e⟩ := List.mem_map.mp z
    exact n p hp e
  · by_cases z : b ∈ nl.map (·.1)
    · obtain ⟨p, hp, e⟩ := List.mem_map.mp z
      have h1 := hn p hp
      subst e
      rw [h1] at q; injection q with q
      rw [← q]; exact g p hp
    · exact k b o (hideAll_get _ q z)
set_option maxRecDepth 100000 in
set_option maxHeartbeats 8000000 in
theorem kept_spec (w : World) {mg mb : Str → Option Value} {mean : ExcName → Option Value} {s : Shared} {fs : List Env} {B : Heap} {nl : List (Addr × Obj)}
    (T : Top Mine.hx.view_39 (looseW Mine.hx.view_39 []) mean mg mb B) (X : (Mine.hx.heap_39 w.params).In B) (hB : B.StaysIn s.heap) (hnl : ∀ p ∈ nl, s.heap.get? p.1 = some p.2 ∧ B.get? p.1 = none)
    {x : Int} {acc : Addr} {fv : Value} (hA : AccIs w nl x (kindOf x) acc) (hF : FaultIs w nl x fv) {Q : Value → Shared → Prop} {E : Value → Shared → Prop}
    (hQ : Hk (∀ h' tk, s.heap.StaysIn h' → Q (.bool true) { s with heap := h', toks := tk })) :
    wpAny (model prog w) (AA 430 140 fs) (call (.ref 205) [fv, .ref acc] []) Q E s := by
  have hfill : (fun (_ : OpenLaw) (_ : Params → Frag) => True) PySem.Challenge.rw_mj0335_01 Mine.hx.heap_39 := by k_fill; trivial
  obtain ⟨P₀, hPs, hP0, hP, hPz, hback⟩ := hidden_all s.heap nl fun p hp => (hnl p hp).1
  have hBP : B.StaysIn P₀ := fun b o q => hP b o (hB b o q) fun p hp z => by rw [← z, (hnl p hp).2] at q; cases q
  refine' enter (K := Mine.hx.heap_39 w.params) [(Str.ofString "fault", fv), (Str.ofString "account", .ref acc)] (X.keeps hB) (T.keeps hB).nolimit ?k1 ?k2 ?k3 ?k4 ?k5 ?k6 ?k7 ?k8 ?k9 ?_
  case k1 => k_is
  case k2 => k_is
  case k3 => exact (by decide : 430 < 1000)
  case k4 => exact rfl
  case k5 => exact locs rfl
  case k6 => decide
  case k7 => exact rfl
  case k8 => exact rfl
  case k9 => exact rfl
  intro L h₁ hL hns hk₁
  have F : Fr P₀ L h₁ _ := ⟨hns, fun b o q => hk₁ b o (hPs b o q), by rw [hL, hPz]; exact Nat.le_refl _⟩
  have N : News P₀ L h₁ nl := fun p hp => ⟨hk₁ _ _ (hnl p hp).1, by rw [hL]; exact Nat.ne_of_lt (Heap.lt_size (hnl p hp).1), hP0 p hp⟩
  have X0 : (Mine.hx.heap_39 w.params).In P₀ := X.keeps hBP
  have T0 := T.keeps hBP
  clear hns hk₁ X T
  unfold FaultIs at hF
  generalize kindOf x = k at hA hF
  cases hA with
  | sent ma =>
    replace N := news_head N ma
    k_steps
    (rename Fr _ _ _ _ => F4)
    (rename News _ _ _ _ => N4)
    exact hQ.out _ _ (hback _ F4.keep fun p hp => (N4 p (.tail _ hp)).1)
  | gone ma =>
    replace N := news_head N ma
    k_steps
    (rename Fr _ _ _ _ => F4)
    (rename News _ _ _ _ => N4)
    exact hQ.out _ _ (hback _ F4.keep fun p hp => (N4 p (.tail _ hp)).1)
  | line ma =>
    replace N := news_head N ma
    k_steps
    (rename Fr _ _ _ _ => F4)
    (rename News _ _ _ _ => N4)
    exact hQ.out _ _ (hback _ F4.keep fun p hp => (N4 p (.tail _ hp)).1)
  | helo ma =>
    rcases hF with ⟨hk, _⟩ | ⟨e, C, od, vs, sl, rfl, me, hE⟩
    · cases hk
    cases hE with | helo md =>
    replace N := news_head N md
    replace N := news_head N (.tail _ me)
    replace N := news_head N (.tail _ (.tail _ ma))
    k_steps
    (rename Fr _ _ _ _ => F4)
    (rename News _ _ _ _ => N4)
    (rename Frag.In _ _ => X4)
    refine ⟨get_exc (X4.keeps F4.keep) (inst_exc N4 (.tail _ (.head _)) (.tail _ (.tail _ (.head _)))) (rd142 _) (fc142 _ _ _ _ _ _ _ _) rfl ?_⟩
    k_steps
    (rename Fr _ _ _ _ => F4)
    (rename News _ _ _ _ => N4)
    (rename Frag.In _ _ => X4)
    refine ⟨get_exc (X4.keeps F4.keep) (inst_exc N4 (.tail _ (.head _)) (.tail _ (.tail _ (.head _)))) (rd142 _) (fe142 _ _ _ _ _ _ _ _) rfl ?_⟩
    k_steps
    (rename Fr _ _ _ _ => F4)
    (rename News _ _ _ _ => N4)
    rw [beq_self_eq_true]
    exact hQ.out _ _ (hback _ F4.keep fun p hp => (N4 p (.tail _ (.tail _ (.tail _ hp)))).1)
  | conn ma =>
    rcases hF with ⟨hk, _⟩ | ⟨e, C, od, vs, sl, rfl, me, hE⟩
    · cases hk
    cases hE with | conn md =>
    replace N := news_head N md
    replace N := news_head N (.tail _ me)
    replace N := news_head N (.tail _ (.tail _ ma))
    k_steps
    (rename Fr _ _ _ _ => F4)
    (rename News _ _ _ _ => N4)
    (rename Frag.In _ _ => X4)
    refine ⟨get_exc (X4.keeps F4.keep) (inst_exc N4 (.tail _ (.head _)) (.tail _ (.tail _ (.head _)))) (rd130 _) (fc130 _ _ _ _ _ _ _ _) rfl ?_⟩
    k_steps
    (rename Fr _ _ _ _ => F4)
    (rename News _ _ _ _ => N4)
    (rename Frag.In _ _ => X4)
    refine ⟨get_exc (X4.keeps F4.keep) (inst_exc N4 (.tail _ (.head _)) (.tail _ (.tail _ (.head _)))) (rd130 _) (fe130 _ _ _ _ _ _ _ _) rfl ?_⟩
    k_steps
    (rename Fr _ _ _ _ => F4)
    (rename News _ _ _ _ => N4)
    rw [beq_self_eq_true]
    exact hQ.out _ _ (hback _ F4.keep fun p hp => (N4 p (.tail _ (.tail _ (.tail _ hp)))).1)
  | auth ma =>
    rcases hF with ⟨hk, _⟩ | ⟨e, C, od, vs, sl, rfl, me, hE⟩
    · cases hk
    cases hE with | auth md =>
    replace N := news_head N md
    replace N := news_head N (.tail _ me)
    replace N := news_head N (.tail _ (.tail _ ma))
    k_steps
    (rename Fr _ _ _ _ => F4)
    (rename News _ _ _ _ => N4)
    (rename Frag.In _ _ => X4)
    refine ⟨get_exc (X4.keeps F4.keep) (inst_exc N4 (.tail _ (.head _)) (.tail _ (.tail _ (.head _)))) (rd154 _) (fc154 _ _ _ _ _ _ _ _) rfl ?_⟩
    k_steps
    (rename Fr _ _ _ _ => F4)
    (rename News _ _ _ _ => N4)
    (rename Frag.In _ _ => X4)
    refine ⟨get_exc (X4.keeps F4.keep) (inst_exc N4 (.tail _ (.head _)) (.tail _ (.tail _ (.head _)))) (rd154 _) (fe154 _ _ _ _ _ _ _ _) rfl ?_⟩
    k_steps
    (rename Fr _ _ _ _ => F4)
    (rename News _ _ _ _ => N4)
    rw [beq_self_eq_true]
    exact hQ.out _ _ (hback _ F4.keep fun p hp => (N4 p (.tail _ (.tail _ (.tail _ hp)))).1)
  | data ma =>
    rcases hF with ⟨hk, _⟩ | ⟨e, C, od, vs, sl, rfl, me, hE⟩
    · cases hk
    cases hE with | data md =>
    replace N := news_head N md
    replace N := news_head N (.tail _ me)
    replace N := news_head N (.tail _ (.tail _ ma))
    k_steps
    (rename Fr _ _ _ _ => F4)
    (rename News _ _ _ _ => N4)
    (rename Frag.In _ _ => X4)
    refine ⟨get_exc (X4.keeps F4.keep) (inst_exc N4 (.tail _ (.head _)) (.tail _ (.tail _ (.head _)))) (rd118 _) (fc118 _ _ _ _ _ _ _ _) rfl ?_⟩
    k_steps
    (rename Fr _ _ _ _ => F4)
    (rename News _ _ _ _ => N4)
    (rename Frag.In _ _ => X4)
    refine ⟨get_exc (X4.keeps F4.keep) (inst_exc N4 (.tail _ (.head _)) (.tail _ (.tail _ (.head _)))) (rd118 _) (fe118 _ _ _ _ _ _ _ _) rfl ?_⟩
    k_steps
    (rename Fr _ _ _ _ => F4)
    (rename News _ _ _ _ => N4)
    rw [beq_self_eq_true]
    exact hQ.out _ _ (hback _ F4.keep fun p hp => (N4 p (.tail _ (.tail _ (.tail _ hp)))).1)
  | sender ma =>
    rcases hF with ⟨hk, _⟩ | ⟨e, C, od, vs, sl, rfl, me, hE⟩
    · cases hk
    cases hE with | sender md =>
    replace N := news_head N md
    replace N := news_head N (.tail _ me)
    replace N := news_head N (.tail _ (.tail _ ma))
    k_steps
    (rename Fr _ _ _ _ => F4)
    (rename News _ _ _ _ => N4)
    (rename Frag.In _ _ => X4)
    refine ⟨get_exc (X4.keeps F4.keep) (inst_exc N4 (.tail _ (.head _)) (.tail _ (.tail _ (.head _)))) (rd87 _) (fs87 _ _ _ _ _ _ _ _ _ _ _) rfl ?_⟩
    k_steps
    · (rename (sText x != sText x) = true => hz)
      rw [bne_self_eq_false] at hz
      cases hz
    · (rename Fr _ _ _ _ => F4)
      (rename News _ _ _ _ => N4)
      (rename Frag.In _ _ => X4)
      refine ⟨get_exc (X4.keeps F4.keep) (inst_exc N4 (.tail _ (.head _)) (.tail _ (.tail _ (.head _)))) (rd87 _) (fc87 _ _ _ _ _ _ _ _ _ _ _) rfl ?_⟩
      k_steps
      · (rename Fr _ _ _ _ => F4)
        (rename News _ _ _ _ => N4)
        (rename Frag.In _ _ => X4)
        refine ⟨get_exc (X4.keeps F4.keep) (inst_exc N4 (.tail _ (.head _)) (.tail _ (.tail _ (.head _)))) (rd87 _) (fe87 _ _ _ _ _ _ _ _ _ _ _) rfl ?_⟩
        k_steps
        (rename Fr _ _ _ _ => F5)
        (rename News _ _ _ _ => N5)
        rw [beq_self_eq_true]
        exact hQ.out _ _ (hback _ F5.keep fun p hp => (N5 p (.tail _ (.tail _ (.tail _ hp)))).1)
      · (rename ¬ 550 + Int.fmod x 5 = 550 + Int.fmod x 5 => hz)
        exact absurd rfl hz
  | nobody ma hR =>
    rcases hF with ⟨hk, _⟩ | ⟨e, C, od, vs, sl, rfl, me, hE⟩
    · cases hk
    cases hE with | nobody md hR' =>
    replace N := news_head N md
    replace N := news_head N (.tail _ me)
    replace N := news_head N (.tail _ (.tail _ ma))
    k_steps
    (rename Fr _ _ _ _ => F4)
    (rename News _ _ _ _ => N4)
    (rename Frag.In _ _ => X4)
    refine ⟨get_exc (X4.keeps F4.keep) (inst_exc N4 (.tail _ (.head _)) (.tail _ (.tail _ (.head _)))) (rd106 _) (fr106 _ _ _ _ _) rfl ?_⟩
    k_steps
    (rename Fr _ _ _ _ => F4)
    (rename News _ _ _ _ => N4)
    refine ref_eq hR' hR (fun p hp => (N4 p (.tail _ (.tail _ (.tail _ hp)))).1) (show 143 + 1 < cLine by decide) ?_
    exact hQ.out _ _ (hback _ F4.keep fun p hp => (N4 p (.tail _ (.tail _ (.tail _ hp)))).1)
end
end Mine
end
section
/-! ## M11a -/
open PySem PySem.W PySem.Calls PyProof.Rows
namespace Mine
section
variable {w : World} {A : Around} {E : Value → Shared → Prop} {s : Shared} {B h : Heap} {L : Addr} {m mg mb : Str → Option Value} {mean : ExcName → Option Value} {nl : List (Addr × Obj)} {x : Int} {t : Tok} {tk : Nat} {envL : Env} {Q : Value → Shared → Prop}
theorem fr_none (F : Fr B L h m) : B.get? L = none := by
  cases q : B.get? L with
  | none => rfl
  | some o => exact absurd (Nat.lt_of_lt_of_le (Heap.lt_size q) F.above) (Nat.lt_irrefl _)
/-- the law's frame and ledger behind a call -/
theorem Back.on {oL : Obj} {h' : Heap} {nw : List (Addr × Obj)} (b : Back B h L oL h' nw) (F : Fr B L h m) (hoL : h.get? L = some oL) (N : News B L h nl) : Fr B L h' m ∧ News B L h' (nw ++ nl) := by
  refine ⟨⟨?_, fun a o q => b.keep a o (F.keep a o q) (fun z => by rw [z, fr_none F] at q; cases q), F.above⟩, fun p hp => ?_⟩
  · obtain ⟨o, es, ep, ho, hd, r⟩ := F.ns
    rw [hoL] at ho; injection ho with ho; subst ho
    obtain ⟨sl, hsl⟩ := b.fr
    exact ⟨_, es, ep, hsl, hd, r⟩
  · rcases List.mem_append.mp hp with q | q
    · exact ⟨(b.nw p q).1, (b.nw p q).2.2, (b.nw p q).2.1⟩
    · exact ⟨b.keep _ _ (N p q).1 (N p q).2.1, (N p q).2⟩
theorem told_K (T : Top Mine.hx.view_39 (looseW Mine.hx.view_39 []) mean mg mb B) (X : (Mine.hx.heap_39 w.params).In B) (F : Fr B L s.heap m) (N : News B L s.heap nl) (hx0 : 0 ≤ x) (hx1 : x < 1000003)
    (hfr : A.frames = some [envL]) (hA1 : A.handled = none) (hA2 : A.depth ≤ 430) (hA3 : A.guards = some []) (hA4 : A.units ≤ 140)
    (hQ : ∀ r h' tk nw acc ta, Fr B L h' m → News B L h' (nw ++ nl) → (∀ p ∈ nw, ∀ q ∈ nl, p.1 ≠ q.1) → (r, tupO [.ref acc, .str (armOf (kindOf x)) ta]) ∈ nw → AccIs w nw x (kindOf x) acc → Q (.ref r) { s with heap := h', toks := tk }) :
    wpAny (model prog w) A (call (.ref 177) [.int x t] []) Q E s :=
  weaken (told_spec (fs := [envL]) (s := s) w (T.keeps F.keep) (X.keeps F.keep) hx0 hx1 ⟨fun r h' tk' nw k hn ⟨acc, ta, hr, hT⟩ => hQ r h' tk' nw acc ta (fr_on F k) (news_on F N k hn) (fun p hp q hq z => by have := (hn p hp).2; rw [z, (N q hq).1] at this; cases this) hr hT⟩) hA1 (Nat.le_trans hA2 (by decide : 430 ≤ 440)) (.inr hfr.symm) (.inr hA3.symm) (Nat.le_trans hA4 (by decide : 140 ≤ 170))
theorem narrow_K (T : Top Mine.hx.view_39 (looseW Mine.hx.view_39 []) mean mg mb B) (X : (Mine.hx.heap_39 w.params).In B) (F : Fr B L s.heap m) (N : News B L s.heap nl) (hx0 : 0 ≤ x) (hx1 : x < 1000003)
    (hfr : A.frames = some [envL]) (hA1 : A.handled = none) (hA2 : A.depth ≤ 430) (hA3 : A.guards = some []) (hA4 : A.units ≤ 140) (hfL : envL.frame = some L) (hkL : envL.scope.kind ≠ .module)
    (hQ : ∀ r h' tk nw, Fr B L h' m → News B L h' (nw ++ nl) → AccIs w (nw ++ nl) x (kindOf x) r → Q (.ref r) { s with heap := h', toks := tk }) :
    wpAny (model prog w) A (call (.ref 184) [.int x t] []) Q E s := by
  obtain ⟨oL, es, ep, hoL, hd, _⟩ := id F.ns
  refine weaken (narrow_spec (envL := envL) (s := s) w T X F.keep hkL hfL (fr_none F) hoL (by rw [hd]; intro vs z; cases z) hx0 hx1 fun r h' tk' nw b hA => ?_) hA1 hA2 (.inr hfr.symm) (.inr hA3.symm) hA4
  obtain ⟨F', N'⟩ := b.on F hoL N
  exact hQ r h' tk' nw F' N' (hA.mono fun p hp => List.mem_append_left _ hp)
theorem reply_K (T : Top Mine.hx.view_39 (looseW Mine.hx.view_39 []) mean mg mb B) (X : (Mine.hx.heap_39 w.params).In B) (F : Fr B L s.heap m) (N : News B L s.heap nl) (hx0 : 0 ≤ x) (hx1 : x < 1000003)
    (hfr : A.frames = some [envL]) (hA1 : A.handled = none) (hA2 : A.depth ≤ 430) (hA3 : A.guards = some []) (hA4 : A.units ≤ 140) (hfL : envL.frame = some L) (hkL : envL.scope.kind ≠ .module)
    (hQ : ∀ r h' tk nw ta fv, Fr B L h' m → News B L h' (nw ++ nl) → (∀ p ∈ nw, ∀ q ∈ nl, p.1 ≠ q.1) → (r, tupO [.str (armOf (kindOf x)) ta, fv]) ∈ nw → FaultIs w nw x fv → Q (.ref r) { s with heap := h', toks := tk }) :
    wpAny (model prog w) A (call (.ref 191) [.int x t] []) Q E s := by
  obtain ⟨oL, es, ep, hoL, hd, _⟩ := id F.ns
  refine weaken (reply_spec (envL := envL) (s := s) w T X F.keep hkL hfL (fr_none F) hoL (by rw [hd]; intro vs z; cases z) hx0 hx1 fun r h' tk' nw b hA => ?_) hA1 hA2 (.inr hfr.symm) (.inr hA3.symm) hA4
  obtain ⟨F', N'⟩ := b.on F hoL N
  obtain ⟨ta, fv, hr, hF⟩ := hA
  exact hQ r h' tk' nw ta fv F' N' (fun p hp q hq z => by have := b.fresh p hp; rw [z, (N q hq).1] at this; cases this) hr hF
theorem any_K (T : Top Mine.hx.view_39 (looseW Mine.hx.view_39 []) mean mg mb B) (X : (Mine.hx.heap_39 w.params).In B) (F : Fr B L s.heap m) (N : News B L s.heap nl) (hx0 : 0 ≤ x) (hx1 : x < 1000003)
    (hfr : A.frames = some [envL]) (hA1 : A.handled = none) (hA2 : A.depth ≤ 430) (hA3 : A.guards = some []) (hA4 : A.units ≤ 140) (hfL : envL.frame = some L) (hkL : envL.scope.kind ≠ .module)
    (hQ : ∀ h' tk, Fr B L h' m → News B L h' nl → Q (.bool (!isSent (kindOf x))) { s with heap := h', toks := tk }) :
    wpAny (model prog w) A (call (.ref 198) [.int x t] []) Q E s := by
  obtain ⟨oL, es, ep, hoL, hd, _⟩ := id F.ns
  refine weaken (any_spec (envL := envL) (s := s) w T X F.keep hkL hfL (fr_none F) hoL (by rw [hd]; intro vs z; cases z) hx0 hx1 fun h' tk' b => ?_) hA1 hA2 (.inr hfr.symm) (.inr hA3.symm) hA4
  obtain ⟨F', N'⟩ := b.on F hoL N
  exact hQ h' tk' F' N'
theorem kept_K {fv : Value} {acc : Addr} (T : Top Mine.hx.view_39 (looseW Mine.hx.view_39 []) mean mg mb B) (X : (Mine.hx.heap_39 w.params).In B) (F : Fr B L s.heap m) (N : News B L s.heap nl) (hA : AccIs w nl x (kindOf x) acc) (hF : FaultIs w nl x fv)
    (hfr : A.frames = some [envL]) (hA1 : A.handled = none) (hA2 : A.depth ≤ 430) (hA3 : A.guards = some []) (hA4 : A.units ≤ 140)
    (hQ : ∀ h' tk, Fr B L h' m → News B L h' nl → Q (.bool true) { s with heap := h', toks := tk }) :
    wpAny (model prog w) A (call (.ref 205) [fv, .ref acc] []) Q E s :=
  weaken (kept_spec (fs := [envL]) (s := s) w T X F.keep (news_facts N) hA hF ⟨fun h' tk' k => hQ h' tk' (fr_on F k) fun p hp => ⟨k _ _ (N p hp).1, (N p hp).2⟩⟩) hA1 hA2 (.inr hfr.symm) (.inr hA3.symm) hA4
end
/-- a loop over a list that was made, by an invariant -/
theorem iter_list {w : World} {A : Around} {E : Value → Shared → Prop} {s : Shared} {env : Env} {h₀ : Heap} {x : Str} {body : List Stmt} {Q : Flow → Shared → Prop} {r : Addr} {o : Obj} {items : List Value} {cn : Nat} {m₀ : Str → Option Value} {news : List (Addr × Obj)}
    (J : Nat → (Str → Option Value) → List (Addr × Obj) → Prop) (hh : A.handled = none) (hr : (r, o) ∈ news) (ho : o = W.listOf items.toArray cn)
    (F : Fr h₀ env.locals s.heap m₀) (N : News h₀ env.locals s.heap news) (hj : J 0 m₀ news)
    (turn : ∀ i v m₁ news₁ h tk own, items[i]? = some v → J i m₁ news₁ → (∀ p ∈ own, p.1 = s.heap.objs.size ∨ p.1 = r) → (∀ p ∈ news₁, p.1 ≠ s.heap.objs.size) → (∃ oI, (s.heap.objs.size, oI) ∈ own) → Fr h₀ env.locals h (fun y => if y = x then some v else m₁ y) → News h₀ env.locals h (own ++ news₁) →
      wpAny (model prog w) A (execs body env) (LoopStepV h₀ env.locals [s.heap.objs.size] own (J (i + 1)) { s with heap := h, toks := tk } (fun v s' => Q (.ret v) s') fun s' => Q .next s') E { s with heap := h, toks := tk })
    (done : ∀ m₁ news₁ h tk, J items.length m₁ news₁ → Fr h₀ env.locals h m₁ → News h₀ env.locals h news₁ → Q .next { s with heap := h, toks := tk }) :
    wpAny (model prog w) A (pyIter (.ref r)) (fun it s₂ => LoopAtV prog w A h₀ env x body Q E it s₂) E s := by
  subst ho
  have hl : s.heap.IsList r items.toArray := ⟨_, (N _ hr).1, rfl, _, rfl⟩
  have hlt : r < s.heap.objs.size := Heap.lt_size (N _ hr).1
  refine wpAny_pyIter_list hl ?_
  have W := Walks.list (prog := prog) (w := w) hh s.heap.objs.size r (Nat.ne_of_lt hlt) items.toArray
  refine ⟨_, _, _, _, _, _, m₀, news, J, rfl, W, ?_, ?_, ?_, ⟨⟨_, Heap.get?_push_size _ rfl, rfl, rfl⟩, ⟨_, Heap.get?_push_of_some _ (N _ hr).1, rfl, _, rfl⟩⟩, F.push _, (fun p hp => ⟨Heap.get?_push_of_some _ (N p hp).1, (N p hp).2⟩), hj, ?_, ?_⟩
  · intro hm
    simp only [List.mem_cons, List.not_mem_nil, or_false] at hm
    rcases hm with q | q
    · exact absurd F.ns.lt (q ▸ Nat.lt_irrefl _)
    · exact (N _ hr).2.1 q.symm
  · intro b hb
    rw [List.mem_singleton.mp hb]
    exact next_is_new F
  · intro p hp hI
    exact absurd (Heap.lt_size (N p hp).1) ((List.mem_singleton.mp hI) ▸ Nat.lt_irrefl _)
  · rintro i v m₁ news₁ s₁ own ⟨hh', tk', rfl⟩ hin hv hJ hoff hsub _ hmem hst F₁ N₁
    obtain ⟨oI, hoI, _⟩ := id hst.1
    exact turn i v m₁ news₁ hh' tk' own (by simpa using hv) hJ (fun p hp => by simpa using hsub p hp) (fun p hp => by simpa using hoff p hp) ⟨_, hmem _ (.head _) (next_is_new F) _ hoI⟩ F₁ N₁
  · intro h' tk m' news' F' N' _ hJ
    exact done m' news' h' tk (by simpa using hJ) F' N'
theorem ints_at {vs : List Value} {ns : List Int} (h : IntsAre vs ns) : ∀ {i : Nat} {v : Value}, vs[i]? = some v → ∃ n t, v = .int n t ∧ n ∈ ns := by
  induction h with
  | nil => intro i v q; simp at q
  | cons n t _ ih =>
    intro i v q
    cases i with
    | zero => simp at q; exact ⟨n, t, q.symm, .head _⟩
    | succ i =>
      obtain ⟨n', t', e, hm⟩ := ih (i := i) (v := v) (by simpa using q)
      exact ⟨n', t', e, .tail _ hm⟩
theorem ints_len {vs : List Value} {ns : List Int} (h : IntsAre vs ns) : vs.length = ns.length := by
  induction h with
  | nil => rfl
  | cons n t _ ih => simp [ih]
theorem mails_in {ks : List Int} {n : Int} (h : n ∈ List.map (fun k => Int.fmod k 1000003) (List.take 8 ks) ++ [3, 4, 5, 29, 101, 773]) : 0 ≤ n ∧ n < 1000003 := by
  rcases List.mem_append.mp h with q | q
  · obtain ⟨k, _, rfl⟩ := List.mem_map.mp q
    exact ⟨Int.fmod_nonneg_of_pos k (by decide), Int.fmod_lt_of_pos k (by decide)⟩
  · simp only [List.mem_cons, List.not_mem_nil, or_false] at q
    omega
abbrev mL (u1 u2 u3 u4 : Option Value) (K D S : Addr) : Str → Option Value := fun z => if z = Str.ofString "met" then u4 else if z = Str.ofString "arm" then u3 else if z = Str.ofString "account" then u2 else if z = Str.ofString "x" then u1 else if z = Str.ofString "kept" then some (.ref K) else if z = Str.ofString "mails" then some (.ref D) else [(Str.ofString "script", Value.ref S)].reverse.lookup z
theorem mL_start (K D S : Addr) : (fun z => if z = Str.ofString "kept" then some (Value.ref K) else if z = Str.ofString "mails" then some (.ref D) else [(Str.ofString "script", Value.ref S)].reverse.lookup z) = mL none none none none K D S := by
  funext z
  by_cases h1 : z = Str.ofString "met"
  · subst h1; rfl
  by_cases h2 : z = Str.ofString "arm"
  · subst h2; rfl
  by_cases h3 : z = Str.ofString "account"
  · subst h3; rfl
  by_cases h4 : z = Str.ofString "x"
  · subst h4; rfl
  simp only [mL, if_neg h1, if_neg h2, if_neg h3, if_neg h4]
theorem mL_pair (u5 v5 u1 u2 u3 u4 : Option Value) (K D S : Addr) : (fun z => if z = Str.ofString "pair" then u5 else if z = Str.ofString "pair" then v5 else mL u1 u2 u3 u4 K D S z) = (fun z => if z = Str.ofString "pair" then u5 else mL u1 u2 u3 u4 K D S z) := by
  funext z
  by_cases h1 : z = Str.ofString "pair"
  · subst h1; rfl
  simp only [if_neg h1]
theorem mL_pair0 (u1 u2 u3 u4 : Option Value) (K D S : Addr) : mL u1 u2 u3 u4 K D S = (fun z => if z = Str.ofString "pair" then none else mL u1 u2 u3 u4 K D S z) := by
  funext z
  by_cases h1 : z = Str.ofString "pair"
  · subst h1; rfl
  simp only [if_neg h1]
theorem arm_sent (k : Kind) : ((!isSent k) != (armOf k != Str.ofString "sent")) = false := by cases k <;> decide +kernel
theorem mL_turn (a1 a2 a3 a4 u1 u2 u3 u4 : Option Value) (K D S : Addr) : (fun z => if z = Str.ofString "met" then a4 else if z = Str.ofString "arm" then a3 else if z = Str.ofString "account" then a2 else if z = Str.ofString "x" then a1 else mL u1 u2 u3 u4 K D S z) = mL a1 a2 a3 a4 K D S := by
  funext z
  by_cases h1 : z = Str.ofString "met"
  · subst h1; rfl
  by_cases h2 : z = Str.ofString "arm"
  · subst h2; rfl
  by_cases h3 : z = Str.ofString "account"
  · subst h3; rfl
  by_cases h4 : z = Str.ofString "x"
  · subst h4; rfl
  simp only [mL, if_neg h1, if_neg h2, if_neg h3, if_neg h4]
end Mine
end
section
/-! ## M11 -/
open PySem PySem.W PySem.Calls PyProof.Rows
namespace Mine
section
def PairsIn (w : World) (nl : List (Addr × Obj)) (ws : List Value) : Prop := ∀ v ∈ ws, ∃ pr fv acc x, v = .ref pr ∧ (pr, tupO [fv, .ref acc]) ∈ nl ∧ AccIs w nl x (kindOf x) acc ∧ FaultIs w nl x fv
theorem PairsIn.mono {w : World} {nl nl' : List (Addr × Obj)} {ws : List Value} (h : PairsIn w nl ws) (k : ∀ p ∈ nl, p ∈ nl') : PairsIn w nl' ws := fun v hv =>
  let ⟨pr, fv, acc, x, e, a, b, c⟩ := h v hv; ⟨pr, fv, acc, x, e, k _ a, b.mono k, c.mono k⟩
theorem turn_end {w : World} {B h : Heap} {L K I Dp r acc : Addr} {oI : Obj} {fv : Value} {o : Obj} {ws2 : List Value} {i : Nat} {x : Int} {own R'' Z'' : List (Addr × Obj)} (N4 : News B L h ((Dp, tupO [fv, .ref acc]) :: (K, W.listOf (ws2.toArray.push (.ref Dp)) (i + 1)) :: (r, o) :: R''))
    (hKD : K < Dp) (hID : (I, oI).1 < Dp) (hKI : K ≠ I) (hne4 : ∀ p ∈ R'', p.1 ≠ K) (hoR : ∀ p ∈ own, p ∈ R'') (hZR2 : ∀ p ∈ Z'', p ∈ R'') (hIZ2 : ∀ p ∈ Z'', p.1 ≠ I) (hlen : ws2.length = i) (hP2 : PairsIn w Z'' ws2) (hAcc2 : AccIs w Z'' x (kindOf x) acc) (hF : FaultIs w Z'' x fv) :
    ∃ news₂, News B L h (own ++ news₂) ∧ (∀ p ∈ news₂, p.1 ≠ I) ∧ ∃ ws nl, news₂ = (K, W.listOf ws.toArray (i + 1)) :: nl ∧ (∀ p ∈ nl, p.1 ≠ K) ∧ ws.length = i + 1 ∧ PairsIn w nl ws := by
  refine ⟨(K, W.listOf (ws2 ++ [Value.ref Dp]).toArray (i + 1)) :: (Dp, tupO [fv, .ref acc]) :: Z'', ?_, ?_, _, _, rfl, ?_, ?_, ?_⟩
  · intro p hp
    rcases List.mem_append.mp hp with q | q
    · exact N4 p (.tail _ (.tail _ (.tail _ (hoR p q))))
    · rcases List.mem_cons.mp q with q | q
      · rw [q, ← List.push_toArray]; exact N4 _ (.tail _ (.head _))
      · rcases List.mem_cons.mp q with q | q
        · rw [q]; exact N4 _ (.head _)
        · exact N4 p (.tail _ (.tail _ (.tail _ (hZR2 p q))))
  · intro p hp
    rcases List.mem_cons.mp hp with q | q
    · rw [q]; exact hKI
    · rcases List.mem_cons.mp q with q | q
      · rw [q]; exact Nat.ne_of_gt hID
      · exact hIZ2 p q
  · intro p hp
    rcases List.mem_cons.mp hp with q | q
    · rw [q]; exact Nat.ne_of_gt hKD
    · exact hne4 p (hZR2 p q)
  · rw [List.length_append, hlen]; rfl
  · intro v hv
    rcases List.mem_append.mp hv with q | q
    · exact hP2.mono (fun p hp => .tail _ hp) v q
    · exact ⟨_, _, _, x, List.mem_singleton.mp q, .head _, hAcc2.mono (fun p hp => .tail _ hp), hF.mono fun p hp => .tail _ hp⟩
set_option maxRecDepth 100000 in
set_option maxHeartbeats 8000000 in
theorem law_holds : PySem.Challenge.rw_mj0335_01.Holds := Mine.hx (by
  k_go0
  (rename World => w)
  (rename Shared => s₁)
  (rename Fr _ _ _ _ => F)
  (rename News _ _ _ _ => N)
  (rename Top _ _ _ _ _ _ => T)
  (rename Frag.In _ _ => X)
  refine' cut (fun s' => ∃ h' tk S D ws ks nl, s' = { s₁ with heap := h', toks := tk } ∧ Fr s₁.heap s₁.heap.objs.size h' (fun z => if z = Str.ofString "mails" then some (.ref D) else [(Str.ofString "script", Value.ref S)].reverse.lookup z) ∧ News s₁.heap s₁.heap.objs.size h' ((D, W.listOf ws.toArray 0) :: nl) ∧ IntsAre ws (List.map (fun k => Int.fmod k 1000003) (List.take 8 ks) ++ [3, 4, 5, 29, 101, 773])) ?_ ?_
  · k_steps
    exact ⟨rfl, _, _, _, _, _, _, _, rfl, by assumption, by assumption, by assumption⟩
  clear F N
  rintro s' ⟨h1, tk1, S, D, ws, ks, nl, rfl, F, N, hI⟩
  refine' cut (fun s' => ∃ h' tk K, s' = { s₁ with heap := h', toks := tk } ∧ Fr s₁.heap s₁.heap.objs.size h' (mL none none none none K D S) ∧ News s₁.heap s₁.heap.objs.size h' ((K, W.listOf #[] 0) :: (D, W.listOf ws.toArray 0) :: nl) ∧ (∀ p ∈ nl, p.1 ≠ K) ∧ D ≠ K) ?_ ?_
  · k_steps
    (rename Fr _ _ _ _ => F2)
    (rename News _ _ _ _ => N2)
    (rename _ ∧ _ => hlt)
    exact ⟨rfl, _, _, _, rfl, by rw [← mL_start]; exact F2, N2, fun p hp => Nat.ne_of_lt (allLt_mem hlt.2 hp), Nat.ne_of_lt hlt.1⟩
  clear F N
  rintro s' ⟨h1, tk1, K, rfl, F, N, hK, hDK⟩
  refine' execs_two ?_
  refine' For_invV s₁.heap rfl rfl ?_
  refine' evcut (fun v s' => ∃ h' tk, v = .ref D ∧ s' = { s₁ with heap := h', toks := tk } ∧ Fr s₁.heap s₁.heap.objs.size h' (mL none none none none K D S) ∧ News s₁.heap s₁.heap.objs.size h' ((K, W.listOf #[] 0) :: (D, W.listOf ws.toArray 0) :: nl)) ?_ ?_
  · k_steps
    exact ⟨_, _, rfl, rfl, F, N⟩
  clear F N
  rintro v s' ⟨h1, tk1, rfl, rfl, F, N⟩
  refine' iter_list (J := fun i m news => ∃ u1 u2 u3 u4 ws nl, m = mL u1 u2 u3 u4 K D S ∧ news = (K, W.listOf ws.toArray i) :: nl ∧ (∀ p ∈ nl, p.1 ≠ K) ∧ ws.length = i ∧ PairsIn w nl ws) rfl (.tail _ (.head _)) rfl F N ⟨none, none, none, none, [], _, rfl, rfl, ?_, rfl, fun v hv => nomatch hv⟩ ?_ ?_
  · intro p hp
    rcases List.mem_cons.mp hp with h | h
    · rw [h]; exact hDK
    · exact hK p h
  · clear F N
    rintro i v m₁ news₁ h tk own hv ⟨u1, u2, u3, u4, ws2, nl2, rfl, rfl, hK2, hlen, hP⟩ hown hout ⟨oI, hoI⟩ F N
    obtain ⟨x, t, rfl, hx⟩ := ints_at hI hv
    obtain ⟨hx0, hx1⟩ := mails_in hx
    have N2 : News s₁.heap s₁.heap.objs.size h ((K, W.listOf ws2.toArray i) :: (nl2 ++ own)) := fun p hp => N p (by simp only [List.mem_append, List.mem_cons] at hp ⊢; rcases hp with h | h | h <;> simp [h])
    have hne2 : ∀ p ∈ nl2 ++ own, p.1 ≠ K := fun p hp => (List.mem_append.mp hp).elim (hK2 p) fun q z => by
      rcases hown p q with e | e
      · exact hout _ (.head _) (by rw [← e]; exact z.symm)
      · exact hDK (by rw [← e]; exact z)
    clear N
    have hlen14 : ws2.length ≤ 14 := by
      have := ints_len hI
      have h2 : i < ws.length := (List.getElem?_eq_some_iff.mp hv).1
      simp at this
      omega
    have hI0 : ∀ p ∈ nl2, p.1 ≠ h1.objs.size := fun p hp => hout p (.tail _ hp)
    generalize hRR : nl2 ++ own = R at N2 hne2
    have hoR : ∀ p ∈ own, p ∈ R := fun p hp => by rw [← hRR]; exact List.mem_append_right _ hp
    have hnR : ∀ p ∈ nl2, p ∈ R := fun p hp => by rw [← hRR]; exact List.mem_append_left _ hp
    refine' cut (fun s' => ∃ h' tk acc ta Z' R', s' = { s₁ with heap := h', toks := tk } ∧ Fr s₁.heap s₁.heap.objs.size h' (fun z => if z = Str.ofString "arm" then some (.str (armOf (kindOf x)) ta) else if z = Str.ofString "account" then some (.ref acc) else if z = Str.ofString "x" then some (.int x t) else mL u1 u2 u3 u4 K D S z) ∧ News s₁.heap s₁.heap.objs.size h' ((K, W.listOf ws2.toArray i) :: R') ∧ (∀ p ∈ R', p.1 ≠ K) ∧ (∀ p ∈ own, p ∈ R') ∧ (∀ p ∈ Z', p ∈ R') ∧ (∀ p ∈ Z', p.1 ≠ h1.objs.size) ∧ (∀ p ∈ nl2, p ∈ Z') ∧ AccIs w Z' x (kindOf x) acc) ?_ ?_
    · k_steps
      (rename Fr _ _ _ _ => kF)
      (rename News _ _ _ _ => kN)
      (rename Top _ _ _ _ _ _ => kT)
      (rename Frag.In _ _ => kX)
      refine ⟨told_K kT kX kF kN hx0 hx1 rfl rfl (by decide : 302 ≤ 430) rfl (by decide : 7 ≤ 140) ?_⟩
      clear kF kN
      intro r' h' tk' nw' acc' ta' F' N' hn' hr' hA'
      replace N' := news_head N' (List.mem_append_left _ hr')
      k_steps
      (rename Fr _ _ _ _ => F3)
      (rename News _ _ _ _ => N3)
      (rename AccIs _ _ _ _ _ => hA)
      (rename ∀ p ∈ _, ∀ q ∈ _, _ ≠ _ => hnn)
      exact ⟨rfl, _, _, _, _, _ ++ nl2, _ ++ R, rfl, F3, fun p hp => N3 p (by simp only [List.mem_append, List.mem_cons] at hp ⊢; rcases hp with h | h | h <;> simp [h]), fun p hp => (List.mem_append.mp hp).elim (fun q => hnn p q _ (.head _)) (hne2 p), fun p hp => List.mem_append_right _ (hoR p hp),
        fun p hp => (List.mem_append.mp hp).elim (fun q => List.mem_append_left _ q) (fun q => List.mem_append_right _ (hnR p q)), fun p hp => (List.mem_append.mp hp).elim (fun q => hnn p q _ (.tail _ (hoR _ hoI))) (hI0 p), fun p hp => List.mem_append_right _ hp, hA.mono fun p hp => List.mem_append_left _ hp⟩
    clear F N2 hRR hoR hnR hne2 R
    rintro s' ⟨h2, tk2, acc, ta, Z', R', rfl, F, N, hne3, hoR, hZR, hIZ, hsub, hAcc⟩
    refine' cut (fun s' => ∃ h' tk, s' = { s₁ with heap := h', toks := tk } ∧ Fr s₁.heap s₁.heap.objs.size h' (fun z => if z = Str.ofString "arm" then some (.str (armOf (kindOf x)) ta) else if z = Str.ofString "account" then some (.ref acc) else if z = Str.ofString "x" then some (.int x t) else mL u1 u2 u3 u4 K D S z) ∧ News s₁.heap s₁.heap.objs.size h' ((K, W.listOf ws2.toArray i) :: R')) ?_ ?_
    · k_steps
      (rename Fr _ _ _ _ => kF)
      (rename News _ _ _ _ => kN)
      (rename Top _ _ _ _ _ _ => kT)
      (rename Frag.In _ _ => kX)
      refine ⟨narrow_K kT kX kF kN hx0 hx1 rfl rfl (by decide : 302 ≤ 430) rfl (by decide : 7 ≤ 140) rfl (by decide : ScopeKind.function ≠ ScopeKind.module) ?_⟩
      clear kF kN
      intro r' h' tk' nw' F' N' hA'
      k_steps
      (rename Fr _ _ _ _ => F3)
      (rename News _ _ _ _ => N3)
      (rename AccIs _ _ _ _ _ => hA)
      refine acc_ne hA (hAcc.mono fun p hp => List.mem_append_right _ (.tail _ (hZR p hp))) (fun p hp => (N3 p hp).1) (by decide : 7 + 1 + 1 < cLine) (by decide : 7 < cLine) ?_
      k_steps
      (rename Fr _ _ _ _ => F4)
      (rename News _ _ _ _ => N4)
      exact ⟨rfl, _, _, rfl, F4, fun p hp => N4 p (List.mem_append_right _ hp)⟩
    clear F N
    rintro s' ⟨h3, tk3, rfl, F, N⟩
    refine' cut (fun s' => ∃ h' tk r ta' fv Z'' R'', s' = { s₁ with heap := h', toks := tk } ∧ Fr s₁.heap s₁.heap.objs.size h' (fun z => if z = Str.ofString "met" then some (.ref r) else if z = Str.ofString "arm" then some (.str (armOf (kindOf x)) ta) else if z = Str.ofString "account" then some (.ref acc) else if z = Str.ofString "x" then some (.int x t) else mL u1 u2 u3 u4 K D S z) ∧ News s₁.heap s₁.heap.objs.size h' ((K, W.listOf ws2.toArray i) :: R'') ∧ (∀ p ∈ R'', p.1 ≠ K) ∧ (∀ p ∈ own, p ∈ R'') ∧ (∀ p ∈ Z'', p ∈ R'') ∧ (∀ p ∈ Z'', p.1 ≠ h1.objs.size) ∧ (∀ p ∈ Z', p ∈ Z'') ∧ (r, tupO [.str (armOf (kindOf x)) ta', fv]) ∈ R'' ∧ FaultIs w Z'' x fv) ?_ ?_
    · k_steps
      (rename Fr _ _ _ _ => kF)
      (rename News _ _ _ _ => kN)
      (rename Top _ _ _ _ _ _ => kT)
      (rename Frag.In _ _ => kX)
      refine ⟨reply_K kT kX kF kN hx0 hx1 rfl rfl (by decide : 302 ≤ 430) rfl (by decide : 7 ≤ 140) rfl (by decide : ScopeKind.function ≠ ScopeKind.module) ?_⟩
      clear kF kN
      intro r' h' tk' nw' ta' fv' F' N' hn' hr' hF'
      replace N' := news_head N' (List.mem_append_left _ hr')
      k_steps
      (rename Fr _ _ _ _ => F3)
      (rename News _ _ _ _ => N3)
      (rename FaultIs _ _ _ _ => hF)
      (rename ∀ p ∈ _, ∀ q ∈ _, _ ≠ _ => hnn)
      (rename (_, _) ∈ _ => hr)
      exact ⟨rfl, _, _, _, _, _, _ ++ Z', _ ++ R', rfl, F3, fun p hp => N3 p (by simp only [List.mem_append, List.mem_cons] at hp ⊢; rcases hp with h | h | h <;> simp [h]), fun p hp => (List.mem_append.mp hp).elim (fun q => hnn p q _ (.head _)) (hne3 p), fun p hp => List.mem_append_right _ (hoR p hp),
        fun p hp => (List.mem_append.mp hp).elim (fun q => List.mem_append_left _ q) (fun q => List.mem_append_right _ (hZR p q)), fun p hp => (List.mem_append.mp hp).elim (fun q => hnn p q _ (.tail _ (hoR _ hoI))) (hIZ p), fun p hp => List.mem_append_right _ hp, List.mem_append_left _ hr, hF.mono fun p hp => List.mem_append_left _ hp⟩
    clear F N hne3 hoR
    rintro s' ⟨h4, tk4, r, ta', fv, Z'', R'', rfl, F, N, hne4, hoR, hZR2, hIZ2, hsub2, hr, hF⟩
    replace N := news_head N (.tail _ hr)
    refine' cut (fun s' => ∃ h' tk, s' = { s₁ with heap := h', toks := tk } ∧ Fr s₁.heap s₁.heap.objs.size h' (fun z => if z = Str.ofString "met" then some (.ref r) else if z = Str.ofString "arm" then some (.str (armOf (kindOf x)) ta) else if z = Str.ofString "account" then some (.ref acc) else if z = Str.ofString "x" then some (.int x t) else mL u1 u2 u3 u4 K D S z) ∧ News s₁.heap s₁.heap.objs.size h' ((K, W.listOf ws2.toArray i) :: R'')) ?_ ?_
    · k_steps
      · (rename (armOf (kindOf x) != armOf (kindOf x)) = true => hz)
        rw [bne_self_eq_false] at hz
        cases hz
      · (rename Fr _ _ _ _ => kF)
        (rename News _ _ _ _ => kN)
        (rename Top _ _ _ _ _ _ => kT)
        (rename Frag.In _ _ => kX)
        refine ⟨any_K kT kX kF kN hx0 hx1 rfl rfl (by decide : 302 ≤ 430) rfl (by decide : 7 ≤ 140) rfl (by decide : ScopeKind.function ≠ ScopeKind.module) ?_⟩
        clear kF kN
        intro h' tk' F' N'
        k_steps
        · (rename ((!isSent (kindOf x)) != (armOf (kindOf x) != Str.ofString "sent")) = true => hz)
          rw [arm_sent] at hz
          cases hz
        · (rename Fr _ _ _ _ => F4)
          (rename News _ _ _ _ => N4)
          exact ⟨rfl, _, _, rfl, F4, fun p hp => N4 p (.tail _ hp)⟩
    clear F N
    rintro s' ⟨h5, tk5, rfl, F, N⟩
    have N6 : News s₁.heap s₁.heap.objs.size h5 ((K, W.listOf ws2.toArray i) :: (r, tupO [.str (armOf (kindOf x)) ta', fv]) :: R'') := fun p hp => N p (by simp only [List.mem_cons] at hp ⊢; rcases hp with h | h | h; (· exact .inl h); (· rw [h]; exact .inr hr); (· exact .inr h))
    clear N
    have hKr : ∀ p ∈ (r, tupO [.str (armOf (kindOf x)) ta', fv]) :: R'', p.1 ≠ K := fun p hp => (List.mem_cons.mp hp).elim (fun q => by rw [q]; exact hne4 _ hr) (hne4 p)
    have hAcc2 := hAcc.mono hsub2
    have hP2 := hP.mono fun p hp => hsub2 p (hsub p hp)
    have hsz : ws2.toArray.size ≤ sizeLine := by rw [sizeLine_eq]; simp; omega
    rcases id hF with ⟨hk, rfl⟩ | ⟨e, C, od, vs, sl, rfl, me, hE⟩
    all_goals
      k_steps
      (rename Fr _ _ _ _ => F4)
      (rename News _ _ _ _ => N4)
      (rename _ ∧ _ => hlt)
      refine append_K F4 N4 (.tail (Nat.ne_of_gt hlt.1) (.head hKr)) ?_ hsz
      clear F4 N4
      intro h6 F N
      k_steps
      (rename Fr _ _ _ _ => F4)
      (rename News _ _ _ _ => N4)
      obtain ⟨news₂, na, nb, ws3, nl3, rfl, nc, nd, ne⟩ := turn_end N4 hlt.1 (allLt_mem hlt.2.2 (hoR _ hoI)) (hout _ (.head _)) hne4 hoR hZR2 hIZ2 hlen hP2 hAcc2 hF
      exact ⟨rfl, _, _, _, _, rfl, F4, na, fun p hp => by rw [List.mem_singleton]; exact nb p hp, _, _, _, _, _, _, mL_turn _ _ _ _ _ _ _ _ _ _ _, rfl, nc, nd, ne⟩
  clear F N
  rintro m₁ news₁ h6 tk6 ⟨u1, u2, u3, u4, ws2, nl2, rfl, rfl, hK2, hlen, hP⟩ F N
  dsimp only
  refine' execs_two ?_
  refine' For_invV s₁.heap rfl rfl ?_
  refine' evcut (fun v s' => ∃ h' tk, v = .ref K ∧ s' = { s₁ with heap := h', toks := tk } ∧ Fr s₁.heap s₁.heap.objs.size h' (mL u1 u2 u3 u4 K D S) ∧ News s₁.heap s₁.heap.objs.size h' ((K, W.listOf ws2.toArray ws.length) :: nl2)) ?_ ?_
  · k_steps
    exact ⟨_, _, rfl, rfl, F, N⟩
  clear F N
  rintro v s' ⟨h7, tk7, rfl, rfl, F, N⟩
  refine' iter_list (J := fun i m news => ∃ u5, m = (fun z => if z = Str.ofString "pair" then u5 else mL u1 u2 u3 u4 K D S z) ∧ news = (K, W.listOf ws2.toArray ws.length) :: nl2) rfl (.head _) rfl F N ⟨none, mL_pair0 _ _ _ _ _ _ _, rfl⟩ ?_ ?_
  · clear F N
    rintro i v m₁ news₁ h tk own hv ⟨u5, rfl, rfl⟩ hown hout ⟨oI, hoI⟩ F N
    obtain ⟨pr, fv, acc, x, rfl, hpr, hA, hF⟩ := hP v (List.mem_of_getElem? hv)
    replace N := news_head N (List.mem_append_right _ (.tail _ hpr))
    replace hA := hA.mono (news' := (pr, tupO [fv, .ref acc]) :: (own ++ (K, W.listOf ws2.toArray ws.length) :: nl2)) fun p hp => .tail _ (List.mem_append_right _ (.tail _ hp))
    replace hF := hF.mono (news' := (pr, tupO [fv, .ref acc]) :: (own ++ (K, W.listOf ws2.toArray ws.length) :: nl2)) fun p hp => .tail _ (List.mem_append_right _ (.tail _ hp))
    generalize hRR : own ++ (K, W.listOf ws2.toArray ws.length) :: nl2 = R at N hA hF
    rcases id hF with ⟨hk, rfl⟩ | ⟨e, C, od, vs, sl, rfl, me, hE⟩
    all_goals
      k_steps
      (rename Fr _ _ _ _ => kF)
      (rename News _ _ _ _ => kN)
      (rename Top _ _ _ _ _ _ => kT)
      (rename Frag.In _ _ => kX)
      refine ⟨kept_K kT kX kF kN hA hF rfl rfl (by decide : 302 ≤ 430) rfl (by decide : 7 ≤ 140) ?_⟩
      clear kF kN
      intro h' tk' F' N'
      k_steps
      (rename Fr _ _ _ _ => F4)
      (rename News _ _ _ _ => N4)
      refine ⟨rfl, _, _, _, _, rfl, F4, fun p hp => N4 p (.tail _ (by rw [← hRR]; exact hp)), fun p hp => by rw [List.mem_singleton]; exact hout p hp, _, mL_pair _ _ _ _ _ _ _ _ _, rfl⟩
  · clear F N
    rintro m₁ news₁ h8 tk8 ⟨u5, rfl, rfl⟩ F N
    dsimp only
    k_steps)
end
end Mine
end
theorem PySem.Challenge.cw_mj0335_01_holds : PySem.Challenge.rw_mj0335_01.Holds := by
  exact Mine.law_holds
