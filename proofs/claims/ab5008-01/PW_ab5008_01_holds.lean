import PyProof.Rows.All
import Wide.All
import OpenK.AllK
import Wide.FinOn
import PySem.Challenge.RW_ab5008_01

set_option Elab.async false
set_option linter.all false

section PartTop0
open PySem PySem.W PyProof.Rows
namespace Mine
set_option maxRecDepth 100000
set_option maxHeartbeats 8000000
open_top hd for PySem.Challenge.rw_ab5008_01
end Mine
end PartTop0

section PartE1
open PySem PySem.W PyProof.Rows PySem.Calls
namespace Mine
set_option maxRecDepth 100000
set_option maxHeartbeats 8000000
section
variable {prog : Program} {w : World} {A : Around} {E : Value → Shared → Prop} {s : Shared} {env : Env} {bm bmB : List Value} {nm q : Str} {C N : Addr} {bs : List Value} {hdct : Bool} {sn : List Str} {sub : List Value} {ab : Bool} {col : Option Bool} {dd : Option Addr} {k0 k1 k2 k3 k5 : Option Value} {B newId initId : String} {mN : Str → Option Value} {h : Heap}

theorem issub_nested {k : Value} {dep : Int} {tk : Tok} {Q : Fin → Shared → Prop} (hk : k = .int dep tk)
    (hC : s.heap.get? C = some (excClassObj nm q C N bs bm hdct sn sub ab col dd k0 k1 k2 k3 k5 newId)) (hq : Q (.done (.ret (.bool true))) s) :
    wpAny (model prog w) A (Builtin.«issubclass.nested» ⟨[.ref C, .ref C, k], []⟩) Q E s := by
  subst hk
  obtain ⟨h, g, d, t, os⟩ := s
  have hT : (⟨h, g, d, t, os⟩ : Shared).TypeIs (.ref C) "type" := ⟨_, hC, rfl⟩
  have hcB : (Value.ref C :: bm).contains (.ref C) = true := by simp
  repeat (any_goals (first | assumption | with_reducible refine wpAny_loadPart_at hC ?_ | (with_reducible refine wpAny_isSubtype_exc hC ?_; rw [hcB]) | wp_step))

theorem issub_self (hC : s.heap.get? C = some (excClassObj nm q C N bs bm hdct sn sub ab col dd k0 k1 k2 k3 k5 newId)) {Q : Value → Shared → Prop} (hq : Q (.bool true) s) :
    wpAny (model prog w) A (call (.builtin "issubclass") [.ref C, .ref C]) Q E s := by
  have g : Meets (Builtin.«issubclass» ⟨[.ref C, .ref C], []⟩) (fun _ R s => s.heap.get? C = some (excClassObj nm q C N bs bm hdct sn sub ab col dd k0 k1 k2 k3 k5 newId) ∧ R (.ok (.ret (.bool true))) s) :=
    fun _ _ _ _ _ hs => issubclass_outer (issub_nested rfl hs.1 hs.2)
  exact call_issubclass g ⟨hC, hq⟩

theorem isInst_made {M : Model} {e : Addr} {oe : Obj} {base : Value} {Q : Bool → Shared → Prop} (hC : s.heap.get? C = some (excClassObj nm q C N bs bm hdct sn sub ab col dd k0 k1 k2 k3 k5 newId))
    (he : s.heap.get? e = some oe) (hcl : oe.cls = .ref C) (hcB : (Value.ref C :: bm).contains base = true) (hq : Q true s) : wpAny M A (isInstance (.ref e) base) Q E s := by
  obtain ⟨h, g, d, t, os⟩ := s
  unfold isInstance
  refine wpAny_bind (wpAny_bind (wpAny_loadPart he (wpAny_pure ?_)))
  rw [hcl]
  refine wpAny_isSubtype_exc hC ?_
  rw [hcB]; exact hq

theorem raise_bareG (F : ExcBaseFacts B newId initId bmB) (T : OwnTail s.heap bmB bm) (hbase : bm.contains (.type "BaseException") = true) {x : Str} {np pos : Pos} {Q : Flow → Shared → Prop}
    (hC : s.heap.get? C = some (excClassObj nm q C N bs bm hdct sn sub ab col dd k0 k1 k2 k3 k5 newId)) (hn : s.heap.Ns N mN) (hni : mN "__init__" = none)
    (hx : wpAny (model prog w) A (eval (.Name x np) env) (fun v s₁ => v = .ref C ∧ s₁ = s) E s)
    (hr : ∀ h' e, Heap.MadeExcOf s.heap h' e (.ref C) [] → wpAny (model prog w) A (raiseNew (.ref e)) Q E { s with heap := h' }) :
    wpAny (model prog w) A (exec (.Raise (some (.Name x np)) none pos) env) Q E s := by
  show wpAny (model prog w) A (do standAt pos; raiseStmt env (some (do let v ← eval (.Name x np) env; standAt pos; pure v)) none) Q E s
  refine wpAny_bind (wpAny_standAt ?_)
  unfold raiseStmt
  dsimp only
  refine wpAny_bind (wpAny_bind (wpAny_mono hx (fun v s₁ h₁ => wpAny_bind (wpAny_standAt (wpAny_pure ?_))) fun _ _ e => e))
  obtain ⟨rfl, hs₁⟩ := h₁
  subst s₁
  refine wpAny_bind (wpAny_pure ?_)
  dsimp only
  have hcB : (Value.ref C :: bm).contains (.type "BaseException") = true := by rw [List.contains_cons, hbase, Bool.or_true]
  obtain ⟨h, g, d, t, os⟩ := s
  refine wpAny_bind (wpAny_holding ?_)
  unfold excFromValue isExcClass isType
  refine wpAny_bind (wpAny_bind (wpAny_bind (wpAny_loadPart hC (wpAny_pure ?_))))
  simp only [excClassObj, if_true]
  refine wpAny_isSubtype_exc hC ?_
  rw [hcB]
  simp only [if_true]
  refine wpAny_bind (wpAny_call_exc_subT F T hC hn hni fun h' e hm => ?_)
  obtain ⟨tt, he, _⟩ := hm.there
  have hC' := hm.keeps _ _ hC
  refine wpAny_bind (isInst_made hC' he rfl hcB ?_)
  simp only [Bool.not_true, Bool.false_eq_true, if_false]
  refine wpAny_pure ?_
  refine wpAny_bind (wpAny_bind (wpAny_loadPart hC' (wpAny_pure ?_)))
  simp only [if_true]
  refine wpAny_bind (wpAny_holding ?_)
  unfold raisedFor
  simp only [Bool.false_eq_true, if_false]
  refine wpAny_bind (wpAny_bind (wpAny_loadPart he (wpAny_pure ?_)))
  refine wpAny_bind (issub_self hC' ?_)
  refine wpAny_bind (wpAny_truthy_bool ?_)
  simp only [if_true]
  refine wpAny_pure ?_
  unfold setFlight
  refine wpAny_bind (wpAny_bind (wpAny_field (i := 1) (x := Value.none) he rfl rfl ?_))
  rw [if_neg (by decide)]
  exact wpAny_pure (hr _ _ hm)

structure MadeC (h h' : Heap) (e C : Addr) : Prop where
  keeps : ∀ b o, h.get? b = some o → h'.get? b = some o
  new : h.get? e = none
  there : ∃ t cx, h'.get? e = some { cls := .ref C, data := .fields #[.ref t, .none, cx, .none, .bool false, .none] } ∧ h.get? t = none ∧
    h'.get? t = some { cls := .type "tuple", data := .seq #[] }
theorem MadeC.of {h h' : Heap} {e C : Addr} (x : Heap.MadeExcOf h h' e (.ref C) []) : MadeC h h' e C :=
  ⟨x.keeps, x.new, let ⟨t, a, b, c⟩ := x.there; ⟨t, _, a, b, c⟩⟩

theorem entry_unchain : entryFor table "proto.unchain" = some Builtin.«proto.unchain» := by first | exact entryFor_of_fast (by kernel_rfl) | exact entryFor_of_tree (by kernel_rfl)

theorem raiseNew_ctx {α : Type} {e d : Addr} {od : Obj} {vs : Array Value} {Q : α → Shared → Prop} (hh : A.handled = some (.ref d)) (hne : d ≠ e) (hd : s.heap.get? d = some od) (hdd : od.data = .fields vs) (h2 : vs[2]? = some .none)
    {oe : Obj} {ws : Array Value} (he : s.heap.get? e = some oe) (hed : oe.data = .fields ws) (hsz : 2 < ws.size)
    (h : E (.ref e) { s with heap := s.heap.update e (Obj.mapFields (·.setIfInBounds 2 (.ref d))) }) :
    wpAny (model prog w) A (raiseNew (.ref e) : Sem α) Q E s := by
  unfold raiseNew
  refine wpAny_bind (wpAny_handled ?_)
  rw [hh]
  dsimp only
  rw [if_pos (show (Value.ref d != Value.ref e) = true from by simpa using hne)]
  refine wpAny_bind (wpAny_holding (wpAny_runValue (codeAny_builtin entry_unchain ?_)))
  unfold Builtin.«proto.unchain»
  dsimp only
  refine wpAny_bind (wpAny_field hd hdd h2 ?_)
  rw [if_pos (by decide)]
  refine wpAny_bind (wpAny_pure (wpAny_pure ?_))
  dsimp only
  refine wpAny_bind ?_
  show wpAny (model prog w) A (setField (.ref e) 2 (.ref d)) _ _ _
  have hi : 2 < ws.size := hsz
  exact wpAny_setField he hed hi (wpAny_throw h)

theorem raise_bare0 (F : ExcBaseFacts B newId initId bmB) (T : OwnTail s.heap bmB bm) (hbase : bm.contains (.type "BaseException") = true) {x : Str} {np pos : Pos} {Q : Flow → Shared → Prop}
    (hC : s.heap.get? C = some (excClassObj nm q C N bs bm hdct sn sub ab col dd k0 k1 k2 k3 k5 newId)) (hn : s.heap.Ns N mN) (hni : mN "__init__" = none) (hh : A.handled = none)
    (hx : wpAny (model prog w) A (eval (.Name x np) env) (fun v s₁ => v = .ref C ∧ s₁ = s) E s)
    (hr : ∀ h' e, MadeC s.heap h' e C → E (.ref e) { s with heap := h' }) :
    wpAny (model prog w) A (exec (.Raise (some (.Name x np)) none pos) env) Q E s :=
  raise_bareG F T hbase hC hn hni hx fun h' e hm => wpAny_raiseNew_none hh (hr h' e (.of hm))

theorem raise_bare1 (F : ExcBaseFacts B newId initId bmB) (T : OwnTail s.heap bmB bm) (hbase : bm.contains (.type "BaseException") = true) {x : Str} {np pos : Pos} {Q : Flow → Shared → Prop}
    (hC : s.heap.get? C = some (excClassObj nm q C N bs bm hdct sn sub ab col dd k0 k1 k2 k3 k5 newId)) (hn : s.heap.Ns N mN) (hni : mN "__init__" = none)
    {d : Addr} {od : Obj} {vs : Array Value} (hh : A.handled = some (.ref d)) (hd : s.heap.get? d = some od) (hdd : od.data = .fields vs) (h2 : vs[2]? = some .none)
    (hx : wpAny (model prog w) A (eval (.Name x np) env) (fun v s₁ => v = .ref C ∧ s₁ = s) E s)
    (hr : ∀ h' e, MadeC s.heap h' e C → E (.ref e) { s with heap := h' }) :
    wpAny (model prog w) A (exec (.Raise (some (.Name x np)) none pos) env) Q E s :=
  raise_bareG F T hbase hC hn hni hx fun h' e hm => by
    obtain ⟨t, he, ht0, ht⟩ := hm.there
    have hne : d ≠ e := fun q => by subst q; rw [hm.new] at hd; cases hd
    have hte : t ≠ e := fun q => by subst q; rw [ht] at he; cases he
    refine raiseNew_ctx (s := { s with heap := h' }) hh hne (hm.keeps _ _ hd) hdd h2 he rfl (show 2 < 6 by decide) ?_
    refine hr _ e ⟨fun b o hb => ?_, hm.new, t, .ref d, ?_, ht0, ?_⟩
    · rw [Heap.get?_update_other _ _ (fun q : e = b => by subst q; rw [hm.new] at hb; cases hb)]
      exact hm.keeps b o hb
    · exact Heap.get?_update_self _ he rfl
    · rw [Heap.get?_update_other _ _ (Ne.symm hte)]; exact ht
end
section
variable {M : Model} {A : Around} {E : Value → Shared → Prop} {s' : Shared} {base g h : Heap} {outer : List Env} {L a e C : Addr} {m : Str → Option Value} {name : Str} {scope : Scope} {cd : Value} {Q : Unit → Shared → Prop} {news : List (Addr × Obj)}

/-- An exception of an own class, made in the frame at hand, leaves it. -/
theorem leave_C (K : Below A base outer g) (hx : MadeC h s'.heap e C) (F : Fr g L h m) (N : News g L h news)
    (hQ : ∀ h' t, RaisedS base g outer e (.ref C) t [] news h' → g.UpToSlots h' → Q () { s' with heap := h' }) (hk : scope.kind = .function := by rfl) :
    wpAny M (A.deeper (envOf name scope L a cd)) (leaving (envOf name scope L a cd) (.ref e)) Q E s' := by
  have K' := K.push (name := name) (a := a) (cd := cd) F hk
  have hin : ∀ env ∈ (envOf name scope L a cd :: outer), ∀ b, env.frame = some b → b ∈ (envOf name scope L a cd :: outer).filterMap (·.frame) := fun env he b hb => List.mem_filterMap.mpr ⟨env, he, hb⟩
  have st : base.StaysIn (hideAll h ((envOf name scope L a cd :: outer).filterMap (·.frame))) := fun b o q => hideAll_get _ (K'.stays b o q) fun hm => by
    rw [(K'.frames.mem hm).1] at q; cases q
  have sg : ∀ b o, g.get? b = some o → b ∉ outer.filterMap (·.frame) → (hideAll h ((envOf name scope L a cd :: outer).filterMap (·.frame))).get? b = some o := fun b o q nm => hideAll_get _ (F.keep b o q) fun hm => by
    rcases kts_mem hm with z | z
    · rw [z, kts_self F] at q
      cases q
    · exact nm z
  have hl : ∀ q ∈ news, (hideAll h ((envOf name scope L a cd :: outer).filterMap (·.frame))).get? q.1 = some q.2 ∧ g.get? q.1 = none ∧ base.get? q.1 = none := fun q hq => by
    refine ⟨hideAll_get _ (N q hq).1 fun hm => ?_, (N q hq).2.2, fresh_of_stays K.stays (N q hq).2.2⟩
    obtain ⟨env, he, hf⟩ := List.mem_filterMap.mp hm
    rcases List.mem_cons.mp he with rfl | he
    · exact (N q hq).2.1 (Option.some.inj hf).symm
    · obtain ⟨o, ho, _⟩ := (K.frames.mem (List.mem_filterMap.mpr ⟨env, he, hf⟩)).2
      rw [(N q hq).2.2] at ho; cases ho
  obtain ⟨t, cx, he, htn, ht⟩ := hx.there
  have hb : ∀ b o, (hideAll h ((envOf name scope L a cd :: outer).filterMap (·.frame))).get? b = some o → h.get? b = some o := fun b o q => of_hideAll _ q
  have fresh : ∀ b, h.get? b = none → (hideAll h ((envOf name scope L a cd :: outer).filterMap (·.frame))).get? b = none := fun b hb' => by
    cases hq : (hideAll h ((envOf name scope L a cd :: outer).filterMap (·.frame))).get? b with
    | none => rfl
    | some o' => have := hb b o' hq; rw [hb'] at this; cases this
  refine wpAny_leaving_firstW (a0 := .ref t) K'.stack ((funFrames_hide K'.frames hin).of_keeps fun b o hb' _ => ⟨o, hx.keeps b o hb', rfl⟩) rfl he (fun b o hb' => hx.keeps b o (hb b o hb')) (fresh e hx.new) rfl rfl rfl fun h' hL => ?_
  obtain ⟨k1, ⟨_, _, k2⟩, k3, k4⟩ := hL
  exact hQ h' t ⟨⟨_, st, sg, hl, ⟨k1, fresh e hx.new, k2, k3⟩, fresh t htn⟩, Heap.TupAt.of_slots ⟨_, _, ht, rfl, rfl⟩ k4⟩ (((Heap.UpToSlots.of_keeps F.keep).trans (Heap.UpToSlots.of_keeps hx.keeps)).trans k4)
end
end Mine
end PartE1

section PartE2
open PySem PySem.W PyProof.Rows PySem.Calls
namespace Mine
set_option maxRecDepth 100000
set_option maxHeartbeats 8000000
section
variable {M : Model} {A : Around} {E : Value → Shared → Prop} {s : Shared}
theorem entry3 {base : Heap} {env : Env} {outer : List Env} {L e : Addr} {oe : Obj} {vs : Array Value} {head : Value} {hadNext : Bool} {Q : Unit → Shared → Prop}
    (hfr : A.frames = some (env :: outer)) (hl : s.heap.FunFrames base (env :: outer)) (hf : env.frame = some L)
    (he : s.heap.get? e = some oe) (hkb : base.StaysIn s.heap) (hen : base.get? e = none) (hd : oe.data = .fields vs) (hsz : 1 < vs.size)
    (h : ∀ h' T oT ts, base.StaysIn h' → h'.FunFrames base (env :: outer) → h'.get? e = some (oe.mapFields (·.setIfInBounds 1 (.ref T))) → h'.get? T = some oT → oT.data = .fields ts → 3 < ts.size → T ≠ e → base.get? T = none → s.heap.get? T = none →
      (∀ b o, s.heap.get? b = some o → (∀ vs, o.data ≠ .fields vs) → ∃ sl, h'.get? b = some { o with slots := sl }) → Q () { s with heap := h' }) :
    wpAny M A (do let a ← frameOf env; let pl ← entryPlaceOf L hadNext; let b ← EntryCells.newEntry head a .none (rawInt L) .none pl; setField (.ref e) 1 b) Q E s := by
  have hene : e ∉ (env :: outer).filterMap (·.frame) := fun hm => by
    obtain ⟨_, o, ho, hnf⟩ := hl.mem hm
    rw [he] at ho; injection ho with ho; subst ho; exact hnf vs hd
  refine wpAny_bind (wpAny_frameOf_fun hfr hl hf fun h₁ hs₁ => ?_)
  refine wpAny_bind (wpAny_entryPlaceOf fun pl hpl => ?_)
  unfold EntryCells.newEntry newFields
  refine wpAny_bind (wpAny_newObj_type ?_ (hpl.sizeOk5 _ _ _ _ _))
  have he₁ : h₁.get? e = some oe := (hs₁.2.1 e hene).trans he
  have kb₁ : base.StaysIn h₁ := fun b o hbo => (hs₁.2.1 b fun hm => by rw [(hl.mem hm).1] at hbo; cases hbo).trans (hkb b o hbo)
  generalize hO : ({ cls := .type "traceback", dict := none, data := .fields ([head, .ref L, .none, rawInt L, .none] ++ (if pl.isEmpty then List.replicate 6 Value.none else pl)).toArray } : Obj) = O
  have hOd : O.data = .fields ([head, .ref L, .none, rawInt L, .none] ++ (if pl.isEmpty then List.replicate 6 Value.none else pl)).toArray := by subst hO; rfl
  have he₂ := Heap.get?_push_of_some (h := h₁) O he₁
  refine wpAny_setField he₂ hd hsz ?_
  have hTe : h₁.objs.size ≠ e := Nat.ne_of_gt (Heap.lt_size he₁)
  have hd₃ := Obj.data_mapFields hd (·.setIfInBounds 1 (Value.ref h₁.objs.size))
  have he₃ := Heap.get?_update_self (Obj.mapFields (·.setIfInBounds 1 (Value.ref h₁.objs.size))) he₂ (Obj.isFreed_of_fields hd₃)
  have hT₃ := (Heap.get?_update_other (h₁.push O) (Obj.mapFields (·.setIfInBounds 1 (Value.ref h₁.objs.size))) (Ne.symm hTe)).trans (Heap.get?_push_size h₁ (Obj.isFreed_of_fields hOd))
  have keep : ∀ b o, b ≠ e → h₁.get? b = some o → ((h₁.push O).update e (Obj.mapFields (·.setIfInBounds 1 (Value.ref h₁.objs.size)))).get? b = some o := fun b o hbe hb => by
    rw [Heap.get?_update_other _ _ (Ne.symm hbe)]
    exact Heap.get?_push_of_some _ hb
  have noRecord : ∀ b o, s.heap.get? b = some o → (∀ vs, o.data ≠ .fields vs) → b ≠ e := fun b o hb hnf q => by
    rw [q, he] at hb; injection hb with hb; subst hb; exact hnf vs hd
  refine h _ h₁.objs.size O _ (fun b o hbo => keep b o (fun q => by rw [q, hen] at hbo; cases hbo) (kb₁ b o hbo)) (hl.of_keeps fun b o hb hnf => ?_) he₃ hT₃ hOd
    (by simp only [List.size_toArray, List.length_append, List.length_cons, List.length_nil]; omega) hTe kb₁.fresh ?_ fun b o hb hnf => ?_
  · obtain ⟨sl, hs⟩ := hs₁.2.2 b o hb
    exact ⟨_, keep b _ (noRecord b o hb hnf) hs, rfl⟩
  · cases q : s.heap.get? h₁.objs.size with
    | none => rfl
    | some o =>
      obtain ⟨sl, hs⟩ := hs₁.2.2 _ o q
      exact absurd (Heap.lt_size hs) (Nat.lt_irrefl _)
  · obtain ⟨sl, hs⟩ := hs₁.2.2 b o hb
    exact ⟨sl, keep b _ (noRecord b o hb hnf) hs⟩
end
section
variable {prog : Program} {w : World} {A₀ : Around} {E : Value → Shared → Prop} {s' : Shared} {base g h : Heap} {outer : List Env} {L a e : Addr} {m : Str → Option Value} {name : Str} {scope : Scope} {cd : Value}
  {t : Expr} {b₀ : Stmt} {suite : List Stmt} {pos : Pos} {rest : List ExceptHandler} {Q : Flow → Shared → Prop} {X T : String} {news : List (Addr × Obj)}
theorem up1 {h h' : Heap} {T : Addr} {oT : Obj} {ts : Array Value} {f : Obj → Obj} (x : h.UpToSlots h') (hT : h'.get? T = some oT) (hd : oT.data = .fields ts) : h.UpToSlots (h'.update T f) := fun b o hb hnf => by
  obtain ⟨sl, hs⟩ := x b o hb hnf
  refine ⟨sl, (Heap.get?_update_other _ _ fun q : T = b => ?_).trans hs⟩
  subst q
  rw [hT] at hs
  cases hs
  exact hnf _ hd
theorem caught_ctx (K : Below A₀ base outer g) (F : Fr g L h m) (N : News g L h news) (hx : Heap.NewExc h s'.heap e X)
    (hexc : isSubtype (.type T) (.type "BaseException") = pure true) (hnt : isSubtype (.type ((Manifest.find? T).elim "type" fun y => y.metatype)) (.type "tuple") = pure false) (hsub : isSubtype (.type X) (.type T) = pure true)
    (hname : ∀ (h' g' : Heap) (Q' : Value → Shared → Prop), Fr g' L h' m → base.StaysIn g' → Q' (.type T) { s' with heap := h' } →
      wpAny (model prog w) ((A₀.deeper (envOf name scope L a cd)).mark (some (.ref e))) (eval t (envOf name scope L a cd)) Q' E { s' with heap := h' })
    (k : ∀ h' g' od vs, KtsTurn (outer.filterMap (·.frame)) g g' → Fr g' L h' m → News g' L h' news → Below A₀ base outer g' → h'.get? e = some od → od.data = .fields vs → vs[2]? = some .none →
      wpAny (model prog w) ((A₀.deeper (envOf name scope L a cd)).mark (some (.ref e))) (execs (b₀ :: suite) (envOf name scope L a cd)) Q E { s' with heap := h' })
    (hk : scope.kind = .function := by rfl)
    (hE : PassesOwnAt (model prog w) ((A₀.deeper (envOf name scope L a cd)).mark (some (.ref e))) (A₀.deeper (envOf name scope L a cd)) (envOf name scope L a cd) E := by passes_own) :
    wpAny (model prog w) (A₀.deeper (envOf name scope L a cd)) (noteFrame (.ref e) (envOf name scope L a cd))
      (fun _ s₂ => wpAny (model prog w) (A₀.deeper (envOf name scope L a cd)) (setFlight (.ref e) none) (fun _ s₃ =>
        wpAny (model prog w) (A₀.deeper (envOf name scope L a cd)) (handleBy (.ref e) (envOf name scope L a cd) (.ExceptHandler (some t) none (b₀ :: suite) pos :: rest)) Q E s₃) E s₂) E s' := by
  have K' := K.push (name := name) (a := a) (cd := cd) F hk
  have hin : ∀ env ∈ (envOf name scope L a cd :: outer), ∀ b, env.frame = some b → b ∈ (envOf name scope L a cd :: outer).filterMap (·.frame) := fun env he b hb => List.mem_filterMap.mpr ⟨env, he, hb⟩
  have sg : ∀ b o, h.get? b = some o → b ∉ (envOf name scope L a cd :: outer).filterMap (·.frame) → (hideAll h ((envOf name scope L a cd :: outer).filterMap (·.frame))).get? b = some o := fun b o q nm => hideAll_get _ q nm
  have hNn : ∀ q ∈ news, q.1 ∉ (envOf name scope L a cd :: outer).filterMap (·.frame) := fun q hq hm => by
    obtain ⟨env, he, hf⟩ := List.mem_filterMap.mp hm
    rcases List.mem_cons.mp he with rfl | he
    · exact (N q hq).2.1 (Option.some.inj hf).symm
    · obtain ⟨o, ho, _⟩ := (K.frames.mem (List.mem_filterMap.mpr ⟨env, he, hf⟩)).2
      rw [(N q hq).2.2] at ho; cases ho
  have hb : ∀ b o, (hideAll h ((envOf name scope L a cd :: outer).filterMap (·.frame))).get? b = some o → h.get? b = some o := fun b o q => of_hideAll _ q
  have fresh : ∀ b, h.get? b = none → (hideAll h ((envOf name scope L a cd :: outer).filterMap (·.frame))).get? b = none := fun b hb' => by
    cases hq : (hideAll h ((envOf name scope L a cd :: outer).filterMap (·.frame))).get? b with
    | none => rfl
    | some o' => have := hb b o' hq; rw [hb'] at this; cases this
  obtain ⟨ob, tp, he, hcls, hd⟩ := hx.there
  have ff := (funFrames_hide K'.frames hin).of_keeps fun b o hb' _ => ⟨o, hx.keeps b o hb', rfl⟩
  unfold noteFrame
  simp only [show (envOf name scope L a cd).frame = some L from rfl]
  refine wpAny_bind (wpAny_field he hd (x := .none) rfl ?_)
  rw [if_neg (by decide)]
  refine entry3 K'.stack ff rfl he (fun b o hb' => hx.keeps b o (hb b o hb')) (fresh e hx.new) hd (by show 1 < 6; decide) fun h₁ T oT ts st₁ ff₁ he₁ hT₁ hTd hts hTe hTn hTh up₁ => ?_
  have hde : (ob.mapFields (·.setIfInBounds 1 (.ref T))).data = .fields #[tp, .ref T, .none, .none, .bool false, .none] := by
    have := Obj.data_mapFields hd (·.setIfInBounds 1 (Value.ref T))
    exact this
  refine wpAny_setFlight_none (tb := T) (vs := #[tp, .ref T, .none, .none, .bool false, .none]) he₁ hde rfl hT₁ hTd hts ?_
  have hT₂ := Heap.get?_update_self (Obj.mapFields (·.setIfInBounds 3 Value.none)) hT₁ (Obj.isFreed_of_fields (Obj.data_mapFields hTd _))
  have hTd₂ := Obj.data_mapFields hTd (·.setIfInBounds 3 Value.none)
  have he₂ := (Heap.get?_update_other h₁ (Obj.mapFields (·.setIfInBounds 3 Value.none)) hTe).trans he₁
  have U₀ : h.UpToSlots h₁ := (Heap.UpToSlots.of_keeps hx.keeps).trans up₁
  have U₂ := up1 (f := Obj.mapFields (·.setIfInBounds 3 Value.none)) U₀ hT₁ hTd
  have st₂ : (hideAll h ((envOf name scope L a cd :: outer).filterMap (·.frame))).StaysIn (h₁.update T (Obj.mapFields (·.setIfInBounds 3 Value.none))) := fun b o hb' =>
    (Heap.get?_update_other _ _ fun q : T = b => by subst q; rw [hTn] at hb'; cases hb').trans (st₁ b o hb')
  obtain ⟨g₂, T₂, F₂, K₂⟩ := kts_ground (name := name) (scope := scope) (a := a) (cd := cd) K F sg st₂ U₂
  refine wpAny_handleBy_builtin (X := X) (T := _) (b := true) hexc hnt hsub (wpAny_passesOwnAt hE (hname _ g₂ _ F₂ K₂.stays ⟨rfl, ⟨_, he₂, by rw [Obj.cls_mapFields]; exact hcls⟩, ?_⟩))
  rw [if_pos rfl]
  refine wpAny_setFlight_none (tb := T) (vs := #[tp, .ref T, .none, .none, .bool false, .none]) he₂ hde rfl hT₂ hTd₂ (by simpa using hts) ?_
  have he₃ := (Heap.get?_update_other (h₁.update T (Obj.mapFields (·.setIfInBounds 3 Value.none))) (Obj.mapFields (·.setIfInBounds 3 Value.none)) hTe).trans he₂
  have U₃ := up1 (f := Obj.mapFields (·.setIfInBounds 3 Value.none)) U₂ hT₂ hTd₂
  have st₃ : (hideAll h ((envOf name scope L a cd :: outer).filterMap (·.frame))).StaysIn ((h₁.update T (Obj.mapFields (·.setIfInBounds 3 Value.none))).update T (Obj.mapFields (·.setIfInBounds 3 Value.none))) := fun b o hb' =>
    (Heap.get?_update_other _ _ fun q : T = b => by subst q; rw [hTn] at hb'; cases hb').trans (st₂ b o hb')
  obtain ⟨g₃, T₃, F₃, K₃⟩ := kts_ground (name := name) (scope := scope) (a := a) (cd := cd) K F sg st₃ U₃
  refine wpAny_passesOwnAt hE (k _ g₃ _ _ T₃ F₃ (fun q hq => ⟨st₃ _ _ (sg _ _ (N q hq).1 (hNn q hq)), (N q hq).2.1, T₃.none_ _ (N q hq).2.2⟩) K₃ he₃ hde rfl)
end
end Mine
end PartE2

section PartB1
open PySem PySem.W PyProof.Rows PySem.Calls PySem.Builtin
namespace Mine
set_option maxRecDepth 100000
set_option maxHeartbeats 4000000

theorem slot_split : Slot "bytes" "split" "bytes.split" :=
  .of (owner := "bytes") (n := "split") (by rw [typeLookup_type, builtinLookup_eq_fast]; kernel_rfl) (by decide +kernel) (by decide +kernel) (by decide +kernel)
    (by first | exact .inl (by decide +kernel) | exact .inr (by decide +kernel)) (by rw [isSubtype_type]; kernel_rfl)
theorem type_split : typeOf (.builtin "bytes.split") = pure (.type "method_descriptor") := by show builtinType _ = _; rw [builtinType_eq_fast]; kernel_rfl
theorem entry_split : entryFor table "bytes.split" = some Builtin.«bytes.split» := entryFor_of_tree (by kernel_rfl)
theorem args_split (a b : Value) : argsOk "bytes.split" ⟨[a, b], []⟩ := by
  unfold argsOk; rw [signature?_of (id := "bytes.split") (n := ['t', 'i', 'l', 'p', 's']) (o := ['s', 'e', 't', 'y', 'b']) (by kernel_rfl) FB.owner_bytes]; kernel_rfl
theorem slot_isdigit : Slot "bytes" "isdigit" "bytes.isdigit" :=
  .of (owner := "bytes") (n := "isdigit") (by rw [typeLookup_type, builtinLookup_eq_fast]; kernel_rfl) (by decide +kernel) (by decide +kernel) (by decide +kernel)
    (by first | exact .inl (by decide +kernel) | exact .inr (by decide +kernel)) (by rw [isSubtype_type]; kernel_rfl)
theorem type_isdigit : typeOf (.builtin "bytes.isdigit") = pure (.type "method_descriptor") := by show builtinType _ = _; rw [builtinType_eq_fast]; kernel_rfl
theorem entry_isdigit : entryFor table "bytes.isdigit" = some Builtin.«bytes.isdigit» := entryFor_of_tree (by kernel_rfl)
theorem args_isdigit (a : Value) : argsOk "bytes.isdigit" ⟨[a], []⟩ := by
  unfold argsOk; rw [signature?_of (id := "bytes.isdigit") (n := ['t', 'i', 'g', 'i', 'd', 's', 'i']) (o := ['s', 'e', 't', 'y', 'b']) (by kernel_rfl) FB.owner_bytes]; kernel_rfl

section
variable {prog : Program} {w : World} {A : Around} {E : Value → Shared → Prop} {s : Shared} {b c : Array UInt8} {t u : Tok} {Q : Value → Shared → Prop} {pl : Sem Bool} {M : Model}
theorem meth_split {Q : Value × List Value → Shared → Prop} (h : Q (.builtin "bytes.split", [.bytes b t]) s) : wpAny M A (getMethod (.bytes b t) "split" pl) Q E s := by
  with_reducible exact KBd.method_of (.bytes b t) (typeIs_bytes _ _ _) slot_split type_split KBd.noRef h
theorem meth_isdigit {Q : Value × List Value → Shared → Prop} (h : Q (.builtin "bytes.isdigit", [.bytes b t]) s) : wpAny M A (getMethod (.bytes b t) "isdigit" pl) Q E s := by
  with_reducible exact KBd.method_of (.bytes b t) (typeIs_bytes _ _ _) slot_isdigit type_isdigit KBd.noRef h
theorem meth_starts {Q : Value × List Value → Shared → Prop} (h : Q (.builtin "bytes.startswith", [.bytes b t]) s) : wpAny M A (getMethod (.bytes b t) "startswith" pl) Q E s := by
  with_reducible exact KBd.method_of (.bytes b t) (typeIs_bytes _ _ _) FB.slot_bytes_startswith FB.type_bytes_startswith KBd.noRef h

theorem isdigit_tree : «bytes.isdigit» ⟨[.bytes b t], []⟩ = ret (.bool (Bytes.allOf Bytes.isDigit b.toList)) := by kernel_rfl
theorem call_isdigit (h : Q (.bool (Bytes.allOf Bytes.isDigit b.toList)) s) : wpAny (model prog w) A (call (.builtin "bytes.isdigit") [.bytes b t]) Q E s := by
  refine call_meets slot_isdigit (typeIs_bytes _ _ _) entry_isdigit (args_isdigit _) (S := fun _ R s => R (.ok (.ret (.bool (Bytes.allOf Bytes.isDigit b.toList)))) s) (.of_wp fun prog w A R s hS => ?_) h
  rw [isdigit_tree]
  exact wpAny_pure ⟨_, rfl, hS⟩

/-- What startswith answers. -/
def startsB (b c : Array UInt8) : Bool := if (b.size : Int) < c.size then false else b.extract 0 c.size == c

inductive BytesAre : List Value → List (Array UInt8) → Prop
  | nil : BytesAre [] []
  | cons {x : Array UInt8} {t : Tok} {vs : List Value} {bs : List (Array UInt8)} : BytesAre vs bs → BytesAre (.bytes x t :: vs) (x :: bs)

theorem BytesAre.length {vs : List Value} {bs : List (Array UInt8)} (h : BytesAre vs bs) : vs.length = bs.length := by
  induction h with
  | nil => rfl
  | cons _ ih => simpa using ih

theorem call_starts (h : Q (.bool (startsB b c)) s) : wpAny (model prog w) A (call (.builtin "bytes.startswith") [.bytes b t, .bytes c u]) Q E s := by
  refine call_meets FB.slot_bytes_startswith (typeIs_bytes _ _ _) FB.entry_bytes_startswith (FB.args_bytes_startswith_2 _ _) (S := fun _ R s => R (.ok (.ret (.bool (startsB b c)))) s) (.of_wp fun prog w A R s hS => ?_) h
  have hnt : isInstance (.bytes c u) (.type "tuple") = pure false := by
    show (typeOf (.bytes c u) >>= fun t => isSubtype t _) = _
    show isSubtype (.type "bytes") _ = _
    rw [isSubtype_type]; kernel_rfl
  unfold Builtin.«bytes.startswith» Bytes.tailMatchM
  refine wpAny_bind (wpAny_of_eq (show selfAndSome (toString Bytes.Kind.bytes.name ++ toString "." ++ toString "startswith") "startswith" 1 3 { pos := [Value.bytes b t, Value.bytes c u] } = pure (Value.bytes b t, [Value.bytes c u]) by kernel_rfl) ?_)
  refine wpAny_bind (wpAny_of_eq (show Bytes.bound? ([Value.bytes c u] : List Value)[1]? = pure none by rfl) ?_)
  refine wpAny_bind (wpAny_of_eq (show Bytes.bound? ([Value.bytes c u] : List Value)[2]? = pure none by rfl) ?_)
  refine wpAny_bind (wpAny_of_eq (show Bytes.payload (.bytes b t) = pure b by rfl) ?_)
  refine wpAny_bind (wpAny_of_eq hnt ?_)
  simp only [Bool.false_eq_true, if_false]
  refine wpAny_bind (wpAny_of_eq KBy.buffer_eq ?_)
  refine wpAny_pure ⟨_, rfl, ?_⟩
  unfold startsB at hS
  have e : (if (b.size : Int) < 0 then (Max.max 0 ((b.size : Int) + b.size)) else (b.size : Int)) = b.size := if_neg (by omega)
  simpa [e] using hS

theorem newB : ∀ (l : List (Array UInt8)) {A : Around} {s : Shared} {E : Value → Shared → Prop} {Q : List Value → Shared → Prop}, (∀ x ∈ l, x.size ≤ sizeLine) →
    (∀ vs k, BytesAre vs l → Q vs { s with toks := k }) → wpAny M A (l.mapM (Bytes.Kind.new .bytes)) Q E s
  | [], A, s, E, Q, _, h => by
    rw [List.mapM_nil]
    exact wpAny_pure (h [] s.toks .nil)
  | x :: l, A, s, E, Q, hs, h => by
    rw [List.mapM_cons]
    refine wpAny_bind ?_
    show wpAny _ _ (mkBytes x) _ _ _
    unfold mkBytes
    rw [if_neg (Nat.not_lt.mpr (hs x (.head _)))]
    refine wpAny_bind (wpAny_fresh (wpAny_pure ?_))
    refine wpAny_bind (newB l (fun y hy => hs y (.tail _ hy)) fun vs k hv => wpAny_pure ?_)
    exact h _ k (.cons hv)

/-- The parts that split leaves at one separating byte. -/
def splitB (b c : Array UInt8) : List (Array UInt8) := Bytes.between b c.size ((Bytes.occurrences b c 0 b.size).take (b.size + 1))
theorem splitB_none (h : ((Bytes.occurrences b c 0 b.size).take (b.size + 1)).isEmpty = true) : splitB b c = [b] := by
  unfold splitB
  rw [List.isEmpty_iff.mp h]
  unfold Bytes.between
  simp

theorem call_split (hc : c.isEmpty = false) (hs : ∀ x ∈ splitB b c, x.size ≤ sizeLine) (hn : (splitB b c).length ≤ sizeLine)
    (h : ∀ vs k, BytesAre vs (splitB b c) → Q (.ref s.heap.objs.size) { s with heap := s.heap.push (listOf vs.toArray 0), toks := k }) :
    wpAny (model prog w) A (call (.builtin "bytes.split") [.bytes b t, .bytes c u]) Q E s := by
  refine call_meets slot_split (typeIs_bytes _ _ _) entry_split (args_split _ _) (S := fun _ R s => ∀ vs k, BytesAre vs (splitB b c) → R (.ok (.ret (.ref s.heap.objs.size))) { s with heap := s.heap.push (listOf vs.toArray 0), toks := k }) (.of_wp fun prog w A R s hS => ?_) h
  unfold Builtin.«bytes.split» Bytes.splitM
  dsimp only
  refine wpAny_bind (wpAny_of_eq (show Bytes.bindOptional (toString Bytes.Kind.bytes.name ++ toString "." ++ toString "split") "split" ["sep", "maxsplit"] [Value.bytes c u] [] = pure [some (Value.bytes c u), none] by kernel_rfl) ?_)
  dsimp only
  refine wpAny_bind (wpAny_pure ?_)
  refine wpAny_bind (wpAny_of_eq (show Bytes.payload (.bytes b t) = pure b by rfl) ?_)
  refine wpAny_bind (wpAny_of_eq KBd.like_eq ?_)
  rw [if_neg (by rw [hc]; decide)]
  simp only [Bool.false_eq_true, if_false, show ((-1 : Int) < 0) = True from by simp, if_true]
  by_cases hp : ((Bytes.occurrences b c 0 b.size).take (b.size + 1)).isEmpty = true
  · rw [if_pos hp]
    refine wpAny_bind (wpAny_rule ?_)
    refine wpAny_bind ?_
    unfold Bytes.Kind.same
    simp only [show (Bytes.Kind.bytes == Bytes.Kind.bytes) = true from rfl, if_true]
    refine wpAny_bind (wpAny_pure ?_)
    rw [if_pos (by decide)]
    refine wpAny_pure (wpAny_bind ?_)
    refine wpAny_newObj_type (wpAny_pure ⟨_, rfl, ?_⟩)
    exact hS [.bytes b t] s.toks (by rw [splitB_none hp]; exact .cons .nil)
  · rw [if_neg hp]
    refine wpAny_bind (newB _ hs fun vs k hv => wpAny_bind (wpAny_newObj_type (wpAny_pure ⟨_, rfl, hS vs k hv⟩) ?_))
    have hl : vs.length = (splitB b c).length := hv.length
    show vs.toArray.size ≤ sizeLine
    rw [List.size_toArray, hl]; exact hn

/-- The octets of a text in UTF-8. -/
def utf8B (x : PySem.Str) : Array UInt8 := x.cps.foldl (fun acc y => acc ++ (Str.utf8Of y).toArray) #[]
def Clean (x : PySem.Str) : Prop := ∀ c ∈ x.cps, Str.isSurrogate c = false

theorem meth_encode {x : PySem.Str} {Q : Value × List Value → Shared → Prop} (h : Q (.builtin "str.encode", [.str x t]) s) : wpAny M A (getMethod (.str x t) "encode" pl) Q E s := by
  with_reducible exact getMethod_builtin (typeIs_str _ _ _) F.plainAttrs_str F.slot_str_encode F.type_str_encode (fun _ e => nomatch e) h

theorem loop_clean {σ : Type} (f : Nat → σ → Sem (ForInStep σ)) (a b : σ) (n : Nat) (h0 : 0 < n → ∀ i, f i a = pure (.yield b)) (h1 : ∀ i, f i b = pure (.done b)) :
    (forIn [:n] a f : Sem σ) = pure (if n = 0 then a else b) := by
  rw [Std.Legacy.Range.forIn_eq_forIn_range']
  cases n with
  | zero => rfl
  | succ n =>
    have e : [:n + 1].size = n + 1 := by simp [Std.Legacy.Range.size]
    rw [e, List.range'_succ, List.forIn_cons, h0 (Nat.succ_pos _)]
    cases n with
    | zero => rfl
    | succ n =>
      show (forIn (List.range' _ (n + 1) _) b f : Sem σ) = _
      rw [List.range'_succ, List.forIn_cons, h1]
      rfl

open Builtin._codecs in
theorem narrow_clean {x : PySem.Str} {id : String} {er : Option PySem.Str} {self : Value} (hx : Clean x) (hsz : (utf8B x).size ≤ sizeLine) : encodeNarrow id utf8Codec er self x = pure (utf8B x) := by
  unfold encodeNarrow
  dsimp only
  rw [loop_clean _ (0, (#[] : Array UInt8), ({} : Faults)) (x.cps.size, utf8B x, ({} : Faults)) x.length ?_ ?_]
  · by_cases h : x.length = 0
    · rw [if_pos h]
      have : x.cps = #[] := Array.eq_empty_of_size_eq_zero h
      unfold utf8B
      rw [this]; rfl
    · rw [if_neg h]; rfl
  · intro hn i
    have hn' : 0 < x.cps.size := hn
    have e0 : x.cps[0]? = some x.cps[0] := by rw [Array.getElem?_eq_getElem hn']
    have eb : utf8Codec.bad x.cps[0] = false := hx _ (Array.getElem_mem hn')
    have ef : Array.findIdx? utf8Codec.bad x.cps = none := by
      rw [Array.findIdx?_eq_none_iff]
      exact hx
    have ex : x.cps.extract 0 x.cps.size = x.cps := by simp
    dsimp only
    rw [if_neg (by decide), e0]
    dsimp only
    rw [eb]
    simp only [Bool.not_false, if_true]
    rw [ex, ef]
    simp only [Option.getD_none, Nat.zero_add, ex]
    rfl
  · intro i
    dsimp only
    rw [if_neg (Nat.not_lt.mpr hsz), Array.getElem?_size]

theorem call_encode {x : PySem.Str} (hx : Clean x) (hsz : (utf8B x).size ≤ sizeLine) (h : Q (.bytes (utf8B x) s.toks) { s with toks := s.toks + 1 }) : wpAny (model prog w) A (call (.builtin "str.encode") [.str x t]) Q E s := by
  refine call_meets F.slot_str_encode (typeIs_str _ _ _) F.entry_str_encode (F.args_str_encode_1 _) (S := fun _ R s => R (.ok (.ret (.bytes (utf8B x) s.toks))) { s with toks := s.toks + 1 }) (.of_wp fun prog w A R s hS => ?_) h
  rw [encode_tree, encodeRoad_utf8, narrow_clean hx hsz]
  refine wpAny_bind (wpAny_bind (wpAny_pure ?_))
  unfold mkBytes
  rw [if_neg (Nat.not_lt.mpr hsz)]
  exact wpAny_bind (wpAny_fresh (wpAny_pure (wpAny_pure ⟨_, rfl, hS⟩)))
end
end Mine
end PartB1

section PartP0
open PySem PySem.W PyProof.Rows PySem.Calls PySem.Builtin PySem.NumText
namespace Mine
set_option maxRecDepth 100000
set_option maxHeartbeats 400000
/-- A row cut at each place where z stands. -/
def cutA {α : Type} [BEq α] (z : α) : List α → List α → List (List α)
  | acc, [] => [acc]
  | acc, c :: r => if c == z then acc :: cutA z [] r else cutA z (acc ++ [c]) r
theorem cut_len {α : Type} [BEq α] (z : α) : ∀ (l acc : List α), (cutA z acc l).length ≤ l.length + 1
  | [], _ => Nat.le_refl _
  | c :: r, acc => by
    rw [cutA]
    split
    · have := cut_len z r []
      simp only [List.length_cons]; omega
    · have := cut_len z r (acc ++ [c])
      simp only [List.length_cons]; omega
theorem cut_part {α : Type} [BEq α] (z : α) : ∀ (l acc p : List α), p ∈ cutA z acc l → p.length ≤ acc.length + l.length
  | [], acc, p, h => by
    rw [cutA, List.mem_singleton] at h
    subst h; omega
  | c :: r, acc, p, h => by
    rw [cutA] at h
    split at h
    · rcases List.mem_cons.mp h with rfl | h
      · omega
      · have := cut_part z r [] p h
        simp only [List.length_cons, List.length_nil] at this ⊢; omega
    · have := cut_part z r _ p h
      simp only [List.length_append, List.length_cons, List.length_nil] at this ⊢; omega
theorem cut_ne {α : Type} [BEq α] (z : α) (l acc : List α) : cutA z acc l ≠ [] := by
  induction l generalizing acc with
  | nil => intro h; cases h
  | cons c r ih =>
    rw [cutA]; split
    · intro h; cases h
    · exact ih _
def occStep (b : Array UInt8) (acc : List Nat × Nat) (i : Nat) : List Nat × Nat :=
  if i ≥ acc.2 && b.extract i (i + 1) == #[46] then (i :: acc.1, i + 1) else acc
theorem occ_fold (b : Array UInt8) : ∀ (is : List Nat) (acc : List Nat) (f : Nat), (∀ i ∈ is, f ≤ i) → is.Pairwise (· < ·) →
    (is.foldl (occStep b) (acc, f)).1 = (is.filter fun i => b.extract i (i + 1) == #[46]).reverse ++ acc
  | [], acc, f, _, _ => rfl
  | i :: r, acc, f, h1, h2 => by
    rw [List.foldl_cons]
    have hi := h1 i (.head _)
    have hp := List.pairwise_cons.mp h2
    by_cases q : (b.extract i (i + 1) == #[46]) = true
    · have e : occStep b (acc, f) i = (i :: acc, i + 1) := if_pos (by simp only [Bool.and_eq_true, decide_eq_true_eq]; exact ⟨hi, q⟩)
      rw [e, occ_fold b r _ _ (fun j hj => hp.1 j hj) hp.2, List.filter_cons, if_pos q]
      simp
    · have e : occStep b (acc, f) i = (acc, f) := if_neg (by simp only [Bool.and_eq_true, decide_eq_true_eq]; exact fun h => q h.2)
      rw [e, occ_fold b r _ _ (fun j hj => h1 j (.tail _ hj)) hp.2, List.filter_cons, if_neg q]
theorem occ_eq (b : Array UInt8) : Bytes.occurrences b #[46] 0 b.size = (List.range b.size).filter fun i => b.extract i (i + 1) == #[46] := by
  have e : Bytes.occurrences b #[46] 0 b.size = (((List.range (b.size + 1 - (0 + 1))).map (· + 0)).foldl (occStep b) ([], 0)).1.reverse := rfl
  rw [e, show b.size + 1 - (0 + 1) = b.size by omega, show (List.range b.size).map (· + 0) = List.range b.size from List.map_id' _, occ_fold b _ _ _ (fun i _ => Nat.zero_le i) List.pairwise_lt_range, List.append_nil, List.reverse_reverse]
theorem take_occ (b : Array UInt8) : (Bytes.occurrences b #[46] 0 b.size).take (b.size + 1) = (List.range b.size).filter fun i => b.extract i (i + 1) == #[46] := by
  rw [occ_eq, List.take_of_length_le]
  have := List.length_filter_le (fun i => b.extract i (i + 1) == #[46]) (List.range b.size)
  rw [List.length_range] at this
  omega
def betStep (b : Array UInt8) (x : Array (Array UInt8) × Nat) (p : Nat) : Array (Array UInt8) × Nat := (x.1.push (b.extract x.2 p), p + 1)
theorem bet_eq (b : Array UInt8) (places : List Nat) : Bytes.between b 1 places = ((places.foldl (betStep b) (#[], 0)).1.push (b.extract (places.foldl (betStep b) (#[], 0)).2 b.size)).toList := rfl
theorem one_at {b : Array UInt8} {k : Nat} (h : k < b.size) : b.extract k (k + 1) = #[b[k]] := by
  apply Array.ext
  · simp; omega
  · intro i h1 h2
    simp at h2
    subst h2
    simp
theorem drop_at {b : Array UInt8} {k : Nat} (h : k < b.size) : b.toList.drop k = b[k] :: b.toList.drop (k + 1) := by
  rw [List.drop_eq_getElem_cons (by simpa using h)]
  simp
theorem ext_snoc {b : Array UInt8} {last k : Nat} (h : k < b.size) (hl : last ≤ k) : (b.extract last (k + 1)).toList = (b.extract last k).toList ++ [b[k]] := by
  have e := Array.extract_append_extract (as := b) (i := last) (j := k) (k := k + 1)
  rw [Nat.min_eq_left hl, Nat.max_eq_right (by omega : k ≤ k + 1)] at e
  rw [← e, Array.toList_append, one_at h]
theorem bet_cut (b : Array UInt8) : ∀ (m k last : Nat) (parts : Array (Array UInt8)), k + m = b.size → last ≤ k →
    ((((List.range' k m).filter fun i => b.extract i (i + 1) == #[46]).foldl (betStep b) (parts, last)).1.push (b.extract (((List.range' k m).filter fun i => b.extract i (i + 1) == #[46]).foldl (betStep b) (parts, last)).2 b.size)).toList
      = parts.toList ++ (cutA (46 : UInt8) (b.extract last k).toList (b.toList.drop k)).map List.toArray
  | 0, k, last, parts, h, hl => by
    have hk : k = b.size := by omega
    subst hk
    rw [show b.toList.drop b.size = [] from List.drop_of_length_le (by simp)]
    simp only [List.range', List.filter_nil, List.foldl_nil, cutA, List.map_cons, List.map_nil, Array.toList_push, Array.toArray_toList]
  | m + 1, k, last, parts, h, hl => by
    have hk : k < b.size := by omega
    rw [List.range'_succ, drop_at hk, List.filter_cons, cutA, one_at hk]
    by_cases q : b[k] = 46
    · rw [q, if_pos (show ((#[46] : Array UInt8) == #[46]) = true by decide), if_pos (show ((46 : UInt8) == 46) = true by decide), List.foldl_cons]
      rw [show betStep b (parts, last) k = (parts.push (b.extract last k), k + 1) from rfl, bet_cut b m (k + 1) (k + 1) _ (by omega) (Nat.le_refl _), show (b.extract (k + 1) (k + 1)).toList = [] by simp, Array.toList_push, List.append_assoc, List.map_cons, Array.toArray_toList]
      rfl
    · rw [if_neg (by simpa using q), if_neg (by simpa using q), bet_cut b m (k + 1) last _ (by omega) (by omega), ext_snoc hk hl]
theorem split_cut (b : Array UInt8) : splitB b #[46] = (cutA (46 : UInt8) [] b.toList).map List.toArray := by
  unfold splitB
  rw [show (#[46] : Array UInt8).size = 1 from rfl, take_occ, bet_eq, List.range_eq_range', bet_cut b b.size 0 0 #[] (by omega) (Nat.le_refl _)]
  simp
theorem split_part {b p : Array UInt8} (h : p ∈ splitB b #[46]) : p.size ≤ b.size := by
  rw [split_cut] at h
  obtain ⟨l, hl, rfl⟩ := List.mem_map.mp h
  have := cut_part _ _ _ _ hl
  simpa using this
theorem split_small {b : Array UInt8} (hz : b.size ≤ 600) : (∀ x ∈ splitB b #[46], x.size ≤ sizeLine) ∧ (splitB b #[46]).length ≤ sizeLine := by
  rw [sizeLine_eq]
  refine ⟨fun x hx => by have := split_part hx; omega, ?_⟩
  rw [split_cut, List.length_map]
  have h1 : b.toList.length = b.size := Array.length_toList
  have := cut_len (46 : UInt8) b.toList []
  omega
end Mine
end PartP0

section PartB2
open PySem PySem.W PyProof.Rows PySem.Calls PySem.Builtin PySem.NumText
namespace Mine
set_option maxRecDepth 100000
set_option maxHeartbeats 4000000

theorem by_int : typeLookup (.type "bytes") "__int__" = pure none := by rw [typeLookup_type, builtinLookup_eq_fast]; kernel_rfl
theorem by_idx : typeLookup (.type "bytes") "__index__" = pure none := by rw [typeLookup_type, builtinLookup_eq_fast]; kernel_rfl
theorem by_trunc : typeLookup (.type "bytes") "__trunc__" = pure none := by rw [typeLookup_type, builtinLookup_eq_fast]; kernel_rfl

/-- The number that a row of digits says. -/
def valB (l : List UInt8) : Nat := NumText.digitsVal (l.map (·.toNat))

theorem numText_ascii {x : PySem.Str} (h : NumText.AllDigits x.cps.toList) : PySem.numTextOf x = x.cps.toList := by
  unfold PySem.numTextOf
  refine if_pos ?_
  rw [Array.all_eq_true']
  intro c hc
  have := h c (Array.mem_toList_iff.mpr hc)
  exact decide_eq_true (by omega)

theorem gives_int_bytes {b : Array UInt8} {u : Tok} (hl : b.size ≤ 640) (hne : b.toList ≠ []) (hd : ∀ c ∈ b.toList, 48 ≤ c.toNat ∧ c.toNat ≤ 57) :
    Gives (Builtin.«int.__new__» ⟨[.type "int", .bytes b u], []⟩) (.int (valB b.toList : Nat)) :=
  .of_wp fun M A E s Q h => by
    have hA : NumText.AllDigits (PySem.Str.mk (b.toList.map (·.toNat)).toArray).cps.toList := by
      intro c hc
      simp only [List.mem_map] at hc
      obtain ⟨x, hx, rfl⟩ := hc
      exact hd x hx
    have hlen : (PySem.Str.mk (b.toList.map (·.toNat)).toArray).length ≤ 640 := by
      show (b.toList.map (·.toNat)).toArray.size ≤ 640
      simpa using hl
    have hn := intText_digits hA (by simpa using hne) (Nat.le_trans hlen (by decide))
    have hnt := numText_ascii hA
    obtain ⟨hp, g, d, tk, os⟩ := s
    have f1 := F.conv_sub_int
    have f2 := F.madeHere_int
    have f3 := by_int
    have f4 := by_idx
    have f5 := by_trunc
    have f6 : typeOf (.bytes b u) = pure (.type "bytes") := rfl
    have hs0 : (PySem.numSeenOf (PySem.Str.mk (b.toList.map (·.toNat)).toArray)).length ≤ 640 := Nat.le_trans (PySem.seen_length _) hlen
    have hr : (int_private% "readNumeral") 0 10 ((b.toList.map (·.toNat)).takeWhile (· != 0)) = (int_private% "Numeral.value") ((valB b.toList : Nat) : Int) ∧ (((b.toList.map (·.toNat)).takeWhile (· != 0)).length == (b.toList.map (·.toNat)).length) = true ∧ ((b.toList.map (·.toNat)).takeWhile (· != 0)).length ≤ 640 := by
      rcases read0 _ hs0 with ⟨m, h1, h2, h3⟩ | ⟨h1, _⟩
      · rw [hn] at h1
        injection h1 with h1
        subst h1
        unfold PySem.numSeenOf at h2 h3 hs0
        rw [hnt] at h2 h3 hs0
        exact ⟨h3, h2, hs0⟩
      · rw [hn] at h1
        cases h1
    have hk := KIN.Hid.mk hr
    clear hs0 hr hl hn hnt hA hlen hne hd
    repeat (any_goals (first
      | assumption
      | ((with_reducible show wpAny _ _ ((int_private% "intFromText") _ _ _) _ _ _); refine KIN.wp_text hk.out.2.2 hk.out.1 hk.out.2.1 ?_)
      | wp_step))
    all_goals first | exact ⟨_, rfl, h⟩ | skip

section
variable {prog : Program} {w : World} {A : Around} {E : Value → Shared → Prop} {s : Shared} {b : Array UInt8} {t : Tok} {Q : Value → Shared → Prop}
theorem call_int_bytes (hl : b.size ≤ 640) (hne : b.toList ≠ []) (hd : ∀ c ∈ b.toList, 48 ≤ c.toNat ∧ c.toNat ≤ 57) (h : Q (.int (valB b.toList : Nat) s.toks) { s with toks := s.toks + 1 }) :
    wpAny (model prog w) A (call (.type "int") [.bytes b t]) Q E s :=
  call_int_1 (gives_int_bytes hl hne hd).meets (show (Made.int (valB b.toList : Nat)).post _ s from ⟨rfl, h⟩)
end
end Mine
end PartB2

section PartB3
open PySem PySem.W PyProof.Rows PySem.Calls PySem.Builtin
namespace Mine
set_option maxRecDepth 100000
set_option maxHeartbeats 4000000

theorem kind_pack : builtinKind "_struct.pack" = none := by decide +kernel
theorem plain_pack : plainId "_struct.pack" = true := by decide +kernel
theorem entry_pack : entryFor table "_struct.pack" = some Builtin.«_struct.pack» := entryFor_of_tree (by kernel_rfl)
theorem args_pack (f a b c d : Value) : argsOk "_struct.pack" ⟨[f, a, b, c, d], []⟩ := by unfold argsOk; kernel_rfl

theorem fmt_pack (u : Tok) : Struct.moduleFormat (.str (PySem.Str.ofString "BBBB") u) = pure ⟨false, true, [⟨'B', 1, 0, 1⟩, ⟨'B', 1, 1, 1⟩, ⟨'B', 1, 2, 1⟩, ⟨'B', 1, 3, 1⟩], 4, 4⟩ := by kernel_rfl

section
variable {prog : Program} {w : World} {A : Around} {E : Value → Shared → Prop} {s : Shared} {u t1 t2 t3 t4 : Tok} {Q : Value → Shared → Prop} {a b c d : Int}
theorem asInt_eq {x : Int} {t : Tok} : PySem.asInt? (.int x t) = pure (some x) := rfl
theorem intB_eq {x : Int} (h : 0 ≤ x ∧ x ≤ 255) : Struct.intBytes false 1 x = #[x.toNat.toUInt8] := by
  have e : Struct.intBytes false 1 x = #[((x % 256).toNat / 1 % 256).toUInt8] := rfl
  have e1 : x % 256 = x := Int.emod_eq_of_lt h.1 (by omega)
  rw [e, e1, Nat.div_one, Nat.mod_eq_of_lt (by omega)]
theorem pack_ok (ha : 0 ≤ a ∧ a ≤ 255) (hb : 0 ≤ b ∧ b ≤ 255) (hc : 0 ≤ c ∧ c ≤ 255) (hd : 0 ≤ d ∧ d ≤ 255) {Q : PySem.Fin → Shared → Prop} {M : Model}
   (h : ∀ x t k, x.toList = [a.toNat.toUInt8, b.toNat.toUInt8, c.toNat.toUInt8, d.toNat.toUInt8] → Q (.done (.ret (.bytes x t))) { s with toks := k }) :
   wpAny M A (Struct.packed "_struct.pack" "pack" ⟨false, true, [⟨'B', 1, 0, 1⟩, ⟨'B', 1, 1, 1⟩, ⟨'B', 1, 2, 1⟩, ⟨'B', 1, 3, 1⟩], 4, 4⟩ [.int a t1, .int b t2, .int c t3, .int d t4]) Q E s := by
  obtain ⟨hp, g, dd, tk, os⟩ := s
  have h1 : (decide (a < 0) || decide (a > 255)) = false := by simp; omega
  have h2 : (decide (b < 0) || decide (b > 255)) = false := by simp; omega
  have h3 : (decide (c < 0) || decide (c > 255)) = false := by simp; omega
  have h4 : (decide (d < 0) || decide (d > 255)) = false := by simp; omega
  unfold Struct.packed Struct.packEach
  simp only [Std.Legacy.Range.forIn_eq_forIn_range']
  repeat lk
  refine bm_if_false h1 ?_
  repeat lk
  refine bm_if_false h2 ?_
  repeat lk
  refine bm_if_false h3 ?_
  repeat lk
  refine bm_if_false h4 ?_
  repeat lk
  refine h _ _ _ ?_
  rw [intB_eq ha, intB_eq hb, intB_eq hc, intB_eq hd]
  rfl

theorem plainExc_struct : PlainExc "struct.error" :=
  ⟨fun args => by unfold ownMembersOf; split <;> first | rfl | (rename_i h; revert h; decide) | simp_all, by decide +kernel⟩
theorem pack_bad1 (h1 : (decide (a < 0) || decide (a > 255)) = true) {Q : PySem.Fin → Shared → Prop} {M : Model} (hh : A.handled = none)
   (h : ∀ h' tk e, Heap.NewExc s.heap h' e "struct.error" → E (.ref e) { s with heap := h', toks := tk }) :
   wpAny M A (Struct.packed "_struct.pack" "pack" ⟨false, true, [⟨'B', 1, 0, 1⟩, ⟨'B', 1, 1, 1⟩, ⟨'B', 1, 2, 1⟩, ⟨'B', 1, 3, 1⟩], 4, 4⟩ [.int a t1, .int b t2, .int c t3, .int d t4]) Q E s := by
  obtain ⟨hp, g, dd, tk, os⟩ := s
  unfold Struct.packed Struct.packEach
  simp only [Std.Legacy.Range.forIn_eq_forIn_range']
  repeat lk
  refine bm_if_true h1 ?_
  refine wpAny_bind (wpAny_rule ?_)
  refine wpAny_bind ?_
  unfold Struct.structError
  refine wpAny_raiseErrorMade plainExc_struct hh h ?_
  decide +kernel
theorem pack_bad2 (h1 : (decide (a < 0) || decide (a > 255)) = false) (h2 : (decide (b < 0) || decide (b > 255)) = true) {Q : PySem.Fin → Shared → Prop} {M : Model} (hh : A.handled = none)
   (h : ∀ h' tk e, Heap.NewExc s.heap h' e "struct.error" → E (.ref e) { s with heap := h', toks := tk }) :
   wpAny M A (Struct.packed "_struct.pack" "pack" ⟨false, true, [⟨'B', 1, 0, 1⟩, ⟨'B', 1, 1, 1⟩, ⟨'B', 1, 2, 1⟩, ⟨'B', 1, 3, 1⟩], 4, 4⟩ [.int a t1, .int b t2, .int c t3, .int d t4]) Q E s := by
  obtain ⟨hp, g, dd, tk, os⟩ := s
  unfold Struct.packed Struct.packEach
  simp only [Std.Legacy.Range.forIn_eq_forIn_range']
  repeat lk
  refine bm_if_false h1 ?_
  repeat lk
  refine bm_if_true h2 ?_
  refine wpAny_bind (wpAny_rule ?_)
  refine wpAny_bind ?_
  unfold Struct.structError
  refine wpAny_raiseErrorMade plainExc_struct hh h ?_
  decide +kernel
theorem pack_bad3 (h1 : (decide (a < 0) || decide (a > 255)) = false) (h2 : (decide (b < 0) || decide (b > 255)) = false) (h3 : (decide (c < 0) || decide (c > 255)) = true) {Q : PySem.Fin → Shared → Prop} {M : Model} (hh : A.handled = none)
   (h : ∀ h' tk e, Heap.NewExc s.heap h' e "struct.error" → E (.ref e) { s with heap := h', toks := tk }) :
   wpAny M A (Struct.packed "_struct.pack" "pack" ⟨false, true, [⟨'B', 1, 0, 1⟩, ⟨'B', 1, 1, 1⟩, ⟨'B', 1, 2, 1⟩, ⟨'B', 1, 3, 1⟩], 4, 4⟩ [.int a t1, .int b t2, .int c t3, .int d t4]) Q E s := by
  obtain ⟨hp, g, dd, tk, os⟩ := s
  unfold Struct.packed Struct.packEach
  simp only [Std.Legacy.Range.forIn_eq_forIn_range']
  repeat lk
  refine bm_if_false h1 ?_
  repeat lk
  refine bm_if_false h2 ?_
  repeat lk
  refine bm_if_true h3 ?_
  refine wpAny_bind (wpAny_rule ?_)
  refine wpAny_bind ?_
  unfold Struct.structError
  refine wpAny_raiseErrorMade plainExc_struct hh h ?_
  decide +kernel
theorem pack_bad4 (h1 : (decide (a < 0) || decide (a > 255)) = false) (h2 : (decide (b < 0) || decide (b > 255)) = false) (h3 : (decide (c < 0) || decide (c > 255)) = false) (h4 : (decide (d < 0) || decide (d > 255)) = true) {Q : PySem.Fin → Shared → Prop} {M : Model} (hh : A.handled = none)
   (h : ∀ h' tk e, Heap.NewExc s.heap h' e "struct.error" → E (.ref e) { s with heap := h', toks := tk }) :
   wpAny M A (Struct.packed "_struct.pack" "pack" ⟨false, true, [⟨'B', 1, 0, 1⟩, ⟨'B', 1, 1, 1⟩, ⟨'B', 1, 2, 1⟩, ⟨'B', 1, 3, 1⟩], 4, 4⟩ [.int a t1, .int b t2, .int c t3, .int d t4]) Q E s := by
  obtain ⟨hp, g, dd, tk, os⟩ := s
  unfold Struct.packed Struct.packEach
  simp only [Std.Legacy.Range.forIn_eq_forIn_range']
  repeat lk
  refine bm_if_false h1 ?_
  repeat lk
  refine bm_if_false h2 ?_
  repeat lk
  refine bm_if_false h3 ?_
  repeat lk
  refine bm_if_true h4 ?_
  refine wpAny_bind (wpAny_rule ?_)
  refine wpAny_bind ?_
  unfold Struct.structError
  refine wpAny_raiseErrorMade plainExc_struct hh h ?_
  decide +kernel

def OctetI (x : Int) : Prop := 0 ≤ x ∧ x ≤ 255
theorem call_pack {Q : Value → Shared → Prop} (hh : A.handled = none)
    (hg : OctetI a → OctetI b → OctetI c → OctetI d → ∀ x t k, x.toList = [a.toNat.toUInt8, b.toNat.toUInt8, c.toNat.toUInt8, d.toNat.toUInt8] → Q (.bytes x t) { s with toks := k })
    (hb : ¬ (OctetI a ∧ OctetI b ∧ OctetI c ∧ OctetI d) → ∀ h' tk e, Heap.NewExc s.heap h' e "struct.error" → E (.ref e) { s with heap := h', toks := tk }) :
    wpAny (model prog w) A (call (.builtin "_struct.pack") [.str (PySem.Str.ofString "BBBB") u, .int a t1, .int b t2, .int c t3, .int d t4]) Q E s := by
  refine call_function_meets kind_pack plain_pack entry_pack (args_pack _ _ _ _ _) (S := fun A R s => A.handled = none ∧
    (OctetI a → OctetI b → OctetI c → OctetI d → ∀ x t k, x.toList = [a.toNat.toUInt8, b.toNat.toUInt8, c.toNat.toUInt8, d.toNat.toUInt8] → R (.ok (.ret (.bytes x t))) { s with toks := k }) ∧
    (¬ (OctetI a ∧ OctetI b ∧ OctetI c ∧ OctetI d) → ∀ h' tk e, Heap.NewExc s.heap h' e "struct.error" → R (.error (.ref e)) { s with heap := h', toks := tk })) (fun prog w A R s hS => ?_) ⟨hh, hg, hb⟩
  obtain ⟨hh, hg, hb⟩ := hS
  unfold Builtin.«_struct.pack»
  refine wpAny_bind (wpAny_pure ?_)
  dsimp only
  refine wpAny_bind (wpAny_of_eq (fmt_pack u) ?_)
  by_cases h1 : (decide (a < 0) || decide (a > 255)) = true
  · exact pack_bad1 h1 hh (hb fun q => by have := q.1; unfold OctetI at this; simp at h1; omega)
  rw [Bool.not_eq_true] at h1
  by_cases h2 : (decide (b < 0) || decide (b > 255)) = true
  · exact pack_bad2 h1 h2 hh (hb fun q => by have := q.2.1; unfold OctetI at this; simp at h2; omega)
  rw [Bool.not_eq_true] at h2
  by_cases h3 : (decide (c < 0) || decide (c > 255)) = true
  · exact pack_bad3 h1 h2 h3 hh (hb fun q => by have := q.2.2.1; unfold OctetI at this; simp at h3; omega)
  rw [Bool.not_eq_true] at h3
  by_cases h4 : (decide (d < 0) || decide (d > 255)) = true
  · exact pack_bad4 h1 h2 h3 h4 hh (hb fun q => by have := q.2.2.2; unfold OctetI at this; simp at h4; omega)
  rw [Bool.not_eq_true] at h4
  have e1 : OctetI a := by unfold OctetI; simp at h1; omega
  have e2 : OctetI b := by unfold OctetI; simp at h2; omega
  have e3 : OctetI c := by unfold OctetI; simp at h3; omega
  have e4 : OctetI d := by unfold OctetI; simp at h4; omega
  exact pack_ok e1 e2 e3 e4 fun x t k hx => hg e1 e2 e3 e4 x t k hx
end
end Mine
end PartB3

section PartL1
open PySem PySem.W PyProof.Rows PySem.Calls PySem.Builtin
namespace Mine
set_option maxRecDepth 100000
set_option maxHeartbeats 8000000
section
variable {prog : Program} {w : World} {A : Around} {E : Value → Shared → Prop} {s : Shared} {env : Env} {h₀ : Heap} {x : Str} {body : List Stmt} {Q : Flow → Shared → Prop} {m : Str → Option Value}

theorem frMap {h : Heap} {L : Addr} {m m' : Str → Option Value} (F : Fr h₀ L h m) (e : ∀ y, m' y = m y) : Fr h₀ L h m' := (funext e : m' = m) ▸ F

theorem rest_each {I : Addr} {lp : Addr × Obj} {P : Value → Prop} (hlp : lp.1 ≠ I) : ∀ (vs : List Value) (m₁ : Str → Option Value),
    (∀ v ∈ vs, ∀ (m₁ : Str → Option Value) (news₁ : List (Addr × Obj)) (s₁ : Shared), (∃ h tk, s₁ = { s with heap := h, toks := tk }) → Fr h₀ env.locals s₁.heap (fun y => if y = x then some v else m₁ y) → News h₀ env.locals s₁.heap (lp :: news₁) →
      wpAny (model prog w) A (execs body env) (fun f s₂ => f = .next ∧ P v ∧ ∃ tk, s₂ = { s₁ with toks := tk }) E s₁) →
    (∀ y, y ≠ x → m₁ y = m y) →
    ((∀ v ∈ vs, P v) → ∀ h' tk (u : Option Value), Fr h₀ env.locals h' (fun y => if y = x then u else m y) → News h₀ env.locals h' [lp] → Q .next { s with heap := h', toks := tk }) →
    ListRest prog w A E h₀ env x body Q s I lp vs m₁ [lp]
  | [], m₁, _, hm, done => .zero fun h tk F N => done (fun _ hv => nomatch hv) h tk (m₁ x) (frMap F fun y => by
      by_cases q : y = x
      · rw [if_pos q, q]
      · rw [if_neg q, hm y q]) N
  | v :: r, m₁, turn, hm, done => .succ fun it h tk hit F N => by
      have N' : News h₀ env.locals h (lp :: [(I, it)]) := fun p hp => N p (by
        rcases List.mem_cons.mp hp with rfl | hp
        · exact .tail _ (.head _)
        · rw [List.mem_singleton.mp hp]; exact .head _)
      refine wpAny_mono (turn v (.head _) m₁ _ { s with heap := h, toks := tk } ⟨h, tk, rfl⟩ F N') (fun f s₂ hf => ?_) fun _ _ e => e
      obtain ⟨rfl, hP, tk', rfl⟩ := hf
      refine ⟨h, tk', _, [lp], rfl, F, N, fun p hp => by rw [List.mem_singleton.mp hp]; exact hlp, .head _, ?_⟩
      refine rest_each hlp r _ (fun v' hv => turn v' (.tail _ hv)) (fun y hy => by rw [if_neg hy]; exact hm y hy) fun hr => done fun v' hv => ?_
      rcases List.mem_cons.mp hv with rfl | hv
      · exact hP
      · exact hr v' hv

/-- A loop over a list that the call has made; its turns store nothing. -/
theorem for_each {D : Addr} {vs : List Value} {n : Nat} {P : Value → Prop} {px pos : Pos} {iter : Expr} (F : Fr h₀ env.locals s.heap m) (N : News h₀ env.locals s.heap [(D, W.listOf vs.toArray n)])
    (hh : A.handled = none) (hx : env.kindOf x = some .local) (hp : (env.scope.kind == .class || (env.scope.kind == .module && env.locals != env.globals)) = false)
    (hi : wpAny (model prog w) A (eval iter env) (fun xv s₁ => xv = .ref D ∧ s₁ = s) E s)
    (turn : ∀ v ∈ vs, ∀ (m₁ : Str → Option Value) (news₁ : List (Addr × Obj)) (s₁ : Shared), (∃ h tk, s₁ = { s with heap := h, toks := tk }) → Fr h₀ env.locals s₁.heap (fun y => if y = x then some v else m₁ y) → News h₀ env.locals s₁.heap ((D, W.listOf vs.toArray n) :: news₁) →
      wpAny (model prog w) A (execs body env) (fun f s₂ => f = .next ∧ P v ∧ ∃ tk, s₂ = { s₁ with toks := tk }) E s₁)
    (done : (∀ v ∈ vs, P v) → ∀ h' tk (u : Option Value), Fr h₀ env.locals h' (fun y => if y = x then u else m y) → News h₀ env.locals h' [(D, W.listOf vs.toArray n)] → Q .next { s with heap := h', toks := tk })
    (hs : ∀ x, foldedSetIterable iter env x = pure x := by intro _; rfl)
    (hE : PassesOwn (model prog w) A env E := by passes_own) :
    wpAny (model prog w) A (exec (.For (.Name x px) iter body [] pos) env) Q E s := by
  refine For_invVF F hx hp (wpAny_mono hi (fun xv s₁ h => ?_) fun _ _ e => e) hs hE
  obtain ⟨rfl, rfl⟩ := h
  refine iter_listUnr (lo := W.listOf vs.toArray n) (vs := vs) hh F N (.head _) rfl rfl fun I hI => ?_
  exact rest_each (Nat.ne_of_lt (hI _ (.head _))) vs m turn (fun _ _ => rfl) done
end
end Mine
end PartL1

section PartS0
open PySem PySem.W PyProof.Rows PySem.Calls PySem.Builtin
namespace Mine
set_option maxRecDepth 100000
set_option maxHeartbeats 400000

/-- A part of the text: digits, none of them a leading nought. -/
def partOk (p : Array UInt8) : Bool := Bytes.allOf Bytes.isDigit p.toList && !(decide (p.size > 1) && p.toList.headD 0 == 48)
def atonL : List (Array UInt8) → Option (List UInt8)
  | [p, q, r, t] => if partOk p && partOk q && partOk r && partOk t && decide (valB p.toList ≤ 255) && decide (valB q.toList ≤ 255) && decide (valB r.toList ≤ 255) && decide (valB t.toList ≤ 255) then
      some [(valB p.toList).toUInt8, (valB q.toList).toUInt8, (valB r.toList).toUInt8, (valB t.toList).toUInt8] else none
  | _ => none
/-- What inet_aton makes of the octets of a text. -/
def aton (b : Array UInt8) : Option (List UInt8) := atonL (splitB b #[46])


section
variable {prog : Program} {w : World} {A : Around} {E : Value → Shared → Prop} {s : Shared} {b c : Array UInt8} {t u : Tok} {Q : Value → Shared → Prop} {h₀ : Heap} {L : Addr} {m : Str → Option Value} {news : List (Addr × Obj)}
theorem split_K (F : Fr h₀ L s.heap m) (N : News h₀ L s.heap news) (hc : c.isEmpty = false) (hs : ∀ x ∈ splitB b c, x.size ≤ sizeLine) (hn : (splitB b c).length ≤ sizeLine)
    (h : ∀ D vs h' k, BytesAre vs (splitB b c) → Fr h₀ L h' m → News h₀ L h' ((D, W.listOf vs.toArray 0) :: news) → (∀ p ∈ news, p.1 < D) → Q (.ref D) { s with heap := h', toks := k }) :
    wpAny (model prog w) A (call (.builtin "bytes.split") [.bytes b t, .bytes c u]) Q E s :=
  call_split hc hs hn fun vs k hv => h _ vs _ k hv (F.push _) (N.push F _) fun p hp => Heap.lt_size (N p hp).1
end
section
variable {prog : Program} {w : World} {A : Around} {E : Value → Shared → Prop} {s : Shared} {h₀ : Heap} {L a C : Addr} {m : Str → Option Value} {K : Frag} {p : Program} {loose : List Str} {mg mb : Str → Option Value} {cn : Str} {cs : Scope} {ccd : Value} {x : Str} {np pos : Pos} {Q : Flow → Shared → Prop}
theorem raise_K (F : Fr h₀ L s.heap m) (X : K.In h₀) (T : TopRead p loose mg mb h₀) (e : nsIn K mainGlobals x = some (some (.ref C))) (q : excIn K C [.type "Exception", .type "BaseException", .type "object"] "Exception.__new__" = true) (hh : A.handled = none)
    (h : ∀ h' e, MadeC s.heap h' e C → E (.ref e) { s with heap := h' })
    (hk : cs.kind = .function := by rfl) (hx : (envOf cn cs L a ccd).kindOf x = some .globalImplicit := by rfl) (hd : (x == ("__debug__" : Str)) = false := by decide) :
    wpAny (model prog w) A (exec (.Raise (some (.Name x np)) none pos) (envOf cn cs L a ccd)) Q E s := by
  obtain ⟨tl, N, nm, q', bs, hdct, sn, sub, ab, col, dd, k0, k1, k2, k3, k5, mN, hC, hN, hni, TL⟩ := ((own_of_in X T e q).keeps F.keep).obj
  exact raise_bare0 PySem.F.excBase_Exception TL (TL.hasType (by decide)) hC hN hni hh (name_K F X T e ⟨rfl, rfl⟩ hk hx hd) h
theorem raise_K1 (F : Fr h₀ L s.heap m) (X : K.In h₀) (T : TopRead p loose mg mb h₀) (e : nsIn K mainGlobals x = some (some (.ref C))) (q : excIn K C [.type "Exception", .type "BaseException", .type "object"] "Exception.__new__" = true)
    {d : Addr} {od : Obj} {vs : Array Value} (hh : A.handled = some (.ref d)) (hd' : s.heap.get? d = some od) (hdd : od.data = .fields vs) (h2 : vs[2]? = some .none)
    (h : ∀ h' e, MadeC s.heap h' e C → E (.ref e) { s with heap := h' })
    (hk : cs.kind = .function := by rfl) (hx : (envOf cn cs L a ccd).kindOf x = some .globalImplicit := by rfl) (hd : (x == ("__debug__" : Str)) = false := by decide) :
    wpAny (model prog w) A (exec (.Raise (some (.Name x np)) none pos) (envOf cn cs L a ccd)) Q E s := by
  obtain ⟨tl, N, nm, q', bs, hdct, sn, sub, ab, col, dd, k0, k1, k2, k3, k5, mN, hC, hN, hni, TL⟩ := ((own_of_in X T e q).keeps F.keep).obj
  exact raise_bare1 PySem.F.excBase_Exception TL (TL.hasType (by decide)) hC hN hni hh hd' hdd h2 (name_K F X T e ⟨rfl, rfl⟩ hk hx hd) h
end
theorem four_or {vs : List Value} {bs : List (Array UInt8)} (h : BytesAre vs bs) : (∃ (p q r t : List UInt8) (t1 t2 t3 t4 : Tok), bs = [p.toArray, q.toArray, r.toArray, t.toArray] ∧ vs = [.bytes p.toArray t1, .bytes q.toArray t2, .bytes r.toArray t3, .bytes t.toArray t4]) ∨ ((vs.toArray.size : Nat) : Int) ≠ 4 ∧ bs.length ≠ 4 := by
  have hl := h.length
  by_cases h4 : vs.length = 4
  · left
    rcases h with _ | @⟨p, _, _, _, h⟩
    · simp at h4
    rcases h with _ | @⟨q, _, _, _, h⟩
    · simp at h4
    rcases h with _ | @⟨r, _, _, _, h⟩
    · simp at h4
    rcases h with _ | @⟨t, _, _, _, h⟩
    · simp at h4
    rcases h with _ | ⟨h⟩
    · exact ⟨p.toList, q.toList, r.toList, t.toList, _, _, _, _, rfl, rfl⟩
    · simp at h4
  · exact .inr ⟨by rw [List.size_toArray]; omega, by omega⟩
def Stop (p : Prop) : Prop := p
theorem stopped {p : Prop} (h : Stop p) : p := h
theorem Stop.go {p : Prop} (h : p) : Stop p := h
section
variable {M : Model} {A : Around} {E : Value → Shared → Prop} {s : Shared} {env : Env} {pos : Pos} {first : List Value} {Q : Value → Shared → Prop} {e : Expr} {rest : List Expr} {id : String}
theorem callWith_B (h : wpAny M A (spliced (backTo pos (starEach (e :: rest) env))) (fun vs s₁ => wpAny M A (call (.builtin id) (first ++ vs)) Q E s₁) E s)
    (he : starEach (e :: rest) env = (false, PySem.eval e env) :: starEach rest env := by rfl) (hst : (backTo pos (starEach rest env)).any (·.1) = true := by rfl) :
    wpAny M A (callWith pos (.builtin id) first (backTo pos (starEach (e :: rest) env)) []) Q E s := by
  rw [he] at h ⊢
  exact ks_call (P := fun _ => True) (by show (false || (backTo pos (starEach rest env)).any (·.1)) = true; rw [hst]; rfl) (fun _ _ => ⟨.machine, .inr (.inl rfl), Looks.of_pure rfl⟩)
    (evalArgs_plain (wpAny_mono h (fun _ _ x => ⟨trivial, x⟩) fun _ _ x => x))
end
def okV : Value → Prop
  | .bytes b _ => partOk b = true
  | _ => False
theorem part_bad {p : List UInt8} {t : Tok} {bs : List (Array UInt8)} (hm : p.toArray ∈ bs) (h : partOk p.toArray = false) : atonL bs = none := by
  unfold atonL
  split
  · rename_i p q r t
    rw [if_neg]
    intro hh
    simp only [Bool.and_eq_true] at hh
    simp only [List.mem_cons, List.not_mem_nil, or_false] at hm
    rcases hm with q | q | q | q <;> (rw [q] at h; simp_all)
  · rfl
theorem ok_bad1 {p : List UInt8} (h : Bytes.allOf Bytes.isDigit p.toArray.toList = false) : partOk p.toArray = false := by
  unfold partOk; rw [h]; rfl
theorem lead_iff {p : List UInt8} : ((((p.getD (Int.toNat 0) 0).toNat : Nat) : Int) = (((Str.ofString "0").cps.getD 0 0 : Nat) : Int)) ↔ (p.headD 0 == 48) = true := by
  have e : (Str.ofString "0").cps.getD 0 0 = 48 := by decide +kernel
  rw [e]
  cases p with
  | nil => decide
  | cons c r =>
    show ((c.toNat : Int) = ((48 : Nat) : Int)) ↔ (c == 48) = true
    rw [beq_iff_eq]
    constructor
    · intro h
      exact UInt8.toNat_inj.mp (Int.ofNat.inj h)
    · intro h; rw [h]; rfl
theorem ok_bad2 {p : List UInt8} (h2 : (1 : Int) < (p.toArray.size : Nat)) (h3 : (((p.getD (Int.toNat 0) 0).toNat : Nat) : Int) = (((Str.ofString "0").cps.getD 0 0 : Nat) : Int)) : partOk p.toArray = false := by
  unfold partOk
  rw [show p.toArray.toList.headD 0 = p.headD 0 from rfl, lead_iff.mp h3, decide_eq_true (show p.toArray.size > 1 by omega)]
  simp
theorem ok_good1 {p : List UInt8} (h : Bytes.allOf Bytes.isDigit p.toArray.toList = true) (h3 : (((p.getD (Int.toNat 0) 0).toNat : Nat) : Int) ≠ (((Str.ofString "0").cps.getD 0 0 : Nat) : Int)) : partOk p.toArray = true := by
  unfold partOk
  have h4 : (p.headD 0 == 48) = false := by rw [← Bool.not_eq_true]; exact fun q => h3 (lead_iff.mpr q)
  rw [show p.toArray.toList.headD 0 = p.headD 0 from rfl, h, h4]
  simp
theorem ok_good2 {p : List UInt8} (h : Bytes.allOf Bytes.isDigit p.toArray.toList = true) (h2 : ¬ (1 : Int) < (p.toArray.size : Nat)) : partOk p.toArray = true := by
  unfold partOk
  rw [h, decide_eq_false (show ¬ p.toArray.size > 1 by omega)]
  simp
theorem part_digits {p : Array UInt8} (h : partOk p = true) : p.toList ≠ [] ∧ ∀ c ∈ p.toList, 48 ≤ c.toNat ∧ c.toNat ≤ 57 := by
  unfold partOk at h
  simp only [Bool.and_eq_true] at h
  have h1 := h.1
  unfold Bytes.allOf at h1
  simp only [Bool.and_eq_true] at h1
  refine ⟨fun e => by rw [e] at h1; exact absurd h1.1 (by decide), fun c hc => ?_⟩
  have h2 := List.all_eq_true.mp h1.2 c hc
  unfold Bytes.isDigit at h2
  simp only [Bool.and_eq_true, decide_eq_true_eq] at h2
  exact ⟨UInt8.le_iff_toNat_le.mp h2.1, UInt8.le_iff_toNat_le.mp h2.2⟩
section
variable {prog : Program} {w : World} {A : Around} {E : Value → Shared → Prop} {s : Shared} {t : Tok} {Q : Value → Shared → Prop} {p : List UInt8}
theorem int_part (hok : partOk p.toArray = true) (hl : p.toArray.size ≤ 600) (h : Q (.int (valB p : Nat) s.toks) { s with toks := s.toks + 1 }) :
    wpAny (model prog w) A (call (.type "int") [.bytes p.toArray t]) Q E s :=
  call_int_bytes (Nat.le_trans hl (by decide)) (part_digits hok).1 (part_digits hok).2 h
end
theorem raised_turn {base g g' h : Heap} {l : List Env} {e t : Addr} {cls : Value} {vs : List Value} (R : RaisedS base g' l e cls t vs [] h) (T : KtsTurn (l.filterMap (·.frame)) g g') : RaisedS base g l e cls t vs [] h := by
  obtain ⟨⟨B, hB, hBG, _, hf, ht⟩, hu⟩ := R
  exact ⟨⟨B, hB, fun b o q n => hBG b o (T.other b o q n) n, (fun _ hq => nomatch hq), hf, ht⟩, hu⟩
theorem up_turn {g g' h : Heap} {fs : List Addr} (U : g'.UpToSlots h) (T : KtsTurn fs g g') : g.UpToSlots h := fun b o q n => by
  obtain ⟨sl, hs⟩ := T.up q
  obtain ⟨sl', hs'⟩ := U b _ hs n
  exact ⟨sl', hs'⟩
theorem four_test {p q r t : List UInt8} (h1 : partOk p.toArray = true) (h2 : partOk q.toArray = true) (h3 : partOk r.toArray = true) (h4 : partOk t.toArray = true) :
    (partOk p.toArray && partOk q.toArray && partOk r.toArray && partOk t.toArray && decide (valB p ≤ 255) && decide (valB q ≤ 255) && decide (valB r ≤ 255) && decide (valB t ≤ 255)) = true ↔ OctetI (valB p : Nat) ∧ OctetI (valB q : Nat) ∧ OctetI (valB r : Nat) ∧ OctetI (valB t : Nat) := by
  rw [h1, h2, h3, h4]
  simp only [Bool.and_eq_true, decide_eq_true_eq, true_and, OctetI]
  generalize valB p = a1
  generalize valB q = a2
  generalize valB r = a3
  generalize valB t = a4
  constructor
  · intro h; omega
  · intro h
    refine ⟨⟨⟨?_, ?_⟩, ?_⟩, ?_⟩ <;> omega
theorem aton_four {p q r t : List UInt8} (h1 : partOk p.toArray = true) (h2 : partOk q.toArray = true) (h3 : partOk r.toArray = true) (h4 : partOk t.toArray = true)
    (h : OctetI (valB p : Nat) ∧ OctetI (valB q : Nat) ∧ OctetI (valB r : Nat) ∧ OctetI (valB t : Nat)) :
    atonL [p.toArray, q.toArray, r.toArray, t.toArray] = some [(valB p).toUInt8, (valB q).toUInt8, (valB r).toUInt8, (valB t).toUInt8] :=
  if_pos ((four_test h1 h2 h3 h4).mpr h)
theorem aton_four0 {p q r t : List UInt8} (h1 : partOk p.toArray = true) (h2 : partOk q.toArray = true) (h3 : partOk r.toArray = true) (h4 : partOk t.toArray = true)
    (h : ¬ (OctetI (valB p : Nat) ∧ OctetI (valB q : Nat) ∧ OctetI (valB r : Nat) ∧ OctetI (valB t : Nat))) :
    atonL [p.toArray, q.toArray, r.toArray, t.toArray] = none :=
  if_neg fun g => h ((four_test h1 h2 h3 h4).mp g)
theorem sub_struct : isSubtype (.type "struct.error") (.type "Exception") = pure true := by rw [isSubtype_type]; kernel_rfl
abbrev arnd (dp un : Nat) (gd : Option (List Code)) (outer : List Env) : Around := { handled := none, depth := dp, frames := some outer, guards := gd, units := un }
/-- The frames below a call: what each contract asks. -/
structure Ctx0 (w : World) (dp un : Nat) (gd : Option (List Code)) (base h₀ : Heap) (outer : List Env) (L : Addr) (m : Str → Option Value) (h : Heap) (p : Program) (loose : List Str) (mean : ExcName → Option Value) (mg mb : Str → Option Value) : Prop where
  B : Below (arnd dp un gd outer) base outer h₀
  F : Fr h₀ L h m
  X : (hd.heap_39 w.params).In h₀
  T : Top p loose mean mg mb h₀
  XB : (hd.heap_39 w.params).In base
  TB : Top p loose mean mg mb base
  D : KtsDicts (outer.filterMap (·.frame)) h₀
  hdp : dp < 900

section
variable {prog : Program} {w : World} {A₀ : Around} {s : Shared} {base h₀ : Heap} {outer : List Env} {L a : Addr} {m : Str → Option Value} {cn : Str} {cs : Scope} {ccd : Value} {K : Frag} {p : Program} {loose : List Str} {mean : ExcName → Option Value} {mg mb : Str → Option Value}
    {R : Result → Shared → Prop} {name qual : Str} {params : Arguments} {body : List Stmt} {scope : Scope} {dV kV doc pm cdv ct oc : Value} {an od : Option Addr} {osl : Array (Option Value)} {f : Addr} {args : Args} {binds : List (Str × Value)}
/-- A def is entered: all that stands at the call is the callee's ground. -/
theorem code_full (B : Below A₀ base outer h₀) (F : Fr h₀ L s.heap m) (X : K.In h₀) (T : Top p loose mean mg mb h₀) (D : KtsDicts (outer.filterMap (·.frame)) h₀)
    (ho : K.lookup f = some ⟨oc, od, .func (fnOf name qual params body scope dV kV doc pm an cdv ct), osl⟩) (hcd : codeIn K cdv qual = true) (hroom : (A₀.deeper (envOf cn cs L a ccd)).depth < recursionLimit)
    (hbind : BindsTo s (fnOf name qual params body scope dV kV doc pm an cdv ct) args binds) (hloc : ∀ y ∈ binds, scope.names.lookup y.1 = some .local)
    (h : ∀ L' h₁, Fr s.heap L' h₁ (fun y => binds.reverse.lookup y) → News s.heap L' h₁ [] → Below (A₀.deeper (envOf cn cs L a ccd)) base (envOf cn cs L a ccd :: outer) s.heap → K.In s.heap → Top p loose mean mg mb s.heap → KtsDicts ((envOf cn cs L a ccd :: outer).filterMap (·.frame)) s.heap →
      wpAny (model prog w) ((A₀.deeper (envOf cn cs L a ccd)).deeper (envOf qual scope L' f cdv)) (execs body (envOf qual scope L' f cdv))
        (fun fl s' => R (.ok (.ret (match fl with | .ret v => v | _ => .none))) s')
        (fun e s' => wpAny (model prog w) ((A₀.deeper (envOf cn cs L a ccd)).deeper (envOf qual scope L' f cdv)) (leaving (envOf qual scope L' f cdv) e) (fun _ s'' => R (.error e) s'') (fun e' s'' => R (.error e') s'') s')
        { s with heap := h₁, toks := s.toks + binds.length })
    (hck : cs.kind = .function) (hco : scope.isCoroutine = false) (hgen : scope.isGenerator = false) (hk : scope.kind = .function)
    (hcell : ∀ x ∈ scope.names, x.2 ≠ .cell) : codeAny (model prog w) (A₀.deeper (envOf cn cs L a ccd)) (.call (.ref f) args) R s := by
  have X' := X.keeps F.keep
  refine codeAny_call_def (fd := fnOf name qual params body scope dV kV doc pm an cdv ct) (body := body) (binds := binds) hroom (X' _ _ ho) rfl (T.nolimit.keeps F.keep) (codeRec_of X' hcd) rfl hbind hcell hloc (fun h₁ hns hk₁ => ?_) hco hgen hk
  refine h s.heap.objs.size h₁ ⟨hns, hk₁, Nat.le_refl _⟩ .nil (B.push F hck) X' (T.keeps F.keep) fun b hb => ?_
  rcases kts_mem hb with rfl | hb
  · obtain ⟨oL, es, ep, hL, hLd, _⟩ := F.ns
    exact ⟨oL, es, ep, hL, hLd⟩
  · obtain ⟨o, es', n', ho', hd'⟩ := D b hb
    exact ⟨o, es', n', F.keep b o ho', hd'⟩
end

end Mine
end PartS0

section PartS1
open PySem PySem.W PyProof.Rows PySem.Calls PySem.Builtin
namespace Mine
section
local macro_rules | `(tactic| walk_at "no such tree") => `(tactic| skip)
theorem fresh_S1 : True := by
  w_top off
  first | walk1 | trivial
end
set_option maxRecDepth 100000
set_option maxHeartbeats 8000000
local macro_rules | `(tactic| walk_at "getMethod bytes") => `(tactic| (k_here; first | with_reducible refine meth_split ?_ | with_reducible refine meth_isdigit ?_ | with_reducible refine meth_starts ?_))
local macro_rules | `(tactic| walk_at "getMethod str") => `(tactic| (k_here; with_reducible refine meth_encode ?_))
local macro_rules | `(tactic| walk_at "exec For Name Name cons nil") => `(tactic| (k_here; refine stopped ?_))
local macro_rules | `(tactic| walk_at "exec Raise some none") => `(tactic| (k_here; (with_reducible show wpAny _ _ (exec (Stmt.Raise (some (Expr.Name _ _)) none _) _) _ _ _); k_dflt (refine' raise_K ?F ?X ?T ?e ?q ?hh ?_ ?hk ?hx ?hd; (case F => k_asm); (case X => k_asm); (case T => k_asm); (case e => k_is); (case q => k_exc); (case hh => first | rfl | assumption); (case hk => rfl); (case hx => rfl); (case hd => decide); k_whole); intro hX' eX' mX'))
local macro_rules | `(tactic| walk_at "call builtin:bytes.isdigit") => `(tactic| (k_here; with_reducible refine call_isdigit ?_))
local macro_rules | `(tactic| walk_at "callWith") => `(tactic| (k_here; (with_reducible show wpAny _ _ (callWith _ (Value.builtin _) _ (backTo _ (starEach (_ :: _ :: _) _)) []) _ _ _); ks_star; k_dflt (refine' callWith_B ?_; k_whole)))
local macro_rules | `(tactic| walk_at "call builtin:_struct.pack") => `(tactic| (k_here; refine stopped ?_))
local macro_rules | `(tactic| walk_at "call type:int") => `(tactic| (k_here; (with_reducible show wpAny _ _ (call (Value.type "int") [Value.bytes _ _]) _ _ _); (refine int_part (by assumption) (by assumption) ?_)))
theorem aton_bytes {w : World} {dp un : Nat} {gd : Option (List Code)} {base h₀ : Heap} {outer : List Env} {L : Addr} {m : Str → Option Value} {s : Shared} {p : Program} {loose : List Str} {mean : ExcName → Option Value} {mg mb : Str → Option Value} {cn : Str} {cs : Scope} {a : Addr} {ccd : Value} {Q E : Value → Shared → Prop} {b : Array UInt8} {tb : Tok}
    (C : Ctx0 w dp un gd base h₀ outer L m s.heap p loose mean mg mb) (hk : cs.kind = .function) (hz : b.size ≤ 600)
    (hg : ∀ l, aton b = some l → ∀ t h' tk, s.heap.StaysIn h' → Q (.bytes l.toArray t) { s with heap := h', toks := tk })
    (hb : aton b = none → ∀ e t h' tk, RaisedS base s.heap (envOf cn cs L a ccd :: outer) e (.ref 84) t [] [] h' → s.heap.UpToSlots h' → E (.ref e) { s with heap := h', toks := tk }) :
    wpAny (model PySem.Challenge.rw_ab5008_01.row.prog w) ((arnd dp un gd outer).deeper (envOf cn cs L a ccd)) (call (.ref 98) [.bytes b tb]) Q E s := by
  obtain ⟨B, F, X, T, XB, TB, D, hdp⟩ := C
  revert X XB; k_fill; intro X XB
  refine wpAny_call ?_
  refine' code_full (binds := [(Str.ofString "text", .bytes b tb)]) B F X T D ?k6 ?k7 ?k8 ?k9 ?kB ?_ hk ?c2 ?c3 ?c4 ?c5
  case k6 => k_is
  case k7 => k_is
  case k8 => show dp + 1 < 1000; omega
  case k9 => exact BindsTo.of_eq rfl
  case kB => exact locs rfl
  case c2 => rfl
  case c3 => rfl
  case c4 => rfl
  case c5 => decide
  intro L1 h1 F1 N1 B1 X1 T1 D1
  k_steps
  rename Fr _ _ _ _ => F2
  rename News _ _ _ _ => N2
  refine split_K F2 N2 (by decide) (split_small hz).1 (split_small hz).2 ?_
  intro D vs h' k hv F3 N3 l1
  rcases four_or hv with ⟨p1, p2, p3, p4, t1, t2, t3, t4, hbs, rfl⟩ | ⟨hn1, hn2⟩
  · clear F2 N2
    have hq : ∀ p ∈ [p1.toArray, p2.toArray, p3.toArray, p4.toArray], p.size ≤ 600 := fun p hp => Nat.le_trans (split_part (by rw [hbs]; exact hp)) hz
    have hbad : ∀ p ∈ [p1.toArray, p2.toArray, p3.toArray, p4.toArray], partOk p = false → aton b = none := fun p hp hf => by
      unfold aton; rw [hbs]; exact part_bad (p := p.toList) (t := 0) hp hf
    k_steps
    unfold Stop
    rename News _ _ _ _ => N2
    rename Fr _ _ _ _ => F2
    refine for_each (P := okV) F2 N2 rfl rfl rfl ?hi ?turn ?done ?hs ?hE
    case hs => intro _; rfl
    case hE => passes_own
    case hi => exact ld F2 rfl ⟨rfl, rfl⟩
    case turn =>
      intro v hv m₁ news₁ s₁ hs₁ F₁ N₁
      have hv' : ∃ p t, v = .bytes (List.toArray p) t ∧ p.toArray ∈ [p1.toArray, p2.toArray, p3.toArray, p4.toArray] := by
        simp only [List.mem_cons, List.not_mem_nil, or_false] at hv ⊢
        rcases hv with rfl | rfl | rfl | rfl
        · exact ⟨_, _, rfl, .inl rfl⟩
        · exact ⟨_, _, rfl, .inr (.inl rfl)⟩
        · exact ⟨_, _, rfl, .inr (.inr (.inl rfl))⟩
        · exact ⟨_, _, rfl, .inr (.inr (.inr rfl))⟩
      obtain ⟨p, tp, rfl, hp⟩ := hv'
      have hlen := hq _ hp
      have hbd := hbad _ hp
      clear hv hq hbad F2 N2 hbs
      obtain ⟨hh1, tk1, rfl⟩ := hs₁
      k_steps
      all_goals first
        | exact ok_good1 (by assumption) (by assumption)
        | exact ok_good2 (by assumption) (by assumption)
        | (refine leave_C B1 (by assumption) F₁ .nil (fun h' t R U => ?_)
           exact hb (hbd (by first | exact ok_bad1 (by assumption) | exact ok_bad2 (by assumption) (by assumption))) _ _ _ _ R U)
    case done =>
      clear F2 N2
      intro hall h' tk u F2 N2
      have hd1 : partOk p1.toArray = true := hall _ (.head _)
      have hd2 : partOk p2.toArray = true := hall _ (.tail _ (.head _))
      have hd3 : partOk p3.toArray = true := hall _ (.tail _ (.tail _ (.head _)))
      have hd4 : partOk p4.toArray = true := hall _ (.tail _ (.tail _ (.tail _ (.head _))))
      clear hall
      have hs1 : p1.toArray.size ≤ 600 := hq _ (.head _)
      have hs2 : p2.toArray.size ≤ 600 := hq _ (.tail _ (.head _))
      have hs3 : p3.toArray.size ≤ 600 := hq _ (.tail _ (.tail _ (.head _)))
      have hs4 : p4.toArray.size ≤ 600 := hq _ (.tail _ (.tail _ (.tail _ (.head _))))
      k_steps
      unfold Stop
      clear hv hq hbad
      refine call_pack rfl ?_ ?_
      · intro o1 o2 o3 o4 x tx kx hx
        try dsimp only
        k_steps
        rename Fr _ _ _ _ => F9
        have hl : aton b = some [(valB p1).toUInt8, (valB p2).toUInt8, (valB p3).toUInt8, (valB p4).toUInt8] := by
          unfold aton
          rw [hbs, aton_four hd1 hd2 hd3 hd4 ⟨o1, o2, o3, o4⟩]
        have ex : x = [(valB p1).toUInt8, (valB p2).toUInt8, (valB p3).toUInt8, (valB p4).toUInt8].toArray := by
          simp only [Int.toNat_natCast] at hx
          rw [← hx]
        rw [ex]
        exact hg _ hl _ _ _ F9.keep
      · intro hnot hE' tkE eE hxE
        try dsimp only
        have hl : aton b = none := by
          unfold aton
          rw [hbs, aton_four0 hd1 hd2 hd3 hd4 hnot]
        rename Fr _ _ _ _ => F9
        refine caught_ctx B1 F9 .nil hxE PySem.F.isExc_Exception PySem.F.notTuple_Exception sub_struct ?hname ?k
        case hname =>
          intro h' g' Q' F' st hq
          exact name_B F' (XB.keeps st) (topRead_of (TB.keeps st)) (by k_is) PyProof.Rows.Boot.«Exception» (by decide) hq
        case k =>
          intro h' g' od vs T' F' N' K' hod hdd h2
          walk1
          walk1
          refine' raise_K1 F' (XB.keeps K'.stays) (topRead_of (TB.keeps K'.stays)) ?e ?q rfl hod hdd h2 ?_ ?hk ?hx ?hd
          case e => k_is
          case q => k_exc
          case hk => rfl
          case hx => rfl
          case hd => decide
          intro hX eX mX
          refine leave_C K' mX F' .nil (fun h'' t R U => ?_)
          exact hb hl _ _ _ _ (raised_turn R T') (up_turn U T')
  · clear F2 N2
    have hsz : (vs.toArray.size : Int) < 2 ^ 63 := by
      have h1 := (split_small hz).2
      have h2 := hv.length
      rw [List.size_toArray, h2]
      unfold sizeLine at h1
      omega
    have hl : aton b = none := by
      unfold aton atonL
      split
      · rename_i e; rw [e] at hn2; exact absurd rfl hn2
      · rfl
    k_steps
    · rename Fr _ _ _ _ => F9
      refine leave_C B1 (by assumption) F9 .nil (fun h'' t R U => ?_)
      exact hb hl _ _ _ _ R U
    · exact absurd (by assumption) hn1
end Mine
end PartS1

section PartS2
open PySem PySem.W PyProof.Rows PySem.Calls PySem.Builtin
namespace Mine
section
local macro_rules | `(tactic| walk_at "no such tree") => `(tactic| skip)
theorem fresh_S2 : True := by
  w_top off
  first | walk1 | trivial
end
set_option maxRecDepth 100000
set_option maxHeartbeats 8000000
local macro_rules | `(tactic| walk_at "getMethod bytes") => `(tactic| (k_here; first | with_reducible refine meth_split ?_ | with_reducible refine meth_isdigit ?_ | with_reducible refine meth_starts ?_))
local macro_rules | `(tactic| walk_at "getMethod str") => `(tactic| (k_here; with_reducible refine meth_encode ?_))
local macro_rules | `(tactic| walk_at "exec For Name Name cons nil") => `(tactic| (k_here; refine stopped ?_))
local macro_rules | `(tactic| walk_at "exec Raise some none") => `(tactic| (k_here; (with_reducible show wpAny _ _ (exec (Stmt.Raise (some (Expr.Name _ _)) none _) _) _ _ _); k_dflt (refine' raise_K ?F ?X ?T ?e ?q ?hh ?_ ?hk ?hx ?hd; (case F => k_asm); (case X => k_asm); (case T => k_asm); (case e => k_is); (case q => k_exc); (case hh => first | rfl | assumption); (case hk => rfl); (case hx => rfl); (case hd => decide); k_whole); intro hX' eX' mX'))
local macro_rules | `(tactic| walk_at "call builtin:bytes.isdigit") => `(tactic| (k_here; with_reducible refine call_isdigit ?_))
local macro_rules | `(tactic| walk_at "callWith") => `(tactic| (k_here; (with_reducible show wpAny _ _ (callWith _ (Value.builtin _) _ (backTo _ (starEach (_ :: _ :: _) _)) []) _ _ _); ks_star; k_dflt (refine' callWith_B ?_; k_whole)))
local macro_rules | `(tactic| walk_at "call builtin:_struct.pack") => `(tactic| (k_here; refine stopped ?_))
local macro_rules | `(tactic| walk_at "call type:int") => `(tactic| (k_here; (with_reducible show wpAny _ _ (call (Value.type "int") [Value.bytes _ _]) _ _ _); (refine int_part (by assumption) (by assumption) ?_)))
theorem aton_str {w : World} {dp un : Nat} {gd : Option (List Code)} {base h₀ : Heap} {outer : List Env} {L : Addr} {m : Str → Option Value} {s : Shared} {p : Program} {loose : List Str} {mean : ExcName → Option Value} {mg mb : Str → Option Value} {cn : Str} {cs : Scope} {a : Addr} {ccd : Value} {Q E : Value → Shared → Prop} {x : PySem.Str} {tb : Tok}
    (C : Ctx0 w dp un gd base h₀ outer L m s.heap p loose mean mg mb) (hk : cs.kind = .function) (hcx : Clean x) (hz : (utf8B x).size ≤ 600)
    (hg : ∀ l, aton (utf8B x) = some l → ∀ t h' tk, s.heap.StaysIn h' → Q (.bytes l.toArray t) { s with heap := h', toks := tk })
    (hb : aton (utf8B x) = none → ∀ e t h' tk, RaisedS base s.heap (envOf cn cs L a ccd :: outer) e (.ref 84) t [] [] h' → s.heap.UpToSlots h' → E (.ref e) { s with heap := h', toks := tk }) :
    wpAny (model PySem.Challenge.rw_ab5008_01.row.prog w) ((arnd dp un gd outer).deeper (envOf cn cs L a ccd)) (call (.ref 98) [.str x tb]) Q E s := by
  obtain ⟨B, F, X, T, XB, TB, D, hdp⟩ := C
  revert X XB; k_fill; intro X XB
  refine wpAny_call ?_
  refine' code_full (binds := [(Str.ofString "text", .str x tb)]) B F X T D ?k6 ?k7 ?k8 ?k9 ?kB ?_ hk ?c2 ?c3 ?c4 ?c5
  case k6 => k_is
  case k7 => k_is
  case k8 => show dp + 1 < 1000; omega
  case k9 => exact BindsTo.of_eq rfl
  case kB => exact locs rfl
  case c2 => rfl
  case c3 => rfl
  case c4 => rfl
  case c5 => decide
  intro L1 h1 F1 N1 B1 X1 T1 D1
  k_steps
  refine call_encode hcx (Nat.le_trans hz (by decide)) ?_
  k_steps
  rename Fr _ _ _ _ => F2
  rename News _ _ _ _ => N2
  refine split_K F2 N2 (by decide) (split_small hz).1 (split_small hz).2 ?_
  intro D vs h' k hv F3 N3 l1
  rcases four_or hv with ⟨p1, p2, p3, p4, t1, t2, t3, t4, hbs, rfl⟩ | ⟨hn1, hn2⟩
  · clear F2 N2
    have hq : ∀ p ∈ [p1.toArray, p2.toArray, p3.toArray, p4.toArray], p.size ≤ 600 := fun p hp => Nat.le_trans (split_part (by rw [hbs]; exact hp)) hz
    have hbad : ∀ p ∈ [p1.toArray, p2.toArray, p3.toArray, p4.toArray], partOk p = false → aton (utf8B x) = none := fun p hp hf => by
      unfold aton; rw [hbs]; exact part_bad (p := p.toList) (t := 0) hp hf
    k_steps
    unfold Stop
    rename News _ _ _ _ => N2
    rename Fr _ _ _ _ => F2
    refine for_each (P := okV) F2 N2 rfl rfl rfl ?hi ?turn ?done ?hs ?hE
    case hs => intro _; rfl
    case hE => passes_own
    case hi => exact ld F2 rfl ⟨rfl, rfl⟩
    case turn =>
      intro v hv m₁ news₁ s₁ hs₁ F₁ N₁
      have hv' : ∃ p t, v = .bytes (List.toArray p) t ∧ p.toArray ∈ [p1.toArray, p2.toArray, p3.toArray, p4.toArray] := by
        simp only [List.mem_cons, List.not_mem_nil, or_false] at hv ⊢
        rcases hv with rfl | rfl | rfl | rfl
        · exact ⟨_, _, rfl, .inl rfl⟩
        · exact ⟨_, _, rfl, .inr (.inl rfl)⟩
        · exact ⟨_, _, rfl, .inr (.inr (.inl rfl))⟩
        · exact ⟨_, _, rfl, .inr (.inr (.inr rfl))⟩
      obtain ⟨p, tp, rfl, hp⟩ := hv'
      have hlen := hq _ hp
      have hbd := hbad _ hp
      clear hv hq hbad F2 N2 hbs
      obtain ⟨hh1, tk1, rfl⟩ := hs₁
      k_steps
      all_goals first
        | exact ok_good1 (by assumption) (by assumption)
        | exact ok_good2 (by assumption) (by assumption)
        | (refine leave_C B1 (by assumption) F₁ .nil (fun h' t R U => ?_)
           exact hb (hbd (by first | exact ok_bad1 (by assumption) | exact ok_bad2 (by assumption) (by assumption))) _ _ _ _ R U)
    case done =>
      clear F2 N2
      intro hall h' tk u F2 N2
      have hd1 : partOk p1.toArray = true := hall _ (.head _)
      have hd2 : partOk p2.toArray = true := hall _ (.tail _ (.head _))
      have hd3 : partOk p3.toArray = true := hall _ (.tail _ (.tail _ (.head _)))
      have hd4 : partOk p4.toArray = true := hall _ (.tail _ (.tail _ (.tail _ (.head _))))
      clear hall
      have hs1 : p1.toArray.size ≤ 600 := hq _ (.head _)
      have hs2 : p2.toArray.size ≤ 600 := hq _ (.tail _ (.head _))
      have hs3 : p3.toArray.size ≤ 600 := hq _ (.tail _ (.tail _ (.head _)))
      have hs4 : p4.toArray.size ≤ 600 := hq _ (.tail _ (.tail _ (.tail _ (.head _))))
      k_steps
      unfold Stop
      clear hv hq hbad
      refine call_pack rfl ?_ ?_
      · intro o1 o2 o3 o4 x' tx kx hx
        try dsimp only
        k_steps
        rename Fr _ _ _ _ => F9
        have hl : aton (utf8B x) = some [(valB p1).toUInt8, (valB p2).toUInt8, (valB p3).toUInt8, (valB p4).toUInt8] := by
          unfold aton
          rw [hbs, aton_four hd1 hd2 hd3 hd4 ⟨o1, o2, o3, o4⟩]
        have ex : x' = [(valB p1).toUInt8, (valB p2).toUInt8, (valB p3).toUInt8, (valB p4).toUInt8].toArray := by
          simp only [Int.toNat_natCast] at hx
          rw [← hx]
        rw [ex]
        exact hg _ hl _ _ _ F9.keep
      · intro hnot hE' tkE eE hxE
        try dsimp only
        have hl : aton (utf8B x) = none := by
          unfold aton
          rw [hbs, aton_four0 hd1 hd2 hd3 hd4 hnot]
        rename Fr _ _ _ _ => F9
        refine caught_ctx B1 F9 .nil hxE PySem.F.isExc_Exception PySem.F.notTuple_Exception sub_struct ?hname ?k
        case hname =>
          intro h' g' Q' F' st hq
          exact name_B F' (XB.keeps st) (topRead_of (TB.keeps st)) (by k_is) PyProof.Rows.Boot.«Exception» (by decide) hq
        case k =>
          intro h' g' od vs T' F' N' K' hod hdd h2
          walk1
          walk1
          refine' raise_K1 F' (XB.keeps K'.stays) (topRead_of (TB.keeps K'.stays)) ?e ?q rfl hod hdd h2 ?_ ?hk ?hx ?hd
          case e => k_is
          case q => k_exc
          case hk => rfl
          case hx => rfl
          case hd => decide
          intro hX eX mX
          refine leave_C K' mX F' .nil (fun h'' t R U => ?_)
          exact hb hl _ _ _ _ (raised_turn R T') (up_turn U T')
  · clear F2 N2
    have hsz : (vs.toArray.size : Int) < 2 ^ 63 := by
      have h1 := (split_small hz).2
      have h2 := hv.length
      rw [List.size_toArray, h2]
      unfold sizeLine at h1
      omega
    have hl : aton (utf8B x) = none := by
      unfold aton atonL
      split
      · rename_i e; rw [e] at hn2; exact absurd rfl hn2
      · rfl
    k_steps
    · rename Fr _ _ _ _ => F9
      refine leave_C B1 (by assumption) F9 .nil (fun h'' t R U => ?_)
      exact hb hl _ _ _ _ R U
    · exact absurd (by assumption) hn1
end Mine
end PartS2

section PartS3
open PySem PySem.W PyProof.Rows PySem.Calls PySem.Builtin
namespace Mine
section
local macro_rules | `(tactic| walk_at "no such tree") => `(tactic| skip)
theorem fresh_S3 : True := by
  w_top off
  first | walk1 | trivial
end
set_option maxRecDepth 100000
set_option maxHeartbeats 8000000
local macro_rules | `(tactic| walk_at "getMethod bytes") => `(tactic| (k_here; first | with_reducible refine meth_split ?_ | with_reducible refine meth_isdigit ?_ | with_reducible refine meth_starts ?_))
local macro_rules | `(tactic| walk_at "getMethod str") => `(tactic| (k_here; with_reducible refine meth_encode ?_))
local macro_rules | `(tactic| walk_at "exec For Name Name cons nil") => `(tactic| (k_here; refine stopped ?_))
local macro_rules | `(tactic| walk_at "exec Raise some none") => `(tactic| (k_here; (with_reducible show wpAny _ _ (exec (Stmt.Raise (some (Expr.Name _ _)) none _) _) _ _ _); k_dflt (refine' raise_K ?F ?X ?T ?e ?q ?hh ?_ ?hk ?hx ?hd; (case F => k_asm); (case X => k_asm); (case T => k_asm); (case e => k_is); (case q => k_exc); (case hh => first | rfl | assumption); (case hk => rfl); (case hx => rfl); (case hd => decide); k_whole); intro hX' eX' mX'))
local macro_rules | `(tactic| walk_at "call builtin:bytes.isdigit") => `(tactic| (k_here; with_reducible refine call_isdigit ?_))
local macro_rules | `(tactic| walk_at "callWith") => `(tactic| (k_here; (with_reducible show wpAny _ _ (callWith _ (Value.builtin _) _ (backTo _ (starEach (_ :: _ :: _) _)) []) _ _ _); ks_star; k_dflt (refine' callWith_B ?_; k_whole)))
local macro_rules | `(tactic| walk_at "call builtin:_struct.pack") => `(tactic| (k_here; refine stopped ?_))
local macro_rules | `(tactic| walk_at "call type:int") => `(tactic| (k_here; (with_reducible show wpAny _ _ (call (Value.type "int") [Value.bytes _ _]) _ _ _); (refine int_part (by assumption) (by assumption) ?_)))
local macro_rules | `(tactic| walk_at "call ref") => `(tactic| (k_here; refine stopped ?_))

theorem taken_str {w : World} {dp un : Nat} {gd : Option (List Code)} {base h₀ : Heap} {outer : List Env} {L : Addr} {m : Str → Option Value} {s : Shared} {p : Program} {loose : List Str} {mean : ExcName → Option Value} {mg mb : Str → Option Value} {cn : Str} {cs : Scope} {a : Addr} {ccd : Value} {Q E : Value → Shared → Prop} {x : PySem.Str} {tb : Tok}
    (C : Ctx0 w dp un gd base h₀ outer L m s.heap p loose mean mg mb) (hd5 : dp < 800) (hk : cs.kind = .function) (hcx : Clean x) (hz : (utf8B x).size ≤ 600)
    (hg : ∀ l, aton (utf8B x) = some l → ∀ t h' tk, s.heap.StaysIn h' → Q (.bytes l.toArray t) { s with heap := h', toks := tk })
    (hb : aton (utf8B x) = none → ∀ h' g' tk, KtsTurn ((envOf cn cs L a ccd :: outer).filterMap (·.frame)) s.heap g' → g'.StaysIn h' → Q .none { s with heap := h', toks := tk }) :
    wpAny (model PySem.Challenge.rw_ab5008_01.row.prog w) ((arnd dp un gd outer).deeper (envOf cn cs L a ccd)) (call (.ref 351) [.str x tb]) Q E s := by
  obtain ⟨B, F, X, T, XB, TB, D, hdp⟩ := C
  revert X XB; k_fill; intro X XB
  refine wpAny_call ?_
  refine' code_full (binds := [(Str.ofString "text", .str x tb)]) B F X T D ?k6 ?k7 ?k8 ?k9 ?kB ?_ hk ?c2 ?c3 ?c4 ?c5
  case k6 => k_is
  case k7 => k_is
  case k8 => show dp + 1 < 1000; omega
  case k9 => exact BindsTo.of_eq rfl
  case kB => exact locs rfl
  case c2 => rfl
  case c3 => rfl
  case c4 => rfl
  case c5 => decide
  intro L1 h1 F1 N1 B1 X1 T1 D1

  k_steps
  unfold Stop
  rename Fr _ _ _ _ => F2
  refine aton_str (dp := dp + 1) (un := un + 3) (gd := gd) ⟨B1, F2, X1, T1, XB, TB, D1, by omega⟩ rfl hcx hz ?_ ?_
  · intro l hl t h' tk st
    try dsimp only
    k_steps
    exact hg l hl _ _ _ fun b o e => st _ _ (F2.keep _ _ e)
  · intro hl e t h' tk R U
    try dsimp only
    k_steps
    rename KtsTurn _ _ _ => T9
    rename Fr _ _ _ _ => F9
    exact hb hl _ _ _ T9 F9.keep
end Mine
end PartS3

section PartS4
open PySem PySem.W PyProof.Rows PySem.Calls PySem.Builtin
namespace Mine
section
local macro_rules | `(tactic| walk_at "no such tree") => `(tactic| skip)
theorem fresh_S4 : True := by
  w_top off
  first | walk1 | trivial
end
set_option maxRecDepth 100000
set_option maxHeartbeats 8000000
local macro_rules | `(tactic| walk_at "getMethod bytes") => `(tactic| (k_here; first | with_reducible refine meth_split ?_ | with_reducible refine meth_isdigit ?_ | with_reducible refine meth_starts ?_))
local macro_rules | `(tactic| walk_at "getMethod str") => `(tactic| (k_here; with_reducible refine meth_encode ?_))
local macro_rules | `(tactic| walk_at "exec For Name Name cons nil") => `(tactic| (k_here; refine stopped ?_))
local macro_rules | `(tactic| walk_at "exec Raise some none") => `(tactic| (k_here; (with_reducible show wpAny _ _ (exec (Stmt.Raise (some (Expr.Name _ _)) none _) _) _ _ _); k_dflt (refine' raise_K ?F ?X ?T ?e ?q ?hh ?_ ?hk ?hx ?hd; (case F => k_asm); (case X => k_asm); (case T => k_asm); (case e => k_is); (case q => k_exc); (case hh => first | rfl | assumption); (case hk => rfl); (case hx => rfl); (case hd => decide); k_whole); intro hX' eX' mX'))
local macro_rules | `(tactic| walk_at "call builtin:bytes.isdigit") => `(tactic| (k_here; with_reducible refine call_isdigit ?_))
local macro_rules | `(tactic| walk_at "callWith") => `(tactic| (k_here; (with_reducible show wpAny _ _ (callWith _ (Value.builtin _) _ (backTo _ (starEach (_ :: _ :: _) _)) []) _ _ _); ks_star; k_dflt (refine' callWith_B ?_; k_whole)))
local macro_rules | `(tactic| walk_at "call builtin:_struct.pack") => `(tactic| (k_here; refine stopped ?_))
local macro_rules | `(tactic| walk_at "call type:int") => `(tactic| (k_here; (with_reducible show wpAny _ _ (call (Value.type "int") [Value.bytes _ _]) _ _ _); (refine int_part (by assumption) (by assumption) ?_)))
local macro_rules | `(tactic| walk_at "call ref") => `(tactic| (k_here; refine stopped ?_))



/-- An octet in decimal. -/
def decS (c : UInt8) : PySem.Str := Str.ofString (toString ((c.toNat : Nat) : Int))
theorem decS_len (c : UInt8) : (decS c).length ≤ 10 := KT.len_num (by omega) (by have := c.toNat_lt; omega)
section
variable {prog : Program} {w : World} {A : Around} {E : Value → Shared → Prop} {s : Shared} {t ui : Tok} {Q : Value → Shared → Prop} {c : UInt8}
theorem field_oct (h : ∀ t' k, Q (.str (decS c) t') { s with toks := k }) : wpAny (model prog w) A (formatField (.int ((c.toNat : Nat) : Int) t) Str.empty) Q E s :=
  formatField_int_small (by
    have h1 := c.toNat_lt
    have h2 : ((c.toNat : Nat) : Int).natAbs < 2 ^ 8 := by omega
    by_cases h0 : ((c.toNat : Nat) : Int).natAbs = 0
    · rw [h0]; decide
    · have := (Nat.log2_lt h0).mpr h2
      omega) (h _ _)
theorem item_B {x : List UInt8} {i : Int} {value slice : Expr} (e : x[i.toNat]? = some c) (h0 : 0 ≤ i) (h1 : i < 1000) (hz : x.length ≤ 1000) (h : ∀ t' k, Q (.int ((c.toNat : Nat) : Int) t') { s with toks := k })
    (hs : subscripted slice false (.bytes x.toArray t) (.int i ui) = operate [.bytes x.toArray t, .int i ui] (getItem (.bytes x.toArray t) (.int i ui)) := by with_unfolding_all rfl) (ht : ∀ r, letTemporaryGo value (.bytes x.toArray t) r = pure () := by intro _; with_unfolding_all rfl) :
    wpAny (model prog w) A (subscriptTail value slice (.bytes x.toArray t) (.int i ui)) Q E s := by
  have hl : i < (x.length : Int) := by
    rcases Nat.lt_or_ge i.toNat x.length with q | q
    · omega
    · rw [List.getElem?_eq_none q] at e; cases e
  refine KBy.item_N (by omega) h0 hl ?_ hs ht
  have e2 : x.getD i.toNat 0 = c := by rw [List.getD_eq_getElem?_getD, e]; rfl
  rw [e2]; exact h _ _
end
local macro_rules | `(tactic| walk_at "formatField int") => `(tactic| (k_here; (with_reducible show wpAny _ _ (formatField (Value.int (((UInt8.toNat _ : Nat) : Int)) _) _) _ _ _); (refine field_oct ?_); intro _ _))
local macro_rules | `(tactic| walk_at "subscriptTail") => `(tactic| (k_here; (with_reducible show wpAny _ _ (subscriptTail _ _ (Value.bytes (List.toArray _) _) (Value.int _ _)) _ _ _); k_dflt (refine' item_B ?e ?a ?b ?z ?_ ?s ?tt; (case e => exact rfl); (case a => decide); (case b => decide); (case z => exact Nat.le_of_ble_eq_true rfl); (case s => with_unfolding_all rfl); (case tt => intro _; with_unfolding_all rfl); k_whole); intro _ _))
theorem dot_len : (Str.ofString ".").length = 1 := by decide +kernel
theorem app_le {a b : PySem.Str} {A B : Nat} (ha : a.length ≤ A) (hb : b.length ≤ B) : (a ++ b).length ≤ A + B := KT.len_app ha hb
theorem le_line {a : PySem.Str} {A : Nat} (ha : a.length ≤ A) (hA : A ≤ 16777216) : a.length ≤ sizeLine := Nat.le_trans ha (by rw [sizeLine_eq]; exact hA)
theorem lenE : (Str.empty).length ≤ 0 := Nat.le_refl _
theorem lenD : (Str.ofString ".").length ≤ 1 := Nat.le_of_eq dot_len
local macro_rules | `(tactic| walk_at "le") => `(tactic| (k_here; (with_reducible show PySem.Str.length _ ≤ _); (refine le_line ?hA ?hB; (case hA => (repeat' (first | exact decS_len _ | exact lenD | exact lenE | refine app_le ?_ ?_))); (case hB => decide))))
local macro_rules | `(tactic| walk_at "joinParts") => `(tactic| (k_here; (first | (with_reducible show wpAny _ _ (joinParts _ []) _ _ _) | (with_reducible show wpAny _ _ (joinParts _ (evalEach [] _)) _ _ _)); k_dflt (refine joinParts_nil ?_ (by (refine le_line ?hA ?hB; (case hA => (repeat' (first | exact decS_len _ | exact lenD | exact lenE | refine app_le ?_ ?_))); (case hB => decide))))))
/-- Four octets written as inet_ntoa writes them. -/
def dec4 (b0 b1 b2 b3 : UInt8) : PySem.Str := Str.empty ++ decS b0 ++ Str.ofString "." ++ decS b1 ++ Str.ofString "." ++ decS b2 ++ Str.ofString "." ++ decS b3
theorem ntoa_good {w : World} {dp un : Nat} {gd : Option (List Code)} {base h₀ : Heap} {outer : List Env} {L : Addr} {m : Str → Option Value} {s : Shared} {p : Program} {loose : List Str} {mean : ExcName → Option Value} {mg mb : Str → Option Value} {cn : Str} {cs : Scope} {a : Addr} {ccd : Value} {Q E : Value → Shared → Prop} {b0 b1 b2 b3 : UInt8} {tb : Tok}
    (C : Ctx0 w dp un gd base h₀ outer L m s.heap p loose mean mg mb) (hk : cs.kind = .function)
    (hg : ∀ t h' tk, s.heap.StaysIn h' → Q (.str (dec4 b0 b1 b2 b3) t) { s with heap := h', toks := tk }) :
    wpAny (model PySem.Challenge.rw_ab5008_01.row.prog w) ((arnd dp un gd outer).deeper (envOf cn cs L a ccd)) (call (.ref 93) [.bytes [b0, b1, b2, b3].toArray tb]) Q E s := by
  obtain ⟨B, F, X, T, XB, TB, D, hdp⟩ := C
  revert X XB; k_fill; intro X XB
  refine wpAny_call ?_
  refine' code_full (binds := [(Str.ofString "address", .bytes [b0, b1, b2, b3].toArray tb)]) B F X T D ?k6 ?k7 ?k8 ?k9 ?kB ?_ hk ?c2 ?c3 ?c4 ?c5
  case k6 => k_is
  case k7 => k_is
  case k8 => show dp + 1 < 1000; omega
  case k9 => exact BindsTo.of_eq rfl
  case kB => exact locs rfl
  case c2 => rfl
  case c3 => rfl
  case c4 => rfl
  case c5 => decide
  intro L1 h1 F1 N1 B1 X1 T1 D1

  have e0 := decS_len b0
  have e1 := decS_len b1
  have e2 := decS_len b2
  have e3 := decS_len b3
  k_steps
  · exact absurd rfl (by assumption)
  · rename Fr _ _ _ _ => F9
    exact hg _ _ _ F9.keep

theorem ntoa_bad {w : World} {dp un : Nat} {gd : Option (List Code)} {base h₀ : Heap} {outer : List Env} {L : Addr} {m : Str → Option Value} {s : Shared} {p : Program} {loose : List Str} {mean : ExcName → Option Value} {mg mb : Str → Option Value} {cn : Str} {cs : Scope} {a : Addr} {ccd : Value} {Q E : Value → Shared → Prop} {b : Array UInt8} {tb : Tok}
    (C : Ctx0 w dp un gd base h₀ outer L m s.heap p loose mean mg mb) (hk : cs.kind = .function) (hz : b.size ≤ 600) (hn : ((b.size : Nat) : Int) ≠ 4)
    (hb : ∀ e t h' tk, RaisedS base s.heap (envOf cn cs L a ccd :: outer) e (.ref 84) t [] [] h' → s.heap.UpToSlots h' → E (.ref e) { s with heap := h', toks := tk }) :
    wpAny (model PySem.Challenge.rw_ab5008_01.row.prog w) ((arnd dp un gd outer).deeper (envOf cn cs L a ccd)) (call (.ref 93) [.bytes b tb]) Q E s := by
  obtain ⟨B, F, X, T, XB, TB, D, hdp⟩ := C
  revert X XB; k_fill; intro X XB
  refine wpAny_call ?_
  refine' code_full (binds := [(Str.ofString "address", .bytes b tb)]) B F X T D ?k6 ?k7 ?k8 ?k9 ?kB ?_ hk ?c2 ?c3 ?c4 ?c5
  case k6 => k_is
  case k7 => k_is
  case k8 => show dp + 1 < 1000; omega
  case k9 => exact BindsTo.of_eq rfl
  case kB => exact locs rfl
  case c2 => rfl
  case c3 => rfl
  case c4 => rfl
  case c5 => decide
  intro L1 h1 F1 N1 B1 X1 T1 D1

  k_steps
  · rename Fr _ _ _ _ => F9
    refine leave_C B1 (by assumption) F9 .nil (fun h'' t R U => ?_)
    exact hb _ _ _ _ R U
  all_goals exact absurd (by assumption) hn
end Mine
end PartS4

section PartS5
open PySem PySem.W PyProof.Rows PySem.Calls PySem.Builtin
namespace Mine
section
local macro_rules | `(tactic| walk_at "no such tree") => `(tactic| skip)
theorem fresh_S5 : True := by
  w_top off
  first | walk1 | trivial
end
set_option maxRecDepth 100000
set_option maxHeartbeats 8000000
local macro_rules | `(tactic| walk_at "getMethod bytes") => `(tactic| (k_here; first | with_reducible refine meth_split ?_ | with_reducible refine meth_isdigit ?_ | with_reducible refine meth_starts ?_))
local macro_rules | `(tactic| walk_at "getMethod str") => `(tactic| (k_here; with_reducible refine meth_encode ?_))
local macro_rules | `(tactic| walk_at "exec For Name Name cons nil") => `(tactic| (k_here; refine stopped ?_))
local macro_rules | `(tactic| walk_at "exec Raise some none") => `(tactic| (k_here; (with_reducible show wpAny _ _ (exec (Stmt.Raise (some (Expr.Name _ _)) none _) _) _ _ _); k_dflt (refine' raise_K ?F ?X ?T ?e ?q ?hh ?_ ?hk ?hx ?hd; (case F => k_asm); (case X => k_asm); (case T => k_asm); (case e => k_is); (case q => k_exc); (case hh => first | rfl | assumption); (case hk => rfl); (case hx => rfl); (case hd => decide); k_whole); intro hX' eX' mX'))
local macro_rules | `(tactic| walk_at "call builtin:bytes.isdigit") => `(tactic| (k_here; with_reducible refine call_isdigit ?_))
local macro_rules | `(tactic| walk_at "callWith") => `(tactic| (k_here; (with_reducible show wpAny _ _ (callWith _ (Value.builtin _) _ (backTo _ (starEach (_ :: _ :: _) _)) []) _ _ _); ks_star; k_dflt (refine' callWith_B ?_; k_whole)))
local macro_rules | `(tactic| walk_at "call builtin:_struct.pack") => `(tactic| (k_here; refine stopped ?_))
local macro_rules | `(tactic| walk_at "call type:int") => `(tactic| (k_here; (with_reducible show wpAny _ _ (call (Value.type "int") [Value.bytes _ _]) _ _ _); (refine int_part (by assumption) (by assumption) ?_)))
local macro_rules | `(tactic| walk_at "call ref") => `(tactic| (k_here; refine stopped ?_))


theorem aton_len {b : Array UInt8} {l : List UInt8} (h : aton b = some l) : ∃ b0 b1 b2 b3, l = [b0, b1, b2, b3] := by
  unfold aton atonL at h
  split at h
  · split at h
    · exact ⟨_, _, _, _, (Option.some.inj h).symm⟩
    · cases h
  · cases h
def ntoaS : List UInt8 → PySem.Str
  | [a, b, c, d] => dec4 a b c d
  | _ => Str.empty

theorem canon_str {w : World} {dp un : Nat} {gd : Option (List Code)} {base h₀ : Heap} {outer : List Env} {L : Addr} {m : Str → Option Value} {s : Shared} {p : Program} {loose : List Str} {mean : ExcName → Option Value} {mg mb : Str → Option Value} {cn : Str} {cs : Scope} {a : Addr} {ccd : Value} {Q E : Value → Shared → Prop} {x : PySem.Str} {tb : Tok}
    (C : Ctx0 w dp un gd base h₀ outer L m s.heap p loose mean mg mb) (hd5 : dp < 700) (hk : cs.kind = .function) (hcx : Clean x) (hz : (utf8B x).size ≤ 600)
    (hg : ∀ l, aton (utf8B x) = some l → ∀ t h' tk, s.heap.StaysIn h' → Q (.str (ntoaS l) t) { s with heap := h', toks := tk })
    (hb : aton (utf8B x) = none → ∀ e t h' tk, RaisedS base s.heap (envOf cn cs L a ccd :: outer) e (.ref 84) t [] [] h' → s.heap.UpToSlots h' → E (.ref e) { s with heap := h', toks := tk }) :
    wpAny (model PySem.Challenge.rw_ab5008_01.row.prog w) ((arnd dp un gd outer).deeper (envOf cn cs L a ccd)) (call (.ref 105) [.str x tb]) Q E s := by
  obtain ⟨B, F, X, T, XB, TB, D, hdp⟩ := C
  revert X XB; k_fill; intro X XB
  refine wpAny_call ?_
  refine' code_full (binds := [(Str.ofString "text", .str x tb)]) B F X T D ?k6 ?k7 ?k8 ?k9 ?kB ?_ hk ?c2 ?c3 ?c4 ?c5
  case k6 => k_is
  case k7 => k_is
  case k8 => show dp + 1 < 1000; omega
  case k9 => exact BindsTo.of_eq rfl
  case kB => exact locs rfl
  case c2 => rfl
  case c3 => rfl
  case c4 => rfl
  case c5 => decide
  intro L1 h1 F1 N1 B1 X1 T1 D1

  k_steps
  unfold Stop
  rename Fr _ _ _ _ => F2
  refine aton_str (dp := dp + 1) (un := un + 3) (gd := gd) ⟨B1, F2, X1, T1, XB, TB, D1, by omega⟩ rfl hcx hz ?_ ?_
  · intro l hl t h' tk st
    obtain ⟨b0, b1, b2, b3, rfl⟩ := aton_len hl
    try dsimp only
    have F3 := F2.keptAll st
    k_steps
    unfold Stop
    rename Fr _ _ _ _ => F4
    refine ntoa_good (dp := dp + 1) (un := un + 3) (gd := gd) ⟨B1, F4, X1, T1, XB, TB, D1, by omega⟩ rfl ?_
    intro t' h'' tk' st'
    try dsimp only
    k_steps
    exact hg _ hl _ _ _ fun b o e => st' _ _ (F4.keep _ _ e)
  · intro hl e t h' tk R U
    try dsimp only
    k_steps
    rename RaisedS _ _ _ _ _ _ _ _ _ => R9
    rename Heap.UpToSlots _ _ => U9
    exact hb hl _ _ _ _ R9 U9

theorem canon_bytes {w : World} {dp un : Nat} {gd : Option (List Code)} {base h₀ : Heap} {outer : List Env} {L : Addr} {m : Str → Option Value} {s : Shared} {p : Program} {loose : List Str} {mean : ExcName → Option Value} {mg mb : Str → Option Value} {cn : Str} {cs : Scope} {a : Addr} {ccd : Value} {Q E : Value → Shared → Prop} {b : Array UInt8} {tb : Tok}
    (C : Ctx0 w dp un gd base h₀ outer L m s.heap p loose mean mg mb) (hd5 : dp < 700) (hk : cs.kind = .function) (hz : b.size ≤ 600)
    (hg : ∀ l, aton b = some l → ∀ t h' tk, s.heap.StaysIn h' → Q (.str (ntoaS l) t) { s with heap := h', toks := tk })
    (hb : aton b = none → ∀ e t h' tk, RaisedS base s.heap (envOf cn cs L a ccd :: outer) e (.ref 84) t [] [] h' → s.heap.UpToSlots h' → E (.ref e) { s with heap := h', toks := tk }) :
    wpAny (model PySem.Challenge.rw_ab5008_01.row.prog w) ((arnd dp un gd outer).deeper (envOf cn cs L a ccd)) (call (.ref 105) [.bytes b tb]) Q E s := by
  obtain ⟨B, F, X, T, XB, TB, D, hdp⟩ := C
  revert X XB; k_fill; intro X XB
  refine wpAny_call ?_
  refine' code_full (binds := [(Str.ofString "text", .bytes b tb)]) B F X T D ?k6 ?k7 ?k8 ?k9 ?kB ?_ hk ?c2 ?c3 ?c4 ?c5
  case k6 => k_is
  case k7 => k_is
  case k8 => show dp + 1 < 1000; omega
  case k9 => exact BindsTo.of_eq rfl
  case kB => exact locs rfl
  case c2 => rfl
  case c3 => rfl
  case c4 => rfl
  case c5 => decide
  intro L1 h1 F1 N1 B1 X1 T1 D1

  k_steps
  unfold Stop
  rename Fr _ _ _ _ => F2
  refine aton_bytes (dp := dp + 1) (un := un + 3) (gd := gd) ⟨B1, F2, X1, T1, XB, TB, D1, by omega⟩ rfl hz ?_ ?_
  · intro l hl t h' tk st
    obtain ⟨b0, b1, b2, b3, rfl⟩ := aton_len hl
    try dsimp only
    have F3 := F2.keptAll st
    k_steps
    unfold Stop
    rename Fr _ _ _ _ => F4
    refine ntoa_good (dp := dp + 1) (un := un + 3) (gd := gd) ⟨B1, F4, X1, T1, XB, TB, D1, by omega⟩ rfl ?_
    intro t' h'' tk' st'
    try dsimp only
    k_steps
    exact hg _ hl _ _ _ fun b o e => st' _ _ (F4.keep _ _ e)
  · intro hl e t h' tk R U
    try dsimp only
    k_steps
    rename RaisedS _ _ _ _ _ _ _ _ _ => R9
    rename Heap.UpToSlots _ _ => U9
    exact hb hl _ _ _ _ R9 U9
end Mine
end PartS5

section PartS6
open PySem PySem.W PyProof.Rows PySem.Calls PySem.Builtin
namespace Mine
section
local macro_rules | `(tactic| walk_at "no such tree") => `(tactic| skip)
theorem fresh_S6 : True := by
  w_top off
  first | walk1 | trivial
end
set_option maxRecDepth 100000
set_option maxHeartbeats 8000000
local macro_rules | `(tactic| walk_at "getMethod bytes") => `(tactic| (k_here; first | with_reducible refine meth_split ?_ | with_reducible refine meth_isdigit ?_ | with_reducible refine meth_starts ?_))
local macro_rules | `(tactic| walk_at "getMethod str") => `(tactic| (k_here; with_reducible refine meth_encode ?_))
local macro_rules | `(tactic| walk_at "exec For Name Name cons nil") => `(tactic| (k_here; refine stopped ?_))
local macro_rules | `(tactic| walk_at "exec Raise some none") => `(tactic| (k_here; (with_reducible show wpAny _ _ (exec (Stmt.Raise (some (Expr.Name _ _)) none _) _) _ _ _); k_dflt (refine' raise_K ?F ?X ?T ?e ?q ?hh ?_ ?hk ?hx ?hd; (case F => k_asm); (case X => k_asm); (case T => k_asm); (case e => k_is); (case q => k_exc); (case hh => first | rfl | assumption); (case hk => rfl); (case hx => rfl); (case hd => decide); k_whole); intro hX' eX' mX'))
local macro_rules | `(tactic| walk_at "call builtin:bytes.isdigit") => `(tactic| (k_here; with_reducible refine call_isdigit ?_))
local macro_rules | `(tactic| walk_at "callWith") => `(tactic| (k_here; (with_reducible show wpAny _ _ (callWith _ (Value.builtin _) _ (backTo _ (starEach (_ :: _ :: _) _)) []) _ _ _); ks_star; k_dflt (refine' callWith_B ?_; k_whole)))
local macro_rules | `(tactic| walk_at "call builtin:_struct.pack") => `(tactic| (k_here; refine stopped ?_))
local macro_rules | `(tactic| walk_at "call type:int") => `(tactic| (k_here; (with_reducible show wpAny _ _ (call (Value.type "int") [Value.bytes _ _]) _ _ _); (refine int_part (by assumption) (by assumption) ?_)))
local macro_rules | `(tactic| walk_at "call ref") => `(tactic| (k_here; refine stopped ?_))


theorem lcanon_str {w : World} {dp un : Nat} {gd : Option (List Code)} {base h₀ : Heap} {outer : List Env} {L : Addr} {m : Str → Option Value} {s : Shared} {p : Program} {loose : List Str} {mean : ExcName → Option Value} {mg mb : Str → Option Value} {cn : Str} {cs : Scope} {a : Addr} {ccd : Value} {Q E : Value → Shared → Prop} {x : PySem.Str} {tb : Tok}
    (C : Ctx0 w dp un gd base h₀ outer L m s.heap p loose mean mg mb) (hd5 : dp < 600) (hk : cs.kind = .function) (hcx : Clean x) (hz : (utf8B x).size ≤ 600)
    (hg : ∀ l, aton (utf8B x) = some l → ∀ t h' tk, s.heap.StaysIn h' → Q (.str (ntoaS l) t) { s with heap := h', toks := tk })
    (hb : aton (utf8B x) = none → ∀ h' g' tk, KtsTurn ((envOf cn cs L a ccd :: outer).filterMap (·.frame)) s.heap g' → g'.StaysIn h' → Q .none { s with heap := h', toks := tk }) :
    wpAny (model PySem.Challenge.rw_ab5008_01.row.prog w) ((arnd dp un gd outer).deeper (envOf cn cs L a ccd)) (call (.ref 358) [.str x tb]) Q E s := by
  obtain ⟨B, F, X, T, XB, TB, D, hdp⟩ := C
  revert X XB; k_fill; intro X XB
  refine wpAny_call ?_
  refine' code_full (binds := [(Str.ofString "text", .str x tb)]) B F X T D ?k6 ?k7 ?k8 ?k9 ?kB ?_ hk ?c2 ?c3 ?c4 ?c5
  case k6 => k_is
  case k7 => k_is
  case k8 => show dp + 1 < 1000; omega
  case k9 => exact BindsTo.of_eq rfl
  case kB => exact locs rfl
  case c2 => rfl
  case c3 => rfl
  case c4 => rfl
  case c5 => decide
  intro L1 h1 F1 N1 B1 X1 T1 D1

  k_steps
  unfold Stop
  rename Fr _ _ _ _ => F2
  refine canon_str (dp := dp + 1) (un := un + 3) (gd := gd) ⟨B1, F2, X1, T1, XB, TB, D1, by omega⟩ (by omega) rfl hcx hz ?_ ?_
  · intro l hl t h' tk st
    try dsimp only
    k_steps
    exact hg l hl _ _ _ fun b o e => st _ _ (F2.keep _ _ e)
  · intro hl e t h' tk R U
    try dsimp only
    k_steps
    rename KtsTurn _ _ _ => T9
    rename Fr _ _ _ _ => F9
    exact hb hl _ _ _ T9 F9.keep

theorem lcanon_bytes {w : World} {dp un : Nat} {gd : Option (List Code)} {base h₀ : Heap} {outer : List Env} {L : Addr} {m : Str → Option Value} {s : Shared} {p : Program} {loose : List Str} {mean : ExcName → Option Value} {mg mb : Str → Option Value} {cn : Str} {cs : Scope} {a : Addr} {ccd : Value} {Q E : Value → Shared → Prop} {b : Array UInt8} {tb : Tok}
    (C : Ctx0 w dp un gd base h₀ outer L m s.heap p loose mean mg mb) (hd5 : dp < 600) (hk : cs.kind = .function) (hz : b.size ≤ 600)
    (hg : ∀ l, aton b = some l → ∀ t h' tk, s.heap.StaysIn h' → Q (.str (ntoaS l) t) { s with heap := h', toks := tk })
    (hb : aton b = none → ∀ h' g' tk, KtsTurn ((envOf cn cs L a ccd :: outer).filterMap (·.frame)) s.heap g' → g'.StaysIn h' → Q .none { s with heap := h', toks := tk }) :
    wpAny (model PySem.Challenge.rw_ab5008_01.row.prog w) ((arnd dp un gd outer).deeper (envOf cn cs L a ccd)) (call (.ref 358) [.bytes b tb]) Q E s := by
  obtain ⟨B, F, X, T, XB, TB, D, hdp⟩ := C
  revert X XB; k_fill; intro X XB
  refine wpAny_call ?_
  refine' code_full (binds := [(Str.ofString "text", .bytes b tb)]) B F X T D ?k6 ?k7 ?k8 ?k9 ?kB ?_ hk ?c2 ?c3 ?c4 ?c5
  case k6 => k_is
  case k7 => k_is
  case k8 => show dp + 1 < 1000; omega
  case k9 => exact BindsTo.of_eq rfl
  case kB => exact locs rfl
  case c2 => rfl
  case c3 => rfl
  case c4 => rfl
  case c5 => decide
  intro L1 h1 F1 N1 B1 X1 T1 D1

  k_steps
  unfold Stop
  rename Fr _ _ _ _ => F2
  refine canon_bytes (dp := dp + 1) (un := un + 3) (gd := gd) ⟨B1, F2, X1, T1, XB, TB, D1, by omega⟩ (by omega) rfl hz ?_ ?_
  · intro l hl t h' tk st
    try dsimp only
    k_steps
    exact hg l hl _ _ _ fun b o e => st _ _ (F2.keep _ _ e)
  · intro hl e t h' tk R U
    try dsimp only
    k_steps
    rename KtsTurn _ _ _ => T9
    rename Fr _ _ _ _ => F9
    exact hb hl _ _ _ T9 F9.keep

theorem written_good {w : World} {dp un : Nat} {gd : Option (List Code)} {base h₀ : Heap} {outer : List Env} {L : Addr} {m : Str → Option Value} {s : Shared} {p : Program} {loose : List Str} {mean : ExcName → Option Value} {mg mb : Str → Option Value} {cn : Str} {cs : Scope} {a : Addr} {ccd : Value} {Q E : Value → Shared → Prop} {b0 b1 b2 b3 : UInt8} {tb : Tok}
    (C : Ctx0 w dp un gd base h₀ outer L m s.heap p loose mean mg mb) (hd5 : dp < 700) (hk : cs.kind = .function)
    (hg : ∀ t h' tk, s.heap.StaysIn h' → Q (.str (dec4 b0 b1 b2 b3) t) { s with heap := h', toks := tk }) :
    wpAny (model PySem.Challenge.rw_ab5008_01.row.prog w) ((arnd dp un gd outer).deeper (envOf cn cs L a ccd)) (call (.ref 365) [.bytes [b0, b1, b2, b3].toArray tb]) Q E s := by
  obtain ⟨B, F, X, T, XB, TB, D, hdp⟩ := C
  revert X XB; k_fill; intro X XB
  refine wpAny_call ?_
  refine' code_full (binds := [(Str.ofString "octets", .bytes [b0, b1, b2, b3].toArray tb)]) B F X T D ?k6 ?k7 ?k8 ?k9 ?kB ?_ hk ?c2 ?c3 ?c4 ?c5
  case k6 => k_is
  case k7 => k_is
  case k8 => show dp + 1 < 1000; omega
  case k9 => exact BindsTo.of_eq rfl
  case kB => exact locs rfl
  case c2 => rfl
  case c3 => rfl
  case c4 => rfl
  case c5 => decide
  intro L1 h1 F1 N1 B1 X1 T1 D1

  k_steps
  unfold Stop
  rename Fr _ _ _ _ => F2
  refine ntoa_good (dp := dp + 1) (un := un + 3) (gd := gd) ⟨B1, F2, X1, T1, XB, TB, D1, by omega⟩ rfl ?_
  intro t h' tk st
  try dsimp only
  k_steps
  exact hg _ _ _ fun b o e => st _ _ (F2.keep _ _ e)

theorem written_bad {w : World} {dp un : Nat} {gd : Option (List Code)} {base h₀ : Heap} {outer : List Env} {L : Addr} {m : Str → Option Value} {s : Shared} {p : Program} {loose : List Str} {mean : ExcName → Option Value} {mg mb : Str → Option Value} {cn : Str} {cs : Scope} {a : Addr} {ccd : Value} {Q E : Value → Shared → Prop} {b : Array UInt8} {tb : Tok}
    (C : Ctx0 w dp un gd base h₀ outer L m s.heap p loose mean mg mb) (hd5 : dp < 700) (hk : cs.kind = .function) (hz : b.size ≤ 600) (hn : ((b.size : Nat) : Int) ≠ 4)
    (hb : ∀ h' g' tk, KtsTurn ((envOf cn cs L a ccd :: outer).filterMap (·.frame)) s.heap g' → g'.StaysIn h' → Q .none { s with heap := h', toks := tk }) :
    wpAny (model PySem.Challenge.rw_ab5008_01.row.prog w) ((arnd dp un gd outer).deeper (envOf cn cs L a ccd)) (call (.ref 365) [.bytes b tb]) Q E s := by
  obtain ⟨B, F, X, T, XB, TB, D, hdp⟩ := C
  revert X XB; k_fill; intro X XB
  refine wpAny_call ?_
  refine' code_full (binds := [(Str.ofString "octets", .bytes b tb)]) B F X T D ?k6 ?k7 ?k8 ?k9 ?kB ?_ hk ?c2 ?c3 ?c4 ?c5
  case k6 => k_is
  case k7 => k_is
  case k8 => show dp + 1 < 1000; omega
  case k9 => exact BindsTo.of_eq rfl
  case kB => exact locs rfl
  case c2 => rfl
  case c3 => rfl
  case c4 => rfl
  case c5 => decide
  intro L1 h1 F1 N1 B1 X1 T1 D1

  k_steps
  unfold Stop
  rename Fr _ _ _ _ => F2
  refine ntoa_bad (dp := dp + 1) (un := un + 3) (gd := gd) ⟨B1, F2, X1, T1, XB, TB, D1, by omega⟩ rfl hz hn ?_
  intro e t h' tk R U
  try dsimp only
  k_steps
  rename KtsTurn _ _ _ => T9
  rename Fr _ _ _ _ => F9
  exact hb _ _ _ T9 F9.keep
end Mine
end PartS6

section PartS7
open PySem PySem.W PyProof.Rows PySem.Calls PySem.Builtin
namespace Mine
section
local macro_rules | `(tactic| walk_at "no such tree") => `(tactic| skip)
theorem fresh_S7 : True := by
  w_top off
  first | walk1 | trivial
end
set_option maxRecDepth 100000
set_option maxHeartbeats 8000000
local macro_rules | `(tactic| walk_at "getMethod bytes") => `(tactic| (k_here; first | with_reducible refine meth_split ?_ | with_reducible refine meth_isdigit ?_ | with_reducible refine meth_starts ?_))
local macro_rules | `(tactic| walk_at "getMethod str") => `(tactic| (k_here; with_reducible refine meth_encode ?_))
local macro_rules | `(tactic| walk_at "exec For Name Name cons nil") => `(tactic| (k_here; refine stopped ?_))
local macro_rules | `(tactic| walk_at "exec Raise some none") => `(tactic| (k_here; (with_reducible show wpAny _ _ (exec (Stmt.Raise (some (Expr.Name _ _)) none _) _) _ _ _); k_dflt (refine' raise_K ?F ?X ?T ?e ?q ?hh ?_ ?hk ?hx ?hd; (case F => k_asm); (case X => k_asm); (case T => k_asm); (case e => k_is); (case q => k_exc); (case hh => first | rfl | assumption); (case hk => rfl); (case hx => rfl); (case hd => decide); k_whole); intro hX' eX' mX'))
local macro_rules | `(tactic| walk_at "call builtin:bytes.isdigit") => `(tactic| (k_here; with_reducible refine call_isdigit ?_))
local macro_rules | `(tactic| walk_at "callWith") => `(tactic| (k_here; (with_reducible show wpAny _ _ (callWith _ (Value.builtin _) _ (backTo _ (starEach (_ :: _ :: _) _)) []) _ _ _); ks_star; k_dflt (refine' callWith_B ?_; k_whole)))
local macro_rules | `(tactic| walk_at "call builtin:_struct.pack") => `(tactic| (k_here; refine stopped ?_))
local macro_rules | `(tactic| walk_at "call type:int") => `(tactic| (k_here; (with_reducible show wpAny _ _ (call (Value.type "int") [Value.bytes _ _]) _ _ _); (refine int_part (by assumption) (by assumption) ?_)))
local macro_rules | `(tactic| walk_at "subscriptTail") => `(tactic| (k_here; (with_reducible show wpAny _ _ (subscriptTail _ _ (Value.bytes (List.toArray _) _) (Value.int _ _)) _ _ _); k_dflt (refine' item_B ?e ?a ?b ?z ?_ ?s ?tt; (case e => exact rfl); (case a => decide); (case b => decide); (case z => exact Nat.le_of_ble_eq_true rfl); (case s => with_unfolding_all rfl); (case tt => intro _; with_unfolding_all rfl); k_whole); intro _ _))
local macro_rules | `(tactic| walk_at "call ref") => `(tactic| (k_here; refine stopped ?_))


theorem isaddr {w : World} {dp un : Nat} {gd : Option (List Code)} {base h₀ : Heap} {outer : List Env} {L : Addr} {m : Str → Option Value} {s : Shared} {p : Program} {loose : List Str} {mean : ExcName → Option Value} {mg mb : Str → Option Value} {cn : Str} {cs : Scope} {a : Addr} {ccd : Value} {Q E : Value → Shared → Prop} {x : PySem.Str} {tb tf : Tok} {b0 b1 b2 b3 : UInt8}
    (C : Ctx0 w dp un gd base h₀ outer L m s.heap p loose mean mg mb) (hd5 : dp < 700) (hk : cs.kind = .function) (hcx : Clean x) (hz : (utf8B x).size ≤ 600) (ha : aton (utf8B x) = some [b0, b1, b2, b3])
    (hg : ∀ h' tk, s.heap.StaysIn h' → Q (.bool true) { s with heap := h', toks := tk }) :
    wpAny (model PySem.Challenge.rw_ab5008_01.row.prog w) ((arnd dp un gd outer).deeper (envOf cn cs L a ccd)) (call (.ref 336) [.str x tb]) Q E s := by
  obtain ⟨B, F, X, T, XB, TB, D, hdp⟩ := C
  revert X XB; k_fill; intro X XB
  refine wpAny_call ?_
  refine' code_full (binds := [(Str.ofString "text", .str x tb)]) B F X T D ?k6 ?k7 ?k8 ?k9 ?kB ?_ hk ?c2 ?c3 ?c4 ?c5
  case k6 => k_is
  case k7 => k_is
  case k8 => show dp + 1 < 1000; omega
  case k9 => exact BindsTo.of_eq rfl
  case kB => exact locs rfl
  case c2 => rfl
  case c3 => rfl
  case c4 => rfl
  case c5 => decide
  intro L1 h1 F1 N1 B1 X1 T1 D1

  k_steps
  unfold Stop
  rename Fr _ _ _ _ => F2
  refine aton_str (dp := dp + 1) (un := un + 3) (gd := gd) ⟨B1, F2, X1, T1, XB, TB, D1, by omega⟩ rfl hcx hz ?_ (fun q => by rw [ha] at q; cases q)
  intro l hl t h' tk st
  rw [ha] at hl
  cases hl
  try dsimp only
  have F3 := F2.keptAll st
  k_steps
  rename Fr _ _ _ _ => F9
  exact hg _ _ F9.keep

theorem af {w : World} {dp un : Nat} {gd : Option (List Code)} {base h₀ : Heap} {outer : List Env} {L : Addr} {m : Str → Option Value} {s : Shared} {p : Program} {loose : List Str} {mean : ExcName → Option Value} {mg mb : Str → Option Value} {cn : Str} {cs : Scope} {a : Addr} {ccd : Value} {Q E : Value → Shared → Prop} {x : PySem.Str} {tb tf : Tok} {b0 b1 b2 b3 : UInt8}
    (C : Ctx0 w dp un gd base h₀ outer L m s.heap p loose mean mg mb) (hd5 : dp < 700) (hk : cs.kind = .function) (hcx : Clean x) (hz : (utf8B x).size ≤ 600) (ha : aton (utf8B x) = some [b0, b1, b2, b3])
    (hg : ∀ t h' tk, s.heap.StaysIn h' → Q (.int 2 t) { s with heap := h', toks := tk }) :
    wpAny (model PySem.Challenge.rw_ab5008_01.row.prog w) ((arnd dp un gd outer).deeper (envOf cn cs L a ccd)) (call (.ref 322) [.str x tb]) Q E s := by
  obtain ⟨B, F, X, T, XB, TB, D, hdp⟩ := C
  revert X XB; k_fill; intro X XB
  refine wpAny_call ?_
  refine' code_full (binds := [(Str.ofString "text", .str x tb)]) B F X T D ?k6 ?k7 ?k8 ?k9 ?kB ?_ hk ?c2 ?c3 ?c4 ?c5
  case k6 => k_is
  case k7 => k_is
  case k8 => show dp + 1 < 1000; omega
  case k9 => exact BindsTo.of_eq rfl
  case kB => exact locs rfl
  case c2 => rfl
  case c3 => rfl
  case c4 => rfl
  case c5 => decide
  intro L1 h1 F1 N1 B1 X1 T1 D1

  k_steps
  unfold Stop
  rename Fr _ _ _ _ => F2
  refine aton_str (dp := dp + 1) (un := un + 3) (gd := gd) ⟨B1, F2, X1, T1, XB, TB, D1, by omega⟩ rfl hcx hz ?_ (fun q => by rw [ha] at q; cases q)
  intro l hl t h' tk st
  rw [ha] at hl
  cases hl
  try dsimp only
  have F3 := F2.keptAll st
  k_steps
  rename Fr _ _ _ _ => F9
  exact hg _ _ _ F9.keep

theorem ismulti {w : World} {dp un : Nat} {gd : Option (List Code)} {base h₀ : Heap} {outer : List Env} {L : Addr} {m : Str → Option Value} {s : Shared} {p : Program} {loose : List Str} {mean : ExcName → Option Value} {mg mb : Str → Option Value} {cn : Str} {cs : Scope} {a : Addr} {ccd : Value} {Q E : Value → Shared → Prop} {x : PySem.Str} {tb tf : Tok} {b0 b1 b2 b3 : UInt8}
    (C : Ctx0 w dp un gd base h₀ outer L m s.heap p loose mean mg mb) (hd5 : dp < 700) (hk : cs.kind = .function) (hcx : Clean x) (hz : (utf8B x).size ≤ 600) (ha : aton (utf8B x) = some [b0, b1, b2, b3])
    (hg : ∀ h' tk, s.heap.StaysIn h' → Q (.bool ((decide ((224 : Int) ≤ ((b0.toNat : Nat) : Int))) && (decide (((b0.toNat : Nat) : Int) ≤ (239 : Int))))) { s with heap := h', toks := tk }) :
    wpAny (model PySem.Challenge.rw_ab5008_01.row.prog w) ((arnd dp un gd outer).deeper (envOf cn cs L a ccd)) (call (.ref 329) [.str x tb]) Q E s := by
  obtain ⟨B, F, X, T, XB, TB, D, hdp⟩ := C
  revert X XB; k_fill; intro X XB
  refine wpAny_call ?_
  refine' code_full (binds := [(Str.ofString "text", .str x tb)]) B F X T D ?k6 ?k7 ?k8 ?k9 ?kB ?_ hk ?c2 ?c3 ?c4 ?c5
  case k6 => k_is
  case k7 => k_is
  case k8 => show dp + 1 < 1000; omega
  case k9 => exact BindsTo.of_eq rfl
  case kB => exact locs rfl
  case c2 => rfl
  case c3 => rfl
  case c4 => rfl
  case c5 => decide
  intro L1 h1 F1 N1 B1 X1 T1 D1

  k_steps
  unfold Stop
  rename Fr _ _ _ _ => F2
  refine aton_str (dp := dp + 1) (un := un + 3) (gd := gd) ⟨B1, F2, X1, T1, XB, TB, D1, by omega⟩ rfl hcx hz ?_ (fun q => by rw [ha] at q; cases q)
  intro l hl t h' tk st
  rw [ha] at hl
  cases hl
  try dsimp only
  have F3 := F2.keptAll st
  k_steps
  · rename Fr _ _ _ _ => F9
    rename (224 : Int) ≤ _ => hq
    have h := fun tk => hg _ tk F9.keep
    rw [decide_eq_true hq, Bool.true_and] at h
    exact h _
  · rename Fr _ _ _ _ => F9
    rename ¬ ((224 : Int) ≤ _) => hq
    have h := fun tk => hg _ tk F9.keep
    rw [show ((decide ((224 : Int) ≤ ((b0.toNat : Nat) : Int))) && (decide (((b0.toNat : Nat) : Int) ≤ (239 : Int)))) = decide ((224 : Int) ≤ ((b0.toNat : Nat) : Int)) from by rw [decide_eq_false hq]; rfl] at h
    exact h _

theorem pton {w : World} {dp un : Nat} {gd : Option (List Code)} {base h₀ : Heap} {outer : List Env} {L : Addr} {m : Str → Option Value} {s : Shared} {p : Program} {loose : List Str} {mean : ExcName → Option Value} {mg mb : Str → Option Value} {cn : Str} {cs : Scope} {a : Addr} {ccd : Value} {Q E : Value → Shared → Prop} {x : PySem.Str} {tb tf : Tok} {b0 b1 b2 b3 : UInt8}
    (C : Ctx0 w dp un gd base h₀ outer L m s.heap p loose mean mg mb) (hd5 : dp < 700) (hk : cs.kind = .function) (hcx : Clean x) (hz : (utf8B x).size ≤ 600) (ha : aton (utf8B x) = some [b0, b1, b2, b3])
    (hg : ∀ t h' tk, s.heap.StaysIn h' → Q (.bytes [b0, b1, b2, b3].toArray t) { s with heap := h', toks := tk }) :
    wpAny (model PySem.Challenge.rw_ab5008_01.row.prog w) ((arnd dp un gd outer).deeper (envOf cn cs L a ccd)) (call (.ref 308) [.int 2 tf, .str x tb]) Q E s := by
  obtain ⟨B, F, X, T, XB, TB, D, hdp⟩ := C
  revert X XB; k_fill; intro X XB
  refine wpAny_call ?_
  refine' code_full (binds := [(Str.ofString "family", .int 2 tf), (Str.ofString "text", .str x tb)]) B F X T D ?k6 ?k7 ?k8 ?k9 ?kB ?_ hk ?c2 ?c3 ?c4 ?c5
  case k6 => k_is
  case k7 => k_is
  case k8 => show dp + 1 < 1000; omega
  case k9 => exact BindsTo.of_eq rfl
  case kB => exact locs rfl
  case c2 => rfl
  case c3 => rfl
  case c4 => rfl
  case c5 => decide
  intro L1 h1 F1 N1 B1 X1 T1 D1

  k_steps
  unfold Stop
  rename Fr _ _ _ _ => F2
  refine aton_str (dp := dp + 1) (un := un + 3) (gd := gd) ⟨B1, F2, X1, T1, XB, TB, D1, by omega⟩ rfl hcx hz ?_ (fun q => by rw [ha] at q; cases q)
  intro l hl t h' tk st
  rw [ha] at hl
  cases hl
  try dsimp only
  have F3 := F2.keptAll st
  k_steps
  rename Fr _ _ _ _ => F9
  exact hg _ _ _ F9.keep

theorem ntop {w : World} {dp un : Nat} {gd : Option (List Code)} {base h₀ : Heap} {outer : List Env} {L : Addr} {m : Str → Option Value} {s : Shared} {p : Program} {loose : List Str} {mean : ExcName → Option Value} {mg mb : Str → Option Value} {cn : Str} {cs : Scope} {a : Addr} {ccd : Value} {Q E : Value → Shared → Prop} {tb tf : Tok} {b0 b1 b2 b3 : UInt8}
    (C : Ctx0 w dp un gd base h₀ outer L m s.heap p loose mean mg mb) (hd5 : dp < 700) (hk : cs.kind = .function)
    (hg : ∀ t h' tk, s.heap.StaysIn h' → Q (.str (dec4 b0 b1 b2 b3) t) { s with heap := h', toks := tk }) :
    wpAny (model PySem.Challenge.rw_ab5008_01.row.prog w) ((arnd dp un gd outer).deeper (envOf cn cs L a ccd)) (call (.ref 315) [.int 2 tf, .bytes [b0, b1, b2, b3].toArray tb]) Q E s := by
  obtain ⟨B, F, X, T, XB, TB, D, hdp⟩ := C
  revert X XB; k_fill; intro X XB
  refine wpAny_call ?_
  refine' code_full (binds := [(Str.ofString "family", .int 2 tf), (Str.ofString "address", .bytes [b0, b1, b2, b3].toArray tb)]) B F X T D ?k6 ?k7 ?k8 ?k9 ?kB ?_ hk ?c2 ?c3 ?c4 ?c5
  case k6 => k_is
  case k7 => k_is
  case k8 => show dp + 1 < 1000; omega
  case k9 => exact BindsTo.of_eq rfl
  case kB => exact locs rfl
  case c2 => rfl
  case c3 => rfl
  case c4 => rfl
  case c5 => decide
  intro L1 h1 F1 N1 B1 X1 T1 D1

  k_steps
  unfold Stop
  rename Fr _ _ _ _ => F2
  refine ntoa_good (dp := dp + 1) (un := un + 3) (gd := gd) ⟨B1, F2, X1, T1, XB, TB, D1, by omega⟩ rfl ?_
  intro t h' tk st
  try dsimp only
  have F3 := F2.keptAll st
  k_steps
  rename Fr _ _ _ _ => F9
  exact hg _ _ _ F9.keep

local macro_rules | `(tactic| walk_at "call builtin:bytes.startswith") => `(tactic| (k_here; with_reducible refine call_starts ?_))

theorem mapped {w : World} {dp un : Nat} {gd : Option (List Code)} {base h₀ : Heap} {outer : List Env} {L : Addr} {m : Str → Option Value} {s : Shared} {p : Program} {loose : List Str} {mean : ExcName → Option Value} {mg mb : Str → Option Value} {cn : Str} {cs : Scope} {a : Addr} {ccd : Value} {Q E : Value → Shared → Prop} {tb tf : Tok} {b : Array UInt8}
    (C : Ctx0 w dp un gd base h₀ outer L m s.heap p loose mean mg mb) (hd5 : dp < 700) (hk : cs.kind = .function)
    (hg : ∀ h' tk, s.heap.StaysIn h' → Q (.bool (startsB b #[0, 0, 0, 0, 0, 0, 0, 0, 0, 0, 255, 255])) { s with heap := h', toks := tk }) :
    wpAny (model PySem.Challenge.rw_ab5008_01.row.prog w) ((arnd dp un gd outer).deeper (envOf cn cs L a ccd)) (call (.ref 301) [.bytes b tb]) Q E s := by
  obtain ⟨B, F, X, T, XB, TB, D, hdp⟩ := C
  revert X XB; k_fill; intro X XB
  refine wpAny_call ?_
  refine' code_full (binds := [(Str.ofString "address", .bytes b tb)]) B F X T D ?k6 ?k7 ?k8 ?k9 ?kB ?_ hk ?c2 ?c3 ?c4 ?c5
  case k6 => k_is
  case k7 => k_is
  case k8 => show dp + 1 < 1000; omega
  case k9 => exact BindsTo.of_eq rfl
  case kB => exact locs rfl
  case c2 => rfl
  case c3 => rfl
  case c4 => rfl
  case c5 => decide
  intro L1 h1 F1 N1 B1 X1 T1 D1

  k_steps
  rename Fr _ _ _ _ => F9
  exact hg _ _ F9.keep
end Mine
end PartS7

section PartS8
open PySem PySem.W PyProof.Rows PySem.Calls PySem.Builtin
namespace Mine
section
local macro_rules | `(tactic| walk_at "no such tree") => `(tactic| skip)
theorem fresh_S8 : True := by
  w_top off
  first | walk1 | trivial
end
set_option maxRecDepth 100000
set_option maxHeartbeats 8000000
local macro_rules | `(tactic| walk_at "getMethod bytes") => `(tactic| (k_here; first | with_reducible refine meth_split ?_ | with_reducible refine meth_isdigit ?_ | with_reducible refine meth_starts ?_))
local macro_rules | `(tactic| walk_at "getMethod str") => `(tactic| (k_here; with_reducible refine meth_encode ?_))
local macro_rules | `(tactic| walk_at "exec For Name Name cons nil") => `(tactic| (k_here; refine stopped ?_))
local macro_rules | `(tactic| walk_at "exec Raise some none") => `(tactic| (k_here; (with_reducible show wpAny _ _ (exec (Stmt.Raise (some (Expr.Name _ _)) none _) _) _ _ _); k_dflt (refine' raise_K ?F ?X ?T ?e ?q ?hh ?_ ?hk ?hx ?hd; (case F => k_asm); (case X => k_asm); (case T => k_asm); (case e => k_is); (case q => k_exc); (case hh => first | rfl | assumption); (case hk => rfl); (case hx => rfl); (case hd => decide); k_whole); intro hX' eX' mX'))
local macro_rules | `(tactic| walk_at "call builtin:bytes.isdigit") => `(tactic| (k_here; with_reducible refine call_isdigit ?_))
local macro_rules | `(tactic| walk_at "callWith") => `(tactic| (k_here; (with_reducible show wpAny _ _ (callWith _ (Value.builtin _) _ (backTo _ (starEach (_ :: _ :: _) _)) []) _ _ _); ks_star; k_dflt (refine' callWith_B ?_; k_whole)))
local macro_rules | `(tactic| walk_at "call builtin:_struct.pack") => `(tactic| (k_here; refine stopped ?_))
local macro_rules | `(tactic| walk_at "call type:int") => `(tactic| (k_here; (with_reducible show wpAny _ _ (call (Value.type "int") [Value.bytes _ _]) _ _ _); (refine int_part (by assumption) (by assumption) ?_)))
local macro_rules | `(tactic| walk_at "subscriptTail") => `(tactic| (k_here; (with_reducible show wpAny _ _ (subscriptTail _ _ (Value.bytes (List.toArray _) _) (Value.int _ _)) _ _ _); k_dflt (refine' item_B ?e ?a ?b ?z ?_ ?s ?tt; (case e => exact rfl); (case a => decide); (case b => decide); (case z => exact Nat.le_of_ble_eq_true rfl); (case s => with_unfolding_all rfl); (case tt => intro _; with_unfolding_all rfl); k_whole); intro _ _))
local macro_rules | `(tactic| walk_at "call ref") => `(tactic| (k_here; refine stopped ?_))


local macro_rules | `(tactic| walk_at "exec For") => `(tactic| (k_here; refine stopped ?_))
section
variable {σ : Type} {prog : Program} {w : World} {A : Around} {E : Value → Shared → Prop} {s : Shared} {env : Env} {h₀ : Heap} {x : Str} {body : List Stmt} {Q : Flow → Shared → Prop}
/-- What a turn of the loop over signs has to bring about. -/
def TurnP (h₀ : Heap) (L I : Addr) (it : Obj) (M : σ → Str → Option Value) (Led : σ → List (Addr × Obj)) (R : σ → Prop) (Q : Flow → Shared → Prop) (s : Shared) (f : Flow) (s₂ : Shared) : Prop :=
  (∃ v, f = .ret v ∧ Q (.ret v) s₂) ∨ (f = .next ∧ ∃ h' tk' st', s₂ = { s with heap := h', toks := tk' } ∧ Fr h₀ L h' (M st') ∧ News h₀ L h' ((I, it) :: Led st') ∧ R st')
theorem str_rest {I : Addr} (M : σ → Str → Option Value) (Led : σ → List (Addr × Obj)) (R : List Nat → σ → Prop)
    (off : ∀ st, ∀ p ∈ Led st, p.1 ≠ I)
    (turn : ∀ c r st (u : Tok) (it : Obj) h tk, R (c :: r) st → Fr h₀ env.locals h (fun y => if y = x then some (.str ⟨#[c]⟩ u) else M st y) → News h₀ env.locals h ((I, it) :: Led st) →
      wpAny (model prog w) A (execs body env) (TurnP h₀ env.locals I it M Led (R r) Q s) E { s with heap := h, toks := tk })
    (done : ∀ st h tk, R [] st → Fr h₀ env.locals h (M st) → News h₀ env.locals h (Led st) → Q .next { s with heap := h, toks := tk }) :
    ∀ (l : List Nat) (st : σ), R l st → StrRest prog w A E h₀ env x body Q s I (l.map fun c => (⟨#[c]⟩ : PySem.Str)) (M st) (Led st)
  | [], st, hr => .zero fun h tk F N => done st h tk hr F N
  | c :: r, st, hr => .succ fun u it h tk F N => by
      refine wpAny_mono (turn c r st u it h tk hr F N) (fun f s₂ p => ?_) fun _ _ e => e
      rcases p with ⟨v, rfl, q⟩ | ⟨rfl, h', tk', st', rfl, F', N', hr'⟩
      · exact q
      · exact ⟨h', tk', M st', Led st', rfl, F', N', off st', str_rest M Led R off turn done r st' hr'⟩
end
structure OctSt where
  vs : List Value
  n : Nat
  d : PySem.Str
  t : Tok
  sg : Option Value
  ns : List Int
def DigS (d : PySem.Str) : Prop := NumText.AllDigits d.cps.toList
def valS (d : PySem.Str) : Nat := NumText.digitsVal d.cps.toList
def badD (d : PySem.Str) : Bool := d == Str.ofString "" || (d.cps.toList.headD 0 == 48 && !(d == Str.ofString "0")) || decide (3 < d.length)
/-- What the law makes of the signs. -/
def octGo : List Nat → List Int → PySem.Str → Option (List Int)
  | [], ns, _ => some ns
  | c :: r, ns, d => if c = 46 then (if badD d then none else octGo r (ns ++ [((valS d : Nat) : Int)]) (Str.ofString "")) else if 48 ≤ c ∧ c ≤ 57 then octGo r ns (d ++ ⟨#[c]⟩) else none
def OctM (lD : Addr) (x : PySem.Str) (tb : Tok) (st : OctSt) (y : PySem.Str) : Option Value :=
  if y = Str.ofString "sign" then st.sg else if y = Str.ofString "digits" then some (.str st.d st.t) else if y = Str.ofString "numbers" then some (.ref lD) else List.lookup y [(Str.ofString "text", Value.str x tb)].reverse
def OctR (due : Option (List Int)) (l : List Nat) (st : OctSt) : Prop := IntsAre st.vs st.ns ∧ (∀ n ∈ st.ns, 0 ≤ n) ∧ DigS st.d ∧ st.d.length + l.length ≤ 601 ∧ st.ns.length + l.length ≤ 601 ∧ octGo l st.ns st.d = due
theorem sign_dot {c : Nat} : ((⟨#[c]⟩ : PySem.Str) == Str.ofString ".") = true ↔ c = 46 := by
  have e : Str.ofString "." = ⟨#[46]⟩ := by decide +kernel
  rw [e, beq_iff_eq]
  constructor
  · intro h
    injection h with h
    injection h with h
    injection h
  · rintro rfl; rfl
theorem digits_str : (Str.ofString "0123456789").cps.toList = [48, 49, 50, 51, 52, 53, 54, 55, 56, 57] := by decide +kernel
theorem sign_digit {c : Nat} : (!(Builtin.Str.occurrences (Str.ofString "0123456789") ⟨#[c]⟩ 0 (Str.ofString "0123456789").length 1).isEmpty) = true ↔ 48 ≤ c ∧ c ≤ 57 := by
  rw [PySem.StrLaws.found_one, digits_str, decide_eq_true_iff]
  constructor
  · intro h
    simp only [List.mem_cons, List.not_mem_nil, or_false] at h
    omega
  · rintro ⟨h1, h2⟩
    have : c = 48 ∨ c = 49 ∨ c = 50 ∨ c = 51 ∨ c = 52 ∨ c = 53 ∨ c = 54 ∨ c = 55 ∨ c = 56 ∨ c = 57 := by omega
    rcases this with rfl | rfl | rfl | rfl | rfl | rfl | rfl | rfl | rfl | rfl <;> decide
theorem item0 {d : PySem.Str} (h : 1 ≤ d.length) : (Txt.item d 0 == Str.ofString "0") = (d.cps.toList.headD 0 == 48) := by
  have e : Str.ofString "0" = ⟨#[48]⟩ := by decide +kernel
  rw [e, item_meets ⟨by decide, by omega⟩]
  obtain ⟨⟨l⟩⟩ := d
  cases l with
  | nil => exact absurd h (by decide)
  | cons a r =>
    show ((⟨#[a]⟩ : PySem.Str) == ⟨#[48]⟩) = (a == 48)
    by_cases q : a = 48
    · subst q; decide
    · rw [beq_eq_false_iff_ne.mpr q, beq_eq_false_iff_ne]
      intro h'
      injection h' with h'
      injection h' with h'
      injection h' with h'
      exact q h'
theorem empty_not {d : PySem.Str} (h : (d == Str.ofString "") = false) : d.cps.toList ≠ [] := by
  intro q
  have e : d = Str.ofString "" := by
    obtain ⟨⟨l⟩⟩ := d
    have : l = [] := q
    subst this
    decide +kernel
  rw [e] at h
  exact absurd h (by decide +kernel)
section
variable {prog : Program} {w : World} {A : Around} {E : Value → Shared → Prop} {s : Shared} {t : Tok} {Q : Value → Shared → Prop} {d : PySem.Str}
theorem int_sig (hd : DigS d) (hne : (d == Str.ofString "") = false) (hl : d.length ≤ 600) (h : Q (.int ((valS d : Nat) : Int) s.toks) { s with toks := s.toks + 1 }) :
    wpAny (model prog w) A (call (.type "int") [.str d t]) Q E s :=
  KIN.call_text (PySem.intText_digits hd (empty_not hne) (Nat.le_trans hl (by decide))) (Nat.le_trans hl (by decide)) h
end
local macro_rules | `(tactic| walk_at "call type:int") => `(tactic| (k_here; (with_reducible show wpAny _ _ (call (Value.type "int") [Value.str _ _]) _ _ _); (refine int_sig (by assumption) (by assumption) (by assumption) ?_)))

theorem bad1 {d : PySem.Str} (h : (d == Str.ofString "") = true) : badD d = true := by unfold badD; rw [h]; rfl
theorem bad2 {d : PySem.Str} (h : 1 ≤ d.length) (h1 : (Txt.item d 0 == Str.ofString "0") = true) (h2 : (d != Str.ofString "0") = true) : badD d = true := by
  unfold badD
  rw [item0 h] at h1
  have h3 : (!(d == Str.ofString "0")) = true := h2
  rw [h1, h3]; simp
theorem bad3 {d : PySem.Str} (h : (3 : Int) < ((d.length : Nat) : Int)) : badD d = true := by
  unfold badD
  rw [decide_eq_true (show 3 < d.length by omega)]; simp
theorem nbad1 {d : PySem.Str} (h : (d == Str.ofString "") = false) (h2 : (d != Str.ofString "0") = false) (h3 : ¬ (3 : Int) < ((d.length : Nat) : Int)) : badD d = false := by
  unfold badD
  have h4 : (!(d == Str.ofString "0")) = false := h2
  rw [h, h4, decide_eq_false (show ¬ 3 < d.length by omega)]; simp
theorem nbad2 {d : PySem.Str} (h : (d == Str.ofString "") = false) (h0 : 1 ≤ d.length) (h1 : (Txt.item d 0 == Str.ofString "0") = false) (h3 : ¬ (3 : Int) < ((d.length : Nat) : Int)) : badD d = false := by
  unfold badD
  rw [item0 h0] at h1
  rw [h, h1, decide_eq_false (show ¬ 3 < d.length by omega)]; simp
section
variable {c : Nat} {r : List Nat} {ns : List Int} {d : PySem.Str}
theorem oct_bad (hc : ((⟨#[c]⟩ : PySem.Str) == Str.ofString ".") = true) (hb : badD d = true) : octGo (c :: r) ns d = none := by
  rw [octGo, if_pos (sign_dot.mp hc), if_pos hb]
theorem oct_ok (hc : ((⟨#[c]⟩ : PySem.Str) == Str.ofString ".") = true) (hb : badD d = false) : octGo (c :: r) ns d = octGo r (ns ++ [((valS d : Nat) : Int)]) (Str.ofString "") := by
  rw [octGo, if_pos (sign_dot.mp hc), hb]; rfl
theorem oct_dig (hc : ((⟨#[c]⟩ : PySem.Str) == Str.ofString ".") = false) (hs : (Builtin.Str.occurrences (Str.ofString "0123456789") ⟨#[c]⟩ 0 (Str.ofString "0123456789").length 1).isEmpty = false) :
    octGo (c :: r) ns d = octGo r ns (d ++ ⟨#[c]⟩) ∧ 48 ≤ c ∧ c ≤ 57 := by
  have h1 : ¬ c = 46 := fun q => by rw [sign_dot.mpr q] at hc; cases hc
  have h2 := (sign_digit (c := c)).mp (by rw [hs]; rfl)
  exact ⟨by rw [octGo, if_neg h1, if_pos h2], h2⟩
theorem oct_odd (hc : ((⟨#[c]⟩ : PySem.Str) == Str.ofString ".") = false) (hs : (Builtin.Str.occurrences (Str.ofString "0123456789") ⟨#[c]⟩ 0 (Str.ofString "0123456789").length 1).isEmpty = true) :
    octGo (c :: r) ns d = none := by
  have h1 : ¬ c = 46 := fun q => by rw [sign_dot.mpr q] at hc; cases hc
  have h2 : ¬ (48 ≤ c ∧ c ≤ 57) := fun q => by
    have := (sign_digit (c := c)).mpr q
    rw [hs] at this; cases this
  rw [octGo, if_neg h1, if_neg h2]
end
theorem octM_step {lD : Addr} {x : PySem.Str} {tb t t' : Tok} {vs : List Value} {n : Nat} {d d' : PySem.Str} {v : Value} {sg : Option Value} {ns : List Int} (y : PySem.Str) :
    OctM lD x tb ⟨vs, n, d', t', some v, ns⟩ y = (if y = Str.ofString "digits" then some (.str d' t') else if y = Str.ofString "sign" then some v else if y = Str.ofString "sign" then sg else if y = Str.ofString "digits" then some (.str d t) else if y = Str.ofString "numbers" then some (.ref lD) else List.lookup y [(Str.ofString "text", Value.str x tb)].reverse) := by
  unfold OctM
  have hne : Str.ofString "sign" ≠ Str.ofString "digits" := by decide +kernel
  by_cases q : y = Str.ofString "sign"
  · subst q
    rw [if_pos rfl, if_neg hne, if_pos rfl]
  · rw [if_neg q]
    by_cases q2 : y = Str.ofString "digits"
    · rw [if_pos q2, if_pos q2]
    · rw [if_neg q2, if_neg q2, if_neg q, if_neg q, if_neg q2]
def octDue (x : PySem.Str) : Option (List Int) := octGo (x ++ Str.ofString ".").cps.toList [] (Str.ofString "")
def octs (x : PySem.Str) : Option (List UInt8) := match octDue x with
  | some [a, b, c, d] => if a ≤ 255 ∧ b ≤ 255 ∧ c ≤ 255 ∧ d ≤ 255 then some [a.toNat.toUInt8, b.toNat.toUInt8, c.toNat.toUInt8, d.toNat.toUInt8] else none
  | _ => none
theorem octs_none {x : PySem.Str} (h : octDue x = none) : octs x = none := by unfold octs; rw [h]
theorem four_ints {vs : List Value} {ns : List Int} (h : IntsAre vs ns) : (∃ (p q r t : Int) (t1 t2 t3 t4 : Tok), ns = [p, q, r, t] ∧ vs = [.int p t1, .int q t2, .int r t3, .int t t4]) ∨ ((vs.toArray.size : Nat) : Int) ≠ 4 ∧ ns.length ≠ 4 := by
  have hl := h.length
  by_cases h4 : vs.length = 4
  · left
    rcases h with _ | @⟨p, _, _, _, h⟩
    · simp at h4
    rcases h with _ | @⟨q, _, _, _, h⟩
    · simp at h4
    rcases h with _ | @⟨r, _, _, _, h⟩
    · simp at h4
    rcases h with _ | @⟨t, _, _, _, h⟩
    · simp at h4
    rcases h with _ | ⟨h⟩
    · exact ⟨p, q, r, t, _, _, _, _, rfl, rfl⟩
    · simp at h4
  · exact .inr ⟨by rw [List.size_toArray]; omega, by omega⟩
theorem octs_len {x : PySem.Str} {ns : List Int} (h : octDue x = some ns) (h4 : ns.length ≠ 4) : octs x = none := by
  unfold octs; rw [h]
  split
  · rename_i q
    cases q
    exact absurd rfl h4
  · rfl


theorem ns_snoc {ns : List Int} {k : Nat} (h : ∀ n ∈ ns, 0 ≤ n) : ∀ n ∈ ns ++ [((k : Nat) : Int)], 0 ≤ n := by
  intro n hn
  rcases List.mem_append.mp hn with hn | hn
  · exact h n hn
  · rw [List.mem_singleton.mp hn]; omega
theorem dl_nil {d : PySem.Str} {c : Nat} {r : List Nat} (h : d.length + (c :: r).length ≤ 601) : (Str.ofString "").length + r.length ≤ 601 := by
  have : (Str.ofString "").length = 0 := by decide +kernel
  rw [List.length_cons] at h; omega
theorem nl_snoc {ns : List Int} {k : Int} {c : Nat} {r : List Nat} (h : ns.length + (c :: r).length ≤ 601) : (ns ++ [k]).length + r.length ≤ 601 := by
  simp only [List.length_append, List.length_cons, List.length_nil] at h ⊢; omega
theorem nl_tail {ns : List Int} {c : Nat} {r : List Nat} (h : ns.length + (c :: r).length ≤ 601) : ns.length + r.length ≤ 601 := by
  rw [List.length_cons] at h; omega
theorem dl_snoc {d : PySem.Str} {c : Nat} {r : List Nat} (h : d.length + (c :: r).length ≤ 601) : (d ++ ⟨#[c]⟩ : PySem.Str).length + r.length ≤ 601 := by
  have : (d ++ ⟨#[c]⟩ : PySem.Str).length ≤ d.length + 1 := KT.len_app (Nat.le_refl _) (Nat.le_refl 1)
  rw [List.length_cons] at h; omega
theorem digs_snoc {d : PySem.Str} {c : Nat} (h : DigS d) (hc : 48 ≤ c ∧ c ≤ 57) : DigS (d ++ ⟨#[c]⟩) := by
  intro k hk
  rw [PySem.Str.cps_append, Array.toList_append] at hk
  rcases List.mem_append.mp hk with hk | hk
  · exact h k hk
  · rw [List.mem_singleton.mp hk]; exact hc

theorem octs_big {x : PySem.Str} {a b c d : Int} (h : octDue x = some [a, b, c, d]) (hb : ¬ (a ≤ 255 ∧ b ≤ 255 ∧ c ≤ 255 ∧ d ≤ 255)) : octs x = none := by
  unfold octs; rw [h]; exact if_neg hb
theorem octs_four {x : PySem.Str} {a b c d : Int} (h : octDue x = some [a, b, c, d]) (h1 : a ≤ 255) (h2 : b ≤ 255) (h3 : c ≤ 255) (h4 : d ≤ 255) : octs x = some (([a, b, c, d] : List Int).map fun n => n.toNat.toUInt8) := by
  unfold octs; rw [h]; exact if_pos ⟨h1, h2, h3, h4⟩

local macro_rules | `(tactic| walk_at "call type:bytes") => `(tactic| (k_here; refine stopped ?_))
theorem loct {w : World} {dp un : Nat} {gd : Option (List Code)} {base h₀ : Heap} {outer : List Env} {L : Addr} {m : Str → Option Value} {s : Shared} {p : Program} {loose : List Str} {mean : ExcName → Option Value} {mg mb : Str → Option Value} {cn : Str} {cs : Scope} {a : Addr} {ccd : Value} {Q E : Value → Shared → Prop} {x : PySem.Str} {tb : Tok}
    (C : Ctx0 w dp un gd base h₀ outer L m s.heap p loose mean mg mb) (hd5 : dp < 700) (hk : cs.kind = .function) (hcx : Clean x) (hz : x.length ≤ 600)
    (hG : ∀ l, octs x = some l → ∀ t h' tk, s.heap.StaysIn h' → Q (.bytes l.toArray t) { s with heap := h', toks := tk }) (hN : octs x = none → ∀ h' tk, s.heap.StaysIn h' → Q .none { s with heap := h', toks := tk }) :
    wpAny (model PySem.Challenge.rw_ab5008_01.row.prog w) ((arnd dp un gd outer).deeper (envOf cn cs L a ccd)) (call (.ref 344) [.str x tb]) Q E s := by
  obtain ⟨B, F, X, T, XB, TB, D, hdp⟩ := C
  revert X XB; k_fill; intro X XB
  refine wpAny_call ?_
  refine' code_full (binds := [(Str.ofString "text", .str x tb)]) B F X T D ?k6 ?k7 ?k8 ?k9 ?kB ?_ hk ?c2 ?c3 ?c4 ?c5
  case k6 => k_is
  case k7 => k_is
  case k8 => show dp + 1 < 1000; omega
  case k9 => exact BindsTo.of_eq rfl
  case kB => exact locs rfl
  case c2 => rfl
  case c3 => rfl
  case c4 => rfl
  case c5 => decide
  intro L1 h1 F1 N1 B1 X1 T1 D1
  k_steps
  unfold Stop
  rename News _ _ _ _ => N2
  rename Fr _ _ _ _ => F2
  refine For_invVF F2 rfl rfl ?_ 
  k_steps
  rename_i tkA lD hA lT hB hC tT kT aT
  have F3 : Fr s.heap L1 hC (OctM lD x tb ⟨[], 0, Str.ofString "", _, none, []⟩) := frMap F2 fun y => by
    unfold OctM
    by_cases q : y = Str.ofString "sign"
    · subst q; rfl
    · rw [if_neg q]
  have hxs : (x ++ Str.ofString ".").length = x.length + 1 := by have := dot_len; omega
  clear aT
  refine iter_strUnr rfl F3 N2 rfl fun I hI => ?_
  refine str_rest (σ := OctSt) (OctM lD x tb) (fun st => [(lD, W.listOf st.vs.toArray st.n)]) (OctR (octDue x)) ?off ?turn ?done _ ⟨[], 0, Str.ofString "", _, none, []⟩ ?init
  case off =>
    intro st p hp
    rw [List.mem_singleton.mp hp]
    have := hI _ (.head _)
    exact Nat.ne_of_lt this
  case init =>
    refine ⟨IntsAre.nil, (fun c hc => nomatch hc), (fun c hc => nomatch hc), ?_, ?_, rfl⟩
    · show (Str.ofString "").length + (x ++ Str.ofString ".").cps.toList.length ≤ 601
      have : (Str.ofString "").length = 0 := by decide +kernel
      rw [Array.length_toList]
      show (Str.ofString "").length + (x ++ Str.ofString ".").length ≤ 601
      omega
    · show 0 + (x ++ Str.ofString ".").cps.toList.length ≤ 601
      rw [Array.length_toList]
      show 0 + (x ++ Str.ofString ".").length ≤ 601
      omega
  case turn =>
    rintro c r ⟨vs, n, d, t, sg, ns⟩ u it h tk ⟨hv, hp0, hd, hl1, hl2, hgo⟩ F4 N4
    dsimp only at hv hp0 hd hl1 hl2 hgo F4 N4
    have F5 : Fr s.heap L1 h (fun y => if y = Str.ofString "sign" then some (.str ⟨#[c]⟩ u) else if y = Str.ofString "sign" then sg else if y = Str.ofString "digits" then some (.str d t) else if y = Str.ofString "numbers" then some (.ref lD) else List.lookup y [(Str.ofString "text", Value.str x tb)].reverse) := F4
    clear F4 F3 F2 N2
    have hl3 : d.length ≤ 600 := by rw [List.length_cons] at hl1; exact (by omega)
    have hne : I ≠ lD := by have := hI _ (.head _); exact Ne.symm (Nat.ne_of_lt this)
    have hvl : vs.length ≤ 601 := by have := hv.length; rw [List.length_cons] at hl2; omega
    clear hI
    k_steps
    · exact Or.inl ⟨_, rfl, hN (octs_none <| hgo.symm.trans (oct_bad (by assumption) (bad1 (by assumption)))) _ _ F5.keep⟩
    · exact Or.inl ⟨_, rfl, hN (octs_none <| hgo.symm.trans (oct_bad (by assumption) (bad2 (by assumption) (by assumption) (by assumption)))) _ _ F5.keep⟩
    · exact Or.inl ⟨_, rfl, hN (octs_none <| hgo.symm.trans (oct_bad (by assumption) (bad3 (by assumption)))) _ _ F5.keep⟩
    · rename Fr _ _ _ _ => F9
      rename News _ _ _ _ => N9
      rw [List.push_toArray] at N9
      refine Or.inr ⟨rfl, _, _, ⟨_, _, _, _, some _, ns ++ [((valS d : Nat) : Int)]⟩, rfl, frMap F9 octM_step, N9, hv.append (.cons _ _ .nil), ?_, (fun c hc => nomatch hc), ?_, ?_, (oct_ok (by assumption) (nbad1 (by assumption) (by assumption) (by assumption))).symm.trans hgo⟩
      · exact ns_snoc hp0
      · exact dl_nil hl1
      · exact nl_snoc hl2
    · exact Or.inl ⟨_, rfl, hN (octs_none <| hgo.symm.trans (oct_bad (by assumption) (bad3 (by assumption)))) _ _ F5.keep⟩
    · rename Fr _ _ _ _ => F9
      rename News _ _ _ _ => N9
      rw [List.push_toArray] at N9
      refine Or.inr ⟨rfl, _, _, ⟨_, _, _, _, some _, ns ++ [((valS d : Nat) : Int)]⟩, rfl, frMap F9 octM_step, N9, hv.append (.cons _ _ .nil), ?_, (fun c hc => nomatch hc), ?_, ?_, (oct_ok (by assumption) (nbad2 (by assumption) (by assumption) (by assumption) (by assumption))).symm.trans hgo⟩
      · exact ns_snoc hp0
      · exact dl_nil hl1
      · exact nl_snoc hl2
    · exact Or.inl ⟨_, rfl, hN (octs_none <| hgo.symm.trans (oct_odd (by assumption) (by assumption))) _ _ F5.keep⟩
    · rename Fr _ _ _ _ => F9
      rename News _ _ _ _ => N9
      have hdg := oct_dig (c := c) (r := r) (ns := ns) (d := d) (by assumption) (by assumption)
      refine Or.inr ⟨rfl, _, _, ⟨_, _, _, _, some _, ns⟩, rfl, frMap F9 octM_step, N9, hv, hp0, digs_snoc hd hdg.2, dl_snoc hl1, nl_tail hl2, hdg.1.symm.trans hgo⟩
  case done =>
    rintro ⟨vs, n, d, t, sg, ns⟩ h tk ⟨hv, hp0, hd, hl1, hl2, hgo⟩ F4 N4
    dsimp only at hv hp0 hd hl1 hl2 hgo F4 N4
    have hvl : vs.length ≤ 601 := by have := hv.length; simp only [List.length_nil] at hl2; omega
    have F5 : Fr s.heap L1 h (fun y => if y = Str.ofString "sign" then sg else if y = Str.ofString "digits" then some (.str d t) else if y = Str.ofString "numbers" then some (.ref lD) else List.lookup y [(Str.ofString "text", Value.str x tb)].reverse) := F4
    clear F4 F3 F2 N2
    have hgo' : octDue x = some ns := hgo.symm
    clear hgo
    rcases four_ints hv with ⟨p, q, r, t, t1, t2, t3, t4, rfl, rfl⟩ | ⟨h4, h5⟩
    · have p0 := hp0 p (.head _)
      have q0 := hp0 q (.tail _ (.head _))
      have r0 := hp0 r (.tail _ (.tail _ (.head _)))
      have u0 := hp0 t (.tail _ (.tail _ (.tail _ (.head _))))
      clear hp0 hl1 hl2 hvl
      k_steps
      · rename Fr _ _ _ _ => F9
        exact hN (octs_big hgo' (by omega)) _ _ F9.keep
      · unfold Stop
        rename News _ _ _ _ => N9
        rename Fr _ _ _ _ => F9
        have hr : ∀ n ∈ [p, q, r, t], 0 ≤ n ∧ n < 256 := by
          intro n hn
          simp only [List.mem_cons, List.not_mem_nil, or_false] at hn
          rcases hn with rfl | rfl | rfl | rfl <;> omega
        have hl := octs_four hgo' (by omega) (by omega) (by omega) (by omega)
        refine bytes_K F9 N9 (vs := [.int p t1, .int q t2, .int r t3, .int t t4]) (ns := [p, q, r, t]) ⟨_, (N9 _ (.head _)).1, rfl, ⟨_, rfl⟩⟩ hv hr ?z rfl fun h' t' k' F' N' hB' => ?_
        case z => exact Nat.le_trans (show _ ≤ 16777216 from Nat.le_of_ble_eq_true rfl) (by rw [sizeLine_eq]; exact Nat.le_refl _)
        k_steps
        exact hG _ hl _ _ _ F'.keep
    · clear hxs
      k_steps
      · exact hN (octs_len hgo' h5) _ _ F5.keep
      all_goals exact absurd (show ns.length = 4 by omega) h5
end Mine
end PartS8

section PartS9
open PySem PySem.W PyProof.Rows PySem.Calls PySem.Builtin
namespace Mine
section
local macro_rules | `(tactic| walk_at "no such tree") => `(tactic| skip)
theorem fresh_S9 : True := by
  w_top off
  first | walk1 | trivial
end
set_option maxRecDepth 100000
set_option maxHeartbeats 8000000
local macro_rules | `(tactic| walk_at "getMethod bytes") => `(tactic| (k_here; first | with_reducible refine meth_split ?_ | with_reducible refine meth_isdigit ?_ | with_reducible refine meth_starts ?_))
local macro_rules | `(tactic| walk_at "getMethod str") => `(tactic| (k_here; with_reducible refine meth_encode ?_))
local macro_rules | `(tactic| walk_at "exec For Name Name cons nil") => `(tactic| (k_here; refine stopped ?_))
local macro_rules | `(tactic| walk_at "exec Raise some none") => `(tactic| (k_here; (with_reducible show wpAny _ _ (exec (Stmt.Raise (some (Expr.Name _ _)) none _) _) _ _ _); k_dflt (refine' raise_K ?F ?X ?T ?e ?q ?hh ?_ ?hk ?hx ?hd; (case F => k_asm); (case X => k_asm); (case T => k_asm); (case e => k_is); (case q => k_exc); (case hh => first | rfl | assumption); (case hk => rfl); (case hx => rfl); (case hd => decide); k_whole); intro hX' eX' mX'))
local macro_rules | `(tactic| walk_at "call builtin:bytes.isdigit") => `(tactic| (k_here; with_reducible refine call_isdigit ?_))
local macro_rules | `(tactic| walk_at "callWith") => `(tactic| (k_here; (with_reducible show wpAny _ _ (callWith _ (Value.builtin _) _ (backTo _ (starEach (_ :: _ :: _) _)) []) _ _ _); ks_star; k_dflt (refine' callWith_B ?_; k_whole)))
local macro_rules | `(tactic| walk_at "call builtin:_struct.pack") => `(tactic| (k_here; refine stopped ?_))
local macro_rules | `(tactic| walk_at "call type:int") => `(tactic| (k_here; (with_reducible show wpAny _ _ (call (Value.type "int") [Value.bytes _ _]) _ _ _); (refine int_part (by assumption) (by assumption) ?_)))
local macro_rules | `(tactic| walk_at "call ref") => `(tactic| (k_here; refine stopped ?_))

theorem taken_bytes {w : World} {dp un : Nat} {gd : Option (List Code)} {base h₀ : Heap} {outer : List Env} {L : Addr} {m : Str → Option Value} {s : Shared} {p : Program} {loose : List Str} {mean : ExcName → Option Value} {mg mb : Str → Option Value} {cn : Str} {cs : Scope} {a : Addr} {ccd : Value} {Q E : Value → Shared → Prop} {b : Array UInt8} {tb : Tok}
    (C : Ctx0 w dp un gd base h₀ outer L m s.heap p loose mean mg mb) (hd5 : dp < 800) (hk : cs.kind = .function) (hz : b.size ≤ 600)
    (hg : ∀ l, aton b = some l → ∀ t h' tk, s.heap.StaysIn h' → Q (.bytes l.toArray t) { s with heap := h', toks := tk })
    (hb : aton b = none → ∀ h' g' tk, KtsTurn ((envOf cn cs L a ccd :: outer).filterMap (·.frame)) s.heap g' → g'.StaysIn h' → Q .none { s with heap := h', toks := tk }) :
    wpAny (model PySem.Challenge.rw_ab5008_01.row.prog w) ((arnd dp un gd outer).deeper (envOf cn cs L a ccd)) (call (.ref 351) [.bytes b tb]) Q E s := by
  obtain ⟨B, F, X, T, XB, TB, D, hdp⟩ := C
  revert X XB; k_fill; intro X XB
  refine wpAny_call ?_
  refine' code_full (binds := [(Str.ofString "text", .bytes b tb)]) B F X T D ?k6 ?k7 ?k8 ?k9 ?kB ?_ hk ?c2 ?c3 ?c4 ?c5
  case k6 => k_is
  case k7 => k_is
  case k8 => show dp + 1 < 1000; omega
  case k9 => exact BindsTo.of_eq rfl
  case kB => exact locs rfl
  case c2 => rfl
  case c3 => rfl
  case c4 => rfl
  case c5 => decide
  intro L1 h1 F1 N1 B1 X1 T1 D1

  k_steps
  unfold Stop
  rename Fr _ _ _ _ => F2
  refine aton_bytes (dp := dp + 1) (un := un + 3) (gd := gd) ⟨B1, F2, X1, T1, XB, TB, D1, by omega⟩ rfl hz ?_ ?_
  · intro l hl t h' tk st
    try dsimp only
    k_steps
    exact hg l hl _ _ _ fun b o e => st _ _ (F2.keep _ _ e)
  · intro hl e t h' tk R U
    try dsimp only
    k_steps
    rename KtsTurn _ _ _ => T9
    rename Fr _ _ _ _ => F9
    exact hb hl _ _ _ T9 F9.keep
end Mine
end PartS9

section PartG1
open PySem PySem.W PyProof.Rows PySem.Calls PySem.Builtin
namespace Mine
set_option maxRecDepth 100000
set_option maxHeartbeats 400000

/-- A piece of the menu. -/
abbrev okW (x : PySem.Str) : Prop := x.length ≤ 9 ∧ ∀ c ∈ x.cps.toList, c < 55296
/-- What the law's texts are. -/
structure GoodT (x : PySem.Str) : Prop where
  clean : Clean x
  len : x.length ≤ 300
  size : (utf8B x).size ≤ 600
  codes : ∀ c ∈ x.cps.toList, c < 55296

theorem okW_empty : okW Str.empty := by decide
theorem ok_tab {l : List PySem.Str} {n c : Nat} {z : PySem.Str} (hl : ∀ w ∈ l, okW w) (hz : okW z) : okW (if n < c then l.getD n Str.empty else z) := by
  by_cases h : n < c
  · rw [if_pos h, List.getD_eq_getElem?_getD]
    cases q : l[n]? with
    | none => exact okW_empty
    | some w => exact hl w (List.mem_of_getElem? q)
  · rw [if_neg h]; exact hz

theorem utf8_len {c : Nat} (h : c < 55296) : (Str.utf8Of c).length ≤ 3 := by
  unfold Str.utf8Of
  by_cases h1 : c < 0x80
  · rw [if_pos h1]; exact Nat.le_of_ble_eq_true rfl
  · rw [if_neg h1]
    by_cases h2 : c < 0x800
    · rw [if_pos h2]; exact Nat.le_of_ble_eq_true rfl
    · rw [if_neg h2, if_pos (show c < 0x10000 by omega)]; exact Nat.le_of_ble_eq_true rfl
theorem utf8_fold : ∀ (l : List Nat) (acc : Array UInt8), (l.foldl (fun acc y => acc ++ (Str.utf8Of y).toArray) acc).toList = acc.toList ++ l.flatMap Str.utf8Of
  | [], acc => by simp
  | c :: r, acc => by
    rw [List.foldl_cons, utf8_fold r, List.flatMap_cons]
    simp
theorem utf8_list (x : PySem.Str) : (utf8B x).toList = x.cps.toList.flatMap Str.utf8Of := by
  unfold utf8B
  rw [← Array.foldl_toList, utf8_fold]
  simp
theorem flat_len : ∀ (l : List Nat), (∀ c ∈ l, c < 55296) → (l.flatMap Str.utf8Of).length ≤ 3 * l.length
  | [], _ => Nat.le_refl _
  | c :: r, h => by
    rw [List.flatMap_cons, List.length_append, List.length_cons]
    have h1 := utf8_len (h c (.head _))
    have h2 := flat_len r fun d hd => h d (.tail _ hd)
    omega
theorem good_of {x : PySem.Str} (hl : x.length ≤ 200) (hc : ∀ c ∈ x.cps.toList, c < 55296) : GoodT x where
  clean := fun c hc' => by
    have h := hc c (Array.mem_toList_iff.mpr hc')
    unfold Str.isSurrogate
    exact decide_eq_false (fun q => by omega) |> fun e => by simpa using (fun q : 0xD800 ≤ c => by omega)
  len := by omega
  size := by
    rw [← Array.length_toList, utf8_list]
    have h := flat_len x.cps.toList hc
    have h2 : x.cps.toList.length ≤ 200 := by rw [Array.length_toList]; exact hl
    omega
  codes := hc
theorem join_codes {sep : PySem.Str} (hs : ∀ c ∈ sep.cps.toList, c < 55296) : ∀ (l : List PySem.Str), (∀ w ∈ l, okW w) → ∀ c ∈ (Str.join sep l).cps.toList, c < 55296
  | [], _, c, hc => by
    have : c ∈ ([] : List Nat) := hc
    exact nomatch this
  | [x], h, c, hc => (h x (.head _)).2 c hc
  | x :: y :: r, h, c, hc => by
    have e : (Str.join sep (x :: y :: r)) = x ++ sep ++ Str.join sep (y :: r) := rfl
    rw [e, Str.cps_append, Str.cps_append, Array.toList_append, Array.toList_append] at hc
    rcases List.mem_append.mp hc with hc | hc
    · rcases List.mem_append.mp hc with hc | hc
      · exact (h x (.head _)).2 c hc
      · exact hs c hc
    · exact join_codes hs (y :: r) (fun w hw => h w (.tail _ hw)) c hc
theorem sum_le : ∀ (l : List PySem.Str), (∀ w ∈ l, okW w) → (l.map (·.length)).sum ≤ 9 * l.length
  | [], _ => Nat.le_refl _
  | x :: r, h => by
    rw [List.map_cons, List.sum_cons, List.length_cons]
    have h1 := (h x (.head _)).1
    have h2 := sum_le r fun w hw => h w (.tail _ hw)
    omega
theorem join_good {sep : PySem.Str} {l : List PySem.Str} (hs : ∀ c ∈ sep.cps.toList, c < 55296) (h1 : sep.length ≤ 1) (h : ∀ w ∈ l, okW w) (hn : l.length ≤ 14) : GoodT (PySem.Txt.join sep l) := by
  show GoodT (Builtin.Str.glued sep l)
  rw [StrLaws.glued_eq_join]
  refine good_of ?_ (join_codes hs l h)
  have h2 := StrLaws.join_length_le sep l
  have h3 := sum_le l h
  have h4 : l.length * sep.length ≤ l.length * 1 := Nat.mul_le_mul_left _ h1
  omega
section
variable {vs : List Value} {ws : List PySem.Str}
theorem texts_upto {y : Int} (hi' : StrsAre vs ws) (h : 0 ≤ y) : StrsAre (slicePick vs.toArray none (some y) none).toList (ws.take y.toNat) := by
  have e : sliceBounds none (some y) none vs.toArray.size = (((0 : Nat) : Int), ((min y.toNat vs.toArray.size : Nat) : Int), 1) := by
    simp only [sliceBounds, Option.getD_none, show (1 : Int) > 0 by decide, if_true, if_neg (show ¬ (y < 0) by omega)]
    congr 1
    congr 1
    omega
  rw [kmk_pick_nat _ e]
  show StrsAre ((vs.drop 0).take (min y.toNat vs.toArray.size - 0)) _
  rw [List.drop_zero, Nat.sub_zero, List.size_toArray, kmk_take_min]
  exact hi'.take' _
variable {news : List (Addr × Obj)} {Fin : List Value → List (Addr × Obj) → Prop} {ns : List Int} {n : Nat}
/-- The list of pieces: all that the walk keeps of it. -/
theorem fin_texts {g : Int → PySem.Str} (hg : ∀ k, okW (g k)) (h : ∀ ys ws, StrsAre ys ws → (∀ w ∈ ws, okW w) → ws.length = ns.length → Fin ys news) :
    KPfDone (∀ ys, CarriedAll ys (ns.map fun k => PyData.str (g k)) → ns.length = n → Fin ys news) := by
  show ∀ ys, _ → _ → Fin ys news
  intro ys hc _
  refine h ys (ns.map g) (StrsAre.ofCarried ?_) (fun w hw => ?_) (List.length_map ..)
  · rw [List.map_map]; exact hc
  · obtain ⟨k, _, rfl⟩ := List.mem_map.mp hw
    exact hg k
end
section
variable {M : Model} {A : Around} {E : Value → Shared → Prop} {s : Shared} {e : Expr} {env : Env} {Q : Value → Shared → Prop} {h₀ : Heap} {L : Addr} {m : PySem.Str → Option Value}
theorem to_int (h : wpAny M A (PySem.eval e env) (fun v s' => ∃ b t k, v = .int b t ∧ s' = { s with toks := k }) E s) (c : ∀ b t k, Q (.int b t) { s with toks := k }) : wpAny M A (PySem.eval e env) Q E s := by
  refine wpAny_mono h (fun v s' hv => ?_) fun _ _ e => e
  obtain ⟨b, t, k, rfl, rfl⟩ := hv
  exact c b t k
/-- A text that a choice makes: all that the walk keeps of it. -/
theorem to_text (_F : Fr h₀ L s.heap m) (h : wpAny M A (PySem.eval e env) (fun v s' => ∃ x t h' k, v = .str x t ∧ s' = { s with heap := h', toks := k } ∧ GoodT x ∧ Fr h₀ L h' m) E s)
    (c : ∀ x t h' k, GoodT x → Fr h₀ L h' m → News h₀ L h' [] → Q (.str x t) { s with heap := h', toks := k }) : wpAny M A (PySem.eval e env) Q E s := by
  refine wpAny_mono h (fun v s' hv => ?_) fun _ _ e => e
  obtain ⟨x, t, h', k, rfl, rfl, hg, hF⟩ := hv
  exact c x t h' k hg hF fun p hp => nomatch hp
end
section
variable {prog : Program} {w : World} {A : Around} {E : Value → Shared → Prop} {s : Shared} {h₀ : Heap} {L a b l : Addr} {m : PySem.Str → Option Value} {news : List (Addr × Obj)}
theorem join_texts {Q : Value → Shared → Prop} {sep : PySem.Str} {t : Tok} {ys : List Value} {ws : List PySem.Str} {D : Addr} (hl : s.heap.IsList D ys.toArray) (hs : StrsAre ys ws) (hw : ∀ w ∈ ws, okW w) (hn : ws.length ≤ 14) (h1 : sep.length ≤ 1) (hc : ∀ c ∈ sep.cps.toList, c < 55296)
    (h : ∀ t' k, GoodT (PySem.Txt.join sep ws) → Q (.str (PySem.Txt.join sep ws) t') { s with toks := k }) : wpAny (model prog w) A (call (.builtin "str.join") [.str sep t, .ref D]) Q E s := by
  refine KT.join_B 9 (l := ws) (g := fun x => x) hl hs.carried (fun a ha => (hw a ha).1) (by omega) (by omega) fun t' k => ?_
  rw [List.map_id']
  exact h t' k (join_good hc h1 hw hn)
theorem add_texts {Q : Value → Shared → Prop} {ys ys2 : List Value} {ws ws2 : List PySem.Str} (F : Fr h₀ L s.heap m) (N : News h₀ L s.heap news) (ha : s.heap.IsList a ys.toArray) (hb : s.heap.IsList b ys2.toArray) (hs : StrsAre ys ws) (hs2 : StrsAre ys2 ws2) (hn : ws.length ≤ 14) (hn2 : ws2.length ≤ 14)
    (h : ∀ D us h', Fr h₀ L h' m → News h₀ L h' ((D, W.listOf (List.toArray us) 0) :: news) → (∀ p ∈ news, p.1 < D) → StrsAre us (ws ++ ws2) → Q (.ref D) { s with heap := h' }) :
    wpAny (model prog w) A (binaryOp .Add (.ref a) (.ref b)) Q E s := by
  refine kmk_add_lit F N ha hb rfl (fun D h' F' N' l1 => h D _ h' F' N' l1 (hs.append' hs2)) ?_
  have e1 := StrsAre.len_eq hs
  have e2 := StrsAre.len_eq hs2
  show ys.length + ys2.length ≤ sizeLine
  rw [sizeLine_eq]; omega
theorem slice_texts {Q : Value → Shared → Prop} {value slice : PySem.Expr} {ys : List Value} {ws : List PySem.Str} {y : Int} {t : Tok} (F : Fr h₀ L s.heap m) (N : News h₀ L s.heap news) (hl : s.heap.IsList l ys.toArray) (hs' : StrsAre ys ws) (h0 : 0 ≤ y) (hz : ws.length ≤ 100)
    (h : ∀ D us h', Fr h₀ L h' m → News h₀ L h' ((D, W.listOf (List.toArray us) 0) :: news) → StrsAre us (ws.take y.toNat) → Q (.ref D) { s with heap := h' })
    (hs : subscripted slice false (.ref l) (.ref s.heap.objs.size) = operate [.ref s.heap.objs.size, .ref l] (getItem (.ref l) (.ref s.heap.objs.size))) :
    wpAny (model prog w) A (subscriptTail value slice (.ref l) (.ref s.heap.objs.size)) Q E { s with heap := s.heap.push { cls := .type "slice", data := .fields #[.none, .int y t, .none] } } := by
  refine kba_turn (value' := PySem.Expr.Name (PySem.Str.ofString "_") ⟨0, 0, 0, 0⟩) (fun _ => rfl) ?_
  refine kmk_slice F N hl IsPart.none (IsPart.int _ _) (fun D h' F' N' _ => h D (slicePick ys.toArray none (some y) none).toList h' F' ?_ (texts_upto hs' h0)) hs (fun _ => rfl) ?_
  · rw [Array.toArray_toList]; exact N'
  · rw [List.size_toArray, StrsAre.len_eq hs', sizeLine_eq]; omega
variable {st : Stmt} {env : Env} {Q : Flow → Shared → Prop}
/-- A statement that goes on, and leaves the frame as it was. -/
theorem to_next (_F : Fr h₀ L s.heap m) (h : wpAny (model prog w) A (exec st env) (fun f s' => f = .next ∧ ∃ h' k, s' = { s with heap := h', toks := k } ∧ Fr h₀ L h' m) E s)
    (c : ∀ h' k, Fr h₀ L h' m → News h₀ L h' [] → Q .next { s with heap := h', toks := k }) : wpAny (model prog w) A (exec st env) Q E s := by
  refine wpAny_mono h (fun f s' hv => ?_) fun _ _ e => e
  obtain ⟨rfl, h', k, rfl, hF⟩ := hv
  exact c h' k hF fun p hp => nomatch hp
end
/-- What _law_octets and _law_taken answer. -/
def OptB : Option (List UInt8) → Value → Prop
  | none, v => v = .none
  | some l, v => ∃ t, v = .bytes l.toArray t
theorem lit_ok : ∀ w ∈ [Str.ofString "0", Str.ofString "9", Str.ofString "255", Str.ofString "1"], okW w := by decide +kernel
theorem dot_ok : (∀ c ∈ (Str.ofString ".").cps.toList, c < 55296) ∧ (Str.ofString ".").length ≤ 1 := by decide +kernel
theorem nil_ok : (∀ c ∈ (Str.ofString "").cps.toList, c < 55296) ∧ (Str.ofString "").length ≤ 1 := by decide +kernel
end Mine
end PartG1

section PartW0
open PySem PySem.W PyProof.Rows PySem.Calls PySem.Builtin
namespace Mine
set_option maxRecDepth 100000
set_option maxHeartbeats 1000000
theorem fr_turn {h₀ h g' h' : Heap} {L : Addr} {m : Str → Option Value} {fs : List Addr} (F : Fr h₀ L h m) (T : KtsTurn fs h g') (hf : ∀ b ∈ fs, b = L) (st : g'.StaysIn h') : Fr h₀ L h' m := by
  obtain ⟨o, es, ep, ho, hd, hk, hm⟩ := F.ns
  obtain ⟨sl, hsl⟩ := T.up ho
  refine ⟨⟨{ o with slots := sl }, es, ep, st _ _ hsl, hd, hk, hm⟩, fun b ob hb => ?_, F.above⟩
  refine st _ _ (T.other b ob (F.keep b ob hb) fun q => ?_)
  have := hf b q
  rw [this] at hb
  exact absurd (Heap.lt_size hb) (Nat.not_lt.mpr F.above)
theorem news_turn {h₀ h g' h' : Heap} {L : Addr} {news : List (Addr × Obj)} {fs : List Addr} (N : News h₀ L h news) (T : KtsTurn fs h g') (hf : ∀ b ∈ fs, b = L) (st : g'.StaysIn h') : News h₀ L h' news := fun p hp => by
  obtain ⟨h1, h2, h3⟩ := N p hp
  exact ⟨st _ _ (T.other _ _ h1 fun q => h2 (hf _ q)), h2, h3⟩
theorem news_stay {h₀ h h' : Heap} {L : Addr} {news : List (Addr × Obj)} (N : News h₀ L h news) (st : h.StaysIn h') : News h₀ L h' news := fun p hp => ⟨st _ _ (N p hp).1, (N p hp).2⟩
theorem frames_one {cn : Str} {cs : Scope} {L a : Addr} {ccd : Value} (hk : cs.kind = .function) : ∀ b ∈ ((envOf cn cs L a ccd :: []).filterMap (·.frame)), b = L := by
  intro b hb
  rcases kts_mem hb with rfl | hb
  · rfl
  · exact nomatch hb
section
variable {w : World} {h₀ : Heap} {L : Addr} {m : Str → Option Value} {s : Shared} {p : Program} {loose : List Str} {mean : ExcName → Option Value} {mg mb : Str → Option Value} {cn : Str} {cs : Scope} {a : Addr} {ccd : Value} {Q E : Value → Shared → Prop} {news : List (Addr × Obj)} {x y : PySem.Str} {l : List UInt8} {b : Array UInt8} {b0 b1 b2 b3 : UInt8} {tb tf : Tok}
theorem w_oct_some (K0 : Below callerA h₀ [] h₀) (F : Fr h₀ L s.heap m) (N : News h₀ L s.heap news) (KX : (hd.heap_39 w.params).In h₀) (T : Top p loose mean mg mb h₀) (gx : GoodT x) (ha : octs x = some l) (hk : cs.kind = .function)
    (h : ∀ t h' tk, Fr h₀ L h' m → News h₀ L h' news → Q (.bytes l.toArray t) { s with heap := h', toks := tk }) :
    wpAny (model PySem.Challenge.rw_ab5008_01.row.prog w) (callerA.deeper (envOf cn cs L a ccd)) (call (.ref 344) [.str x tb]) Q E s :=
  loct (dp := 301) (un := 4) (gd := some []) ⟨K0, F, KX, T, KX, T, (fun b hb => nomatch hb), by omega⟩ (by omega) hk gx.clean (Nat.le_trans gx.len (by decide)) (fun l' hl t h' tk st => by rw [ha] at hl; cases hl; exact h t h' tk (F.keptAll st) (news_stay N st)) (fun q => by rw [ha] at q; cases q)
theorem w_oct_none (K0 : Below callerA h₀ [] h₀) (F : Fr h₀ L s.heap m) (N : News h₀ L s.heap news) (KX : (hd.heap_39 w.params).In h₀) (T : Top p loose mean mg mb h₀) (gx : GoodT x) (ha : octs x = none) (hk : cs.kind = .function)
    (h : ∀ h' tk, Fr h₀ L h' m → News h₀ L h' news → Q (.none) { s with heap := h', toks := tk }) :
    wpAny (model PySem.Challenge.rw_ab5008_01.row.prog w) (callerA.deeper (envOf cn cs L a ccd)) (call (.ref 344) [.str x tb]) Q E s :=
  loct (dp := 301) (un := 4) (gd := some []) ⟨K0, F, KX, T, KX, T, (fun b hb => nomatch hb), by omega⟩ (by omega) hk gx.clean (Nat.le_trans gx.len (by decide)) (fun l' hl => by rw [ha] at hl; cases hl) (fun _ h' tk st => h h' tk (F.keptAll st) (news_stay N st))
theorem w_take_str_some (K0 : Below callerA h₀ [] h₀) (F : Fr h₀ L s.heap m) (N : News h₀ L s.heap news) (KX : (hd.heap_39 w.params).In h₀) (T : Top p loose mean mg mb h₀) (gx : GoodT x) (ha : aton (utf8B x) = some l) (hk : cs.kind = .function)
    (h : ∀ t h' tk, Fr h₀ L h' m → News h₀ L h' news → Q (.bytes l.toArray t) { s with heap := h', toks := tk }) :
    wpAny (model PySem.Challenge.rw_ab5008_01.row.prog w) (callerA.deeper (envOf cn cs L a ccd)) (call (.ref 351) [.str x tb]) Q E s :=
  taken_str (dp := 301) (un := 4) (gd := some []) ⟨K0, F, KX, T, KX, T, (fun b hb => nomatch hb), by omega⟩ (by omega) hk gx.clean gx.size (fun l' hl t h' tk st => by rw [ha] at hl; cases hl; exact h t h' tk (F.keptAll st) (news_stay N st)) (fun q => by rw [ha] at q; cases q)
theorem w_take_str_none (K0 : Below callerA h₀ [] h₀) (F : Fr h₀ L s.heap m) (N : News h₀ L s.heap news) (KX : (hd.heap_39 w.params).In h₀) (T : Top p loose mean mg mb h₀) (gx : GoodT x) (ha : aton (utf8B x) = none) (hk : cs.kind = .function)
    (h : ∀ h' tk, Fr h₀ L h' m → News h₀ L h' news → Q (.none) { s with heap := h', toks := tk }) :
    wpAny (model PySem.Challenge.rw_ab5008_01.row.prog w) (callerA.deeper (envOf cn cs L a ccd)) (call (.ref 351) [.str x tb]) Q E s :=
  taken_str (dp := 301) (un := 4) (gd := some []) ⟨K0, F, KX, T, KX, T, (fun b hb => nomatch hb), by omega⟩ (by omega) hk gx.clean gx.size (fun l' hl => by rw [ha] at hl; cases hl) (fun _ => fun h' g' tk T' st => h h' tk (fr_turn F T' (frames_one hk) st) (news_turn N T' (frames_one hk) st))
theorem w_take_bytes_some (K0 : Below callerA h₀ [] h₀) (F : Fr h₀ L s.heap m) (N : News h₀ L s.heap news) (KX : (hd.heap_39 w.params).In h₀) (T : Top p loose mean mg mb h₀) (hb : b.size ≤ 600) (ha : aton b = some l) (hk : cs.kind = .function)
    (h : ∀ t h' tk, Fr h₀ L h' m → News h₀ L h' news → Q (.bytes l.toArray t) { s with heap := h', toks := tk }) :
    wpAny (model PySem.Challenge.rw_ab5008_01.row.prog w) (callerA.deeper (envOf cn cs L a ccd)) (call (.ref 351) [.bytes b tb]) Q E s :=
  taken_bytes (dp := 301) (un := 4) (gd := some []) ⟨K0, F, KX, T, KX, T, (fun b hb => nomatch hb), by omega⟩ (by omega) hk hb (fun l' hl t h' tk st => by rw [ha] at hl; cases hl; exact h t h' tk (F.keptAll st) (news_stay N st)) (fun q => by rw [ha] at q; cases q)
theorem w_take_bytes_none (K0 : Below callerA h₀ [] h₀) (F : Fr h₀ L s.heap m) (N : News h₀ L s.heap news) (KX : (hd.heap_39 w.params).In h₀) (T : Top p loose mean mg mb h₀) (hb : b.size ≤ 600) (ha : aton b = none) (hk : cs.kind = .function)
    (h : ∀ h' tk, Fr h₀ L h' m → News h₀ L h' news → Q (.none) { s with heap := h', toks := tk }) :
    wpAny (model PySem.Challenge.rw_ab5008_01.row.prog w) (callerA.deeper (envOf cn cs L a ccd)) (call (.ref 351) [.bytes b tb]) Q E s :=
  taken_bytes (dp := 301) (un := 4) (gd := some []) ⟨K0, F, KX, T, KX, T, (fun b hb => nomatch hb), by omega⟩ (by omega) hk hb (fun l' hl => by rw [ha] at hl; cases hl) (fun _ => fun h' g' tk T' st => h h' tk (fr_turn F T' (frames_one hk) st) (news_turn N T' (frames_one hk) st))
theorem w_canon_str_some (K0 : Below callerA h₀ [] h₀) (F : Fr h₀ L s.heap m) (N : News h₀ L s.heap news) (KX : (hd.heap_39 w.params).In h₀) (T : Top p loose mean mg mb h₀) (gx : GoodT x) (ha : aton (utf8B x) = some l) (hy : ntoaS l = y) (hk : cs.kind = .function)
    (h : ∀ t h' tk, Fr h₀ L h' m → News h₀ L h' news → Q (.str y t) { s with heap := h', toks := tk }) :
    wpAny (model PySem.Challenge.rw_ab5008_01.row.prog w) (callerA.deeper (envOf cn cs L a ccd)) (call (.ref 358) [.str x tb]) Q E s :=
  lcanon_str (dp := 301) (un := 4) (gd := some []) ⟨K0, F, KX, T, KX, T, (fun b hb => nomatch hb), by omega⟩ (by omega) hk gx.clean gx.size (fun l' hl t h' tk st => by rw [ha] at hl; cases hl; rw [hy]; exact h t h' tk (F.keptAll st) (news_stay N st)) (fun q => by rw [ha] at q; cases q)
theorem w_canon_str_none (K0 : Below callerA h₀ [] h₀) (F : Fr h₀ L s.heap m) (N : News h₀ L s.heap news) (KX : (hd.heap_39 w.params).In h₀) (T : Top p loose mean mg mb h₀) (gx : GoodT x) (ha : aton (utf8B x) = none) (hk : cs.kind = .function)
    (h : ∀ h' tk, Fr h₀ L h' m → News h₀ L h' news → Q (.none) { s with heap := h', toks := tk }) :
    wpAny (model PySem.Challenge.rw_ab5008_01.row.prog w) (callerA.deeper (envOf cn cs L a ccd)) (call (.ref 358) [.str x tb]) Q E s :=
  lcanon_str (dp := 301) (un := 4) (gd := some []) ⟨K0, F, KX, T, KX, T, (fun b hb => nomatch hb), by omega⟩ (by omega) hk gx.clean gx.size (fun l' hl => by rw [ha] at hl; cases hl) (fun _ => fun h' g' tk T' st => h h' tk (fr_turn F T' (frames_one hk) st) (news_turn N T' (frames_one hk) st))
theorem w_canon_bytes_some (K0 : Below callerA h₀ [] h₀) (F : Fr h₀ L s.heap m) (N : News h₀ L s.heap news) (KX : (hd.heap_39 w.params).In h₀) (T : Top p loose mean mg mb h₀) (hb : b.size ≤ 600) (ha : aton b = some l) (hy : ntoaS l = y) (hk : cs.kind = .function)
    (h : ∀ t h' tk, Fr h₀ L h' m → News h₀ L h' news → Q (.str y t) { s with heap := h', toks := tk }) :
    wpAny (model PySem.Challenge.rw_ab5008_01.row.prog w) (callerA.deeper (envOf cn cs L a ccd)) (call (.ref 358) [.bytes b tb]) Q E s :=
  lcanon_bytes (dp := 301) (un := 4) (gd := some []) ⟨K0, F, KX, T, KX, T, (fun b hb => nomatch hb), by omega⟩ (by omega) hk hb (fun l' hl t h' tk st => by rw [ha] at hl; cases hl; rw [hy]; exact h t h' tk (F.keptAll st) (news_stay N st)) (fun q => by rw [ha] at q; cases q)
theorem w_canon_bytes_none (K0 : Below callerA h₀ [] h₀) (F : Fr h₀ L s.heap m) (N : News h₀ L s.heap news) (KX : (hd.heap_39 w.params).In h₀) (T : Top p loose mean mg mb h₀) (hb : b.size ≤ 600) (ha : aton b = none) (hk : cs.kind = .function)
    (h : ∀ h' tk, Fr h₀ L h' m → News h₀ L h' news → Q (.none) { s with heap := h', toks := tk }) :
    wpAny (model PySem.Challenge.rw_ab5008_01.row.prog w) (callerA.deeper (envOf cn cs L a ccd)) (call (.ref 358) [.bytes b tb]) Q E s :=
  lcanon_bytes (dp := 301) (un := 4) (gd := some []) ⟨K0, F, KX, T, KX, T, (fun b hb => nomatch hb), by omega⟩ (by omega) hk hb (fun l' hl => by rw [ha] at hl; cases hl) (fun _ => fun h' g' tk T' st => h h' tk (fr_turn F T' (frames_one hk) st) (news_turn N T' (frames_one hk) st))
theorem w_written_good (K0 : Below callerA h₀ [] h₀) (F : Fr h₀ L s.heap m) (N : News h₀ L s.heap news) (KX : (hd.heap_39 w.params).In h₀) (T : Top p loose mean mg mb h₀) (hk : cs.kind = .function)
    (h : ∀ t h' tk, Fr h₀ L h' m → News h₀ L h' news → Q (.str (dec4 b0 b1 b2 b3) t) { s with heap := h', toks := tk }) :
    wpAny (model PySem.Challenge.rw_ab5008_01.row.prog w) (callerA.deeper (envOf cn cs L a ccd)) (call (.ref 365) [.bytes [b0, b1, b2, b3].toArray tb]) Q E s :=
  written_good (dp := 301) (un := 4) (gd := some []) ⟨K0, F, KX, T, KX, T, (fun b hb => nomatch hb), by omega⟩ (by omega) hk (fun t h' tk st => h t h' tk (F.keptAll st) (news_stay N st))
theorem w_written_bad (K0 : Below callerA h₀ [] h₀) (F : Fr h₀ L s.heap m) (N : News h₀ L s.heap news) (KX : (hd.heap_39 w.params).In h₀) (T : Top p loose mean mg mb h₀) (hz : b.size ≤ 600) (hn : ((b.size : Nat) : Int) ≠ 4) (hk : cs.kind = .function)
    (h : ∀ h' tk, Fr h₀ L h' m → News h₀ L h' news → Q (.none) { s with heap := h', toks := tk }) :
    wpAny (model PySem.Challenge.rw_ab5008_01.row.prog w) (callerA.deeper (envOf cn cs L a ccd)) (call (.ref 365) [.bytes b tb]) Q E s :=
  written_bad (dp := 301) (un := 4) (gd := some []) ⟨K0, F, KX, T, KX, T, (fun b hb => nomatch hb), by omega⟩ (by omega) hk hz hn (fun h' g' tk T' st => h h' tk (fr_turn F T' (frames_one hk) st) (news_turn N T' (frames_one hk) st))
theorem w_isaddr (K0 : Below callerA h₀ [] h₀) (F : Fr h₀ L s.heap m) (N : News h₀ L s.heap news) (KX : (hd.heap_39 w.params).In h₀) (T : Top p loose mean mg mb h₀) (gx : GoodT x) (ha : aton (utf8B x) = some [b0, b1, b2, b3]) (hk : cs.kind = .function)
    (h : ∀ h' tk, Fr h₀ L h' m → News h₀ L h' news → Q (.bool true) { s with heap := h', toks := tk }) :
    wpAny (model PySem.Challenge.rw_ab5008_01.row.prog w) (callerA.deeper (envOf cn cs L a ccd)) (call (.ref 336) [.str x tb]) Q E s :=
  isaddr (tf := tb) (dp := 301) (un := 4) (gd := some []) ⟨K0, F, KX, T, KX, T, (fun b hb => nomatch hb), by omega⟩ (by omega) hk gx.clean gx.size ha (fun h' tk st => h h' tk (F.keptAll st) (news_stay N st))
theorem w_af (K0 : Below callerA h₀ [] h₀) (F : Fr h₀ L s.heap m) (N : News h₀ L s.heap news) (KX : (hd.heap_39 w.params).In h₀) (T : Top p loose mean mg mb h₀) (gx : GoodT x) (ha : aton (utf8B x) = some [b0, b1, b2, b3]) (hk : cs.kind = .function)
    (h : ∀ t h' tk, Fr h₀ L h' m → News h₀ L h' news → Q (.int 2 t) { s with heap := h', toks := tk }) :
    wpAny (model PySem.Challenge.rw_ab5008_01.row.prog w) (callerA.deeper (envOf cn cs L a ccd)) (call (.ref 322) [.str x tb]) Q E s :=
  af (tf := tb) (dp := 301) (un := 4) (gd := some []) ⟨K0, F, KX, T, KX, T, (fun b hb => nomatch hb), by omega⟩ (by omega) hk gx.clean gx.size ha (fun t h' tk st => h t h' tk (F.keptAll st) (news_stay N st))
theorem w_multi (K0 : Below callerA h₀ [] h₀) (F : Fr h₀ L s.heap m) (N : News h₀ L s.heap news) (KX : (hd.heap_39 w.params).In h₀) (T : Top p loose mean mg mb h₀) (gx : GoodT x) (ha : aton (utf8B x) = some [b0, b1, b2, b3]) (hk : cs.kind = .function)
    (h : ∀ h' tk, Fr h₀ L h' m → News h₀ L h' news → Q (.bool ((decide ((224 : Int) ≤ ((b0.toNat : Nat) : Int))) && (decide (((b0.toNat : Nat) : Int) ≤ (239 : Int))))) { s with heap := h', toks := tk }) :
    wpAny (model PySem.Challenge.rw_ab5008_01.row.prog w) (callerA.deeper (envOf cn cs L a ccd)) (call (.ref 329) [.str x tb]) Q E s :=
  ismulti (tf := tb) (dp := 301) (un := 4) (gd := some []) ⟨K0, F, KX, T, KX, T, (fun b hb => nomatch hb), by omega⟩ (by omega) hk gx.clean gx.size ha (fun h' tk st => h h' tk (F.keptAll st) (news_stay N st))
theorem w_pton (K0 : Below callerA h₀ [] h₀) (F : Fr h₀ L s.heap m) (N : News h₀ L s.heap news) (KX : (hd.heap_39 w.params).In h₀) (T : Top p loose mean mg mb h₀) (gx : GoodT x) (ha : aton (utf8B x) = some [b0, b1, b2, b3]) (hk : cs.kind = .function)
    (h : ∀ t h' tk, Fr h₀ L h' m → News h₀ L h' news → Q (.bytes [b0, b1, b2, b3].toArray t) { s with heap := h', toks := tk }) :
    wpAny (model PySem.Challenge.rw_ab5008_01.row.prog w) (callerA.deeper (envOf cn cs L a ccd)) (call (.ref 308) [.int 2 tf, .str x tb]) Q E s :=
  pton (dp := 301) (un := 4) (gd := some []) ⟨K0, F, KX, T, KX, T, (fun b hb => nomatch hb), by omega⟩ (by omega) hk gx.clean gx.size ha (fun t h' tk st => h t h' tk (F.keptAll st) (news_stay N st))
theorem w_ntop (K0 : Below callerA h₀ [] h₀) (F : Fr h₀ L s.heap m) (N : News h₀ L s.heap news) (KX : (hd.heap_39 w.params).In h₀) (T : Top p loose mean mg mb h₀) (hy : dec4 b0 b1 b2 b3 = y) (hk : cs.kind = .function)
    (h : ∀ t h' tk, Fr h₀ L h' m → News h₀ L h' news → Q (.str y t) { s with heap := h', toks := tk }) :
    wpAny (model PySem.Challenge.rw_ab5008_01.row.prog w) (callerA.deeper (envOf cn cs L a ccd)) (call (.ref 315) [.int 2 tf, .bytes [b0, b1, b2, b3].toArray tb]) Q E s :=
  ntop (dp := 301) (un := 4) (gd := some []) ⟨K0, F, KX, T, KX, T, (fun b hb => nomatch hb), by omega⟩ (by omega) hk (fun t h' tk st => by rw [hy]; exact h t h' tk (F.keptAll st) (news_stay N st))
theorem w_mapped (K0 : Below callerA h₀ [] h₀) (F : Fr h₀ L s.heap m) (N : News h₀ L s.heap news) (KX : (hd.heap_39 w.params).In h₀) (T : Top p loose mean mg mb h₀) (hk : cs.kind = .function)
    (h : ∀ h' tk, Fr h₀ L h' m → News h₀ L h' news → Q (.bool (startsB b #[0, 0, 0, 0, 0, 0, 0, 0, 0, 0, 255, 255])) { s with heap := h', toks := tk }) :
    wpAny (model PySem.Challenge.rw_ab5008_01.row.prog w) (callerA.deeper (envOf cn cs L a ccd)) (call (.ref 301) [.bytes b tb]) Q E s :=
  mapped (tf := tb) (dp := 301) (un := 4) (gd := some []) ⟨K0, F, KX, T, KX, T, (fun b hb => nomatch hb), by omega⟩ (by omega) hk (fun h' tk st => h h' tk (F.keptAll st) (news_stay N st))
end
end Mine
end PartW0

section PartG2
open PySem PySem.W PyProof.Rows PySem.Calls PySem.Builtin
namespace Mine
set_option maxRecDepth 100000
set_option maxHeartbeats 400000
section
variable {prog : Program} {w : World} {A : Around} {E : Value → Shared → Prop} {s : Shared} {h₀ : Heap} {L : Addr} {m : PySem.Str → Option Value} {env : Env}
/-- A comprehension over octets. -/
theorem comp_bytes {elt iter : PySem.Expr} {x : PySem.Str} {px : Pos} {scope : Scope} {cl : List (PySem.Str × Addr)} {pos : Pos} {Q : Value → Shared → Prop} {b : Array UInt8} {news : List (Addr × Obj)}
    (_F : Fr h₀ L s.heap m) (_N : News h₀ L s.heap news) (hclos : closureFor scope env = pure cl) (hcell : ∀ y ∈ scope.names, y.2 ≠ .cell) (hkind : scope.kind = .function)
    (hnames : ∀ y ∈ scope.names, y.2 = .local → scope.names.lookup y.1 = some .local) (hx : scope.names.lookup x = some .local) (hh : A.handled = none) (hz : b.size ≤ 600)
    (h : wpAny (model prog w) A (PySem.eval iter env) (fun xv s₁ => (∃ t, xv = .bytes b t) ∧ Fr h₀ L s₁.heap m ∧ News h₀ L s₁.heap news ∧
      ∀ g, LCg.CompRest prog w A h₀ L m env elt x scope cl { s₁ with heap := g } (fun _ => True) (fun i v => ∃ c u, b[i]? = some c ∧ v = .int (c.toNat : Int) u) (LCg.FinE h₀ L m { s₁ with heap := g } Q) b.size 0 [] news) E s)
    (hs : ∀ x, foldedSetIterable iter env x = pure x := by intro _; rfl) :
    wpAny (model prog w) A (PySem.eval (.ListComp elt [⟨.Name x px, iter, [], 0⟩] scope pos) env) Q E s := by
  rw [eval_ListComp]
  refine wpAny_comprehension_free (use := none) rfl hs hclos hkind hnames (wpAny_mono h (fun xv s₁ h₁ => ?_) fun _ _ e => e)
  obtain ⟨⟨t, rfl⟩, F, N, R⟩ := h₁
  refine KBw.pyIter_bytes ?_
  have up : ∀ c o, s₁.heap.get? c = some o → (s₁.heap.push { cls := .type "bytes_iterator", data := .fields #[.bytes b t, .int 0 0] }).get? c = some o := fun c o e => Heap.get?_push_of_some _ e
  refine LCg.block_U (KBw.walks hh s₁.heap.objs.size b t) (Nat.le_trans hz (by rw [sizeLine_eq]; decide)) (fun i h st => by obtain ⟨o, e, _⟩ := st; exact ⟨o, e⟩) ?_ hcell hkind hx ⟨_, Heap.get?_push_size _ rfl, rfl, rfl⟩ (fun c hc => ?_)
      (F.keeps up) (N.grown up) (Nat.ne_of_lt F.ns.lt) (next_is_new F) (fun p hp => Nat.ne_of_lt (Heap.lt_size (N p hp).1)) trivial (R _) ?_
  · rintro i h h' o nw ⟨o', e1, r⟩ e e' _ _ _
    rw [e] at e1
    cases e1
    exact ⟨o, e', r⟩
  · show c < (s₁.heap.push _).objs.size
    rw [Heap.size_push, List.mem_singleton.mp hc]
    exact Nat.lt_succ_self _
  · intro D C h tk m' ys news' F' N' o1 hn hC₀ hD₀ hCL hDL hCD offC fin
    refine ⟨m', hn, fun h'' hs'' => fin D h'' tk (F'.change hs'' hCL hC₀) (fun p hp => ?_) o1⟩
    refine ⟨hs''.extBut _ _ ?_ (N' p hp).1, (N' p hp).2⟩
    rcases List.mem_cons.mp hp with rfl | hp
    · exact Ne.symm hCD
    · exact offC p hp
end
theorem bytes_at {b : Array UInt8} (i : Nat) (v : Value) (h : ∃ c u, b[i]? = some c ∧ v = .int (c.toNat : Int) u) : ∃ k t, (KBw.bInts b)[i]? = some k ∧ v = .int k t := by
  obtain ⟨c, u, e, rfl⟩ := h
  exact ⟨_, u, KBw.ints_get e, rfl⟩
theorem join_dec (c0 c1 c2 c3 : UInt8) : PySem.Txt.join (Str.ofString ".") ((KBw.bInts [c0, c1, c2, c3].toArray).map fun k => Str.ofString (toString k)) = dec4 c0 c1 c2 c3 := by
  show Builtin.Str.glued (Str.ofString ".") [decS c0, decS c1, decS c2, decS c3] = _
  rw [StrLaws.glued_eq_join]
  have e : Str.join (Str.ofString ".") [decS c0, decS c1, decS c2, decS c3] = decS c0 ++ Str.ofString "." ++ (decS c1 ++ Str.ofString "." ++ (decS c2 ++ Str.ofString "." ++ decS c3)) := rfl
  rw [e]
  unfold dec4
  rw [KT.empty_app]
  refine PySem.Str.ext' ?_
  simp only [PySem.Str.cps_append, Array.append_assoc]
section
variable {prog : Program} {w : World} {A : Around} {E : Value → Shared → Prop} {s : Shared} {Q : Value → Shared → Prop} {t : Tok} {ys : List Value} {D : Addr} {c0 c1 c2 c3 : UInt8}
theorem join_octets (hl : s.heap.IsList D ys.toArray) (hc : CarriedAll ys ((KBw.bInts [c0, c1, c2, c3].toArray).map fun k => PyData.str (Str.ofString (toString k))))
    (h : ∀ t' k, Q (.str (dec4 c0 c1 c2 c3) t') { s with toks := k }) : wpAny (model prog w) A (call (.builtin "str.join") [.str (Str.ofString ".") t, .ref D]) Q E s := by
  refine KT.join_B 10 (l := KBw.bInts [c0, c1, c2, c3].toArray) (g := fun k => Str.ofString (toString k)) hl hc (fun k hk => ?_) ?_ ?_ fun t' k => ?_
  · have := KBw.ints_in hk
    exact KT.len_num this.1 (by omega)
  · rw [KBw.ints_length]; exact Nat.le_of_ble_eq_true rfl
  · rw [dot_len]; decide
  · rw [join_dec]; exact h t' k
end
end Mine
end PartG2

section PartG3
open PySem PySem.W PyProof.Rows PySem.Calls PySem.Builtin
namespace Mine
section
local macro_rules | `(tactic| walk_at "no such tree") => `(tactic| skip)
theorem fresh_G3 : True := by
  w_top off
  first | walk1 | trivial
end
set_option maxRecDepth 100000
set_option maxHeartbeats 400000
theorem str_one {w : World} {h₀ h : Heap} {L : Addr} {m m₂ : PySem.Str → Option Value} {s : Shared} {p : Program} {loose : List PySem.Str} {mean : ExcName → Option Value} {mg mb : PySem.Str → Option Value} {cn : PySem.Str} {cs : Scope} {a C : Addr} {oC : Obj} {ccd : Value} {Q E : Value → Shared → Prop} {news : List (Addr × Obj)} {k : Int} {t : Tok} {p1 p2 p3 : Pos} {tk : Nat}
    (KX : (hd.heap_39 w.params).In h₀) (T : Top p loose mean mg mb h₀) (F : Fr h₀ L h m) (N : News h₀ L h news) (hm : (C, oC) ∈ news) (hC : LCg.NsObj oC m₂) (hx : m₂ (Str.ofString "one") = some (.int k t)) (hk : 0 ≤ k ∧ k < 256) (hcs : cs.kind = .function)
    (hq : ∀ t' k', Q (.str (Str.ofString (toString k)) t') { s with heap := h, toks := k' }) :
    wpAny (model PySem.Challenge.rw_ab5008_01.row.prog w) (callerA.deeper (envOf cn cs L a ccd)) (PySem.eval (.Call (.Name (Str.ofString "str") p1) [.Name (Str.ofString "one") p2] [] p3)
      (compEnvC { kind := .function, names := [(Str.ofString ".0", .local), (Str.ofString "one", .local), (Str.ofString "str", .globalImplicit)], isGenerator := false, isCoroutine := false } [] C (envOf cn cs L a ccd))) Q E { s with heap := h, toks := tk } := by
  revert KX; k_fill; intro KX
  k_steps
  exact hq _ _
end Mine
end PartG3

section PartB4
open PySem PySem.W PyProof.Rows PySem.Calls PySem.Builtin
namespace Mine
set_option maxRecDepth 100000
set_option maxHeartbeats 400000
section
variable {prog : Program} {w : World} {A : Around} {E : Value → Shared → Prop} {s : Shared} {n : Int} {t : Tok} {Q : Value → Shared → Prop}
theorem int_no_bytes : typeLookup (.type "int") "__bytes__" = pure none := by rw [typeLookup_type, builtinLookup_eq_fast]; kernel_rfl
theorem bz_new (h0 : 0 ≤ n) (h1 : n ≤ 1000) (hQ : ∀ t k, Q (.bytes (Array.replicate n.toNat 0) t) { s with toks := k }) :
    codeAny (model prog w) A (.call (.builtin "bytes.__new__") ⟨[.type "bytes", .int n t], []⟩) (wants Q E) s := by
  refine codeAny_of_tree ?_
  show wpAny _ A.in1 (do checkBuiltinCall "bytes.__new__" ⟨[.type "bytes", .int n t], []⟩; again (.builtin "bytes.__new__" ⟨[.type "bytes", .int n t], []⟩)) _ _ s
  refine wpAny_bind (wpAny_of_eq (F.bm_newCall _) (wpAny_pure ⟨plainId_quiet F.bm_plain _, codeAny_builtin F.bm_entry ?_⟩))
  rw [Around.under_plainId F.bm_plain _]
  unfold Builtin.«bytes.__new__»
  refine wpAny_bind (wpAny_of_eq (a := true) rfl ?_)
  refine bm_if_false rfl ?_
  refine wpAny_bind (wpAny_of_eq F.bm_sub ?_)
  refine bm_if_false rfl ?_
  refine wpAny_bind (wpAny_of_eq (F.bm_bind _) ?_)
  refine wpAny_bind (wpAny_of_eq (a := ()) rfl ?_)
  refine wpAny_bind (wpAny_of_eq (a := ()) rfl ?_)
  refine bm_if_false rfl ?_
  refine wpAny_bind (wpAny_specialOf (T := "int") (typeIs_int _ _ _) int_no_bytes ?_)
  dsimp only
  refine wpAny_bind (wpAny_of_eq (a := false) rfl ?_)
  refine bm_if_false rfl ?_
  refine wpAny_bind (wpAny_specialOf (T := "int") (typeIs_int _ _ _) F.slot_int_index.lookup ?_)
  refine bm_if_false rfl ?_
  refine wpAny_bind (wpAny_of_eq (a := Except.ok n) rfl ?_)
  dsimp only
  refine bm_if_false ?_ ?_
  · have e : Bytes.fitsIndex n = true := by
      unfold Bytes.fitsIndex
      simp only [Bool.and_eq_true, decide_eq_true_eq]
      omega
    rw [e]; rfl
  rw [if_neg (show ¬ n < 0 by omega), if_neg (show ¬ n > 2 ^ 63 - 34 by omega)]
  refine bm_if_false ?_ ?_
  · unfold Bytes.tooLong
    rw [decide_eq_false_iff_not, sizeLine_eq]
    omega
  refine wpAny_bind (wpAny_rule ?_)
  refine wpAny_bind (wpAny_mkBytes ?_ ?_)
  · show wpAny _ _ (if (Value.type "bytes" == Value.type "bytes") = true then _ else _) _ _ _
    refine bm_if_true (by decide) ?_
    first
      | exact wpAny_pure (hQ _ _)
      | exact wpAny_bind (wpAny_pure (wpAny_pure (hQ _ _)))
  · rw [Array.size_replicate, sizeLine_eq]; omega
theorem call_bytes_int (h0 : 0 ≤ n) (h1 : n ≤ 1000) (hQ : ∀ t k, Q (.bytes (Array.replicate n.toNat 0) t) { s with toks := k }) : wpAny (model prog w) A (call (.type "bytes") [.int n t]) Q E s := by
  refine callType_codes (Q₁ := fun obj s₁ => s₁.TypeIs obj "bytes" ∧ Q obj s₁) F.bm_called (F.bm_typeCall _) F.entry_object_init
    (bz_new h0 h1 fun t k => ⟨PySem.W.typeIs_bytes _ _ _, hQ t k⟩) fun obj s₁ h₁ => ?_
  exact ⟨h₁.1, F.args_object_init_2 obj _, object_init_meets F.bm_called.init.lookup F.bm_called.made (by decide) prog w A.in1 _ s₁ ⟨h₁.1, rfl, h₁.2⟩⟩
theorem call_bytes10 (hQ : ∀ t k, Q (.bytes [0, 0, 0, 0, 0, 0, 0, 0, 0, 0].toArray t) { s with toks := k }) : wpAny (model prog w) A (call (.type "bytes") [.int 10 t]) Q E s :=
  call_bytes_int (by decide) (by decide) fun t k => hQ t k
end
end Mine
end PartB4

section PartP1
open PySem PySem.W PyProof.Rows PySem.Calls PySem.Builtin PySem.NumText
namespace Mine
set_option maxRecDepth 100000
set_option maxHeartbeats 400000
def isD (c : Nat) : Bool := decide (48 ≤ c) && decide (c ≤ 57)
theorem isD_iff {c : Nat} : isD c = true ↔ 48 ≤ c ∧ c ≤ 57 := by unfold isD; simp
def badL (p : List Nat) : Bool := decide (p = []) || (p.headD 0 == 48 && !decide (p = [48])) || decide (3 < p.length)
def okN (p : List Nat) : Bool := p.all isD && !badL p
theorem badD_eq (d : PySem.Str) : badD d = badL d.cps.toList := by
  have e0 : (d == Str.ofString "") = decide (d.cps.toList = []) := by
    rw [Bool.eq_iff_iff, beq_iff_eq, decide_eq_true_iff]
    have : Str.ofString "" = ⟨#[]⟩ := by decide +kernel
    rw [this]
    constructor
    · rintro rfl; rfl
    · intro h; cases d; rename_i l; cases l; cases h; rfl
  have e1 : (d == Str.ofString "0") = decide (d.cps.toList = [48]) := by
    rw [Bool.eq_iff_iff, beq_iff_eq, decide_eq_true_iff]
    have : Str.ofString "0" = ⟨#[48]⟩ := by decide +kernel
    rw [this]
    constructor
    · rintro rfl; rfl
    · intro h; cases d; rename_i l; cases l; cases h; rfl
  unfold badD badL
  rw [e0, e1]
  rfl
theorem signs_snoc (d : PySem.Str) (c : Nat) : (d ++ ⟨#[c]⟩).cps.toList = d.cps.toList ++ [c] := KT.app_list d ⟨#[c]⟩
theorem no_sign : (Str.ofString "").cps.toList = [] := by decide +kernel
theorem cut_odd : ∀ (l acc : List Nat), acc.all isD = false → (cutA 46 acc l).all okN = false
  | [], acc, h => by
    rw [cutA, List.all_cons]
    unfold okN; rw [h]; rfl
  | c :: r, acc, h => by
    rw [cutA]
    split
    · rw [List.all_cons]
      unfold okN; rw [h]; rfl
    · refine cut_odd r _ ?_
      rw [List.all_append, h]; rfl
theorem go_cut : ∀ (l : List Nat) (ns : List Int) (d : PySem.Str), d.cps.toList.all isD = true →
    octGo (l ++ [46]) ns d = if (cutA 46 d.cps.toList l).all okN = true then some (ns ++ (cutA 46 d.cps.toList l).map fun p => ((digitsVal p : Nat) : Int)) else none
  | [], ns, d, h => by
    rw [List.nil_append, octGo, if_pos rfl, cutA, badD_eq]
    show (if badL d.cps.toList = true then none else some (ns ++ [((valS d : Nat) : Int)])) = _
    have e : ([d.cps.toList] : List (List Nat)).all okN = !badL d.cps.toList := by
      rw [List.all_cons]; unfold okN; rw [h]; simp
    rw [e]
    cases badL d.cps.toList <;> rfl
  | c :: r, ns, d, h => by
    rw [List.cons_append, octGo, cutA]
    by_cases q : c = 46
    · subst q
      rw [if_pos rfl, if_pos (show ((46 : Nat) == 46) = true from rfl), badD_eq, go_cut r _ _ (by rw [no_sign]; rfl), no_sign, List.all_cons]
      have e : okN d.cps.toList = !badL d.cps.toList := by unfold okN; rw [h]; simp
      rw [e]
      cases hb : badL d.cps.toList
      · simp only [Bool.false_eq_true, if_false, Bool.not_false, Bool.true_and, List.map_cons]
        congr 1
        rw [List.append_assoc]
        rfl
      · rfl
    · rw [if_neg q, if_neg (show ¬ (c == 46) = true by simpa using q)]
      by_cases q2 : 48 ≤ c ∧ c ≤ 57
      · rw [if_pos q2, go_cut r ns _ (by rw [signs_snoc, List.all_append, h]; simp [isD_iff.mpr q2]), signs_snoc]
      · rw [if_neg q2, if_neg]
        rw [cut_odd r _ (by rw [List.all_append, h]; simp only [Bool.true_and, List.all_cons, List.all_nil, Bool.and_true]; rw [Bool.eq_false_iff]; exact fun h => q2 (isD_iff.mp h))]
        decide
theorem due_cut (x : PySem.Str) : octDue x = if (cutA 46 [] x.cps.toList).all okN = true then some ((cutA 46 [] x.cps.toList).map fun p => ((digitsVal p : Nat) : Int)) else none := by
  have e : (x ++ Str.ofString ".").cps.toList = x.cps.toList ++ [46] := by
    rw [KT.app_list]
    have : (Str.ofString ".").cps.toList = [46] := by decide +kernel
    rw [this]
  unfold octDue
  rw [e, go_cut _ _ _ (by rw [no_sign]; rfl), no_sign]
  rfl
/-- The octets of a row of signs. -/
def u8 (l : List Nat) : List UInt8 := l.flatMap Str.utf8Of
theorem u8_app (l r : List Nat) : u8 (l ++ r) = u8 l ++ u8 r := List.flatMap_append ..
theorem toU {n : Nat} (h : n < 256) : n.toUInt8.toNat = n := by
  simp [Nat.toUInt8, UInt8.toNat_ofNat']; omega
theorem of_ascii {c : Nat} (h : c < 128) : Str.utf8Of c = [c.toUInt8] := if_pos h
theorem of_high {c : Nat} (h : 128 ≤ c) (h2 : c < 55296) : ∃ a r, Str.utf8Of c = a :: r ∧ ∀ y ∈ a :: r, 128 ≤ y.toNat := by
  unfold Str.utf8Of
  rw [if_neg (show ¬ c < 0x80 by omega)]
  by_cases q : c < 0x800
  · rw [if_pos q]
    refine ⟨_, _, rfl, fun y hy => ?_⟩
    simp only [List.mem_cons, List.not_mem_nil, or_false] at hy
    rcases hy with rfl | rfl
    · rw [toU (by omega)]; omega
    · rw [toU (by omega)]; omega
  · rw [if_neg q, if_pos (show c < 0x10000 by omega)]
    refine ⟨_, _, rfl, fun y hy => ?_⟩
    simp only [List.mem_cons, List.not_mem_nil, or_false] at hy
    rcases hy with rfl | rfl | rfl
    · rw [toU (by omega)]; omega
    · rw [toU (by omega)]; omega
    · rw [toU (by omega)]; omega
theorem cut_run {u : List UInt8} : ∀ (acc l : List UInt8), (∀ y ∈ u, (y == 46) = false) → cutA (46 : UInt8) acc (u ++ l) = cutA 46 (acc ++ u) l := by
  induction u with
  | nil => intro acc l _; simp
  | cons y r ih =>
    intro acc l h
    rw [List.cons_append, cutA, h y (.head _)]
    simp only [Bool.false_eq_true, if_false]
    rw [ih _ _ fun z hz => h z (.tail _ hz), List.append_assoc]
    rfl
theorem no_dot {c : Nat} (h : c < 55296) (q : c ≠ 46) : ∀ y ∈ Str.utf8Of c, (y == (46 : UInt8)) = false := by
  intro y hy
  rw [beq_eq_false_iff_ne]
  intro e
  by_cases a : c < 128
  · rw [of_ascii a, List.mem_singleton] at hy
    have := toU (show c < 256 by omega)
    rw [← hy, e] at this
    exact q this.symm
  · obtain ⟨_, _, e2, hh⟩ := of_high (by omega : 128 ≤ c) h
    rw [e2] at hy
    have := hh y hy
    rw [e] at this
    exact absurd this (by decide)
theorem cut_u8 : ∀ (l acc : List Nat), (∀ c ∈ l, c < 55296) → cutA (46 : UInt8) (u8 acc) (u8 l) = (cutA 46 acc l).map u8
  | [], acc, _ => rfl
  | c :: r, acc, h => by
    have hr : ∀ d ∈ r, d < 55296 := fun d hd => h d (.tail _ hd)
    rw [cutA]
    by_cases q : c = 46
    · subst q
      rw [if_pos (show ((46 : Nat) == 46) = true from rfl), List.map_cons, ← cut_u8 r [] hr]
      rfl
    · rw [if_neg (show ¬ (c == 46) = true by simpa using q), ← cut_u8 r _ hr, u8_app]
      show cutA 46 (u8 acc) (Str.utf8Of c ++ u8 r) = _
      rw [cut_run _ _ (no_dot (h c (.head _)) q)]
      show _ = cutA 46 (u8 acc ++ (Str.utf8Of c ++ [])) _
      rw [List.append_nil]
theorem cut_codes {n : Nat} : ∀ (l acc : List Nat), (∀ c ∈ acc, c < n) → (∀ c ∈ l, c < n) → ∀ p ∈ cutA 46 acc l, ∀ c ∈ p, c < n
  | [], acc, h1, _, p, hp => by
    rw [cutA, List.mem_singleton] at hp
    subst hp; exact h1
  | c :: r, acc, h1, h2, p, hp => by
    rw [cutA] at hp
    split at hp
    · rcases List.mem_cons.mp hp with rfl | hp
      · exact h1
      · exact cut_codes r [] (fun _ h => nomatch h) (fun d hd => h2 d (.tail _ hd)) p hp
    · refine cut_codes r _ (fun d hd => ?_) (fun d hd => h2 d (.tail _ hd)) p hp
      rcases List.mem_append.mp hd with hd | hd
      · exact h1 d hd
      · rw [List.mem_singleton.mp hd]; exact h2 c (.head _)
theorem u8_digits : ∀ (p : List Nat), p.all isD = true → u8 p = p.map (·.toUInt8) ∧ (u8 p).map (·.toNat) = p ∧ (u8 p).all Bytes.isDigit = true
  | [], _ => ⟨rfl, rfl, rfl⟩
  | c :: r, h => by
    rw [List.all_cons, Bool.and_eq_true] at h
    obtain ⟨h1, h2, h3⟩ := u8_digits r h.2
    have hc := isD_iff.mp h.1
    have e : u8 (c :: r) = c.toUInt8 :: u8 r := by
      show Str.utf8Of c ++ u8 r = _
      rw [of_ascii (by omega)]; rfl
    have ec := toU (show c < 256 by omega)
    refine ⟨by rw [e, h1]; rfl, by rw [e, List.map_cons, h2, ec], ?_⟩
    rw [e, List.all_cons, h3, Bool.and_true]
    unfold Bytes.isDigit
    simp only [Bool.and_eq_true, decide_eq_true_eq, UInt8.le_iff_toNat_le, ec]
    exact hc
theorem u8_odd : ∀ (p : List Nat), (∀ c ∈ p, c < 55296) → p.all isD = false → (u8 p).all Bytes.isDigit = false
  | [], _, h => by cases h
  | c :: r, hc, h => by
    have e : u8 (c :: r) = Str.utf8Of c ++ u8 r := rfl
    rw [e, List.all_append]
    by_cases q : isD c = true
    · rw [u8_odd r (fun d hd => hc d (.tail _ hd)) (by rw [List.all_cons, q] at h; exact h), Bool.and_false]
    · have : (Str.utf8Of c).all Bytes.isDigit = false := by
        rw [isD_iff] at q
        by_cases a : c < 128
        · rw [of_ascii a]
          simp only [List.all_cons, List.all_nil, Bool.and_true]
          rw [Bool.eq_false_iff]
          intro hd
          unfold Bytes.isDigit at hd
          simp only [Bool.and_eq_true, decide_eq_true_eq, UInt8.le_iff_toNat_le, toU (show c < 256 by omega)] at hd
          exact q hd
        · obtain ⟨y, s, e2, hh⟩ := of_high (by omega : 128 ≤ c) (hc c (.head _))
          rw [e2, List.all_cons, Bool.and_eq_false_iff]
          left
          rw [Bool.eq_false_iff]
          intro hd
          have := hh y (.head _)
          unfold Bytes.isDigit at hd
          simp only [Bool.and_eq_true, decide_eq_true_eq, UInt8.le_iff_toNat_le] at hd
          have h2 := hd.2
          rw [show (57 : UInt8).toNat = 57 from rfl] at h2
          omega
      rw [this, Bool.false_and]
theorem val_big : ∀ (p : List Nat), p.all isD = true → 3 < p.length → p.headD 0 ≠ 48 → 1000 ≤ digitsVal p := by
  intro p h hl h0
  match p, h, hl, h0 with
  | a :: b :: c :: d :: r, h, _, h0 =>
    have ha := isD_iff.mp (List.all_eq_true.mp h a (.head _))
    replace h0 : a ≠ 48 := h0
    have e := foldl_ge r (((((0 * 10 + (a - 48)) * 10) + (b - 48)) * 10 + (c - 48)) * 10 + (d - 48))
    show 1000 ≤ r.foldl _ (((((0 * 10 + (a - 48)) * 10) + (b - 48)) * 10 + (c - 48)) * 10 + (d - 48))
    omega
theorem part_ok {p : List Nat} (hc : ∀ c ∈ p, c < 55296) : (partOk (u8 p).toArray = true ∧ valB (u8 p) ≤ 255) ↔ (okN p = true ∧ digitsVal p ≤ 255) := by
  by_cases h : p.all isD = true
  · obtain ⟨h1, h2, h3⟩ := u8_digits p h
    have hv : valB (u8 p) = digitsVal p := by unfold valB; rw [h2]
    rw [hv]
    have hp : partOk (u8 p).toArray = (!(decide (p = [])) && !(decide (p.length > 1) && p.headD 0 == 48)) := by
      unfold partOk Bytes.allOf
      show ((!(u8 p).isEmpty && (u8 p).all Bytes.isDigit) && !(decide ((u8 p).length > 1) && (u8 p).headD 0 == 48)) = _
      rw [h3, h1]
      cases p with
      | nil => rfl
      | cons c r =>
        have hcd := isD_iff.mp (List.all_eq_true.mp h c (.head _))
        have e : (c.toUInt8 == (48 : UInt8)) = (c == 48) := by
          rw [Bool.eq_iff_iff, beq_iff_eq, beq_iff_eq]
          constructor
          · intro q
            have := toU (show c < 256 by omega)
            rw [q] at this; exact this.symm
          · rintro rfl; rfl
        simp [e]
    rw [hp]
    unfold okN badL
    rw [h]
    have hb := val_big p h
    constructor
    · rintro ⟨q, q2⟩
      refine ⟨?_, q2⟩
      simp only [Bool.and_eq_true, Bool.not_eq_true', decide_eq_false_iff_not, Bool.and_eq_false_iff, Bool.true_and, Bool.or_eq_false_iff] at q ⊢
      obtain ⟨q0, q1⟩ := q
      have hz : p.headD 0 = 48 → p.length ≤ 1 := by
        intro e
        rcases q1 with q1 | q1
        · omega
        · rw [e] at q1; cases q1
      refine ⟨⟨q0, ?_⟩, ?_⟩
      · by_cases e : p.headD 0 = 48
        · right
          have hl := hz e
          match p, q0, e, hl with
          | [a], _, e, _ => simp at e; subst e; rfl
          | [], q0, _, _ => exact absurd rfl q0
          | a :: b :: r, _, _, hl => simp at hl
        · left; simpa using e
      · intro hl
        by_cases e : p.headD 0 = 48
        · have := hz e; omega
        · have := hb hl e; omega
    · rintro ⟨q, q2⟩
      refine ⟨?_, q2⟩
      simp only [Bool.and_eq_true, Bool.not_eq_true', decide_eq_false_iff_not, Bool.and_eq_false_iff, Bool.true_and, Bool.or_eq_false_iff] at q ⊢
      obtain ⟨⟨q0, q1⟩, q3⟩ := q
      refine ⟨q0, ?_⟩
      rcases q1 with q1 | q1
      · right; exact q1
      · left
        simp at q1
        rw [q1]; decide
  · rw [Bool.not_eq_true] at h
    constructor
    · rintro ⟨q, _⟩
      unfold partOk Bytes.allOf at q
      rw [u8_odd p hc h] at q
      simp at q
    · rintro ⟨q, _⟩
      unfold okN at q
      rw [h] at q
      cases q
theorem part_val {p : List Nat} (h : okN p = true) : valB (u8 p) = digitsVal p := by
  unfold okN at h
  rw [Bool.and_eq_true] at h
  unfold valB
  rw [(u8_digits p h.1).2.1]
/-- The four octets, told from the row of parts. -/
def ofParts : List (List Nat) → Option (List UInt8)
  | [p, q, r, t] => if (okN p && okN q && okN r && okN t && decide (digitsVal p ≤ 255) && decide (digitsVal q ≤ 255) && decide (digitsVal r ≤ 255) && decide (digitsVal t ≤ 255)) = true then
      some [(digitsVal p).toUInt8, (digitsVal q).toUInt8, (digitsVal r).toUInt8, (digitsVal t).toUInt8] else none
  | _ => none
theorem octs_parts (x : PySem.Str) : octs x = ofParts (cutA 46 [] x.cps.toList) := by
  unfold octs
  rw [due_cut]
  generalize cutA 46 [] x.cps.toList = ps
  by_cases h : ps.all okN = true
  · rw [if_pos h]
    match ps, h with
    | [], _ => rfl
    | [_], _ => rfl
    | [_, _], _ => rfl
    | [_, _, _], _ => rfl
    | _ :: _ :: _ :: _ :: _ :: _, _ => rfl
    | [p, q, r, t], h =>
      simp only [List.all_cons, List.all_nil, Bool.and_true, Bool.and_eq_true] at h
      obtain ⟨h1, h2, h3, h4⟩ := h
      show (if ((digitsVal p : Nat) : Int) ≤ 255 ∧ _ then _ else _) = if _ then _ else _
      rw [h1, h2, h3, h4]
      simp only [Bool.true_and, Bool.and_eq_true, decide_eq_true_eq]
      by_cases q : digitsVal p ≤ 255 ∧ digitsVal q ≤ 255 ∧ digitsVal r ≤ 255 ∧ digitsVal t ≤ 255
      · rw [if_pos (by omega), if_pos (by omega)]
        simp only [Int.toNat_natCast]
      · rw [if_neg (by omega), if_neg (by omega)]
  · rw [if_neg h]
    match ps, h with
    | [], _ => rfl
    | [_], _ => rfl
    | [_, _], _ => rfl
    | [_, _, _], _ => rfl
    | _ :: _ :: _ :: _ :: _ :: _, _ => rfl
    | [p, q, r, t], h =>
      show none = if _ then _ else _
      rw [if_neg]
      intro g
      refine h ?_
      simp only [Bool.and_eq_true, decide_eq_true_eq, List.all_cons, List.all_nil, Bool.and_true] at g ⊢
      obtain ⟨⟨⟨⟨⟨⟨⟨g1, g2⟩, g3⟩, g4⟩, -⟩, -⟩, -⟩, -⟩ := g
      exact ⟨g1, g2, g3, g4⟩
theorem aton_parts {x : PySem.Str} (g : GoodT x) : aton (utf8B x) = ofParts (cutA 46 [] x.cps.toList) := by
  have hc := cut_codes x.cps.toList [] (fun _ h => nomatch h) g.codes
  unfold aton
  rw [split_cut, utf8_list]
  have e : cutA (46 : UInt8) [] (x.cps.toList.flatMap Str.utf8Of) = (cutA 46 [] x.cps.toList).map u8 := cut_u8 x.cps.toList [] g.codes
  rw [e]
  generalize cutA 46 [] x.cps.toList = ps at hc
  match ps, hc with
  | [], _ => rfl
  | [_], _ => rfl
  | [_, _], _ => rfl
  | [_, _, _], _ => rfl
  | _ :: _ :: _ :: _ :: _ :: _, _ => rfl
  | [p, q, r, t], hc =>
    have k1 := part_ok (hc p (.head _))
    have k2 := part_ok (hc q (.tail _ (.head _)))
    have k3 := part_ok (hc r (.tail _ (.tail _ (.head _))))
    have k4 := part_ok (hc t (.tail _ (.tail _ (.tail _ (.head _)))))
    show (if (partOk (u8 p).toArray && partOk (u8 q).toArray && partOk (u8 r).toArray && partOk (u8 t).toArray && decide (valB (u8 p) ≤ 255) && decide (valB (u8 q) ≤ 255) && decide (valB (u8 r) ≤ 255) && decide (valB (u8 t) ≤ 255)) = true then some [(valB (u8 p)).toUInt8, (valB (u8 q)).toUInt8, (valB (u8 r)).toUInt8, (valB (u8 t)).toUInt8] else none) = if (okN p && okN q && okN r && okN t && decide (digitsVal p ≤ 255) && decide (digitsVal q ≤ 255) && decide (digitsVal r ≤ 255) && decide (digitsVal t ≤ 255)) = true then _ else _
    by_cases h : (okN p && okN q && okN r && okN t && decide (digitsVal p ≤ 255) && decide (digitsVal q ≤ 255) && decide (digitsVal r ≤ 255) && decide (digitsVal t ≤ 255)) = true
    · rw [if_pos h]
      simp only [Bool.and_eq_true, decide_eq_true_eq] at h
      obtain ⟨⟨⟨⟨⟨⟨⟨a1, a2⟩, a3⟩, a4⟩, b1⟩, b2⟩, b3⟩, b4⟩ := h
      have l1 := k1.mpr ⟨a1, b1⟩
      have l2 := k2.mpr ⟨a2, b2⟩
      have l3 := k3.mpr ⟨a3, b3⟩
      have l4 := k4.mpr ⟨a4, b4⟩
      rw [if_pos, part_val a1, part_val a2, part_val a3, part_val a4]
      simp only [Bool.and_eq_true, decide_eq_true_eq]
      exact ⟨⟨⟨⟨⟨⟨⟨l1.1, l2.1⟩, l3.1⟩, l4.1⟩, l1.2⟩, l2.2⟩, l3.2⟩, l4.2⟩
    · rw [if_neg h, if_neg]
      intro h'
      refine h ?_
      simp only [Bool.and_eq_true, decide_eq_true_eq] at h' ⊢
      obtain ⟨⟨⟨⟨⟨⟨⟨a1, a2⟩, a3⟩, a4⟩, b1⟩, b2⟩, b3⟩, b4⟩ := h'
      have l1 := k1.mp ⟨a1, b1⟩
      have l2 := k2.mp ⟨a2, b2⟩
      have l3 := k3.mp ⟨a3, b3⟩
      have l4 := k4.mp ⟨a4, b4⟩
      exact ⟨⟨⟨⟨⟨⟨⟨l1.1, l2.1⟩, l3.1⟩, l4.1⟩, l1.2⟩, l2.2⟩, l3.2⟩, l4.2⟩
theorem octs_aton {x : PySem.Str} (g : GoodT x) : octs x = aton (utf8B x) := by rw [octs_parts, aton_parts g]
end Mine
end PartP1

section PartP2
open PySem PySem.W PyProof.Rows PySem.Calls PySem.Builtin PySem.NumText
namespace Mine
set_option maxRecDepth 100000
set_option maxHeartbeats 400000
theorem str_ext {x y : PySem.Str} (h : x.cps.toList = y.cps.toList) : x = y := by
  cases x; cases y
  congr 1
  exact Array.toList_inj.mp h
def digs (c : UInt8) : List Nat := (Nat.toDigits 10 c.toNat).map Char.toNat
theorem digs_eq (c : UInt8) : (decS c).cps.toList = digs c := KIN.signs_num c.toNat
theorem digs_all : ∀ n : Fin 256, okN ((Nat.toDigits 10 n.val).map Char.toNat) = true := by decide +kernel
theorem digs_ok (c : UInt8) : okN (digs c) = true := digs_all ⟨c.toNat, c.toNat_lt⟩
theorem digs_val (c : UInt8) : digitsVal (digs c) = c.toNat := KIN.val_back c.toNat
theorem ok_all {p : List Nat} (h : okN p = true) : AllDigits p := by
  unfold okN at h
  rw [Bool.and_eq_true] at h
  exact fun c hc => isD_iff.mp (List.all_eq_true.mp h.1 c hc)
theorem char_back {c : Nat} (h : 48 ≤ c ∧ c ≤ 57) : (Char.ofNat c).toNat = c := by
  obtain ⟨h1, h2⟩ := h
  have : ∀ n : Fin 60, (Char.ofNat n.val).toNat = n.val := by decide +kernel
  exact this ⟨c, by omega⟩
theorem map_back : ∀ (p : List Nat), AllDigits p → (p.map Char.ofNat).map Char.toNat = p
  | [], _ => rfl
  | c :: r, h => by
    rw [List.map_cons, List.map_cons, map_back r h.tail, char_back h.head]
theorem digs_of {p : List Nat} (h : okN p = true) (hv : digitsVal p ≤ 255) : digs (digitsVal p).toUInt8 = p := by
  have ha := ok_all h
  unfold digs
  rw [toU (show digitsVal p < 256 by omega)]
  have hb : badL p = false := by
    unfold okN at h
    rw [Bool.and_eq_true] at h
    have := h.2
    cases hq : badL p
    · rfl
    · rw [hq] at this; cases this
  unfold badL at hb
  simp only [Bool.or_eq_false_iff, decide_eq_false_iff_not, Bool.and_eq_false_iff, Bool.not_eq_false', decide_eq_true_eq] at hb
  obtain ⟨⟨h0, h1⟩, _⟩ := hb
  have e := toDigits_digitsVal (p.length - 1) p (by
    have : p.length ≠ 0 := fun e => h0 (List.length_eq_zero_iff.mp e)
    omega) ha (by
    match p, h0, h1, ha with
    | c :: r, _, h1, ha =>
      rcases h1 with h1 | h1
      · right
        refine ⟨c, r, rfl, ?_⟩
        have := ha.head
        have h1' : c ≠ 48 := by simpa using h1
        omega
      · left; rw [h1]; rfl)
  rw [e, map_back p ha]
theorem dec4_signs (b0 b1 b2 b3 : UInt8) : (dec4 b0 b1 b2 b3).cps.toList = digs b0 ++ 46 :: (digs b1 ++ 46 :: (digs b2 ++ 46 :: digs b3)) := by
  have : (Str.ofString ".").cps.toList = [46] := by decide +kernel
  unfold dec4
  rw [KT.empty_app]
  simp only [KT.app_list, digs_eq, this, List.append_assoc, List.cons_append, List.nil_append]
theorem dec_good (b0 b1 b2 b3 : UInt8) : GoodT (dec4 b0 b1 b2 b3) := by
  have hl : ∀ c : UInt8, (digs c).length ≤ 10 := fun c => by
    have h1 := decS_len c
    have h2 := congrArg List.length (digs_eq c)
    rw [Array.length_toList] at h2
    have h3 : (decS c).length = (decS c).cps.size := rfl
    omega
  have hs := dec4_signs b0 b1 b2 b3
  refine good_of ?_ fun c hc => ?_
  · have h2 := congrArg List.length hs
    rw [Array.length_toList] at h2
    simp only [List.length_append, List.length_cons] at h2
    have a0 := hl b0
    have a1 := hl b1
    have a2 := hl b2
    have a3 := hl b3
    have h3 : (dec4 b0 b1 b2 b3).length = (dec4 b0 b1 b2 b3).cps.size := rfl
    omega
  · rw [hs] at hc
    have hd : ∀ (b : UInt8), c ∈ digs b → c < 55296 := fun b h => by
      have := ok_all (digs_ok b) c h
      omega
    simp only [List.mem_append, List.mem_cons] at hc
    rcases hc with h | rfl | h | rfl | h | rfl | h
    · exact hd _ h
    · decide
    · exact hd _ h
    · decide
    · exact hd _ h
    · decide
    · exact hd _ h
theorem cutN_run : ∀ (u acc l : List Nat), (∀ y ∈ u, y ≠ 46) → cutA 46 acc (u ++ l) = cutA 46 (acc ++ u) l
  | [], acc, l, _ => by simp
  | y :: r, acc, l, h => by
    rw [List.cons_append, cutA, if_neg (by simpa using h y (.head _)), cutN_run r _ _ fun z hz => h z (.tail _ hz), List.append_assoc]
    rfl
theorem cutN_end (u : List Nat) (h : ∀ y ∈ u, y ≠ 46) : cutA 46 [] u = [u] := by
  have e := cutN_run u [] [] h
  rw [List.append_nil, List.nil_append] at e
  rw [e]; rfl
theorem cutN_dot (u l : List Nat) (h : ∀ y ∈ u, y ≠ 46) : cutA 46 [] (u ++ 46 :: l) = u :: cutA 46 [] l := by
  rw [cutN_run u [] _ h, cutA, if_pos (show ((46 : Nat) == 46) = true from rfl)]; rfl
theorem digs_nodot (c : UInt8) : ∀ y ∈ digs c, y ≠ 46 := fun y hy => by
  have := ok_all (digs_ok c) y hy
  omega
theorem cut_dec4 (b0 b1 b2 b3 : UInt8) : cutA 46 [] (dec4 b0 b1 b2 b3).cps.toList = [digs b0, digs b1, digs b2, digs b3] := by
  rw [dec4_signs, cutN_dot _ _ (digs_nodot _), cutN_dot _ _ (digs_nodot _), cutN_dot _ _ (digs_nodot _), cutN_end _ (digs_nodot _)]
theorem back8 (c : UInt8) : c.toNat.toUInt8 = c := by
  apply UInt8.toNat_inj.mp
  rw [toU c.toNat_lt]
theorem dec_back (b0 b1 b2 b3 : UInt8) : aton (utf8B (dec4 b0 b1 b2 b3)) = some [b0, b1, b2, b3] := by
  rw [aton_parts (dec_good ..), cut_dec4]
  unfold ofParts
  simp only [digs_val, digs_ok, back8, Bool.true_and]
  have h : ∀ c : UInt8, decide (c.toNat ≤ 255) = true := fun c => decide_eq_true (by have := c.toNat_lt; omega)
  rw [h, h, h, h]
  rfl
/-- The signs, told back from the parts. -/
def glueL : List (List Nat) → List Nat
  | [] => []
  | [p] => p
  | p :: q :: r => p ++ 46 :: glueL (q :: r)
theorem cut_glue : ∀ (l acc : List Nat), glueL (cutA 46 acc l) = acc ++ l
  | [], acc => by rw [cutA, List.append_nil]; rfl
  | c :: r, acc => by
    rw [cutA]
    by_cases q : c = 46
    · subst q
      rw [if_pos (show ((46 : Nat) == 46) = true from rfl)]
      have h := cut_glue r []
      cases hq : cutA 46 [] r with
      | nil => exact absurd hq (cut_ne _ _ _)
      | cons p ps =>
        rw [hq] at h
        show acc ++ 46 :: glueL (p :: ps) = _
        rw [h]; rfl
    · rw [if_neg (by simpa using q), cut_glue r, List.append_assoc]; rfl
theorem aton_text {x : PySem.Str} {b0 b1 b2 b3 : UInt8} (g : GoodT x) (h : aton (utf8B x) = some [b0, b1, b2, b3]) : dec4 b0 b1 b2 b3 = x := by
  rw [aton_parts g] at h
  have hg := cut_glue x.cps.toList []
  generalize cutA 46 [] x.cps.toList = ps at h hg
  match ps, h, hg with
  | [], h, _ => cases h
  | [_], h, _ => cases h
  | [_, _], h, _ => cases h
  | [_, _, _], h, _ => cases h
  | _ :: _ :: _ :: _ :: _ :: _, h, _ => cases h
  | [p, q, r, t], h, hg =>
    unfold ofParts at h
    dsimp only at h
    by_cases k : (okN p && okN q && okN r && okN t && decide (digitsVal p ≤ 255) && decide (digitsVal q ≤ 255) && decide (digitsVal r ≤ 255) && decide (digitsVal t ≤ 255)) = true
    · rw [if_pos k] at h
      simp only [Bool.and_eq_true, decide_eq_true_eq] at k
      obtain ⟨⟨⟨⟨⟨⟨⟨a1, a2⟩, a3⟩, a4⟩, b1⟩, b2⟩, b3⟩, b4⟩ := k
      injection h with h
      injection h with e0 h
      injection h with e1 h
      injection h with e2 h
      injection h with e3 h
      refine str_ext ?_
      rw [dec4_signs, ← e0, ← e1, ← e2, ← e3, digs_of a1 b1, digs_of a2 b2, digs_of a3 b3, digs_of a4 b4]
      exact hg
    · rw [if_neg k] at h; cases h
end Mine
end PartP2

section PartB5
open PySem PySem.W PyProof.Rows PySem.Calls PySem.Builtin
namespace Mine
set_option maxRecDepth 100000
set_option maxHeartbeats 400000
section
variable {prog : Program} {w : World} {A : Around} {E : Value → Shared → Prop} {s : Shared} {value slice : PySem.Expr} {b : Array UInt8} {t : Tok} {h₀ : Heap} {L : Addr} {m : PySem.Str → Option Value} {news : List (Addr × Obj)} {Q : Value → Shared → Prop} {M : List UInt8} {i : Int} {ti : Tok}
theorem clip_i (n : Nat) (h0 : 0 ≤ i) : clipAt n i = min i.toNat n := by
  have h := clipAt_nat n i.toNat
  rw [Int.toNat_of_nonneg h0] at h
  exact h
theorem pick_to (h0 : 0 ≤ i) : KBy.picked M.toArray none (some i) = (M.take i.toNat).toArray := by
  rw [KBc.picked_eq]
  show ((M.drop 0).take (clipAt M.length i - 0)).toArray = _
  rw [clip_i _ h0, List.drop_zero, Nat.sub_zero]
  congr 1
  by_cases h : i.toNat ≤ M.length
  · rw [Nat.min_eq_left h]
  · rw [Nat.min_eq_right (by omega), List.take_of_length_le (Nat.le_refl _), List.take_of_length_le (by omega)]
theorem pick_from (h0 : 0 ≤ i) : KBy.picked M.toArray (some i) none = (M.drop i.toNat).toArray := by
  rw [KBc.picked_eq]
  show ((M.drop (clipAt M.length i)).take (M.length - clipAt M.length i)).toArray = _
  rw [clip_i _ h0]
  congr 1
  rw [List.take_of_length_le (by rw [List.length_drop]; omega)]
  by_cases h : i.toNat ≤ M.length
  · rw [Nat.min_eq_left h]
  · rw [Nat.min_eq_right (by omega), List.drop_of_length_le (Nat.le_refl _), List.drop_of_length_le (by omega)]
theorem cut_to (F : Fr h₀ L s.heap m) (N : News h₀ L s.heap news) (h0 : 0 ≤ i) (hz : M.length ≤ 1000)
    (h : ∀ h' t' k, Fr h₀ L h' m → News h₀ L h' news → Q (.bytes (M.take i.toNat).toArray t') { s with heap := h', toks := k })
    (hs : subscripted slice false (.bytes M.toArray t) (.ref s.heap.objs.size) = operate [.ref s.heap.objs.size, .bytes M.toArray t] (getItem (.bytes M.toArray t) (.ref s.heap.objs.size)))
    (ht : ∀ r, letTemporaryGo value (.bytes M.toArray t) r = pure ()) :
    wpAny (model prog w) A (subscriptTail value slice (.bytes M.toArray t) (.ref s.heap.objs.size)) Q E { s with heap := s.heap.push { cls := .type "slice", data := .fields #[.none, .int i ti, .none] } } :=
  KBc.slice_K F N rfl .none (.int i ti) (by rw [KBw.ints_length, List.size_toArray]; omega) (fun h' t' k F' N' _ => by rw [pick_to h0]; exact h h' t' k F' N') hs ht
theorem cut_from (F : Fr h₀ L s.heap m) (N : News h₀ L s.heap news) (h0 : 0 ≤ i) (hz : M.length ≤ 1000)
    (h : ∀ h' t' k, Fr h₀ L h' m → News h₀ L h' news → Q (.bytes (M.drop i.toNat).toArray t') { s with heap := h', toks := k })
    (hs : subscripted slice false (.bytes M.toArray t) (.ref s.heap.objs.size) = operate [.ref s.heap.objs.size, .bytes M.toArray t] (getItem (.bytes M.toArray t) (.ref s.heap.objs.size)))
    (ht : ∀ r, letTemporaryGo value (.bytes M.toArray t) r = pure ()) :
    wpAny (model prog w) A (subscriptTail value slice (.bytes M.toArray t) (.ref s.heap.objs.size)) Q E { s with heap := s.heap.push { cls := .type "slice", data := .fields #[.int i ti, .none, .none] } } :=
  KBc.slice_K F N rfl (.int i ti) .none (by rw [KBw.ints_length, List.size_toArray]; omega) (fun h' t' k F' N' _ => by rw [pick_from h0]; exact h h' t' k F' N') hs ht
end
def mapL (c0 c1 c2 c3 : UInt8) : List UInt8 := [0, 0, 0, 0, 0, 0, 0, 0, 0, 0, 255, 255, c0, c1, c2, c3]
abbrev mapP : Array UInt8 := #[0, 0, 0, 0, 0, 0, 0, 0, 0, 0, 255, 255]
theorem starts_take {l : List UInt8} (h : 12 ≤ l.length) : startsB l.toArray mapP = (l.take 12 == mapP.toList) := by
  unfold startsB
  rw [if_neg (by show ¬ ((l.length : Nat) : Int) < ((12 : Nat) : Int); omega)]
  rw [Bool.eq_iff_iff, beq_iff_eq, beq_iff_eq]
  constructor
  · intro e
    have := congrArg Array.toList e
    simpa using this
  · intro e
    apply Array.toList_inj.mp
    simpa using e
theorem map_yes (c0 c1 c2 c3 : UInt8) : startsB (mapL c0 c1 c2 c3).toArray mapP = true := by
  rw [starts_take (Nat.le_of_ble_eq_true rfl)]
  rfl
theorem map_tail (c0 c1 c2 c3 : UInt8) : startsB ((mapL c0 c1 c2 c3).drop 1).toArray mapP = false := by
  rw [starts_take (Nat.le_of_ble_eq_true rfl)]
  show ([0, 0, 0, 0, 0, 0, 0, 0, 0, 255, 255, c0] == [(0 : UInt8), 0, 0, 0, 0, 0, 0, 0, 0, 0, 255, 255]) = false
  rw [beq_eq_false_iff_ne]
  intro e
  have h9 : some (255 : UInt8) = some 0 := congrArg (fun l => l[9]?) e
  exact absurd h9 (by decide)
theorem map_other (c0 c1 c2 c3 y : UInt8) {a : Nat} (h : a < 12) (h0 : y ≠ 0) (h1 : y ≠ 255) : startsB ((mapL c0 c1 c2 c3).take a ++ [y] ++ (mapL c0 c1 c2 c3).drop (a + 1)).toArray mapP = false := by
  have hl : (mapL c0 c1 c2 c3).length = 16 := rfl
  have h2 : ((mapL c0 c1 c2 c3).take a).length = a := by rw [List.length_take, hl]; omega
  rw [starts_take (by rw [List.length_append, List.length_append, h2, List.length_drop, hl]; simp; omega), beq_eq_false_iff_ne]
  intro e
  have e2 : ((((mapL c0 c1 c2 c3).take a ++ [y] ++ (mapL c0 c1 c2 c3).drop (a + 1)).take 12))[a]? = mapP.toList[a]? := by rw [e]
  rw [List.getElem?_take_of_lt h, List.append_assoc, List.getElem?_append_right (by omega), h2, Nat.sub_self] at e2
  replace e2 : some y = mapP.toList[a]? := e2
  have hm := List.mem_of_getElem? e2.symm
  have : ∀ z ∈ mapP.toList, z = 0 ∨ z = 255 := by decide
  rcases this y hm with q | q
  · exact h0 q
  · exact h1 q
theorem y_ok {n : Nat} (h : 7 ≤ n) (h2 : n < 255) : n.toUInt8 ≠ 0 ∧ n.toUInt8 ≠ 255 := by
  have e : n.toUInt8.toNat = n := by simp [Nat.toUInt8, UInt8.toNat_ofNat']; omega
  constructor
  · intro q
    rw [q] at e
    have : (0 : UInt8).toNat = 0 := rfl
    omega
  · intro q
    rw [q] at e
    have : (255 : UInt8).toNat = 255 := rfl
    omega
end Mine
end PartB5

section PartG4
open PySem PySem.W PyProof.Rows PySem.Calls PySem.Builtin
namespace Mine
set_option maxRecDepth 100000
set_option maxHeartbeats 400000
/-- The turn of the law's last loop. -/
def loopOf : List Stmt → List Stmt
  | [] => []
  | .For (.Tuple _ _ _) _ body _ _ :: _ => body
  | _ :: r => loopOf r
/-- What the law's frame holds in a turn of its last loop. -/
def turnM (wt : PySem.Str) (b : Array UInt8) (t1 t2 : Tok) (m : PySem.Str → Option Value) : PySem.Str → Option Value := fun y =>
  if y = Str.ofString "four" then some (.bytes b t2) else if y = Str.ofString "one" then some (.str wt t1) else m y
def TurnLaw (w : World) (h₀ : Heap) (L : Addr) (cn : PySem.Str) (cs : Scope) (fa : Addr) (ccd : Value) (body : List Stmt) : Prop :=
  ∀ (wt : PySem.Str) (c0 c1 c2 c3 : UInt8) (t1 t2 : Tok) (m : PySem.Str → Option Value) (news : List (Addr × Obj)) (s : Shared) (Q : Flow → Shared → Prop) (E : Value → Shared → Prop),
    GoodT wt → aton (utf8B wt) = some [c0, c1, c2, c3] → dec4 c0 c1 c2 c3 = wt → Fr h₀ L s.heap (turnM wt [c0, c1, c2, c3].toArray t1 t2 m) → News h₀ L s.heap news →
    (∀ h' tk (u1 u2 u3 : Option Value), Fr h₀ L h' (fun y => if y = Str.ofString "other" then u1 else if y = Str.ofString "at" then u2 else if y = Str.ofString "mapped" then u3 else turnM wt [c0, c1, c2, c3].toArray t1 t2 m y) → News h₀ L h' news → Q .next { s with heap := h', toks := tk }) →
    wpAny (model PySem.Challenge.rw_ab5008_01.row.prog w) (callerA.deeper (envOf cn cs L fa ccd)) (execs body (envOf cn cs L fa ccd)) Q E s
theorem with_turn {w : World} {h₀ : Heap} {L : Addr} {cn : PySem.Str} {cs : Scope} {fa : Addr} {ccd : Value} {stmts : List Stmt} {s : Shared} {Q : Flow → Shared → Prop} {E : Value → Shared → Prop} {h : Heap} {m : PySem.Str → Option Value} (_F : Fr h₀ L h m)
    (h1 : TurnLaw w h₀ L cn cs fa ccd (loopOf stmts)) (h2 : TurnLaw w h₀ L cn cs fa ccd (loopOf stmts) → wpAny (model PySem.Challenge.rw_ab5008_01.row.prog w) (callerA.deeper (envOf cn cs L fa ccd)) (execs stmts (envOf cn cs L fa ccd)) Q E s) :
    wpAny (model PySem.Challenge.rw_ab5008_01.row.prog w) (callerA.deeper (envOf cn cs L fa ccd)) (execs stmts (envOf cn cs L fa ccd)) Q E s := h2 h1
section
variable {M : Model} {A : Around} {E : Value → Shared → Prop} {s : Shared} {h₀ : Heap} {L : Addr} {m : PySem.Str → Option Value} {news : List (Addr × Obj)} {st : Stmt} {env : Env} {Q : Flow → Shared → Prop}
/-- A statement that goes on, and leaves the frame and the ledger as they were. -/
theorem to_nextN (_F : Fr h₀ L s.heap m) (_N : News h₀ L s.heap news) (h : wpAny M A (exec st env) (fun f s' => f = .next ∧ ∃ h' k, s' = { s with heap := h', toks := k } ∧ Fr h₀ L h' m ∧ News h₀ L h' news) E s)
    (c : ∀ h' k, Fr h₀ L h' m → News h₀ L h' news → Q .next { s with heap := h', toks := k }) : wpAny M A (exec st env) Q E s := by
  refine wpAny_mono h (fun f s' hv => ?_) fun _ _ e => e
  obtain ⟨rfl, h', k, rfl, hF, hN⟩ := hv
  exact c h' k hF hN
end
section
variable {w : World} {h₀ : Heap} {L : Addr} {m : PySem.Str → Option Value} {s : Shared} {p : Program} {loose : List PySem.Str} {mean : ExcName → Option Value} {mg mb : PySem.Str → Option Value} {cn : PySem.Str} {cs : Scope} {a : Addr} {ccd : Value} {Q E : Value → Shared → Prop} {news : List (Addr × Obj)} {b : Array UInt8} {tb : Tok} {v : Bool}
theorem w_mapped_e (K0 : Below callerA h₀ [] h₀) (F : Fr h₀ L s.heap m) (N : News h₀ L s.heap news) (KX : (hd.heap_39 w.params).In h₀) (T : Top p loose mean mg mb h₀) (e : startsB b mapP = v) (hk : cs.kind = .function)
    (h : ∀ h' tk, Fr h₀ L h' m → News h₀ L h' news → Q (.bool v) { s with heap := h', toks := tk }) :
    wpAny (model PySem.Challenge.rw_ab5008_01.row.prog w) (callerA.deeper (envOf cn cs L a ccd)) (call (.ref 301) [.bytes b tb]) Q E s :=
  w_mapped K0 F N KX T hk (by subst e; exact h)
theorem w_written_e {c0 c1 c2 c3 : UInt8} {wt : PySem.Str} (K0 : Below callerA h₀ [] h₀) (F : Fr h₀ L s.heap m) (N : News h₀ L s.heap news) (KX : (hd.heap_39 w.params).In h₀) (T : Top p loose mean mg mb h₀) (e : dec4 c0 c1 c2 c3 = wt) (hk : cs.kind = .function)
    (h : ∀ t h' tk, Fr h₀ L h' m → News h₀ L h' news → Q (.str wt t) { s with heap := h', toks := tk }) :
    wpAny (model PySem.Challenge.rw_ab5008_01.row.prog w) (callerA.deeper (envOf cn cs L a ccd)) (call (.ref 365) [.bytes [c0, c1, c2, c3].toArray tb]) Q E s :=
  w_written_good K0 F N KX T hk (by subst e; exact h)
end
theorem four_of {l : List UInt8} (h : l.length = 4) : ∃ c0 c1 c2 c3, l = [c0, c1, c2, c3] := by
  match l, h with
  | [a, b, c, d], _ => exact ⟨a, b, c, d, rfl⟩
end Mine
end PartG4

section PartW1
open PySem PySem.W PyProof.Rows PySem.Calls PySem.Builtin
namespace Mine
section
local macro_rules | `(tactic| walk_at "no such tree") => `(tactic| skip)
theorem fresh_W1 : True := by
  w_top off
  first | walk1 | trivial
end
set_option maxRecDepth 100000
set_option maxHeartbeats 8000000
local macro_rules | `(tactic| walk_at "getMethod bytes") => `(tactic| (k_here; first | with_reducible refine meth_split ?_ | with_reducible refine meth_isdigit ?_ | with_reducible refine meth_starts ?_))
local macro_rules | `(tactic| walk_at "getMethod str") => `(tactic| (k_here; with_reducible refine meth_encode ?_))
local macro_rules | `(tactic| walk_at "exec For Name Name cons nil") => `(tactic| (k_here; refine stopped ?_))
local macro_rules | `(tactic| walk_at "exec Raise some none") => `(tactic| (k_here; (with_reducible show wpAny _ _ (exec (Stmt.Raise (some (Expr.Name _ _)) none _) _) _ _ _); k_dflt (refine' raise_K ?F ?X ?T ?e ?q ?hh ?_ ?hk ?hx ?hd; (case F => k_asm); (case X => k_asm); (case T => k_asm); (case e => k_is); (case q => k_exc); (case hh => first | rfl | assumption); (case hk => rfl); (case hx => rfl); (case hd => decide); k_whole); intro hX' eX' mX'))
local macro_rules | `(tactic| walk_at "call builtin:bytes.isdigit") => `(tactic| (k_here; with_reducible refine call_isdigit ?_))
local macro_rules | `(tactic| walk_at "callWith") => `(tactic| (k_here; (with_reducible show wpAny _ _ (callWith _ (Value.builtin _) _ (backTo _ (starEach (_ :: _ :: _) _)) []) _ _ _); ks_star; k_dflt (refine' callWith_B ?_; k_whole)))
local macro_rules | `(tactic| walk_at "call builtin:_struct.pack") => `(tactic| (k_here; refine stopped ?_))
local macro_rules | `(tactic| walk_at "call type:int") => `(tactic| (k_here; (with_reducible show wpAny _ _ (call (Value.type "int") [Value.bytes _ _]) _ _ _); (refine int_part (by assumption) (by assumption) ?_)))
local macro_rules | `(tactic| walk_at "subscriptTail") => `(tactic| (k_here; (with_reducible show wpAny _ _ (subscriptTail _ _ (Value.bytes (List.toArray _) _) (Value.int _ _)) _ _ _); k_dflt (refine' item_B ?e ?a ?b ?z ?_ ?s ?tt; (case e => exact rfl); (case a => decide); (case b => decide); (case z => exact Nat.le_of_ble_eq_true rfl); (case s => with_unfolding_all rfl); (case tt => intro _; with_unfolding_all rfl); k_whole); intro _ _))
local macro_rules | `(tactic| walk_at "call ref") => `(tactic| (k_here; (rename Fr _ _ _ _ => fA'); (rename News _ _ _ _ => nA'); first
  | (refine w_oct_some (by assumption) fA' nA' (by assumption) (by assumption) (by assumption) (by assumption) rfl ?_; intro _ _ _ _ _)
  | (refine w_oct_none (by assumption) fA' nA' (by assumption) (by assumption) (by assumption) (by assumption) rfl ?_; intro _ _ _ _)
  | (refine w_take_str_some (by assumption) fA' nA' (by assumption) (by assumption) (by assumption) (by assumption) rfl ?_; intro _ _ _ _ _)
  | (refine w_take_str_none (by assumption) fA' nA' (by assumption) (by assumption) (by assumption) (by assumption) rfl ?_; intro _ _ _ _)
  | (refine w_take_bytes_some (by assumption) fA' nA' (by assumption) (by assumption) (by assumption) (by assumption) rfl ?_; intro _ _ _ _ _)
  | (refine w_take_bytes_none (by assumption) fA' nA' (by assumption) (by assumption) (by assumption) (by assumption) rfl ?_; intro _ _ _ _)
  | (refine w_canon_str_some (by assumption) fA' nA' (by assumption) (by assumption) (by assumption) (by assumption) (by assumption) rfl ?_; intro _ _ _ _ _)
  | (refine w_canon_str_none (by assumption) fA' nA' (by assumption) (by assumption) (by assumption) (by assumption) rfl ?_; intro _ _ _ _)
  | (refine w_canon_bytes_some (by assumption) fA' nA' (by assumption) (by assumption) (by assumption) (by assumption) (by assumption) rfl ?_; intro _ _ _ _ _)
  | (refine w_canon_bytes_none (by assumption) fA' nA' (by assumption) (by assumption) (by assumption) (by assumption) rfl ?_; intro _ _ _ _)
  | (refine w_isaddr (by assumption) fA' nA' (by assumption) (by assumption) (by assumption) (by assumption) rfl ?_; intro _ _ _ _)
  | (refine w_af (by assumption) fA' nA' (by assumption) (by assumption) (by assumption) (by assumption) rfl ?_; intro _ _ _ _ _)
  | (refine w_multi (by assumption) fA' nA' (by assumption) (by assumption) (by assumption) (by assumption) rfl ?_; intro _ _ _ _)
  | (refine w_pton (by assumption) fA' nA' (by assumption) (by assumption) (by assumption) (by assumption) rfl ?_; intro _ _ _ _ _)
  | (refine w_ntop (by assumption) fA' nA' (by assumption) (by assumption) (by first | assumption | rfl) rfl ?_; intro _ _ _ _ _)
  | (refine w_mapped_e (by assumption) fA' nA' (by assumption) (by assumption) (by assumption) rfl ?_; intro _ _ _ _)
  | (refine w_written_e (by assumption) fA' nA' (by assumption) (by assumption) (by assumption) rfl ?_; intro _ _ _ _ _)
  | (refine w_written_good (by assumption) fA' nA' (by assumption) (by assumption) rfl ?_; intro _ _ _ _ _)
  | (refine w_written_bad (by assumption) fA' nA' (by assumption) (by assumption) (by assumption) (by assumption) rfl ?_; intro _ _ _ _)
  | refine stopped ?_))


local macro_rules | `(tactic| walk_at "exec Assign cons ListComp") => `(tactic| (k_here; refine stopped ?_))
local macro_rules | `(tactic| walk_at "eval IfExp") => `(tactic| (k_here; (fail_if_success rename GoodT _ => gg'); refine stopped ?_))
local macro_rules | `(tactic| walk_at "CompSrc") => `(tactic| (k_here; (fail_if_success rename GoodT _ => gg'); refine stopped ?_))
local macro_rules | `(tactic| walk_at "subscriptTail") => `(tactic| (k_here; (with_reducible show wpAny _ _ (subscriptTail (PySem.Expr.BinOp _ _ _ _) _ _ _) _ _ _); refine stopped ?_))
local macro_rules | `(tactic| walk_at "call builtin:str.encode") => `(tactic| (k_here; refine call_encode (GoodT.clean (by assumption)) (Nat.le_trans (GoodT.size (by assumption)) (by decide)) ?_))
theorem byteArr_size (is : List Int) : (byteArr is).size = is.length := by unfold byteArr; simp
theorem four_bytes {B : Array UInt8} (h : B.size = 4) : ∃ c0 c1 c2 c3, B = [c0, c1, c2, c3].toArray := by
  obtain ⟨l⟩ := B
  match l, h with
  | [a, b, c, d], _ => exact ⟨a, b, c, d, rfl⟩
section
variable {w : World} {h₀ : Heap} {L : Addr} {m : Str → Option Value} {s : Shared} {p : Program} {loose : List Str} {mean : ExcName → Option Value} {mg mb : Str → Option Value} {cn : Str} {cs : Scope} {a : Addr} {ccd : Value} {Q E : Value → Shared → Prop} {news : List (Addr × Obj)} {is : List Int} {tb : Tok}
theorem w_written_any (K0 : Below callerA h₀ [] h₀) (F : Fr h₀ L s.heap m) (N : News h₀ L s.heap news) (KX : (hd.heap_39 w.params).In h₀) (T : Top p loose mean mg mb h₀) (hz : is.length ≤ 600) (hk : cs.kind = .function)
    (h4 : ∀ c0 c1 c2 c3, byteArr is = [c0, c1, c2, c3].toArray → ∀ t h' tk, Fr h₀ L h' m → News h₀ L h' news → Q (.str (dec4 c0 c1 c2 c3) t) { s with heap := h', toks := tk })
    (hb : is.length ≠ 4 → is.length ≤ 600 → ∀ h' tk, Fr h₀ L h' m → News h₀ L h' news → Q .none { s with heap := h', toks := tk }) :
    wpAny (model PySem.Challenge.rw_ab5008_01.row.prog w) (callerA.deeper (envOf cn cs L a ccd)) (call (.ref 365) [.bytes (byteArr is) tb]) Q E s := by
  by_cases q : (byteArr is).size = 4
  · obtain ⟨c0, c1, c2, c3, e⟩ := four_bytes q
    have h5 := h4 c0 c1 c2 c3 e
    rw [e]
    exact w_written_good K0 F N KX T hk h5
  · refine w_written_bad K0 F N KX T (by rw [byteArr_size]; exact hz) (by omega) hk (hb ?_ hz)
    rw [← byteArr_size is]; exact q
end
local macro_rules | `(tactic| walk_at "call builtin:str.join") => `(tactic| (k_here; refine stopped ?_))
local macro_rules | `(tactic| walk_at "eval ListComp") => `(tactic| (k_here; (with_reducible show wpAny _ _ (PySem.eval (PySem.Expr.ListComp (PySem.Expr.Call (PySem.Expr.Name (Str.ofString "str") _) _ _ _) _ _ _) _) _ _ _); refine stopped ?_))
local macro_rules | `(tactic| walk_at "call type:bytes") => `(tactic| (k_here; first | (refine call_bytes10 ?_; intro _ _) | ((rename Stop True => mm'); refine stopped ?_)))
local macro_rules | `(tactic| walk_at "binaryOp Add bytes bytes") => `(tactic| (k_here; (rename Stop True => mm'); refine stopped ?_))
local macro_rules | `(tactic| walk_at "subscriptTail") => `(tactic| (k_here; (with_reducible show wpAny _ _ (subscriptTail _ (Expr.Slice _ _ none _) (Value.bytes _ _) (Value.ref _)) _ _ _); (rename Stop True => mm'); refine stopped ?_))
local macro_rules | `(tactic| walk_at "exec If") => `(tactic| (k_here; (rename Stop True => mm'); (with_reducible show wpAny _ _ (exec (Stmt.If (Expr.BoolOp _ (Expr.UnaryOp _ _ _ :: Expr.Compare _ _ _ _ :: _) _) _ _ _) _) _ _ _); refine stopped ?_))
local macro_rules | `(tactic| walk_at "execs cons") => `(tactic| (k_here; (with_reducible show wpAny _ _ (execs (Stmt.If (Expr.BoolOp _ (Expr.UnaryOp _ _ _ :: Expr.Compare _ _ _ _ :: _) _) _ _ _ :: _) _) _ _ _); (fail_if_success rename Stop True => mm'); refine stopped ?_))
theorem stopped' {p : Prop} (h : p) : Stop p := h
theorem unstop {p : Prop} (h : Stop p) : p := h
theorem t : PySem.Challenge.rw_ab5008_01.Holds := hd (by
  k_go0
  rename Frag.In _ _ => KX
  rename Below _ _ _ _ => K0
  rename Top _ _ _ _ _ _ => KT0
  try dsimp only
  rename Fr _ _ _ _ => F0
  refine with_turn F0 ?_ (fun hT => ?_)
  · intro wt c0 c1 c2 c3 t1 t2 m news s Q E gw hw hdw F N done
    show wpAny _ _ (execs (_ :: _) _) _ _ _
    unfold turnM at F
    have mk : Stop True := trivial
    k_steps
    unfold Stop at ⊢
    refine to_nextN F N ?_ (fun h1 k1 F1 N1 => ?_)
    · rename Stop True => mk
      clear mk
      k_steps
      all_goals first
        | (rename Fr _ _ _ _ => FF; exact FF)
        | (rename News _ _ _ _ => FF; exact FF)
        | (exfalso; simp_all; omega)
        | (exfalso; simp_all; done)
    clear F N
    k_steps
    any_goals (rename (_ != _) = true => hq; exfalso; simp at hq; done)
    unfold Stop at ⊢
    rename Fr _ _ _ _ => F2
    rename News _ _ _ _ => N2
    refine bytes_K F2 N2 (vs := [.int 255 _, .int 255 _]) (ns := [255, 255]) (N2.isList (.head _)) (by l_ints) (by by_in) (by rw [sizeLine_eq]; exact Nat.le_of_ble_eq_true rfl) rfl fun h3 t3 k3 F3 N3 _ => ?_
    clear F2 N2
    refine bytes_add_K (b := [0, 0, 0, 0, 0, 0, 0, 0, 0, 0]) (c := [255, 255]) (d := [0, 0, 0, 0, 0, 0, 0, 0, 0, 0, 255, 255]) (Nat.le_of_ble_eq_true rfl) rfl (fun t4 k4 => ?_)
    k_steps
    unfold Stop at ⊢
    obtain ⟨M, hM⟩ : ∃ M, M = mapL c0 c1 c2 c3 := ⟨_, rfl⟩
    refine bytes_add_K (b := [0, 0, 0, 0, 0, 0, 0, 0, 0, 0, 255, 255]) (c := [c0, c1, c2, c3]) (d := M) (Nat.le_of_ble_eq_true rfl) (by rw [hM]; rfl) (fun t5 k5 => ?_)
    k_steps
    unfold Stop at ⊢
    have hML : M.length = 16 := by rw [hM]; rfl
    rename Fr _ _ _ _ => F5
    rename News _ _ _ _ => N5
    refine cut_to (s := ⟨_, _, _, _, _⟩) F5 N5 ?h0 (by omega) (fun h6 t6 k6 F6 N6 => ?_) ?hs ?ht
    case h0 => exact Int.fmod_nonneg (Int.natCast_nonneg _) (by decide)
    case hs => with_unfolding_all rfl
    case ht => intro _; with_unfolding_all rfl
    clear F5 N5
    generalize hP : M.take _ = P1
    k_steps
    unfold Stop at ⊢
    rename Fr _ _ _ _ => F7
    rename News _ _ _ _ => N7
    have hi0 : 0 ≤ ((c0.toNat : Nat) : Int).fmod 12 := Int.fmod_nonneg (Int.natCast_nonneg _) (by decide)
    have hi1 : ((c0.toNat : Nat) : Int).fmod 12 < 12 := Int.fmod_lt_of_pos _ (by decide)
    have hn0 : 0 ≤ ((c1.toNat : Nat) : Int).fmod 200 := Int.fmod_nonneg (Int.natCast_nonneg _) (by decide)
    have hn1 : ((c1.toNat : Nat) : Int).fmod 200 < 200 := Int.fmod_lt_of_pos _ (by decide)
    refine bytes_K F7 N7 (vs := [.int (7 + ((c1.toNat : Nat) : Int).fmod 200) _]) (ns := [7 + ((c1.toNat : Nat) : Int).fmod 200]) (N7.isList (.head _)) (by l_ints) (by simp only [List.forall_mem_cons, List.not_mem_nil, false_implies, implies_true, and_true]; omega) (by rw [sizeLine_eq]; exact Nat.le_of_ble_eq_true rfl) rfl fun h8 t8 k8 F8 N8 _ => ?_
    clear F7 N7
    obtain ⟨hy0, hy1⟩ := y_ok (n := (7 + ((c1.toNat : Nat) : Int).fmod 200).toNat) (by omega) (by omega)
    dsimp only [List.map]
    generalize hy : (7 + ((c1.toNat : Nat) : Int).fmod 200).toNat.toUInt8 = y at hy0 hy1 ⊢
    have hP1 : P1.length ≤ 16 := by rw [← hP, List.length_take]; omega
    obtain ⟨P2, hP2⟩ : ∃ P2, P2 = P1 ++ [y] := ⟨_, rfl⟩
    have hl2 : P2.length ≤ 17 := by rw [hP2, List.length_append]; simp; omega
    refine bytes_add_K (b := P1) (c := [y]) (d := P2) (by simp only [List.size_toArray, List.length_cons, List.length_nil]; omega) hP2.symm (fun t9 k9 => ?_)
    k_steps
    unfold Stop at ⊢
    rename Fr _ _ _ _ => F9
    rename News _ _ _ _ => N9
    refine cut_from (s := ⟨_, _, _, _, _⟩) F9 N9 ?h1 (by omega) (fun h6 t6 k6 F6 N6 => ?_) ?hs ?ht
    case h1 => omega
    case hs => with_unfolding_all rfl
    case ht => intro _; with_unfolding_all rfl
    clear F9 N9
    generalize hP3 : M.drop _ = P3
    have hl3 : P3.length ≤ 16 := by rw [← hP3, List.length_drop]; omega
    k_steps
    unfold Stop at ⊢
    obtain ⟨P4, hP4⟩ : ∃ P4, P4 = P2 ++ P3 := ⟨_, rfl⟩
    refine bytes_add_K (b := P2) (c := P3) (d := P4) (by simp only [List.size_toArray]; omega) hP4.symm (fun t9 k9 => ?_)
    have e1 : startsB M.toArray mapP = true := by rw [hM]; exact map_yes _ _ _ _
    have e2 : startsB P4.toArray mapP = false := by
      have := map_other c0 c1 c2 c3 y (a := (((c0.toNat : Nat) : Int).fmod 12).toNat) (by omega) hy0 hy1
      rw [hP4, hP2, ← hP, ← hP3, hM, show (((c0.toNat : Nat) : Int).fmod 12 + 1).toNat = (((c0.toNat : Nat) : Int).fmod 12).toNat + 1 by omega]
      exact this
    have e3 : startsB (M.drop 1).toArray mapP = false := by rw [hM]; exact map_tail _ _ _ _
    clear hP hP2 hP3 hP4 hy
    k_steps
    unfold Stop at ⊢
    rename Fr _ _ _ _ => F10
    rename News _ _ _ _ => N10
    refine cut_from (s := ⟨_, _, _, _, _⟩) F10 N10 ?h2 (by omega) (fun h6 t6 k6 F6 N6 => ?_) ?hs ?ht
    case h2 => decide
    case hs => with_unfolding_all rfl
    case ht => intro _; with_unfolding_all rfl
    clear F10 N10
    replace e3 : startsB (M.drop (1 : Int).toNat).toArray mapP = false := e3
    k_steps
    rename Fr _ _ _ _ => F11
    rename News _ _ _ _ => N11
    exact done _ _ _ _ _ F11 (fun p hp => N11 p (.tail _ (.tail _ hp)))
  · k_steps
    unfold Stop
    refine to_int ?_ (fun b t k => ?_)
    · refine wpAny_IfExp ?_
      k_steps
      all_goals exact ⟨_, _, _, rfl, rfl⟩
    try dsimp only
    k_steps
    unfold Stop
    k_dflt (refine LCg.Assign_ListComp_U (F₀ := by k_asm) (by rfl) (by with_unfolding_all rfl) (by with_unfolding_all rfl) (by decide) (by rfl) (by decide) (by rfl) (by rfl) (by rfl) ?_)
    k_steps
    unfold Stop
    k_dflt (refine LCg.CompSrc.ledger (by rfl) (by k_asm) (by k_asm) (by k_mem) (by kcf_size) ?_; intro g'; (refine' kct_list _ (by first | assumption | l_ints) (fun k' t' I' oI' C' oC' D' m' ys' h' tk' E' hk' hC' hx' F' N' off' ne' hMark' => ?_) ?_); (all_goals (try (simp only [LCg.Off3, and_true] at off'))); kcf_last)
    · k_steps
    refine' fin_texts (fun k => ok_tab (by decide +kernel) okW_empty) (fun ysA wsA hsA hwA hlA => ?_)
    have hlA' : wsA.length ≤ 14 := by rw [hlA, List.length_take]; omega
    rename News _ _ _ _ => Nx
    rename Fr _ _ _ _ => Fx
    clear Nx Fx
    intro D1 hp1 tk1 F1 N1 off1
    clear hlA
    k_steps
    unfold Stop
    rename Fr _ _ _ _ => F2
    refine to_text F2 ?_ (fun x tx hp2 tk2 gx F3 N3 => ?_)
    · refine wpAny_IfExp ?_
      k_steps
      · rename News _ _ _ _ => N4
        rename Fr _ _ _ _ => F4
        refine add_texts (ys := ysA) (ys2 := [.str (Str.ofString "0") _, .str (Str.ofString "9") _, .str (Str.ofString "255") _, .str (Str.ofString "1") _]) F4 N4 (N4.isList (.tail _ (.head _))) (N4.isList (.head _)) hsA (.cons _ _ (.cons _ _ (.cons _ _ (.cons _ _ .nil)))) hlA' (by decide) (fun D5 us5 h5 F5 N5 l5 hs5 => ?_)
        clear N4 F4
        k_steps
        unfold Stop
        rename News _ _ _ _ => N6
        rename Fr _ _ _ _ => F6
        refine slice_texts F6 N6 (N6.isList (.head _)) hs5 (by decide) ?hz (fun D7 us7 h7 F7 N7 hs7 => ?_) ?hs
        case hz => rw [List.length_append]; exact Nat.le_trans (Nat.add_le_add hlA' (Nat.le_refl 4)) (by decide)
        case hs => with_unfolding_all rfl
        k_steps
        unfold Stop
        refine join_texts (N7.isList (.head _)) hs7 ?hw ?hn dot_ok.2 dot_ok.1 (fun t' k hg => ?_)
        case hw =>
          intro w hw
          rcases List.mem_append.mp (List.mem_of_mem_take hw) with q | q
          · exact hwA w q
          · exact lit_ok w q
        case hn => rw [List.length_take]; exact Nat.le_trans (Nat.min_le_left _ _) (by decide)
        exact ⟨_, _, _, _, rfl, rfl, hg, F7⟩
      · rename Fr _ _ _ _ => F4
        unfold Stop
        refine join_texts (N1.isList (.head _)) hsA hwA hlA' nil_ok.2 nil_ok.1 (fun t' k hg => ?_)
        exact ⟨_, _, _, _, rfl, rfl, hg, F4⟩
    · clear off1
      have gs := gx.size
      rcases ho : octs x with _ | l
      · have ha := octs_aton gx
        rw [ho] at ha
        replace ha := ha.symm
        k_steps
        unfold Stop
        rename Fr _ _ _ _ => F8
        rename News _ _ _ _ => N8
        refine w_written_any K0 F8 N8 KX KT0 ?hz rfl (fun c0 c1 c2 c3 hB t9 h9 k9 F9 N9 => ?_) (fun h4 hz9 h9 k9 F9 N9 => ?_)
        case hz => rw [List.length_map, List.length_take]; exact Nat.le_trans (Nat.min_le_left _ _) (by omega)
        · rw [hB] at F9 
          clear F8 N8
          have gw := dec_good c0 c1 c2 c3
          have hw := dec_back c0 c1 c2 c3
          generalize hdw : dec4 c0 c1 c2 c3 = wt at gw hw ⊢
          k_steps
          unfold Stop
          rename Fr _ _ _ _ => F10
          rename News _ _ _ _ => N10
          refine comp_bytes (b := [c0, c1, c2, c3].toArray) F10 N10 (by with_unfolding_all rfl) (by decide) (by rfl) (by decide) (by rfl) rfl (Nat.le_of_ble_eq_true rfl) ?_
          k_steps
          · exact F10
          · exact N10
          refine kct_rest (ks := KBw.bInts [c0, c1, c2, c3].toArray) (fun k => Str.ofString (toString k)) (KBw.ints_length _) (fun i v _ hv => bytes_at i v hv) (fun k' t' I' oI' C' oC' D' m' ys' h' tk' E' hk' hC' hx' F' N' off' ne' hMark' => ?_) ?_
          · refine str_one KX KT0 F' N' (.tail _ (.head _)) hC' hx' (KBw.ints_in hk') rfl (fun t9' k9' => ?_)
            exact ⟨_, _, _, rfl, F', N', off', trivial, rfl, _, rfl⟩
          · show ∀ ys, _ → _ → LCg.FinE _ _ _ _ _ ys _
            clear F10 N10
            intro ysB hcB _ D11 h11 k11 F11 N11 o11
            replace hcB := stopped' hcB
            k_steps
            unfold Stop at ⊢
            refine join_octets (N11.isList (.head _)) (unstop hcB) (fun t' k => ?_)
            clear hcB o11
            rw [hdw]
            k_steps
            unfold Stop at ⊢
            rename Fr _ _ _ _ => F12
            rename News _ _ _ _ => N12
            refine hT wt c0 c1 c2 c3 _ _ _ _ _ _ _ gw hw hdw F12 N12 (fun h13 k13 u1 u2 u3 F13 N13 => ?_)
            clear F12 N12
            k_steps
        · clear F8 N8
          have mk : Stop True := trivial
          k_steps
          any_goals (exfalso; refine h4 ?_; rw [List.length_map]; omega)
          unfold Stop at ⊢
          rename Fr _ _ _ _ => F10
          rename News _ _ _ _ => N10
          have hz0 : (byteArr _).size ≤ 600 := Nat.le_trans (Nat.le_of_eq (byteArr_size _)) hz9
          generalize hB : byteArr _ = B at F10 hz0 ⊢
          obtain ⟨Bl⟩ := B
          replace hz0 : Bl.length ≤ 600 := hz0
          refine bytes_K F10 N10 (vs := [.int 224 _, .int 239 _, .int 240 _, .int 0 _]) (ns := [224, 239, 240, 0]) (N10.isList (.head _)) (by l_ints) (by by_in) (by rw [sizeLine_eq]; exact Nat.le_of_ble_eq_true rfl) rfl fun h3 t3 k3 F3 N3 _ => ?_
          clear F10 N10
          obtain ⟨M, hM⟩ : ∃ M, M = Bl ++ [224, 239, 240, 0] := ⟨_, rfl⟩
          have hML : M.length = Bl.length + 4 := by rw [hM, List.length_append]; rfl
          refine bytes_add_K (b := Bl) (c := [224, 239, 240, 0]) (d := M) (by simp only [List.size_toArray, List.length_cons, List.length_nil]; omega) hM.symm (fun t4 k4 => ?_)
          clear hB
          k_steps
          unfold Stop at ⊢
          rename Fr _ _ _ _ => F11
          rename News _ _ _ _ => N11
          refine cut_to (s := ⟨_, _, _, _, _⟩) F11 N11 (by decide) (by omega) (fun h6 t6 k6 F6 N6 => ?_) ?hs ?ht
          case hs => with_unfolding_all rfl
          case ht => intro _; with_unfolding_all rfl
          clear F11 N11
          generalize hP : M.take _ = P1
          have hP4 : P1.length = 4 := by rw [← hP, List.length_take, show (4 : Int).toNat = 4 from rfl]; omega
          clear hP
          obtain ⟨c0, c1, c2, c3, rfl⟩ := four_of hP4
          have gw := dec_good c0 c1 c2 c3
          have hw := dec_back c0 c1 c2 c3
          generalize hdw : dec4 c0 c1 c2 c3 = wt at gw hw
          rename Stop True => mk
          clear mk
          k_steps
          unfold Stop
          rename Fr _ _ _ _ => F10
          rename News _ _ _ _ => N10
          refine comp_bytes (b := [c0, c1, c2, c3].toArray) F10 N10 (by with_unfolding_all rfl) (by decide) (by rfl) (by decide) (by rfl) rfl (Nat.le_of_ble_eq_true rfl) ?_
          k_steps
          · exact F10
          · exact N10
          refine kct_rest (ks := KBw.bInts [c0, c1, c2, c3].toArray) (fun k => Str.ofString (toString k)) (KBw.ints_length _) (fun i v _ hv => bytes_at i v hv) (fun k' t' I' oI' C' oC' D' m' ys' h' tk' E' hk' hC' hx' F' N' off' ne' hMark' => ?_) ?_
          · refine str_one KX KT0 F' N' (.tail _ (.head _)) hC' hx' (KBw.ints_in hk') rfl (fun t9' k9' => ?_)
            exact ⟨_, _, _, rfl, F', N', off', trivial, rfl, _, rfl⟩
          · show ∀ ys, _ → _ → LCg.FinE _ _ _ _ _ ys _
            clear F10 N10
            intro ysB hcB _ D11 h11 k11 F11 N11 o11
            replace hcB := stopped' hcB
            k_steps
            unfold Stop at ⊢
            refine join_octets (N11.isList (.head _)) (unstop hcB) (fun t' k => ?_)
            clear hcB o11
            rw [hdw]
            k_steps
            unfold Stop at ⊢
            rename Fr _ _ _ _ => F12
            rename News _ _ _ _ => N12
            refine hT wt c0 c1 c2 c3 _ _ _ _ _ _ _ gw hw hdw F12 N12 (fun h13 k13 u1 u2 u3 F13 N13 => ?_)
            clear F12 N12
            k_steps
      · have ha := octs_aton gx
        rw [ho] at ha
        replace ha := ha.symm
        obtain ⟨b0, b1, b2, b3, rfl⟩ := aton_len ha
        have hx := aton_text gx ha
        have hcan : ntoaS [b0, b1, b2, b3] = x := hx
        k_steps
        unfold Stop
        rename Fr _ _ _ _ => F8
        rename News _ _ _ _ => N8
        refine w_written_any K0 F8 N8 KX KT0 ?hz rfl (fun c0 c1 c2 c3 hB t9 h9 k9 F9 N9 => ?_) (fun h4 hz9 h9 k9 F9 N9 => ?_)
        case hz => rw [List.length_map, List.length_take]; exact Nat.le_trans (Nat.min_le_left _ _) (by omega)
        · rw [hB] at F9 
          clear F8 N8
          have gw := dec_good c0 c1 c2 c3
          have hw := dec_back c0 c1 c2 c3
          generalize hdw : dec4 c0 c1 c2 c3 = wt at gw hw ⊢
          k_steps
          unfold Stop
          rename Fr _ _ _ _ => F10
          rename News _ _ _ _ => N10
          refine comp_bytes (b := [c0, c1, c2, c3].toArray) F10 N10 (by with_unfolding_all rfl) (by decide) (by rfl) (by decide) (by rfl) rfl (Nat.le_of_ble_eq_true rfl) ?_
          k_steps
          · exact F10
          · exact N10
          refine kct_rest (ks := KBw.bInts [c0, c1, c2, c3].toArray) (fun k => Str.ofString (toString k)) (KBw.ints_length _) (fun i v _ hv => bytes_at i v hv) (fun k' t' I' oI' C' oC' D' m' ys' h' tk' E' hk' hC' hx' F' N' off' ne' hMark' => ?_) ?_
          · refine str_one KX KT0 F' N' (.tail _ (.head _)) hC' hx' (KBw.ints_in hk') rfl (fun t9' k9' => ?_)
            exact ⟨_, _, _, rfl, F', N', off', trivial, rfl, _, rfl⟩
          · show ∀ ys, _ → _ → LCg.FinE _ _ _ _ _ ys _
            clear F10 N10
            intro ysB hcB _ D11 h11 k11 F11 N11 o11
            replace hcB := stopped' hcB
            k_steps
            unfold Stop at ⊢
            refine join_octets (N11.isList (.head _)) (unstop hcB) (fun t' k => ?_)
            clear hcB o11
            rw [hdw]
            k_steps
            unfold Stop at ⊢
            rename Fr _ _ _ _ => F12
            rename News _ _ _ _ => N12
            refine hT wt c0 c1 c2 c3 _ _ _ _ _ _ _ gw hw hdw F12 N12 (fun h13 k13 u1 u2 u3 F13 N13 => ?_)
            clear F12 N12
            k_steps
            unfold Stop at ⊢
            rename Fr _ _ _ _ => F14
            rename News _ _ _ _ => N14
            refine hT x b0 b1 b2 b3 _ _ _ _ _ _ _ gx ha hx F14 N14 (fun h15 k15 v1 v2 v3 F15 N15 => ?_)
            clear F14 N14
            k_steps
        · clear F8 N8
          have mk : Stop True := trivial
          k_steps
          any_goals (exfalso; refine h4 ?_; rw [List.length_map]; omega)
          unfold Stop at ⊢
          rename Fr _ _ _ _ => F10
          rename News _ _ _ _ => N10
          have hz0 : (byteArr _).size ≤ 600 := Nat.le_trans (Nat.le_of_eq (byteArr_size _)) hz9
          generalize hB : byteArr _ = B at F10 hz0 ⊢
          obtain ⟨Bl⟩ := B
          replace hz0 : Bl.length ≤ 600 := hz0
          refine bytes_K F10 N10 (vs := [.int 224 _, .int 239 _, .int 240 _, .int 0 _]) (ns := [224, 239, 240, 0]) (N10.isList (.head _)) (by l_ints) (by by_in) (by rw [sizeLine_eq]; exact Nat.le_of_ble_eq_true rfl) rfl fun h3 t3 k3 F3 N3 _ => ?_
          clear F10 N10
          obtain ⟨M, hM⟩ : ∃ M, M = Bl ++ [224, 239, 240, 0] := ⟨_, rfl⟩
          have hML : M.length = Bl.length + 4 := by rw [hM, List.length_append]; rfl
          refine bytes_add_K (b := Bl) (c := [224, 239, 240, 0]) (d := M) (by simp only [List.size_toArray, List.length_cons, List.length_nil]; omega) hM.symm (fun t4 k4 => ?_)
          clear hB
          k_steps
          unfold Stop at ⊢
          rename Fr _ _ _ _ => F11
          rename News _ _ _ _ => N11
          refine cut_to (s := ⟨_, _, _, _, _⟩) F11 N11 (by decide) (by omega) (fun h6 t6 k6 F6 N6 => ?_) ?hs ?ht
          case hs => with_unfolding_all rfl
          case ht => intro _; with_unfolding_all rfl
          clear F11 N11
          generalize hP : M.take _ = P1
          have hP4 : P1.length = 4 := by rw [← hP, List.length_take, show (4 : Int).toNat = 4 from rfl]; omega
          clear hP
          obtain ⟨c0, c1, c2, c3, rfl⟩ := four_of hP4
          have gw := dec_good c0 c1 c2 c3
          have hw := dec_back c0 c1 c2 c3
          generalize hdw : dec4 c0 c1 c2 c3 = wt at gw hw
          rename Stop True => mk
          clear mk
          k_steps
          unfold Stop
          rename Fr _ _ _ _ => F10
          rename News _ _ _ _ => N10
          refine comp_bytes (b := [c0, c1, c2, c3].toArray) F10 N10 (by with_unfolding_all rfl) (by decide) (by rfl) (by decide) (by rfl) rfl (Nat.le_of_ble_eq_true rfl) ?_
          k_steps
          · exact F10
          · exact N10
          refine kct_rest (ks := KBw.bInts [c0, c1, c2, c3].toArray) (fun k => Str.ofString (toString k)) (KBw.ints_length _) (fun i v _ hv => bytes_at i v hv) (fun k' t' I' oI' C' oC' D' m' ys' h' tk' E' hk' hC' hx' F' N' off' ne' hMark' => ?_) ?_
          · refine str_one KX KT0 F' N' (.tail _ (.head _)) hC' hx' (KBw.ints_in hk') rfl (fun t9' k9' => ?_)
            exact ⟨_, _, _, rfl, F', N', off', trivial, rfl, _, rfl⟩
          · show ∀ ys, _ → _ → LCg.FinE _ _ _ _ _ ys _
            clear F10 N10
            intro ysB hcB _ D11 h11 k11 F11 N11 o11
            replace hcB := stopped' hcB
            k_steps
            unfold Stop at ⊢
            refine join_octets (N11.isList (.head _)) (unstop hcB) (fun t' k => ?_)
            clear hcB o11
            rw [hdw]
            k_steps
            unfold Stop at ⊢
            rename Fr _ _ _ _ => F12
            rename News _ _ _ _ => N12
            refine hT wt c0 c1 c2 c3 _ _ _ _ _ _ _ gw hw hdw F12 N12 (fun h13 k13 u1 u2 u3 F13 N13 => ?_)
            clear F12 N12
            k_steps
            unfold Stop at ⊢
            rename Fr _ _ _ _ => F14
            rename News _ _ _ _ => N14
            refine hT x b0 b1 b2 b3 _ _ _ _ _ _ _ gx ha hx F14 N14 (fun h15 k15 v1 v2 v3 F15 N15 => ?_)
            clear F14 N14
            k_steps)

end Mine
end PartW1

theorem PySem.Challenge.cw_ab5008_01_holds : PySem.Challenge.rw_ab5008_01.Holds := by
  exact Mine.t
