import PyProof.Rows.All
import Wide.All
import OpenK.AllK
import Wide.FinOn
import Lean
import PySem.Challenge.RW_ad6016_01
/- ad6016-01: the law over ScratchDB. Each section opens with its own walking lines; every def of the program and of the law is walked once, as a contract; sections 62 to 72 lift the contracts to an abstract state (Mv) with an invariant (InvAt); the last section walks the law. -/
open PySem PySem.W PySem.Calls PyProof.Rows
set_option Elab.async false
set_option maxRecDepth 100000
set_option maxHeartbeats 40000000
namespace Mine
open_top hd for PySem.Challenge.rw_ad6016_01
/-- open_top has turned the top's own lines on; the contracts are walked without them -/
theorem walk_plain : True := by
  w_top off
  trivial
section
/-- every object but those of S stays -/
def KeepBut (S : List Addr) (h h' : Heap) : Prop := ∀ b o, h.get? b = some o → b ∉ S → h'.get? b = some o
theorem KeepBut.refl {S : List Addr} {h : Heap} : KeepBut S h h := fun _ _ e _ => e
theorem KeepBut.trans {S S' : List Addr} {h h' h'' : Heap} (x : KeepBut S h h') (y : KeepBut S' h' h'') (s1 : ∀ b ∈ S, b ∈ S') : KeepBut S' h h'' :=
  fun b o e n => y b o (x b o e fun q => n (s1 b q)) n
theorem KeepBut.all {h h' : Heap} (x : KeepBut [] h h') : ∀ b o, h.get? b = some o → h'.get? b = some o := fun b o e => x b o e (fun q => nomatch q)

/-- every object but the frames fs stays; these stay up to their slots -/
structure Turned (fs : List Addr) (h h' : Heap) : Prop where
  other : KeepBut fs h h'
  up : ∀ b o, h.get? b = some o → ∃ sl, h'.get? b = some { o with slots := sl }

/-- a place from which a def may be called: the frame at hand, the top's objects, room for k frames more -/
structure At (Kf : Params → Frag) (w : World) (mean : ExcName → Option Value) (mg mb : Str → Option Value) (A : Around) (cn : Str) (cs : Scope) (a : Addr) (ccd : Value) (outer : List Env) (A₀ : Around) (base h₀ : Heap) (L : Addr) (m : Str → Option Value) (s : Shared) (k : Nat) : Prop where
  B : Below A₀ base outer h₀
  F : Fr h₀ L s.heap m
  X : Frag.In (Kf w.params) h₀
  T : Top hd.view_39 (looseW hd.view_39 [Str.ofString "_law_keys"]) mean mg mb h₀
  XB : Frag.In (Kf w.params) base
  TB : Top hd.view_39 (looseW hd.view_39 [Str.ofString "_law_keys"]) mean mg mb base
  D : KtsDicts (outer.filterMap (·.frame)) h₀
  hh : A.handled = none
  hA : A.frames = some (envOf cn cs L a ccd :: outer)
  hck : cs.kind = .function
  hd : A.depth + k < recursionLimit
  hu : A.units + 10 * k < cLine

section
variable {prog : Program} {w : World} {A₀ A : Around} {s : Shared} {base h₀ : Heap} {outer : List Env} {L : Addr} {m : Str → Option Value} {cn : Str} {cs : Scope} {a : Addr} {ccd : Value} {news : List (Addr × Obj)} {K : Frag}
  {p : Program} {loose : List Str} {mean : ExcName → Option Value} {mg mb : Str → Option Value}
  {R : Result → Shared → Prop} {name qual : Str} {params : Arguments} {body : List Stmt} {scope : Scope} {dV kV doc pm cdv ct oc : Value} {an od : Option Addr} {osl : Array (Option Value)} {f : Addr} {args : Args} {binds : List (Str × Value)}

theorem enter (B : Below A₀ base outer h₀) (F : Fr h₀ L s.heap m) (X₀ : K.In h₀) (N : News h₀ L s.heap news) (T : Top p loose mean mg mb h₀) (D : KtsDicts (outer.filterMap (·.frame)) h₀) (hA : A.frames = some (envOf cn cs L a ccd :: outer)) (hck : cs.kind = .function)
    (ho : K.lookup f = some ⟨oc, od, .func (fnOf name qual params body scope dV kV doc pm an cdv ct), osl⟩) (hcd : codeIn K cdv qual = true) (hroom : A.depth < recursionLimit)
    (hbind : BindsTo s (fnOf name qual params body scope dV kV doc pm an cdv ct) args binds) (hloc : ∀ y ∈ binds, scope.names.lookup y.1 = some .local)
    (h : ∀ g L' h₁, KeepBut (news.map (·.1)) s.heap g → Fr g L' h₁ (fun y => binds.reverse.lookup y) → News g L' h₁ news → Below A base (envOf cn cs L a ccd :: outer) g → K.In g → Top p loose mean mg mb g → KtsDicts ((envOf cn cs L a ccd :: outer).filterMap (·.frame)) g →
      wpAny (model prog w) (A.deeper (envOf qual scope L' f cdv)) (execs body (envOf qual scope L' f cdv))
        (fun fl s' => R (.ok (.ret (match fl with | .ret v => v | _ => .none))) s')
        (fun e s' => wpAny (model prog w) (A.deeper (envOf qual scope L' f cdv)) (leaving (envOf qual scope L' f cdv) e) (fun _ s'' => R (.error e) s'') (fun e' s'' => R (.error e') s'') s')
        { s with heap := h₁, toks := s.toks + binds.length })
    (hco : scope.isCoroutine = false) (hgen : scope.isGenerator = false) (hk : scope.kind = .function)
    (hcell : ∀ x ∈ scope.names, x.2 ≠ .cell) : codeAny (model prog w) A (.call (.ref f) args) R s := by
  have X := X₀.keeps F.keep
  refine codeAny_call_def (fd := fnOf name qual params body scope dV kV doc pm an cdv ct) (body := body) (binds := binds) hroom (X _ _ ho) rfl (T.nolimit.keeps F.keep) (codeRec_of X hcd) rfl hbind hcell hloc (fun h₁ hns hk₁ => ?_) hco hgen hk
  obtain ⟨oL, es, ep, hLg, hLd, hN, hNs, st, B₂⟩ := kts_enter B F N hA hck
  exact wpAny_mono (h _ s.heap.objs.size h₁ (fun b o e n => hideAll_get _ e n) ⟨hns, fun b o e => hk₁ b o (of_hideAll _ e), Nat.le_of_eq (hideAll_size _ _)⟩
    (fun q hq => ⟨hk₁ _ _ (N q hq).1, Nat.ne_of_lt (Heap.lt_size (N q hq).1), hideAll_none _ (List.mem_map_of_mem hq)⟩) B₂ (X₀.keeps st) (T.keeps st) (fun b hb => by
      rcases kts_mem hb with rfl | hb
      · exact ⟨oL, es, ep, hLg, hLd⟩
      · obtain ⟨o, es', n', ho', hd'⟩ := D b hb
        exact ⟨o, es', n', st b o ho', hd'⟩)) (fun _ _ x => x) fun _ _ y => y
end

/-- what a call of a def has left as it was -/
theorem keep_of {h₀ g g' h h' : Heap} {L L' L₂ : Addr} {m' : Str → Option Value} {news news' : List (Addr × Obj)} {S : List Addr} (N : News h₀ L h news) (hG : KeepBut (news.map (·.1)) h g) (F' : Fr g L' h' m') (N' : News g' L₂ h' news')
    (hsub : ∀ p ∈ news, p.1 ∈ S ∨ p ∈ news') : KeepBut S h h' := fun b o e nS => by
  by_cases hb : b ∈ news.map (·.1)
  · obtain ⟨p, hp, rfl⟩ := List.mem_map.mp hb
    have e2 := (N p hp).1
    rw [e] at e2
    rcases hsub p hp with q | q
    · exact absurd q nS
    · exact (Option.some.inj e2) ▸ (N' p q).1
  · exact F'.keep b o (hG b o e hb)
/-- the same, behind an exception that was caught: the frames stay up to their slots -/
theorem turned_of {h₀ g g' g₂ h h' : Heap} {L L' L₂ : Addr} {m' : Str → Option Value} {news news' : List (Addr × Obj)} {fs : List Addr} (N : News h₀ L h news) (hG : KeepBut (news.map (·.1)) h g) (T : KtsTurn fs g g₂) (F' : Fr g₂ L' h' m') (N' : News g' L₂ h' news')
    (hsub : ∀ p ∈ news, p ∈ news') : Turned fs h h' := by
  have key : ∀ b o, h.get? b = some o → b ∈ news.map (·.1) → h'.get? b = some o := fun b o e hb => by
    obtain ⟨p, hp, rfl⟩ := List.mem_map.mp hb
    have e2 := (N p hp).1
    rw [e] at e2
    exact (Option.some.inj e2) ▸ (N' p (hsub p hp)).1
  refine ⟨fun b o e nS => ?_, fun b o e => ?_⟩
  · by_cases hb : b ∈ news.map (·.1)
    · exact key b o e hb
    · exact F'.keep b o (T.other b o (hG b o e hb) nS)
  · by_cases hb : b ∈ news.map (·.1)
    · exact ⟨o.slots, key b o e hb⟩
    · obtain ⟨sl, hs⟩ := T.up (hG b o e hb)
      exact ⟨sl, F'.keep b _ hs⟩
theorem Turned.ofKeep {fs : List Addr} {h h' : Heap} (x : KeepBut [] h h') : Turned fs h h' := ⟨fun b o e _ => x.all b o e, fun b o e => ⟨o.slots, x.all b o e⟩⟩

/-- a read-only step: frame and ledger stay -/
theorem fr_keep {h₀ h h' : Heap} {L : Addr} {m : Str → Option Value} (F : Fr h₀ L h m) (k : KeepBut [] h h') : Fr h₀ L h' m := F.keeps k.all
theorem news_keep {h₀ h h' : Heap} {L : Addr} {news : List (Addr × Obj)} (N : News h₀ L h news) (k : KeepBut [] h h') : News h₀ L h' news := fun p hp => ⟨k.all _ _ (N p hp).1, (N p hp).2⟩
theorem news_sub {h₀ h : Heap} {L : Addr} {news l : List (Addr × Obj)} (N : News h₀ L h news) (hs : ∀ p ∈ l, p ∈ news) : News h₀ L h l := fun p hp => N p (hs p hp)

/-- a caught exception: the ground is laid anew -/
theorem at_turn {Kf : Params → Frag} {w : World} {mean : ExcName → Option Value} {mg mb : Str → Option Value} {A : Around} {cn : Str} {cs : Scope} {a : Addr} {ccd : Value} {outer : List Env} {A₀ : Around} {base h₀ : Heap} {L : Addr} {m : Str → Option Value} {s : Shared} {h' : Heap}
    (B : Below A₀ base outer h₀) (F : Fr h₀ L s.heap m) (XB : Frag.In (Kf w.params) base) (TB : Top hd.view_39 (looseW hd.view_39 [Str.ofString "_law_keys"]) mean mg mb base) (D : KtsDicts (outer.filterMap (·.frame)) h₀)
    (T : Turned ((envOf cn cs L a ccd :: outer).filterMap (·.frame)) s.heap h') :
    ∃ h₀', KtsTurn (outer.filterMap (·.frame)) h₀ h₀' ∧ Fr h₀' L h' m ∧ (∀ news, News h₀ L s.heap news → News h₀' L h' news) ∧ Below A₀ base outer h₀' ∧ Frag.In (Kf w.params) h₀' ∧ Top hd.view_39 (looseW hd.view_39 [Str.ofString "_law_keys"]) mean mg mb h₀' ∧ KtsDicts (outer.filterMap (·.frame)) h₀' := by
  obtain ⟨g', T', F', B'⟩ := kts_ground (name := cn) (scope := cs) (a := a) (cd := ccd) (B := hideAll s.heap ((envOf cn cs L a ccd :: outer).filterMap (·.frame))) B F (fun b o e n => hideAll_get _ e n)
    (fun b o e => T.other b o (of_hideAll _ e) fun q => by rw [hideAll_none _ q] at e; cases e) (fun b o e _ => T.up b o e)
  refine ⟨g', T', F', fun news N p hp => ⟨T.other _ _ (N p hp).1 fun q => ?_, (N p hp).2.1, T'.none_ _ (N p hp).2.2⟩, B', XB.keeps B'.stays, TB.keeps B'.stays, D.turn T'⟩
  rcases kts_mem q with z | z
  · exact (N p hp).2.1 z
  · obtain ⟨o, ho, _⟩ := (B.frames.mem z).2
    rw [(N p hp).2.2] at ho; cases ho

abbrev wrE (w : World) (t1 t2 : Tok) (wv : Value) (c : Addr) : List DictEntry :=
  [⟨PyData.keyHash w.params (Str.ofString "wrapped_db"), .str (Str.ofString "wrapped_db") t1, wv⟩, ⟨PyData.keyHash w.params (Str.ofString "cache"), .str (Str.ofString "cache") t2, .ref c⟩]

abbrev bk (w : World) := bytesKind PySem.Challenge.rw_ad6016_01.row.prog w
theorem bk_is (w : World) (b : Array UInt8) (t : Tok) : (bytesKind PySem.Challenge.rw_ad6016_01.row.prog w).is b.toList (.bytes b t) = true := by simp [bytesKind, isBytes]
theorem ne_s {a b : Addr} (h : a ≠ b) : b ≠ a := Ne.symm h
theorem some_is {α : Type} {o : Option α} {v : α} (h : o = some v) : o.isSome = true := by rw [h]; rfl
theorem none_is {α : Type} {o : Option α} (h : o = none) : o.isSome = false := by rw [h]; rfl
/-- what a dict's value may be: none or octets -/
def Vk (v : Option Value) : Prop := v = none ∨ v = some .none ∨ ∃ bb tt, v = some (.bytes bb tt)
end
section
local macro_rules | `(tactic| k_ne) => `(tactic| first | assumption | exact ne_s (by assumption))
local macro_rules | `(tactic| ktr_enter) => `(tactic| (refine' enter ?k1 ?k2 ?k3 ?k4 ?k5 ?kD ?kA ?kK ?k6 ?k7 ?k8 ?k9 ?kB ?_ ?c2 ?c3 ?c4 ?c5; (case kA => exact rfl); (case kK => first | assumption | exact rfl); (case k1 => k_asm); (case k2 => k_asm); (case k3 => k_asm); (case k4 => k_asm); (case k5 => k_asm); (case kD => k_asm); (case k6 => k_is); (case k7 => k_is); (case k8 => ktr_room); (case k9 => first | exact BindsTo.of_eq rfl | exact binds_K (by k_in) rfl (by k_is) rfl rfl rfl); (case c5 => decide); (case kB => exact locs rfl); (case c2 => exact rfl); (case c3 => exact rfl); (case c4 => exact rfl); k_whole; intro g' L' h' hG' F' N' B' X' T' D'; (try dsimp only); (try k_fold)))
local macro_rules | `(tactic| tb_rel) => `(tactic| first | exact List.forall_mem_nil _ | (refine List.forall_mem_cons.mpr ⟨by first | exact Or.inr (by k_mem) | exact Or.inl (by k_mem), ?_⟩; tb_rel))
local macro_rules | `(tactic| walk_at "setItem ref bytes") => `(tactic| (k_here; k_dflt (refine' kda_set (knd := bytesKind _ _) ?F ?N ?U ?d (bk_is _ _ _) ?z ?_; (case F => k_asm); (case N => k_asm); (case U => k_updF); (case d => k_asm); (case z => assumption)); intro h' o' F' N' hd'; (try dsimp only at N')))
local macro_rules | `(tactic| walk_at "compareOp In bytes ref") => `(tactic| (k_here; k_dflt (refine kda_in (knd := bytesKind _ _) (by k_asm) (by k_mem) (by k_asm) (by k_asm) (bk_is _ _ _) _ (by first | exact some_is (by assumption) | exact none_is (by assumption)) ?_)))
local macro_rules | `(tactic| walk_at "subscriptTail") => `(tactic| (k_here; (with_reducible show wpAny _ _ (subscriptTail _ _ (Value.ref _) (Value.bytes _ _)) _ _ _); k_dflt (refine kda_item (knd := bytesKind _ _) (by k_asm) (by k_mem) (by k_asm) (bk_is _ _ _) (by assumption) ?_)))
local macro_rules | `(tactic| tb_start) => `(tactic| exact keep_of (by assumption) (by assumption) (by assumption) (by assumption) (by tb_rel))
local macro_rules | `(tactic| ktf_step) => `(tactic| (intro h' tk' hk'; have F' := fr_keep (by assumption) hk'; have N' := news_keep (by assumption) hk'))
local macro_rules | `(tactic| ktn_step) => `(tactic| (refine' At.mk ?B ?F ?X ?T ?XB ?TB ?D ?hh ?hA ?hck ?hd ?hu; (case B => k_asm); (case F => k_asm); (case X => k_asm); (case T => k_asm); (case XB => k_asm); (case TB => k_asm); (case D => k_asm); (case hh => exact rfl); (case hA => exact rfl); (case hck => first | assumption | exact rfl); (case hd => ktr_room); (case hu => ktr_units)))
local macro_rules | `(tactic| k_room) => `(tactic| ktr_room)
local macro_rules | `(tactic| k_units) => `(tactic| ktr_units)
/-- key in scratch (over a dict) -/
theorem sc_in1 {w : World} {mean : ExcName → Option Value} {mg mb : Str → Option Value} {A : Around} {cn : Str} {cs : Scope} {a : Addr} {ccd : Value} {outer : List Env} {A₀ : Around} {base h₀ : Heap} {L : Addr} {m : Str → Option Value}
    {s : Shared} {x d c dB : Addr} {t1 t2 n t : Nat} {kb : Array UInt8} {oc oB : Obj} {kc kB : List (List UInt8 × Value)} {Q : Value → Shared → Prop} {E : Value → Shared → Prop} :
    At hd.heap_39 w mean mg mb A cn cs a ccd outer A₀ base h₀ L m s 10 →
    News h₀ L s.heap [(x, instObj 67 d), (d, dictOf (wrE w t1 t2 (.ref dB) c) n), (c, oc), (dB, oB)] → oc.IsDictOf (bytesKind PySem.Challenge.rw_ad6016_01.row.prog w) kc → oB.IsDictOf (bytesKind PySem.Challenge.rw_ad6016_01.row.prog w) kB →
    (c == sysModules) = false → (dB == sysModules) = false →
    ∀ (b : Bool) (vc vB : Option Value), valueAt kc kb.toList = vc → valueAt kB kb.toList = vB → Vk vc →
    b = (match vc with | some (.bytes _ _) => true | _ => vB.isSome) →
    (∀ h' tk, KeepBut [] s.heap h' → Q (.bool b) { s with heap := h', toks := tk }) →
    wpAny (model PySem.Challenge.rw_ad6016_01.row.prog w) A (compareOp .In (.bytes kb t) (.ref x)) Q E s := by
  k_fill
  intro H N hd hdB lc lB b vc vB hvc hvB hv hb hret
  obtain ⟨B, F, X, T, XB, TB, D, hh, hA, hck, hdp, hun⟩ := H
  obtain ⟨hdl, dp, fr, gd, un⟩ := A
  dsimp only at hh hA hdp hun
  subst hh hA
  refine' in_K F X ?I ?hS ?hF ?_
  case I => k_inst
  case hS => k_is
  case hF => k_is
  rcases hv with rfl | rfl | ⟨bb, tt, rfl⟩ <;> cases vB <;> dsimp only at hb <;> subst hb
  all_goals (refine wpAny_call ?_; k_dflt ktr_enter; k_steps)
  all_goals exact hret _ _ (by tb_start)
end
section
local macro_rules | `(tactic| k_ne) => `(tactic| first | assumption | exact ne_s (by assumption))
local macro_rules | `(tactic| ktr_enter) => `(tactic| (refine' enter ?k1 ?k2 ?k3 ?k4 ?k5 ?kD ?kA ?kK ?k6 ?k7 ?k8 ?k9 ?kB ?_ ?c2 ?c3 ?c4 ?c5; (case kA => exact rfl); (case kK => first | assumption | exact rfl); (case k1 => k_asm); (case k2 => k_asm); (case k3 => k_asm); (case k4 => k_asm); (case k5 => k_asm); (case kD => k_asm); (case k6 => k_is); (case k7 => k_is); (case k8 => ktr_room); (case k9 => first | exact BindsTo.of_eq rfl | exact binds_K (by k_in) rfl (by k_is) rfl rfl rfl); (case c5 => decide); (case kB => exact locs rfl); (case c2 => exact rfl); (case c3 => exact rfl); (case c4 => exact rfl); k_whole; intro g' L' h' hG' F' N' B' X' T' D'; (try dsimp only); (try k_fold)))
local macro_rules | `(tactic| tb_rel) => `(tactic| first | exact List.forall_mem_nil _ | (refine List.forall_mem_cons.mpr ⟨by first | exact Or.inr (by k_mem) | exact Or.inl (by k_mem), ?_⟩; tb_rel))
local macro_rules | `(tactic| walk_at "setItem ref bytes") => `(tactic| (k_here; k_dflt (refine' kda_set (knd := bytesKind _ _) ?F ?N ?U ?d (bk_is _ _ _) ?z ?_; (case F => k_asm); (case N => k_asm); (case U => k_updF); (case d => k_asm); (case z => assumption)); intro h' o' F' N' hd'; (try dsimp only at N')))
local macro_rules | `(tactic| walk_at "compareOp In bytes ref") => `(tactic| (k_here; k_dflt (refine kda_in (knd := bytesKind _ _) (by k_asm) (by k_mem) (by k_asm) (by k_asm) (bk_is _ _ _) _ (by first | exact some_is (by assumption) | exact none_is (by assumption)) ?_)))
local macro_rules | `(tactic| walk_at "subscriptTail") => `(tactic| (k_here; (with_reducible show wpAny _ _ (subscriptTail _ _ (Value.ref _) (Value.bytes _ _)) _ _ _); k_dflt (refine kda_item (knd := bytesKind _ _) (by k_asm) (by k_mem) (by k_asm) (bk_is _ _ _) (by assumption) ?_)))
local macro_rules | `(tactic| tb_start) => `(tactic| exact keep_of (by assumption) (by assumption) (by assumption) (by assumption) (by tb_rel))
local macro_rules | `(tactic| ktf_step) => `(tactic| (intro h' tk' hk'; have F' := fr_keep (by assumption) hk'; have N' := news_keep (by assumption) hk'))
local macro_rules | `(tactic| ktn_step) => `(tactic| (refine' At.mk ?B ?F ?X ?T ?XB ?TB ?D ?hh ?hA ?hck ?hd ?hu; (case B => k_asm); (case F => k_asm); (case X => k_asm); (case T => k_asm); (case XB => k_asm); (case TB => k_asm); (case D => k_asm); (case hh => exact rfl); (case hA => exact rfl); (case hck => first | assumption | exact rfl); (case hd => ktr_room); (case hu => ktr_units)))
local macro_rules | `(tactic| k_room) => `(tactic| ktr_room)
local macro_rules | `(tactic| k_units) => `(tactic| ktr_units)
local macro_rules | `(tactic| walk_at "compareOp In bytes ref") => `(tactic| (k_here; k_dflt (refine' sc_in1 ?At ?N ?d ?dB ?lc ?lB _ _ _ ?hvc ?hvB ?hv ?hb ?_; (case At => ktn_step); (case N => exact news_sub (by k_asm) (by k_allIn)); (case d => k_asm); (case dB => k_asm); (case lc => k_asm); (case lB => k_asm); (case hvc => assumption); (case hvB => assumption); (case hv => assumption); (case hb => first | exact (rfl : true = _) | exact (rfl : false = _)); ktf_step)))

/-- key in scratch (over a scratch over a dict) -/
theorem sc_in2 {w : World} {mean : ExcName → Option Value} {mg mb : Str → Option Value} {A : Around} {cn : Str} {cs : Scope} {a : Addr} {ccd : Value} {outer : List Env} {A₀ : Around} {base h₀ : Heap} {L : Addr} {m : Str → Option Value}
    {s : Shared} {x d c x1 d1 c1 dB : Addr} {t1 t2 n t t3 t4 n1 : Nat} {kb : Array UInt8} {oc oc1 oB : Obj} {kc kc1 kB : List (List UInt8 × Value)} {Q : Value → Shared → Prop} {E : Value → Shared → Prop} :
    At hd.heap_39 w mean mg mb A cn cs a ccd outer A₀ base h₀ L m s 20 →
    News h₀ L s.heap [(x, instObj 67 d), (d, dictOf (wrE w t1 t2 (.ref x1) c) n), (c, oc), (x1, instObj 67 d1), (d1, dictOf (wrE w t3 t4 (.ref dB) c1) n1), (c1, oc1), (dB, oB)] → oc.IsDictOf (bytesKind PySem.Challenge.rw_ad6016_01.row.prog w) kc → oc1.IsDictOf (bytesKind PySem.Challenge.rw_ad6016_01.row.prog w) kc1 → oB.IsDictOf (bytesKind PySem.Challenge.rw_ad6016_01.row.prog w) kB →
    (c == sysModules) = false → (c1 == sysModules) = false → (dB == sysModules) = false →
    ∀ (b : Bool) (vc v1 vB : Option Value), valueAt kc kb.toList = vc → valueAt kc1 kb.toList = v1 → valueAt kB kb.toList = vB → Vk vc → Vk v1 →
    b = (match vc with | some (.bytes _ _) => true | _ => match v1 with | some (.bytes _ _) => true | _ => vB.isSome) →
    (∀ h' tk, KeepBut [] s.heap h' → Q (.bool b) { s with heap := h', toks := tk }) →
    wpAny (model PySem.Challenge.rw_ad6016_01.row.prog w) A (compareOp .In (.bytes kb t) (.ref x)) Q E s := by
  k_fill
  intro H N hd hd1 hdB lc lc1 lB b vc v1 vB hvc hv1 hvB hv hv' hb hret
  obtain ⟨B, F, X, T, XB, TB, D, hh, hA, hck, hdp, hun⟩ := H
  obtain ⟨hdl, dp, fr, gd, un⟩ := A
  dsimp only at hh hA hdp hun
  subst hh hA
  refine' in_K F X ?I ?hS ?hF ?_
  case I => k_inst
  case hS => k_is
  case hF => k_is
  have hv0 := hv'
  rcases hv with rfl | rfl | ⟨bb, tt, rfl⟩ <;> dsimp only at hb <;> (try (rcases hv' with rfl | rfl | ⟨bb', tt', rfl⟩ <;> dsimp only at hb <;> (try cases vB))) <;> subst hb
  all_goals (refine wpAny_call ?_; k_dflt ktr_enter; k_steps)
  all_goals exact hret _ _ (by tb_start)
end
section
local macro_rules | `(tactic| walk_at "no such step") => `(tactic| skip)
local macro_rules | `(tactic| walk_at "no such step") => `(tactic| skip)
local macro_rules | `(tactic| k_ne) => `(tactic| first | assumption | exact ne_s (by assumption))
local macro_rules | `(tactic| ktr_enter) => `(tactic| (refine' enter ?k1 ?k2 ?k3 ?k4 ?k5 ?kD ?kA ?kK ?k6 ?k7 ?k8 ?k9 ?kB ?_ ?c2 ?c3 ?c4 ?c5; (case kA => exact rfl); (case kK => first | assumption | exact rfl); (case k1 => k_asm); (case k2 => k_asm); (case k3 => k_asm); (case k4 => k_asm); (case k5 => k_asm); (case kD => k_asm); (case k6 => k_is); (case k7 => k_is); (case k8 => ktr_room); (case k9 => first | exact BindsTo.of_eq rfl | exact binds_K (by k_in) rfl (by k_is) rfl rfl rfl); (case c5 => decide); (case kB => exact locs rfl); (case c2 => exact rfl); (case c3 => exact rfl); (case c4 => exact rfl); k_whole; intro g' L' h' hG' F' N' B' X' T' D'; (try dsimp only); (try k_fold)))
local macro_rules | `(tactic| tb_rel) => `(tactic| first | exact List.forall_mem_nil _ | (refine List.forall_mem_cons.mpr ⟨by first | exact Or.inr (by k_mem) | exact Or.inl (by k_mem), ?_⟩; tb_rel))
local macro_rules | `(tactic| walk_at "setItem ref bytes") => `(tactic| (k_here; k_dflt (refine' kda_set (knd := bytesKind _ _) ?F ?N ?U ?d (bk_is _ _ _) ?z ?_; (case F => k_asm); (case N => k_asm); (case U => k_updF); (case d => k_asm); (case z => assumption)); intro h' o' F' N' hd'; (try dsimp only at N')))
local macro_rules | `(tactic| walk_at "compareOp In bytes ref") => `(tactic| (k_here; k_dflt (refine kda_in (knd := bytesKind _ _) (by k_asm) (by k_mem) (by k_asm) (by k_asm) (bk_is _ _ _) _ (by first | exact some_is (by assumption) | exact none_is (by assumption)) ?_)))
local macro_rules | `(tactic| walk_at "subscriptTail") => `(tactic| (k_here; (with_reducible show wpAny _ _ (subscriptTail _ _ (Value.ref _) (Value.bytes _ _)) _ _ _); k_dflt (refine kda_item (knd := bytesKind _ _) (by k_asm) (by k_mem) (by k_asm) (bk_is _ _ _) (by assumption) ?_)))
local macro_rules | `(tactic| tb_start) => `(tactic| exact keep_of (by assumption) (by assumption) (by assumption) (by assumption) (by tb_rel))
local macro_rules | `(tactic| ktf_step) => `(tactic| (intro h' tk' hk'; have F' := fr_keep (by assumption) hk'; have N' := news_keep (by assumption) hk'))
local macro_rules | `(tactic| ktn_step) => `(tactic| (refine' At.mk ?B ?F ?X ?T ?XB ?TB ?D ?hh ?hA ?hck ?hd ?hu; (case B => k_asm); (case F => k_asm); (case X => k_asm); (case T => k_asm); (case XB => k_asm); (case TB => k_asm); (case D => k_asm); (case hh => exact rfl); (case hA => exact rfl); (case hck => first | assumption | exact rfl); (case hd => ktr_room); (case hu => ktr_units)))
local macro_rules | `(tactic| k_room) => `(tactic| ktr_room)
local macro_rules | `(tactic| k_units) => `(tactic| ktr_units)
/-- scratch[key] = value -/
theorem sc_set {w : World} {mean : ExcName → Option Value} {mg mb : Str → Option Value} {A : Around} {cn : Str} {cs : Scope} {a : Addr} {ccd : Value} {outer : List Env} {A₀ : Around} {base h₀ : Heap} {L : Addr} {m : Str → Option Value}
    {s : Shared} {x d c : Addr} {t1 t2 n t : Nat} {wv v : Value} {kb : Array UInt8} {oc : Obj} {kvs : List (List UInt8 × Value)} {Q : Unit → Shared → Prop} {E : Value → Shared → Prop} :
    At hd.heap_39 w mean mg mb A cn cs a ccd outer A₀ base h₀ L m s 10 →
    News h₀ L s.heap [(x, instObj 67 d), (d, dictOf (wrE w t1 t2 wv c) n), (c, oc)] → c ≠ x → c ≠ d → oc.IsDictOf (bytesKind PySem.Challenge.rw_ad6016_01.row.prog w) kvs → kvs.length ≤ sizeLine →
    (∀ h' tk oc', KeepBut [c] s.heap h' → h'.get? c = some oc' → oc'.IsDictOf (bytesKind PySem.Challenge.rw_ad6016_01.row.prog w) (stored kvs kb.toList v) → Q () { s with heap := h', toks := tk }) →
    wpAny (model PySem.Challenge.rw_ad6016_01.row.prog w) A (setItem (.ref x) (.bytes kb t) v) Q E s := by
  k_fill
  intro H N n1 n2 hd hz hret
  obtain ⟨B, F, X, T, XB, TB, D, hh, hA, hck, hdp, hun⟩ := H
  obtain ⟨hdl, dp, fr, gd, un⟩ := A
  dsimp only at hh hA hdp hun
  subst hh hA
  refine' ksp_setItem F X ?I ?hQ ?hS ?hF ?_
  case I => k_inst
  case hQ => k_is
  case hS => k_is
  case hF => k_is
  refine wpAny_call ?_
  k_dflt ktr_enter
  k_steps
  exact hret _ _ _ (by tb_start) (News.get (by assumption) (by k_mem)) (by assumption)

theorem own_del {M : Model} {A : Around} {E : Value → Shared → Prop} {s : Shared} {K : Frag} {x C L f : Addr} {h₀ : Heap} {m : Str → Option Value} {ox : Obj} {od : Option Obj} {i : Value} {Q : Unit → Shared → Prop} (F : Fr h₀ L s.heap m) (X₀ : K.In h₀) (I : InstAt s.heap x ox C od) (hq : noSeq K C = true) (hs : findIn K (.ref C) "__delitem__" = some (some (.ref f))) (hf : isFn K (.ref f) = true)
    (h : wpAny M A (call (.ref f) [.ref x, i]) (fun _ s' => Q () s') E s) : wpAny M A (delItem (.ref x) i) Q E s := by
  have X := X₀.keeps F.keep
  unfold delItem sequenceKey
  refine wpAny_holding (wpAny_bind (wpAny_bind (I.type.here ?_)))
  refine wpAny_bind ((anyM_none X hq).here ?_)
  rw [if_pos (show (!false) = true from rfl)]
  exact wpAny_pure (wpAny_bind (special_fn X I hs (beq_iff_eq.mp hf) (wpAny_mono h (fun _ _ z => wpAny_pure z) fun _ _ z => z)))

/-- del scratch[key] -/
theorem sc_del {w : World} {mean : ExcName → Option Value} {mg mb : Str → Option Value} {A : Around} {cn : Str} {cs : Scope} {a : Addr} {ccd : Value} {outer : List Env} {A₀ : Around} {base h₀ : Heap} {L : Addr} {m : Str → Option Value}
    {s : Shared} {x d c : Addr} {t1 t2 n t : Nat} {wv : Value} {kb : Array UInt8} {oc : Obj} {kvs : List (List UInt8 × Value)} {Q : Unit → Shared → Prop} {E : Value → Shared → Prop} :
    At hd.heap_39 w mean mg mb A cn cs a ccd outer A₀ base h₀ L m s 10 →
    News h₀ L s.heap [(x, instObj 67 d), (d, dictOf (wrE w t1 t2 wv c) n), (c, oc)] → c ≠ x → c ≠ d → oc.IsDictOf (bytesKind PySem.Challenge.rw_ad6016_01.row.prog w) kvs → kvs.length ≤ sizeLine →
    (∀ h' tk oc', KeepBut [c] s.heap h' → h'.get? c = some oc' → oc'.IsDictOf (bytesKind PySem.Challenge.rw_ad6016_01.row.prog w) (stored kvs kb.toList .none) → Q () { s with heap := h', toks := tk }) →
    wpAny (model PySem.Challenge.rw_ad6016_01.row.prog w) A (delItem (.ref x) (.bytes kb t)) Q E s := by
  k_fill
  intro H N n1 n2 hd hz hret
  obtain ⟨B, F, X, T, XB, TB, D, hh, hA, hck, hdp, hun⟩ := H
  obtain ⟨hdl, dp, fr, gd, un⟩ := A
  dsimp only at hh hA hdp hun
  subst hh hA
  refine' own_del F X ?I ?hQ ?hS ?hF ?_
  case I => k_inst
  case hQ => k_is
  case hS => k_is
  case hF => k_is
  refine wpAny_call ?_
  k_dflt ktr_enter
  k_steps
  exact hret _ _ _ (by tb_start) (News.get (by assumption) (by k_mem)) (by assumption)
end
section
local macro_rules | `(tactic| walk_at "no such step") => `(tactic| skip)
local macro_rules | `(tactic| walk_at "no such step") => `(tactic| skip)
local macro_rules | `(tactic| walk_at "no such step") => `(tactic| skip)
local macro_rules | `(tactic| k_ne) => `(tactic| first | assumption | exact ne_s (by assumption))
local macro_rules | `(tactic| ktr_enter) => `(tactic| (refine' enter ?k1 ?k2 ?k3 ?k4 ?k5 ?kD ?kA ?kK ?k6 ?k7 ?k8 ?k9 ?kB ?_ ?c2 ?c3 ?c4 ?c5; (case kA => exact rfl); (case kK => first | assumption | exact rfl); (case k1 => k_asm); (case k2 => k_asm); (case k3 => k_asm); (case k4 => k_asm); (case k5 => k_asm); (case kD => k_asm); (case k6 => k_is); (case k7 => k_is); (case k8 => ktr_room); (case k9 => first | exact BindsTo.of_eq rfl | exact binds_K (by k_in) rfl (by k_is) rfl rfl rfl); (case c5 => decide); (case kB => exact locs rfl); (case c2 => exact rfl); (case c3 => exact rfl); (case c4 => exact rfl); k_whole; intro g' L' h' hG' F' N' B' X' T' D'; (try dsimp only); (try k_fold)))
local macro_rules | `(tactic| tb_rel) => `(tactic| first | exact List.forall_mem_nil _ | (refine List.forall_mem_cons.mpr ⟨by first | exact Or.inr (by k_mem) | exact Or.inl (by k_mem), ?_⟩; tb_rel))
local macro_rules | `(tactic| walk_at "setItem ref bytes") => `(tactic| (k_here; k_dflt (refine' kda_set (knd := bytesKind _ _) ?F ?N ?U ?d (bk_is _ _ _) ?z ?_; (case F => k_asm); (case N => k_asm); (case U => k_updF); (case d => k_asm); (case z => assumption)); intro h' o' F' N' hd'; (try dsimp only at N')))
local macro_rules | `(tactic| walk_at "compareOp In bytes ref") => `(tactic| (k_here; k_dflt (refine kda_in (knd := bytesKind _ _) (by k_asm) (by k_mem) (by k_asm) (by k_asm) (bk_is _ _ _) _ (by first | exact some_is (by assumption) | exact none_is (by assumption)) ?_)))
local macro_rules | `(tactic| walk_at "subscriptTail") => `(tactic| (k_here; (with_reducible show wpAny _ _ (subscriptTail _ _ (Value.ref _) (Value.bytes _ _)) _ _ _); k_dflt (refine kda_item (knd := bytesKind _ _) (by k_asm) (by k_mem) (by k_asm) (bk_is _ _ _) (by assumption) ?_)))
local macro_rules | `(tactic| tb_start) => `(tactic| exact keep_of (by assumption) (by assumption) (by assumption) (by assumption) (by tb_rel))
local macro_rules | `(tactic| ktf_step) => `(tactic| (intro h' tk' hk'; have F' := fr_keep (by assumption) hk'; have N' := news_keep (by assumption) hk'))
local macro_rules | `(tactic| ktn_step) => `(tactic| (refine' At.mk ?B ?F ?X ?T ?XB ?TB ?D ?hh ?hA ?hck ?hd ?hu; (case B => k_asm); (case F => k_asm); (case X => k_asm); (case T => k_asm); (case XB => k_asm); (case TB => k_asm); (case D => k_asm); (case hh => exact rfl); (case hA => exact rfl); (case hck => first | assumption | exact rfl); (case hd => ktr_room); (case hu => ktr_units)))
local macro_rules | `(tactic| k_room) => `(tactic| ktr_room)
local macro_rules | `(tactic| k_units) => `(tactic| ktr_units)
/-- what is asked of a store over a dict -/
def look1 (vc vB : Option Value) : Option Value := match vc with | some (.bytes b t) => some (.bytes b t) | _ => vB
/-- what is due is what is told -/
def Due (res : Option Value) (due : Value) : Prop := (res = none ∧ due = .none) ∨ ∃ b t u, res = some (.bytes b t) ∧ due = .bytes b u
theorem getItem_bytes_missing {prog : Program} {w : World} {A : Around} {E : Value → Shared → Prop} {s : Shared} {h₀ : Heap} {L d : Addr} {news : List (Addr × Obj)} {o : Obj} {kvs : List (List UInt8 × Value)} {kb : Array UInt8} {t : Tok} {value slice : PySem.Expr} {Q : Value → Shared → Prop}
    (N : News h₀ L s.heap news) (hp : (d, o) ∈ news) (hd : o.IsDictOf (bytesKind prog w) kvs) (lo : (d == sysModules) = false) (hh : A.handled = none) (hl : valueAt kvs kb.toList = none)
    (h : ∀ h' e, Heap.NewExc s.heap h' e "KeyError" → E (.ref e) { s with heap := h', toks := s.toks + 1 })
    (hs : subscripted slice false (.ref d) (.bytes kb t) = operate [.ref d, .bytes kb t] (getItem (.ref d) (.bytes kb t)) := by with_unfolding_all rfl) (hg : ∀ r, letTemporaryGo value (.ref d) r = pure () := by intro _; with_unfolding_all rfl) :
    wpAny (model prog w) A (subscriptTail value slice (.ref d) (.bytes kb t)) Q E s :=
  have hD := kda_dict N hp hd
  subscriptTail_builtin hD.typeIs slot_dict_getitem.lookup (wpAny_getItem_missing_of (knd := bytesKind prog w) (by simp [bytesKind, isBytes]) lo hh hD.mapOf hl h) hs hg

local macro_rules | `(tactic| walk_at "subscriptTail") => `(tactic| (k_here; (with_reducible show wpAny _ _ (subscriptTail _ _ (Value.ref _) (Value.bytes _ _)) _ _ _); k_dflt (refine getItem_bytes_missing (by k_asm) (by k_mem) (by k_asm) (by k_asm) (by rfl) (by assumption) ?_); intro h' e' x'))

/-- _law_asked(scratch over a dict, key, due) -/
theorem asked1 {w : World} {mean : ExcName → Option Value} {mg mb : Str → Option Value} {A : Around} {cn : Str} {cs : Scope} {a : Addr} {ccd : Value} {outer : List Env} {A₀ : Around} {base h₀ : Heap} {L : Addr} {m : Str → Option Value}
    {s : Shared} {x d c dB : Addr} {t1 t2 n t : Nat} {kb : Array UInt8} {due : Value} {oc oB : Obj} {kc kB : List (List UInt8 × Value)} {Q : Value → Shared → Prop} {E : Value → Shared → Prop} :
    At hd.heap_39 w mean mg mb A cn cs a ccd outer A₀ base h₀ L m s 20 →
    News h₀ L s.heap [(x, instObj 67 d), (d, dictOf (wrE w t1 t2 (.ref dB) c) n), (c, oc), (dB, oB)] → oc.IsDictOf (bytesKind PySem.Challenge.rw_ad6016_01.row.prog w) kc → oB.IsDictOf (bytesKind PySem.Challenge.rw_ad6016_01.row.prog w) kB →
    (c == sysModules) = false → (dB == sysModules) = false →
    ∀ (vc vB : Option Value), valueAt kc kb.toList = vc → valueAt kB kb.toList = vB → Vk vc → Due (look1 vc vB) due →
    (∀ h' tk, Turned ((envOf cn cs L a ccd :: outer).filterMap (·.frame)) s.heap h' → Q (.bool true) { s with heap := h', toks := tk }) →
    wpAny (model PySem.Challenge.rw_ad6016_01.row.prog w) A (call (.ref 105) [.ref x, .bytes kb t, due]) Q E s := by
  k_fill
  intro H N hd hdB lc lB vc vB hvc hvB hv hdue hret
  obtain ⟨B, F, X, T, XB, TB, D, hh, hA, hck, hdp, hun⟩ := H
  obtain ⟨hdl, dp, fr, gd, un⟩ := A
  dsimp only at hh hA hdp hun
  subst hh hA
  rcases hv with rfl | rfl | ⟨bb, tt, rfl⟩ <;> (unfold look1 at hdue; dsimp only at hdue; rcases hdue with ⟨e1, e2⟩ | ⟨b, t', u, e1, e2⟩) <;> (first | (cases e1; done) | skip) <;> (try subst e1) <;> (try cases e1) <;> (subst e2)
  all_goals (refine wpAny_call ?_; k_dflt ktr_enter; k_steps)
  all_goals (try simp only [beq_self_eq_true])
  all_goals first
    | exact hret _ _ (turned_of (by assumption) (by assumption) (by assumption) (by assumption) (by assumption) (by k_allIn))
    | exact hret _ _ (Turned.ofKeep (by tb_start))
end
section
local macro_rules | `(tactic| walk_at "no such step") => `(tactic| skip)
local macro_rules | `(tactic| walk_at "no such step") => `(tactic| skip)
local macro_rules | `(tactic| walk_at "no such step") => `(tactic| skip)
local macro_rules | `(tactic| walk_at "no such step") => `(tactic| skip)
local macro_rules | `(tactic| k_ne) => `(tactic| first | assumption | exact ne_s (by assumption))
local macro_rules | `(tactic| ktr_enter) => `(tactic| (refine' enter ?k1 ?k2 ?k3 ?k4 ?k5 ?kD ?kA ?kK ?k6 ?k7 ?k8 ?k9 ?kB ?_ ?c2 ?c3 ?c4 ?c5; (case kA => exact rfl); (case kK => first | assumption | exact rfl); (case k1 => k_asm); (case k2 => k_asm); (case k3 => k_asm); (case k4 => k_asm); (case k5 => k_asm); (case kD => k_asm); (case k6 => k_is); (case k7 => k_is); (case k8 => ktr_room); (case k9 => first | exact BindsTo.of_eq rfl | exact binds_K (by k_in) rfl (by k_is) rfl rfl rfl); (case c5 => decide); (case kB => exact locs rfl); (case c2 => exact rfl); (case c3 => exact rfl); (case c4 => exact rfl); k_whole; intro g' L' h' hG' F' N' B' X' T' D'; (try dsimp only); (try k_fold)))
local macro_rules | `(tactic| tb_rel) => `(tactic| first | exact List.forall_mem_nil _ | (refine List.forall_mem_cons.mpr ⟨by first | exact Or.inr (by k_mem) | exact Or.inl (by k_mem), ?_⟩; tb_rel))
local macro_rules | `(tactic| walk_at "setItem ref bytes") => `(tactic| (k_here; k_dflt (refine' kda_set (knd := bytesKind _ _) ?F ?N ?U ?d (bk_is _ _ _) ?z ?_; (case F => k_asm); (case N => k_asm); (case U => k_updF); (case d => k_asm); (case z => assumption)); intro h' o' F' N' hd'; (try dsimp only at N')))
local macro_rules | `(tactic| walk_at "compareOp In bytes ref") => `(tactic| (k_here; k_dflt (refine kda_in (knd := bytesKind _ _) (by k_asm) (by k_mem) (by k_asm) (by k_asm) (bk_is _ _ _) _ (by first | exact some_is (by assumption) | exact none_is (by assumption)) ?_)))
local macro_rules | `(tactic| walk_at "subscriptTail") => `(tactic| (k_here; (with_reducible show wpAny _ _ (subscriptTail _ _ (Value.ref _) (Value.bytes _ _)) _ _ _); k_dflt (refine kda_item (knd := bytesKind _ _) (by k_asm) (by k_mem) (by k_asm) (bk_is _ _ _) (by assumption) ?_)))
local macro_rules | `(tactic| tb_start) => `(tactic| exact keep_of (by assumption) (by assumption) (by assumption) (by assumption) (by tb_rel))
local macro_rules | `(tactic| ktf_step) => `(tactic| (intro h' tk' hk'; have F' := fr_keep (by assumption) hk'; have N' := news_keep (by assumption) hk'))
local macro_rules | `(tactic| ktn_step) => `(tactic| (refine' At.mk ?B ?F ?X ?T ?XB ?TB ?D ?hh ?hA ?hck ?hd ?hu; (case B => k_asm); (case F => k_asm); (case X => k_asm); (case T => k_asm); (case XB => k_asm); (case TB => k_asm); (case D => k_asm); (case hh => exact rfl); (case hA => exact rfl); (case hck => first | assumption | exact rfl); (case hd => ktr_room); (case hu => ktr_units)))
local macro_rules | `(tactic| k_room) => `(tactic| ktr_room)
local macro_rules | `(tactic| k_units) => `(tactic| ktr_units)
local macro_rules | `(tactic| walk_at "subscriptTail") => `(tactic| (k_here; (with_reducible show wpAny _ _ (subscriptTail _ _ (Value.ref _) (Value.bytes _ _)) _ _ _); k_dflt (refine getItem_bytes_missing (by k_asm) (by k_mem) (by k_asm) (by k_asm) (by rfl) (by assumption) ?_); intro h' e' x'))
/-- what is asked of a store over a store over a dict -/
def look2 (vc v1 vB : Option Value) : Option Value := match vc with | some (.bytes b t) => some (.bytes b t) | _ => look1 v1 vB

/-- _law_asked(scratch over a scratch over a dict, key, due) -/
theorem asked2 {w : World} {mean : ExcName → Option Value} {mg mb : Str → Option Value} {A : Around} {cn : Str} {cs : Scope} {a : Addr} {ccd : Value} {outer : List Env} {A₀ : Around} {base h₀ : Heap} {L : Addr} {m : Str → Option Value}
    {s : Shared} {x d c x1 d1 c1 dB : Addr} {t1 t2 n t t3 t4 n1 : Nat} {kb : Array UInt8} {due : Value} {oc oc1 oB : Obj} {kc kc1 kB : List (List UInt8 × Value)} {Q : Value → Shared → Prop} {E : Value → Shared → Prop} :
    At hd.heap_39 w mean mg mb A cn cs a ccd outer A₀ base h₀ L m s 30 →
    News h₀ L s.heap [(x, instObj 67 d), (d, dictOf (wrE w t1 t2 (.ref x1) c) n), (c, oc), (x1, instObj 67 d1), (d1, dictOf (wrE w t3 t4 (.ref dB) c1) n1), (c1, oc1), (dB, oB)] → oc.IsDictOf (bytesKind PySem.Challenge.rw_ad6016_01.row.prog w) kc → oc1.IsDictOf (bytesKind PySem.Challenge.rw_ad6016_01.row.prog w) kc1 → oB.IsDictOf (bytesKind PySem.Challenge.rw_ad6016_01.row.prog w) kB →
    (c == sysModules) = false → (c1 == sysModules) = false → (dB == sysModules) = false →
    ∀ (vc v1 vB : Option Value), valueAt kc kb.toList = vc → valueAt kc1 kb.toList = v1 → valueAt kB kb.toList = vB → Vk vc → Vk v1 → Due (look2 vc v1 vB) due →
    (∀ h' tk, Turned ((envOf cn cs L a ccd :: outer).filterMap (·.frame)) s.heap h' → Q (.bool true) { s with heap := h', toks := tk }) →
    wpAny (model PySem.Challenge.rw_ad6016_01.row.prog w) A (call (.ref 105) [.ref x, .bytes kb t, due]) Q E s := by
  k_fill
  intro H N hd hd1 hdB lc lc1 lB vc v1 vB hvc hv1 hvB hv hv' hdue hret
  obtain ⟨B, F, X, T, XB, TB, D, hh, hA, hck, hdp, hun⟩ := H
  obtain ⟨hdl, dp, fr, gd, un⟩ := A
  dsimp only at hh hA hdp hun
  subst hh hA
  rcases hv with rfl | rfl | ⟨bb, tt, rfl⟩ <;> (unfold look2 at hdue; dsimp only at hdue) <;> (try (rcases hv' with rfl | rfl | ⟨bb', tt', rfl⟩ <;> (unfold look1 at hdue; dsimp only at hdue))) <;> (rcases hdue with ⟨e1, e2⟩ | ⟨b, t', u, e1, e2⟩) <;> (first | (cases e1; done) | skip) <;> (try subst e1) <;> (try cases e1) <;> (subst e2)
  all_goals (refine wpAny_call ?_; k_dflt ktr_enter; k_steps)
  all_goals (try simp only [beq_self_eq_true])
  all_goals first
    | exact hret _ _ (turned_of (by assumption) (by assumption) (by assumption) (by assumption) (by assumption) (by k_allIn))
    | exact hret _ _ (Turned.ofKeep (by tb_start))
end
section
abbrev LRow := List UInt8 × Value
/-- the heap bears a row: a tuple of the key and the value -/
def RowAt (h : Heap) (v : Value) (r : LRow) : Prop := ∃ (a : Addr) (b : Array UInt8) (t : Tok) (n : Nat), v = .ref a ∧ b.toList = r.1 ∧ h.get? a = some { cls := .type "tuple", data := .seq #[.bytes b t, r.2] n }
def RowsAre (h : Heap) : List Value → List LRow → Prop
  | [], [] => True
  | v :: vs, r :: rs => RowAt h v r ∧ RowsAre h vs rs
  | _, _ => False
theorem RowsAre.length {h : Heap} : ∀ {vs : List Value} {rs : List LRow}, RowsAre h vs rs → vs.length = rs.length
  | [], [], _ => rfl
  | _ :: _, _ :: _, x => by rw [List.length_cons, List.length_cons, RowsAre.length x.2]
  | [], _ :: _, x => x.elim
  | _ :: _, [], x => x.elim
theorem RowsAre.append {h : Heap} : ∀ {vs ws : List Value} {rs qs : List LRow}, RowsAre h vs rs → RowsAre h ws qs → RowsAre h (vs ++ ws) (rs ++ qs)
  | [], _, [], _, _, y => y
  | _ :: _, _, _ :: _, _, x, y => ⟨x.1, RowsAre.append x.2 y⟩
  | [], _, _ :: _, _, x, _ => x.elim
  | _ :: _, _, [], _, x, _ => x.elim
theorem RowsAre.mono {h h' : Heap} (k : ∀ a o, o.cls = .type "tuple" → h.get? a = some o → h'.get? a = some o) : ∀ {vs : List Value} {rs : List LRow}, RowsAre h vs rs → RowsAre h' vs rs
  | [], [], _ => trivial
  | _ :: _, _ :: _, x => by
    obtain ⟨⟨a, b, t, n, e, eb, ho⟩, r⟩ := x
    exact ⟨⟨a, b, t, n, e, eb, k a _ rfl ho⟩, RowsAre.mono k r⟩
  | [], _ :: _, x => x.elim
  | _ :: _, [], x => x.elim
/-- a heap that keeps all but some objects that are no tuples keeps the rows -/
theorem RowsAre.keep {h h' : Heap} {S : List Addr} {vs : List Value} {rs : List LRow} (x : RowsAre h vs rs) (k : KeepBut S h h') (off : ∀ a ∈ S, ∀ o, h.get? a = some o → o.cls ≠ .type "tuple") : RowsAre h' vs rs :=
  x.mono fun a o hc e => k a o e fun q => off a q o e hc
theorem RowsAre.mem {h : Heap} : ∀ {vs : List Value} {rs : List LRow}, RowsAre h vs rs → ∀ v ∈ vs, ∃ r ∈ rs, RowAt h v r
  | _ :: _, r :: _, x, v, m => by
    rcases List.mem_cons.mp m with rfl | m
    · exact ⟨r, .head _, x.1⟩
    · obtain ⟨r', hr, y⟩ := RowsAre.mem x.2 v m
      exact ⟨r', .tail _ hr, y⟩
  | [], _, _, _, m => nomatch m
  | _ :: _, [], x, _, _ => x.elim
/-- is a row's key this key -/
def pRow (h : Heap) (k : List UInt8) : Value → Bool
  | .ref a => match h.get? a with
    | some ⟨_, _, .seq items _, _⟩ => (match (items[0]? : Option Value) with | some (Value.bytes b _) => b.toList == k | _ => false)
    | _ => false
  | _ => false
theorem pRow_of {h : Heap} {a : Addr} {b : Array UInt8} {t : Tok} {x : Value} {n : Nat} {k : List UInt8} (e : h.get? a = some { cls := .type "tuple", data := .seq #[.bytes b t, x] n }) : pRow h k (.ref a) = (b.toList == k) := by
  unfold pRow; dsimp only; rw [e]; rfl
theorem RowsAre.filter {h : Heap} (k : List UInt8) : ∀ {vs : List Value} {rs : List LRow}, RowsAre h vs rs → RowsAre h (vs.filter (pRow h k)) (rs.filter fun r => r.1 == k)
  | [], [], _ => trivial
  | v :: vs, r :: rs, x => by
    have ih := RowsAre.filter k x.2
    obtain ⟨⟨a, b, t, n, rfl, eb, ho⟩, _⟩ := x
    rw [List.filter_cons, List.filter_cons, pRow_of ho, eb]
    by_cases hk : (r.1 == k) = true
    · rw [if_pos hk, if_pos hk]; exact ⟨⟨a, b, t, n, rfl, eb, ho⟩, ih⟩
    · rw [if_neg hk, if_neg hk]; exact ih
  | [], _ :: _, x => x.elim
  | _ :: _, [], x => x.elim
/-- what the last row of a key holds -/
def lastOf (rs : List LRow) (k : List UInt8) : Option Value := ((rs.filter fun r => r.1 == k).getLast?).map (·.2)
theorem rows_none {h : Heap} {vs : List Value} {rs : List LRow} {k : List UInt8} (x : RowsAre h vs rs) (e : lastOf rs k = none) : vs.filter (pRow h k) = [] := by
  have y := (x.filter k).length
  unfold lastOf at e
  have e' : (rs.filter fun r => r.1 == k) = [] := by
    cases q : (rs.filter fun r => r.1 == k) with
    | nil => rfl
    | cons a l => rw [q] at e; simp [List.getLast?_cons] at e
  rw [e'] at y
  exact List.eq_nil_of_length_eq_zero y
theorem rows_snoc {h : Heap} : ∀ {vs : List Value} {rs : List LRow} {r : LRow}, RowsAre h vs (rs ++ [r]) → ∃ ini v, vs = ini ++ [v] ∧ RowAt h v r
  | [], rs, r, x => by cases rs <;> exact x.elim
  | v :: vs, [], r, x => by
    have : vs = [] := by
      cases vs with
      | nil => rfl
      | cons _ _ => exact x.2.elim
    subst this
    exact ⟨[], v, rfl, x.1⟩
  | v :: vs, q :: rs, r, x => by
    obtain ⟨ini, u, e, y⟩ := rows_snoc (vs := vs) (rs := rs) x.2
    exact ⟨v :: ini, u, by rw [e]; rfl, y⟩
theorem rows_some {h : Heap} {vs : List Value} {rs : List LRow} {k : List UInt8} {val : Value} (x : RowsAre h vs rs) (e : lastOf rs k = some val) :
    ∃ (ini : List Value) (a : Addr) (b : Array UInt8) (t : Tok) (n : Nat), vs.filter (pRow h k) = ini ++ [.ref a] ∧ h.get? a = some { cls := .type "tuple", data := .seq #[.bytes b t, val] n } := by
  have y := x.filter k
  unfold lastOf at e
  rcases List.eq_nil_or_concat (rs.filter fun r => r.1 == k) with q | ⟨l, r, q⟩
  · rw [q] at e; cases e
  · rw [q, List.concat_eq_append] at y
    rw [q, List.concat_eq_append, List.getLast?_concat] at e
    cases e
    obtain ⟨ini, v, ev, a, b, t, n, rfl, _, ho⟩ := rows_snoc y
    exact ⟨ini, a, b, t, n, ev, ho⟩

section
open LCt LCg
variable {prog : Program} {w : World} {A : Around} {s : Shared} {h₀ : Heap} {L : Addr} {m : Str → Option Value} {env : Env}
/-- a comprehension that filters a list of any length -/
theorem comp_filter {ct elt : Expr} {x : Str} {scope : Scope} {cl : List (Str × Addr)} {Fin : List Value → List (Addr × Obj) → Prop} {news : List (Addr × Obj)} {S : List (Addr × Obj) → Prop} (vs : List Value) (p : Value → Bool)
    (turn : ∀ v, v ∈ vs → ∀ I oI C oC D ys m₂ h tk (E' : Value → Shared → Prop), NsObj oC m₂ → m₂ x = some v → Fr h₀ L h m → News h₀ L h ((I, oI) :: (C, oC) :: (D, lst ys) :: news) → Off3 I C D news → ((@Ne Nat I C) ∧ (@Ne Nat I D) ∧ (@Ne Nat C D)) →
      wpAny (model prog w) A (isTrue ct (compEnvC scope cl C env) (eval ct (compEnvC scope cl C env))) (fun ok s' => if ok = true then
        wpAny (model prog w) A (eval elt (compEnvC scope cl C env)) (CompEnd h₀ L m { s with heap := h, toks := tk } I oI C oC D (lst ys) S (fun y news' => p v = true ∧ y = v ∧ news' = news)) E' s'
        else CompEnd h₀ L m { s with heap := h, toks := tk } I oI C oC D (lst ys) S (fun _ news' => p v = false ∧ news' = news) Value.none s') E' { s with heap := h, toks := tk }) :
    ∀ (k i : Nat) (ys : List Value), i + k = vs.length → Fin (ys ++ (vs.drop i).filter p) news → CompRestT prog w A h₀ L m env ct elt x scope cl s S (fun i v => vs.toArray[i]? = some v) Fin k i ys news := by
  intro k
  induction k with
  | zero =>
    intro i ys hi hF
    rw [List.drop_of_length_le (by omega), List.filter_nil, List.append_nil] at hF
    exact CompRestT.zero hF
  | succ k ih =>
    intro i ys hi hF
    refine CompRestT.succ fun v I oI C oC D m₂ h tk E' hv hoC hm F N off ne => ?_
    have hv' : vs[i]? = some v := by simpa using hv
    have hd : vs.drop i = v :: vs.drop (i + 1) := by
      obtain ⟨hlt, e⟩ := List.getElem?_eq_some_iff.mp hv'
      rw [← e]; exact List.drop_eq_getElem_cons hlt
    rw [hd, List.filter_cons] at hF
    refine wpAny_mono (turn v (List.mem_of_getElem? hv') I oI C oC D ys m₂ h tk E' hoC hm F N off ne) (fun ok s' hq => ?_) fun _ _ e => e
    cases ok with
    | true =>
      rw [if_pos rfl] at hq ⊢
      refine wpAny_mono hq (fun y s₂ hy => ?_) fun _ _ e => e
      obtain ⟨h', tk', news', e1, F', N', o', hS, e2, rfl, rfl⟩ := hy
      refine ⟨h', tk', _, e1, F', N', o', hS, ih (i + 1) _ (by omega) ?_⟩
      rw [if_pos e2] at hF
      rw [List.append_assoc]; exact hF
    | false =>
      rw [if_neg (by decide)] at hq ⊢
      obtain ⟨h', tk', news', e1, F', N', o', hS, e2, rfl⟩ := hq
      refine ⟨h', tk', _, e1, F', N', o', hS, ih (i + 1) _ (by omega) ?_⟩
      rw [e2, if_neg (by decide)] at hF
      exact hF
theorem comp_src {ct elt : Expr} {x : Str} {scope : Scope} {cl : List (Str × Addr)} {Fin : Shared → List Value → List (Addr × Obj) → Prop} {ax : Addr} {vs zs : List Value} {k : Nat} {news : List (Addr × Obj)} {s₁ : Shared} (kk : List UInt8)
    (hh : A.handled = none) (F : Fr h₀ L s₁.heap m) (N : News h₀ L s₁.heap news) (hm : (ax, ({ cls := .type "list", data := .seq vs.toArray k } : Obj)) ∈ news) (hsz : vs.length ≤ sizeLine) (hzs : vs.filter (pRow h₀ kk) = zs)
    (turn : ∀ (_ : Heap) v, v ∈ vs → ∀ I oI C oC D ys m₂ h tk (E' : Value → Shared → Prop), NsObj oC m₂ → m₂ x = some v → Fr h₀ L h m → News h₀ L h ((I, oI) :: (C, oC) :: (D, lst ys) :: news) → Off3 I C D news → ((@Ne Nat I C) ∧ (@Ne Nat I D) ∧ (@Ne Nat C D)) →
      wpAny (model prog w) A (isTrue ct (compEnvC scope cl C env) (eval ct (compEnvC scope cl C env))) (fun ok s' => if ok = true then
        wpAny (model prog w) A (eval elt (compEnvC scope cl C env)) (CompEnd h₀ L m { s₁ with heap := h, toks := tk } I oI C oC D (lst ys) (SrcAt h₀ ax vs.toArray) (fun y news' => pRow h₀ kk v = true ∧ y = v ∧ news' = news)) E' s'
        else CompEnd h₀ L m { s₁ with heap := h, toks := tk } I oI C oC D (lst ys) (SrcAt h₀ ax vs.toArray) (fun _ news' => pRow h₀ kk v = false ∧ news' = news) Value.none s') E' { s₁ with heap := h, toks := tk })
    (fin : ∀ g : Heap, Fin { s₁ with heap := g } zs news) :
    CompSrcT prog w A h₀ L m env ct elt x scope cl Fin (.ref ax) s₁ :=
  CompSrcT.ledger hh F N hm (by rw [List.size_toArray]; exact hsz) fun g => by
    rw [List.size_toArray]
    exact comp_filter (s := { s₁ with heap := g }) vs (pRow h₀ kk) (turn g) _ _ _ (by omega) (by rw [List.drop_zero, List.nil_append, hzs]; exact fin g)
end
section
variable {prog : Program} {w : World} {A₀ A : Around} {s : Shared} {base h₀ : Heap} {outer : List Env} {L : Addr} {m : Str → Option Value} {cn : Str} {cs : Scope} {a : Addr} {ccd : Value} {news : List (Addr × Obj)} {K : Frag}
  {p : Program} {loose : List Str} {mean : ExcName → Option Value} {mg mb : Str → Option Value}
  {R : Result → Shared → Prop} {name qual : Str} {params : Arguments} {body : List Stmt} {scope : Scope} {dV kV doc pm cdv ct oc : Value} {an od : Option Addr} {osl : Array (Option Value)} {f : Addr} {args : Args} {binds : List (Str × Value)}
/-- as enter, for a def whose locals a comprehension holds -/
theorem enterC (B : Below A₀ base outer h₀) (F : Fr h₀ L s.heap m) (X₀ : K.In h₀) (N : News h₀ L s.heap news) (T : Top p loose mean mg mb h₀) (D : KtsDicts (outer.filterMap (·.frame)) h₀) (hA : A.frames = some (envOf cn cs L a ccd :: outer)) (hck : cs.kind = .function)
    (ho : K.lookup f = some ⟨oc, od, .func (fnOf name qual params body scope dV kV doc pm an cdv ct), osl⟩) (hcd : codeIn K cdv qual = true) (hroom : A.depth < recursionLimit)
    (hbind : BindsTo s (fnOf name qual params body scope dV kV doc pm an cdv ct) args binds) (hkind : (binds.all fun y => scope.names.lookup y.1 == some .local || scope.names.lookup y.1 == some .cell) = true)
    (hnd : ((cellsFrom 0 scope.names []).map (·.1)).Nodup)
    (h : ∀ g L' h₁ tk cells, KeepBut (news.map (·.1)) s.heap g → Fr g L' h₁ (bindL (envOfC qual scope L' f cdv).kindOf binds fun _ => none) → News g L' h₁ (cells ++ news) →
      CellsAre (bindC (envOfC qual scope L' f cdv).kindOf binds fun _ => none) (cellsFrom (L' + 1) scope.names []) cells → Below A base (envOf cn cs L a ccd :: outer) g → K.In g → Top p loose mean mg mb g → KtsDicts ((envOf cn cs L a ccd :: outer).filterMap (·.frame)) g → (∀ p ∈ news, p.1 < L') →
      wpAny (model prog w) (A.deeper (envOfC qual scope L' f cdv)) (execs body (envOfC qual scope L' f cdv))
        (fun fl s' => R (.ok (.ret (match fl with | .ret v => v | _ => .none))) s')
        (fun e s' => wpAny (model prog w) (A.deeper (envOfC qual scope L' f cdv)) (leaving (envOfC qual scope L' f cdv) e) (fun _ s'' => R (.error e) s'') (fun e' s'' => R (.error e') s'') s')
        { s with heap := h₁, toks := tk })
    (hco : scope.isCoroutine = false) (hgen : scope.isGenerator = false) (hk : scope.kind = .function) : codeAny (model prog w) A (.call (.ref f) args) R s := by
  have X := X₀.keeps F.keep
  refine codeAny_call_function hroom (X _ _ ho) rfl hco hgen rfl (codeRec_of X hcd) (hbind _ _ _ _ ?_)
  refine wpAny_newFunctionEnv_cells hk (kindsX hkind _) fun env' he s' x => ?_
  subst he
  refine ⟨(T.nolimit.keeps F.keep).keeps x.toInCall.keep, codeAny_func ?_⟩
  obtain ⟨h₁, tk, rfl, _⟩ := x.done
  have hk₁ := x.toInCall.keep
  obtain ⟨oL, es, ep, hLg, hLd, hN, hNs, st, B₂⟩ := kts_enter B F N hA hck
  obtain ⟨cells, NC, Y⟩ := Cl.news (h₀ := s.heap) (Nat.le_refl _) fun n c hm => ⟨x.cell n c (lookup_of_mem_nodup (cellsFrom_names scope.names 0 (s.heap.objs.size + 1) [] [] rfl ▸ hnd) hm), x.above n c hm⟩
  refine wpAny_mono (h _ s.heap.objs.size h₁ tk cells (fun b o e n => hideAll_get _ e n) ⟨x.toInCall.ns, fun b o e => hk₁ b o (of_hideAll _ e), Nat.le_of_eq (hideAll_size _ _)⟩ (fun p hp => ?_) Y B₂ (X₀.keeps st) (T.keeps st) (fun b hb => by
      rcases kts_mem hb with rfl | hb
      · exact ⟨oL, es, ep, hLg, hLd⟩
      · obtain ⟨o, es', n', ho', hd'⟩ := D b hb
        exact ⟨o, es', n', st b o ho', hd'⟩) (fun p hp => Heap.lt_size (N p hp).1)) (fun _ _ x => x) fun _ _ y => y
  rcases List.mem_append.mp hp with hp | hp
  · refine ⟨(NC p hp).1, (NC p hp).2.1, ?_⟩
    cases q : (hideAll s.heap (news.map (·.1))).get? p.1 with
    | none => rfl
    | some o => have := of_hideAll _ q; rw [(NC p hp).2.2] at this; cases this
  · exact ⟨hk₁ _ _ (N p hp).1, Nat.ne_of_lt (Heap.lt_size (N p hp).1), hideAll_none _ (List.mem_map_of_mem hp)⟩
end
theorem off_of {h₀ h : Heap} {L : Addr} {news : List (Addr × Obj)} (N : News h₀ L h news) (x : ∀ p ∈ news, p.2.cls ≠ .type "tuple") : ∀ a ∈ news.map (·.1), ∀ o, h.get? a = some o → o.cls ≠ .type "tuple" := fun a ha o e => by
  obtain ⟨p, hp, rfl⟩ := List.mem_map.mp ha
  rw [(N p hp).1] at e
  exact Option.some.inj e ▸ x p hp
theorem dict_cls {w : World} {o : Obj} {kvs : List (List UInt8 × Value)} (h : o.IsDictOf (bytesKind PySem.Challenge.rw_ad6016_01.row.prog w) kvs) : o.cls ≠ .type "tuple" := by
  obtain ⟨_, _, hx, _⟩ := h
  rw [hx.1]; decide
theorem tup_of {h : Heap} {a : Addr} {items : Array Value} {n : Nat} (e : h.get? a = some { cls := .type "tuple", data := .seq items n }) : IsTup h a items := ⟨_, e, rfl, _, rfl⟩
section
variable {prog : Program} {w : World} {A : Around} {E : Value → Shared → Prop} {s : Shared} {h₀ : Heap} {L : Addr} {news : List (Addr × Obj)}
/-- rows != [] where there are rows -/
theorem ne_nil_snoc {a b : Addr} {ini : List Value} {v : Value} {n n' : Nat} {Q : Value → Shared → Prop} (N : News h₀ L s.heap news) (ha : (a, ({ cls := .type "list", data := .seq (ini ++ [v]).toArray n } : Obj)) ∈ news) (hb : (b, ({ cls := .type "list", data := .seq #[] n' } : Obj)) ∈ news) (hu : A.units < cLine)
    (h : Q (.bool true) s) : wpAny (model prog w) A (compareOp .NotEq (.ref a) (.ref b)) Q E s :=
  SeqAt.RcNeAt.lists_lengths (items := (ini ++ [v]).toArray) (items2 := #[]) ⟨_, (N _ ha).1, rfl, _, rfl⟩ ⟨_, (N _ hb).1, rfl, _, rfl⟩ (by simp) hu prog w E Q h
theorem ne_nil_nil {a b : Addr} {n n' : Nat} {Q : Value → Shared → Prop} (N : News h₀ L s.heap news) (ha : (a, ({ cls := .type "list", data := .seq ([] : List Value).toArray n } : Obj)) ∈ news) (hb : (b, ({ cls := .type "list", data := .seq #[] n' } : Obj)) ∈ news) (hu : A.units < cLine)
    (h : Q (.bool false) s) : wpAny (model prog w) A (compareOp .NotEq (.ref a) (.ref b)) Q E s :=
  SeqAt.RcNeAt.lists (items := #[]) (items2 := #[]) (e := fun _ => true) ⟨_, (N _ ha).1, rfl, _, rfl⟩ ⟨_, (N _ hb).1, rfl, _, rfl⟩ rfl hu (fun j h1 _ => absurd h1 (Nat.not_lt_zero _)) prog w E Q h
/-- rows[-1] -/
theorem last_item {value slice : PySem.Expr} {a : Addr} {ini : List Value} {v : Value} {n : Nat} {t : Tok} {Q : Value → Shared → Prop} (N : News h₀ L s.heap news) (ha : (a, ({ cls := .type "list", data := .seq (ini ++ [v]).toArray n } : Obj)) ∈ news) (hz : ini.length < 2 ^ 62)
    (h : Q v s) (hs : subscripted slice false (.ref a) (.int (-1) t) = operate [.ref a, .int (-1) t] (getItem (.ref a) (.int (-1) t)) := by with_unfolding_all rfl) :
    wpAny (model prog w) A (subscriptTail value slice (.ref a) (.int (-1) t)) Q E s :=
  have hl : s.heap.IsList a (ini ++ [v]).toArray := ⟨_, (N _ ha).1, rfl, _, rfl⟩
  tail_any hl.typeIs slot_list_getitem.lookup (wpAny_getItem_list_neg hl (by decide) (by simp only [List.size_toArray, List.length_append, List.length_singleton]; omega) (by decide) (by
    have e : ((-1 : Int) + ((ini ++ [v]).toArray.size : Nat)).toNat = ini.length := by simp only [List.size_toArray, List.length_append, List.length_singleton]; omega
    rw [e]; simp) h) hs
end
theorem ini_lt {vs ini : List Value} {p : Value → Bool} {v : Value} {n : Nat} (e : vs.filter p = ini ++ [v]) (h : vs.length < n) : ini.length < n := by
  have h1 := congrArg List.length e
  have h2 := List.length_filter_le p vs
  rw [List.length_append, List.length_singleton] at h1
  omega
theorem rows_zs {h : Heap} {vs : List Value} {rs : List LRow} (_ : RowsAre h vs rs) (k : List UInt8) : ∃ zs, vs.filter (pRow h k) = zs := ⟨_, rfl⟩
def Held0 (P : Prop) : Prop := P
theorem held0 {P : Prop} (h : Held0 P) : P := h
end
section
local macro_rules | `(tactic| k_ne) => `(tactic| first | assumption | exact ne_s (by assumption))
local macro_rules | `(tactic| ktr_enter) => `(tactic| (refine' enter ?k1 ?k2 ?k3 ?k4 ?k5 ?kD ?kA ?kK ?k6 ?k7 ?k8 ?k9 ?kB ?_ ?c2 ?c3 ?c4 ?c5; (case kA => exact rfl); (case kK => first | assumption | exact rfl); (case k1 => k_asm); (case k2 => k_asm); (case k3 => k_asm); (case k4 => k_asm); (case k5 => k_asm); (case kD => k_asm); (case k6 => k_is); (case k7 => k_is); (case k8 => ktr_room); (case k9 => first | exact BindsTo.of_eq rfl | exact binds_K (by k_in) rfl (by k_is) rfl rfl rfl); (case c5 => decide); (case kB => exact locs rfl); (case c2 => exact rfl); (case c3 => exact rfl); (case c4 => exact rfl); k_whole; intro g' L' h' hG' F' N' B' X' T' D'; (try dsimp only); (try k_fold)))
local macro_rules | `(tactic| tb_rel) => `(tactic| first | exact List.forall_mem_nil _ | (refine List.forall_mem_cons.mpr ⟨by first | exact Or.inr (by k_mem) | exact Or.inl (by k_mem), ?_⟩; tb_rel))
local macro_rules | `(tactic| walk_at "setItem ref bytes") => `(tactic| (k_here; k_dflt (refine' kda_set (knd := bytesKind _ _) ?F ?N ?U ?d (bk_is _ _ _) ?z ?_; (case F => k_asm); (case N => k_asm); (case U => k_updF); (case d => k_asm); (case z => assumption)); intro h' o' F' N' hd'; (try dsimp only at N')))
local macro_rules | `(tactic| walk_at "compareOp In bytes ref") => `(tactic| (k_here; k_dflt (refine kda_in (knd := bytesKind _ _) (by k_asm) (by k_mem) (by k_asm) (by k_asm) (bk_is _ _ _) _ (by first | exact some_is (by assumption) | exact none_is (by assumption)) ?_)))
local macro_rules | `(tactic| walk_at "subscriptTail") => `(tactic| (k_here; (with_reducible show wpAny _ _ (subscriptTail _ _ (Value.ref _) (Value.bytes _ _)) _ _ _); k_dflt (refine kda_item (knd := bytesKind _ _) (by k_asm) (by k_mem) (by k_asm) (bk_is _ _ _) (by assumption) ?_)))
local macro_rules | `(tactic| tb_start) => `(tactic| exact keep_of (by assumption) (by assumption) (by assumption) (by assumption) (by tb_rel))
local macro_rules | `(tactic| ktf_step) => `(tactic| (intro h' tk' hk'; have F' := fr_keep (by assumption) hk'; have N' := news_keep (by assumption) hk'))
local macro_rules | `(tactic| ktn_step) => `(tactic| (refine' At.mk ?B ?F ?X ?T ?XB ?TB ?D ?hh ?hA ?hck ?hd ?hu; (case B => k_asm); (case F => k_asm); (case X => k_asm); (case T => k_asm); (case XB => k_asm); (case TB => k_asm); (case D => k_asm); (case hh => exact rfl); (case hA => exact rfl); (case hck => first | assumption | exact rfl); (case hd => ktr_room); (case hu => ktr_units)))
local macro_rules | `(tactic| k_room) => `(tactic| ktr_room)
local macro_rules | `(tactic| k_units) => `(tactic| ktr_units)
local macro_rules | `(tactic| kwd_same0) => `(tactic| first | exact List.forall_mem_nil _ | (refine List.forall_mem_cons.mpr ⟨by first | exact dict_cls (by assumption) | (show Value.type "list" ≠ Value.type "tuple"; decide) | (show Value.ref _ ≠ Value.type "tuple"; exact fun x => nomatch x) | (show Value.type "dict" ≠ Value.type "tuple"; decide), ?_⟩; kwd_same0))
local macro_rules | `(tactic| walk_at "compareOp NotEq ref ref") => `(tactic| (k_here; k_dflt (first | (refine' ne_nil_snoc ?N ?a ?b ?u ?_; (case N => k_asm); (case a => k_mem); (case b => k_mem); (case u => ktr_units)) | (refine' ne_nil_nil ?N ?a ?b ?u ?_; (case N => k_asm); (case a => k_mem); (case b => k_mem); (case u => ktr_units)))))
local macro_rules | `(tactic| walk_at "subscriptTail") => `(tactic| (k_here; (with_reducible show wpAny _ _ (subscriptTail _ _ (Value.ref _) (Value.int _ _)) _ _ _); k_dflt (refine' item_tupleT (Fr.tup ?F ?T) ?lo ?hi ?j ?x ?_; (case T => with_reducible assumption); (case F => k_asm); (case lo => decide); (case hi => decide); (case j => rfl); (case x => rfl))))
local macro_rules | `(tactic| walk_at "subscriptTail") => `(tactic| (k_here; (with_reducible show wpAny _ _ (subscriptTail _ _ (Value.ref _) (Value.int (-1) _)) _ _ _); k_dflt (refine' last_item ?N ?a ?z ?_; (case N => k_asm); (case a => k_mem); (case z => assumption))))
local macro_rules | `(tactic| walk_at "call builtin:dict.get") => `(tactic| (k_here; k_dflt (refine kdg_get1 (knd := bytesKind _ _) (by k_asm) (by k_mem) (by k_asm) (by k_asm) (bk_is _ _ _) _ (by assumption) ?_; (try dsimp only [Option.getD]))))
local macro_rules | `(tactic| walk_at "getMethod ref") => `(tactic| (k_here; (with_reducible show wpAny _ _ (getMethod (Value.ref _) (Str.ofString "get") _) _ _ _); k_dflt (refine kdg_method (knd := bytesKind _ _) (by k_asm) (by k_mem) (by k_asm) ?_)))
local macro_rules | `(tactic| ktl_enter) => `(tactic| (refine' enterC ?k1 ?k2 ?k3 ?k4 ?k5 ?kD ?kA ?kK ?k6 ?k7 ?k8 ?k9 ?kB ?kN ?_ ?c2 ?c3 ?c4; (case kA => exact rfl); (case kK => first | assumption | exact rfl); (case k1 => k_asm); (case k2 => k_asm); (case k3 => k_asm); (case k4 => k_asm); (case k5 => k_asm); (case kD => k_asm); (case k6 => k_is); (case k7 => k_is); (case k8 => ktr_room); (case k9 => first | exact BindsTo.of_eq rfl | exact binds_K (by k_in) rfl (by k_is) rfl rfl rfl); (case kB => exact rfl); (case kN => decide +kernel); (case c2 => exact rfl); (case c3 => exact rfl); (case c4 => exact rfl); k_whole; intro g' L' h' tk' cells' hG' F' N' Y' B' X' T' D' l1; (try k_lt l1); k_cells Y'; (try simp only [List.cons_append, List.nil_append] at N'); (try dsimp only); (try k_fold)))

local macro_rules | `(tactic| walk_at "exec Assign cons ListComp") => `(tactic| (k_here; k_dflt (refine LCt.Assign_ListComp_T (F₀ := by k_asm) (by rfl) (by with_unfolding_all rfl) (by with_unfolding_all rfl) (by decide) (by rfl) (by decide) (by rfl) (by rfl) (by rfl) ?_)))

local macro_rules | `(tactic| walk_at "CompSrcT") => `(tactic| (k_here; k_dflt (refine' comp_src _ (by rfl) (by k_asm) (by k_asm) (by k_mem) ?hz ?hzs ?turn ?_; (case hz => assumption); (case hzs => assumption)); (case turn => (intro g9 v9 hv9 I9 oI9 C9 oC9 D9 ys9 m9 h9 tk9 E9 hoC9 hm9 F9 N9 off9 ne9; obtain ⟨r9, hr9, a9, b9, t9, n9, e9, eb9, ho9⟩ := RowsAre.mem (by assumption) v9 hv9; subst e9; have hT9 := tup_of ho9; simp only [LCg.Off3, and_true] at off9; k_steps; all_goals exact (pRow_of ho9).trans (by assumption))); intro g9))

/-- what the law's own list of deeds tells -/
def toldV (vc vP : Option Value) : Value := (look1 vc vP).getD .none

local macro_rules | `(tactic| walk_at "compareOp NotEq ref ref") => `(tactic| (k_here; k_dflt (first | (refine' ne_nil_snoc ?N ?a ?b ?u ?_; (case N => k_asm); (case a => k_mem); (case b => k_mem); (case u => ktr_units)) | (refine' ne_nil_nil ?N ?a ?b ?u ?_; (case N => k_asm); (case a => k_mem); (case b => k_mem); (case u => ktr_units)) | refine held0 ?_)))
local macro_rules | `(tactic| walk_at "CompEnd") => `(tactic| k_dflt lcg_end)
theorem told1 {w : World} {mean : ExcName → Option Value} {mg mb : Str → Option Value} {A : Around} {cn : Str} {cs : Scope} {a : Addr} {ccd : Value} {outer : List Env} {A₀ : Around} {base h₀ : Heap} {L : Addr} {m : Str → Option Value}
    {s : Shared} {lg l1 l2 l3 dP : Addr} {n n1 t tl : Nat} {kb : Array UInt8} {vs : List Value} {ℓ : List LRow} {oP : Obj} {kP : List (List UInt8 × Value)} {Q : Value → Shared → Prop} {E : Value → Shared → Prop} :
    At hd.heap_39 w mean mg mb A cn cs a ccd outer A₀ base h₀ L m s 20 →
    News h₀ L s.heap [(lg, listOf #[.none, .ref l1, .ref l2, .ref l3] n), (l1, listOf vs.toArray n1), (dP, oP)] → oP.IsDictOf (bytesKind PySem.Challenge.rw_ad6016_01.row.prog w) kP →
    (dP == sysModules) = false → RowsAre s.heap vs ℓ → vs.length ≤ sizeLine →
    ∀ (vc vP : Option Value), lastOf ℓ kb.toList = vc → valueAt kP kb.toList = vP → Vk vc →
    (∀ h' tk, KeepBut [] s.heap h' → Q (toldV vc vP) { s with heap := h', toks := tk }) →
    wpAny (model PySem.Challenge.rw_ad6016_01.row.prog w) A (call (.ref 91) [.ref lg, .ref dP, .int 1 tl, .bytes kb t]) Q E s := by
  k_fill
  intro H N hdP lP hR hz vc vP hvc hvP hv hret
  obtain ⟨B, F, X, T, XB, TB, D, hh, hA, hck, hdp, hun⟩ := H
  obtain ⟨hdl, dp, fr, gd, un⟩ := A
  dsimp only at hh hA hdp hun
  subst hh hA
  have off := off_of N (by kwd_same0)
  have hz4 : vs.length < 2 ^ 62 := by rw [sizeLine_eq] at hz; omega
  refine wpAny_call ?_; k_dflt ktl_enter; rename KeepBut _ _ _ => hG; replace hR := RowsAre.keep hR hG off
  obtain ⟨zs, hzs⟩ := rows_zs hR kb.toList
  k_steps
  unfold Held0
  rcases hv with rfl | rfl | ⟨bb, tt, rfl⟩ <;> (unfold toldV look1 at hret; dsimp only [Option.getD] at hret)
  · have e9 := rows_none hR hvc
    rw [e9] at hzs; subst hzs
    k_steps
    exact hret _ _ (by tb_start)
  all_goals
    obtain ⟨ini, a5, b5, t5, n5, e9, hl5⟩ := rows_some hR hvc
    have hz5 := ini_lt e9 hz4
    rw [e9] at hzs; subst hzs
    have hT5 := tup_of hl5
    k_steps
    exact hret _ _ (by tb_start)

theorem told3 {w : World} {mean : ExcName → Option Value} {mg mb : Str → Option Value} {A : Around} {cn : Str} {cs : Scope} {a : Addr} {ccd : Value} {outer : List Env} {A₀ : Around} {base h₀ : Heap} {L : Addr} {m : Str → Option Value}
    {s : Shared} {lg l1 l2 l3 dP : Addr} {n n1 t tl : Nat} {kb : Array UInt8} {vs : List Value} {ℓ : List LRow} {oP : Obj} {kP : List (List UInt8 × Value)} {Q : Value → Shared → Prop} {E : Value → Shared → Prop} :
    At hd.heap_39 w mean mg mb A cn cs a ccd outer A₀ base h₀ L m s 20 →
    News h₀ L s.heap [(lg, listOf #[.none, .ref l1, .ref l2, .ref l3] n), (l3, listOf vs.toArray n1), (dP, oP)] → oP.IsDictOf (bytesKind PySem.Challenge.rw_ad6016_01.row.prog w) kP →
    (dP == sysModules) = false → RowsAre s.heap vs ℓ → vs.length ≤ sizeLine →
    ∀ (vc vP : Option Value), lastOf ℓ kb.toList = vc → valueAt kP kb.toList = vP → Vk vc →
    (∀ h' tk, KeepBut [] s.heap h' → Q (toldV vc vP) { s with heap := h', toks := tk }) →
    wpAny (model PySem.Challenge.rw_ad6016_01.row.prog w) A (call (.ref 91) [.ref lg, .ref dP, .int 3 tl, .bytes kb t]) Q E s := by
  k_fill
  intro H N hdP lP hR hz vc vP hvc hvP hv hret
  obtain ⟨B, F, X, T, XB, TB, D, hh, hA, hck, hdp, hun⟩ := H
  obtain ⟨hdl, dp, fr, gd, un⟩ := A
  dsimp only at hh hA hdp hun
  subst hh hA
  have off := off_of N (by kwd_same0)
  have hz4 : vs.length < 2 ^ 62 := by rw [sizeLine_eq] at hz; omega
  refine wpAny_call ?_; k_dflt ktl_enter; rename KeepBut _ _ _ => hG; replace hR := RowsAre.keep hR hG off
  obtain ⟨zs, hzs⟩ := rows_zs hR kb.toList
  k_steps
  unfold Held0
  rcases hv with rfl | rfl | ⟨bb, tt, rfl⟩ <;> (unfold toldV look1 at hret; dsimp only [Option.getD] at hret)
  · have e9 := rows_none hR hvc
    rw [e9] at hzs; subst hzs
    k_steps
    exact hret _ _ (by tb_start)
  all_goals
    obtain ⟨ini, a5, b5, t5, n5, e9, hl5⟩ := rows_some hR hvc
    have hz5 := ini_lt e9 hz4
    rw [e9] at hzs; subst hzs
    have hT5 := tup_of hl5
    k_steps
    exact hret _ _ (by tb_start)
end
section
local macro_rules | `(tactic| walk_at "no such step") => `(tactic| skip)
local macro_rules | `(tactic| k_ne) => `(tactic| first | assumption | exact ne_s (by assumption))
local macro_rules | `(tactic| ktr_enter) => `(tactic| (refine' enter ?k1 ?k2 ?k3 ?k4 ?k5 ?kD ?kA ?kK ?k6 ?k7 ?k8 ?k9 ?kB ?_ ?c2 ?c3 ?c4 ?c5; (case kA => exact rfl); (case kK => first | assumption | exact rfl); (case k1 => k_asm); (case k2 => k_asm); (case k3 => k_asm); (case k4 => k_asm); (case k5 => k_asm); (case kD => k_asm); (case k6 => k_is); (case k7 => k_is); (case k8 => ktr_room); (case k9 => first | exact BindsTo.of_eq rfl | exact binds_K (by k_in) rfl (by k_is) rfl rfl rfl); (case c5 => decide); (case kB => exact locs rfl); (case c2 => exact rfl); (case c3 => exact rfl); (case c4 => exact rfl); k_whole; intro g' L' h' hG' F' N' B' X' T' D'; (try dsimp only); (try k_fold)))
local macro_rules | `(tactic| tb_rel) => `(tactic| first | exact List.forall_mem_nil _ | (refine List.forall_mem_cons.mpr ⟨by first | exact Or.inr (by k_mem) | exact Or.inl (by k_mem), ?_⟩; tb_rel))
local macro_rules | `(tactic| walk_at "setItem ref bytes") => `(tactic| (k_here; k_dflt (refine' kda_set (knd := bytesKind _ _) ?F ?N ?U ?d (bk_is _ _ _) ?z ?_; (case F => k_asm); (case N => k_asm); (case U => k_updF); (case d => k_asm); (case z => assumption)); intro h' o' F' N' hd'; (try dsimp only at N')))
local macro_rules | `(tactic| walk_at "compareOp In bytes ref") => `(tactic| (k_here; k_dflt (refine kda_in (knd := bytesKind _ _) (by k_asm) (by k_mem) (by k_asm) (by k_asm) (bk_is _ _ _) _ (by first | exact some_is (by assumption) | exact none_is (by assumption)) ?_)))
local macro_rules | `(tactic| walk_at "subscriptTail") => `(tactic| (k_here; (with_reducible show wpAny _ _ (subscriptTail _ _ (Value.ref _) (Value.bytes _ _)) _ _ _); k_dflt (refine kda_item (knd := bytesKind _ _) (by k_asm) (by k_mem) (by k_asm) (bk_is _ _ _) (by assumption) ?_)))
local macro_rules | `(tactic| tb_start) => `(tactic| exact keep_of (by assumption) (by assumption) (by assumption) (by assumption) (by tb_rel))
local macro_rules | `(tactic| ktf_step) => `(tactic| (intro h' tk' hk'; have F' := fr_keep (by assumption) hk'; have N' := news_keep (by assumption) hk'))
local macro_rules | `(tactic| ktn_step) => `(tactic| (refine' At.mk ?B ?F ?X ?T ?XB ?TB ?D ?hh ?hA ?hck ?hd ?hu; (case B => k_asm); (case F => k_asm); (case X => k_asm); (case T => k_asm); (case XB => k_asm); (case TB => k_asm); (case D => k_asm); (case hh => exact rfl); (case hA => exact rfl); (case hck => first | assumption | exact rfl); (case hd => ktr_room); (case hu => ktr_units)))
local macro_rules | `(tactic| k_room) => `(tactic| ktr_room)
local macro_rules | `(tactic| k_units) => `(tactic| ktr_units)
local macro_rules | `(tactic| kwd_same0) => `(tactic| first | exact List.forall_mem_nil _ | (refine List.forall_mem_cons.mpr ⟨by first | exact dict_cls (by assumption) | (show Value.type "list" ≠ Value.type "tuple"; decide) | (show Value.ref _ ≠ Value.type "tuple"; exact fun x => nomatch x) | (show Value.type "dict" ≠ Value.type "tuple"; decide), ?_⟩; kwd_same0))
local macro_rules | `(tactic| walk_at "compareOp NotEq ref ref") => `(tactic| (k_here; k_dflt (first | (refine' ne_nil_snoc ?N ?a ?b ?u ?_; (case N => k_asm); (case a => k_mem); (case b => k_mem); (case u => ktr_units)) | (refine' ne_nil_nil ?N ?a ?b ?u ?_; (case N => k_asm); (case a => k_mem); (case b => k_mem); (case u => ktr_units)))))
local macro_rules | `(tactic| walk_at "subscriptTail") => `(tactic| (k_here; (with_reducible show wpAny _ _ (subscriptTail _ _ (Value.ref _) (Value.int _ _)) _ _ _); k_dflt (refine' item_tupleT (Fr.tup ?F ?T) ?lo ?hi ?j ?x ?_; (case T => with_reducible assumption); (case F => k_asm); (case lo => decide); (case hi => decide); (case j => rfl); (case x => rfl))))
local macro_rules | `(tactic| walk_at "subscriptTail") => `(tactic| (k_here; (with_reducible show wpAny _ _ (subscriptTail _ _ (Value.ref _) (Value.int (-1) _)) _ _ _); k_dflt (refine' last_item ?N ?a ?z ?_; (case N => k_asm); (case a => k_mem); (case z => assumption))))
local macro_rules | `(tactic| walk_at "call builtin:dict.get") => `(tactic| (k_here; k_dflt (refine kdg_get1 (knd := bytesKind _ _) (by k_asm) (by k_mem) (by k_asm) (by k_asm) (bk_is _ _ _) _ (by assumption) ?_; (try dsimp only [Option.getD]))))
local macro_rules | `(tactic| walk_at "getMethod ref") => `(tactic| (k_here; (with_reducible show wpAny _ _ (getMethod (Value.ref _) (Str.ofString "get") _) _ _ _); k_dflt (refine kdg_method (knd := bytesKind _ _) (by k_asm) (by k_mem) (by k_asm) ?_)))
local macro_rules | `(tactic| ktl_enter) => `(tactic| (refine' enterC ?k1 ?k2 ?k3 ?k4 ?k5 ?kD ?kA ?kK ?k6 ?k7 ?k8 ?k9 ?kB ?kN ?_ ?c2 ?c3 ?c4; (case kA => exact rfl); (case kK => first | assumption | exact rfl); (case k1 => k_asm); (case k2 => k_asm); (case k3 => k_asm); (case k4 => k_asm); (case k5 => k_asm); (case kD => k_asm); (case k6 => k_is); (case k7 => k_is); (case k8 => ktr_room); (case k9 => first | exact BindsTo.of_eq rfl | exact binds_K (by k_in) rfl (by k_is) rfl rfl rfl); (case kB => exact rfl); (case kN => decide +kernel); (case c2 => exact rfl); (case c3 => exact rfl); (case c4 => exact rfl); k_whole; intro g' L' h' tk' cells' hG' F' N' Y' B' X' T' D' l1; (try k_lt l1); k_cells Y'; (try simp only [List.cons_append, List.nil_append] at N'); (try dsimp only); (try k_fold)))

local macro_rules | `(tactic| walk_at "exec Assign cons ListComp") => `(tactic| (k_here; k_dflt (refine LCt.Assign_ListComp_T (F₀ := by k_asm) (by rfl) (by with_unfolding_all rfl) (by with_unfolding_all rfl) (by decide) (by rfl) (by decide) (by rfl) (by rfl) (by rfl) ?_)))

local macro_rules | `(tactic| walk_at "CompSrcT") => `(tactic| (k_here; k_dflt (refine' comp_src _ (by rfl) (by k_asm) (by k_asm) (by k_mem) ?hz ?hzs ?turn ?_; (case hz => assumption); (case hzs => assumption)); (case turn => (intro g9 v9 hv9 I9 oI9 C9 oC9 D9 ys9 m9 h9 tk9 E9 hoC9 hm9 F9 N9 off9 ne9; obtain ⟨r9, hr9, a9, b9, t9, n9, e9, eb9, ho9⟩ := RowsAre.mem (by assumption) v9 hv9; subst e9; have hT9 := tup_of ho9; simp only [LCg.Off3, and_true] at off9; k_steps; all_goals exact (pRow_of ho9).trans (by assumption))); intro g9))



local macro_rules | `(tactic| walk_at "compareOp NotEq ref ref") => `(tactic| (k_here; k_dflt (first | (refine' ne_nil_snoc ?N ?a ?b ?u ?_; (case N => k_asm); (case a => k_mem); (case b => k_mem); (case u => ktr_units)) | (refine' ne_nil_nil ?N ?a ?b ?u ?_; (case N => k_asm); (case a => k_mem); (case b => k_mem); (case u => ktr_units)) | refine held0 ?_)))
local macro_rules | `(tactic| walk_at "CompEnd") => `(tactic| k_dflt lcg_end)
def Held (P : Prop) : Prop := P
section
open PySem.W
variable {prog : Program} {w : World} {A : Around} {E : Value → Shared → Prop} {s : Shared} {env : Env} {test : PySem.Expr} {body orelse : List Stmt} {Q : Flow → Shared → Prop} {h₀ : Heap} {L : Addr} {m₀ : Str → Option Value} {news : List (Addr × Obj)}
def CutPost (C : Heap → Prop) (Q : Flow → Shared → Prop) (s : Shared) (f : Flow) (s' : Shared) : Prop :=
  match f with
  | .brk => Q .next s'
  | .ret v => Q (.ret v) s'
  | _ => ∃ h tk, s' = { s with heap := h, toks := tk } ∧ C h
theorem whl_held (k : Nat) {pos : Pos} (h : Held (WhlRest prog w A E env test body orelse Q k s)) : wpAny (model prog w) A (exec (.While test body orelse pos) env) Q E s := whl_start k h
theorem whl_cut {k : Nat} (hE : PassesOwn (model prog w) A env E) (F : Fr h₀ L s.heap m₀) (N : News h₀ L s.heap news) (xl xr : Str) (v : Int) (P : Prop)
    (tail : P → ∀ h tk t u, Fr h₀ L h (fun y => if y = xl then some (.int v t) else if y = xr then some u else m₀ y) → News h₀ L h news → WhlRest prog w A E env test body orelse Q k { s with heap := h, toks := tk })
    (now : wpAny (model prog w) A (isTrue test env (eval test env)) (fun b s₂ => WhlIf b (wpAny (model prog w) A (execs body env) (CutPost (fun h => P ∧ ∃ t u, Fr h₀ L h (fun y => if y = xl then some (.int v t) else if y = xr then some u else m₀ y) ∧ News h₀ L h news) Q s) E s₂) (wpAny (model prog w) A (execs orelse env) Q E s₂)) E s) :
    Held (WhlRest prog w A E env test body orelse Q (k + 1) s) := by
  refine whl_turn hE (wpAny_mono now (fun b s₂ h₂ => ?_) fun _ _ e => e)
  cases b with
  | false => exact h₂
  | true =>
    unfold WhlIf at h₂ ⊢
    rw [if_pos rfl] at h₂ ⊢
    refine wpAny_mono h₂ (fun f s₃ h₃ => ?_) fun _ _ e => e
    cases f with
    | next => obtain ⟨h, tk, rfl, hP, t, u, F', N'⟩ := h₃; exact tail hP h tk t u F' N'
    | cont => obtain ⟨h, tk, rfl, hP, t, u, F', N'⟩ := h₃; exact tail hP h tk t u F' N'
    | brk => exact h₃
    | ret v => exact h₃
end
local macro_rules | `(tactic| walk_at "exec While Compare") => `(tactic| (k_here; k_dflt (refine whl_held 100 ?_)))
theorem told2 {w : World} {mean : ExcName → Option Value} {mg mb : Str → Option Value} {A : Around} {cn : Str} {cs : Scope} {a : Addr} {ccd : Value} {outer : List Env} {A₀ : Around} {base h₀ : Heap} {L : Addr} {m : Str → Option Value}
    {s : Shared} {lg l1 l2 l3 dP : Addr} {n n1 n2 t tl : Nat} {kb : Array UInt8} {vs2 vs : List Value} {ℓ2 ℓ : List LRow} {oP : Obj} {kP : List (List UInt8 × Value)} {Q : Value → Shared → Prop} {E : Value → Shared → Prop} :
    At hd.heap_39 w mean mg mb A cn cs a ccd outer A₀ base h₀ L m s 20 →
    News h₀ L s.heap [(lg, listOf #[.none, .ref l1, .ref l2, .ref l3] n), (l2, listOf vs2.toArray n2), (l1, listOf vs.toArray n1), (dP, oP)] → oP.IsDictOf (bytesKind PySem.Challenge.rw_ad6016_01.row.prog w) kP →
    (dP == sysModules) = false → RowsAre s.heap vs2 ℓ2 → vs2.length ≤ sizeLine → RowsAre s.heap vs ℓ → vs.length ≤ sizeLine →
    ∀ (v2 vc vP : Option Value), lastOf ℓ2 kb.toList = v2 → lastOf ℓ kb.toList = vc → valueAt kP kb.toList = vP → Vk v2 → Vk vc →
    (∀ h' tk, KeepBut [] s.heap h' → Q ((look2 v2 vc vP).getD .none) { s with heap := h', toks := tk }) →
    wpAny (model PySem.Challenge.rw_ad6016_01.row.prog w) A (call (.ref 91) [.ref lg, .ref dP, .int 2 tl, .bytes kb t]) Q E s := by
  k_fill
  intro H N hdP lP hR2 hz2 hR hz v2 vc vP hv2 hvc hvP hw hv hret
  obtain ⟨B, F, X, T, XB, TB, D, hh, hA, hck, hdp, hun⟩ := H
  obtain ⟨hdl, dp, fr, gd, un⟩ := A
  dsimp only at hh hA hdp hun
  subst hh hA
  have off := off_of N (by kwd_same0)
  have hz4 : vs.length < 2 ^ 62 := by rw [sizeLine_eq] at hz; omega
  have hz24 : vs2.length < 2 ^ 62 := by rw [sizeLine_eq] at hz2; omega
  refine wpAny_call ?_; k_dflt ktl_enter; rename KeepBut _ _ _ => hG; replace hR := RowsAre.keep hR hG off; replace hR2 := RowsAre.keep hR2 hG off
  k_steps
  refine' whl_cut ?hE ?F ?N (Str.ofString "level") (Str.ofString "rows") 1 (look2 v2 vc vP = look1 vc vP) ?tail ?now
  case hE => first | passes_own | with_unfolding_all passes_own
  case F => k_asm
  case N => k_asm
  case tail =>
    clear hR2
    intro hP
    rw [hP] at hret
    clear hP hw hv2
    intro h9 tk9 t9 u9 F' N'
    obtain ⟨zs, hzs⟩ := rows_zs hR kb.toList
    k_steps
    unfold Held0
    rcases hv with rfl | rfl | ⟨bb, tt, rfl⟩ <;> (unfold look1 at hret; dsimp only [Option.getD] at hret)
    · have e9 := rows_none hR hvc
      rw [e9] at hzs; subst hzs
      k_steps
      exact hret _ _ (by tb_start)
    all_goals
      obtain ⟨ini, a5, b5, t5, n5, e9, hl5⟩ := rows_some hR hvc
      have hz5 := ini_lt e9 hz4
      rw [e9] at hzs; subst hzs
      have hT5 := tup_of hl5
      k_steps
      exact hret _ _ (by tb_start)
  case now =>
    clear hR
    obtain ⟨zs2, hzs2⟩ := rows_zs hR2 kb.toList
    k_steps
    unfold Held0
    rcases hw with rfl | rfl | ⟨bb, tt, rfl⟩
    · have e9 := rows_none hR2 hv2
      rw [e9] at hzs2; subst hzs2
      k_steps
      exact ⟨_, _, rfl, rfl, _, _, by k_asm, news_sub (by assumption) (by k_allIn)⟩
    all_goals
      obtain ⟨ini, a5, b5, t5, n5, e9, hl5⟩ := rows_some hR2 hv2
      have hz5 := ini_lt e9 hz24
      rw [e9] at hzs2; subst hzs2
      have hT5 := tup_of hl5
      k_steps
    · exact ⟨_, _, rfl, rfl, _, _, by k_asm, news_sub (by assumption) (by k_allIn)⟩
    · show Q _ _
      exact hret _ _ (by tb_start)
end
section
/-- the end of a turn: what the loop looks at stays, the names that the loop does not store stay, J holds -/
def TurnEnd (h₀ : Heap) (L : Addr) (stored : List Str) (m₀ : Str → Option Value) (fp : List Addr) (J : Heap → Prop) (Qr : Value → Shared → Prop) (s₁ : Shared) (f : Flow) (s₂ : Shared) : Prop :=
  match f with
  | .ret v => Qr v s₂
  | .brk => False
  | _ => ∃ h' tk' m₂, s₂ = { s₁ with heap := h', toks := tk' } ∧ Fr h₀ L h' m₂ ∧ (∀ z, stored.contains z = false → m₂ z = m₀ z) ∧ (∀ b ∈ fp, ∀ o, s₁.heap.get? b = some o → h'.get? b = some o) ∧ J h'
theorem names_of {stored : List Str} {m₀ m₂ : Str → Option Value} (h : ∀ z, stored.contains z = false → m₂ z = m₀ z) : m₂ = fun y => if stored.contains y = true then m₂ y else m₀ y := by
  funext y
  cases e : stored.contains y with
  | true => rw [if_pos rfl]
  | false => rw [if_neg (by decide)]; exact h y e

section
variable {prog : Program} {w : World} {A : Around} {s : Shared} {env : Env} {h₀ : Heap}

theorem for_walks {R : Result → Shared → Prop} {x : Str} {px : Pos} {body : List Stmt} {I : Addr} {fp wr : List Addr} {n : Nat} {P : Nat → Value → Prop} {St : Nat → Heap → Prop} {m₀ : Str → Option Value}
    (W : Walks prog w A I fp wr n P St) (stored : List Str) (J : Nat → Heap → Prop) (hx : env.kindOf x = some .local)
    (hp : (env.scope.kind == .class || (env.scope.kind == .module && env.locals != env.globals)) = false) (hxs : stored.contains x = true)
    (hLf : env.locals ∉ fp) (hwr : ∀ b ∈ wr, h₀.get? b = none)
    (stable : ∀ i h h', J i h → (∀ b o, b ≠ env.locals → b ∉ wr → h.get? b = some o → h'.get? b = some o) → J i h')
    (hst : St 0 s.heap) (F : Fr h₀ env.locals s.heap m₀) (h0 : J 0 s.heap)
    (step : ∀ i v (u : Str → Option Value) h tk, i < n → P i v → J i h → St (i + 1) h → Fr h₀ env.locals h (fun y => if y = x then some v else if stored.contains y = true then u y else m₀ y) →
      wpAny (model prog w) A (execs body env) (TurnEnd h₀ env.locals stored m₀ fp (J (i + 1)) (fun v s' => R (.ok (.ret v)) s') { s with heap := h, toks := tk }) (notedBy (model prog w) A env fun e s' => R (.error e) s') { s with heap := h, toks := tk })
    (hR : ∀ h' tk (u : Str → Option Value), Fr h₀ env.locals h' (fun y => if stored.contains y = true then u y else m₀ y) → J n h' → R (.ok .next) { s with heap := h', toks := tk }) :
    codeAny (model prog w) A (.forLoop (.Name x px) (.ref I) body [] env) R s := by
  have hLw : env.locals ∉ wr := fun h => hLf (W.sub _ h)
  have old : ∀ b o, h₀.get? b = some o → b ∉ wr := fun b o e hb => by rw [hwr b hb] at e; cases e
  refine codeAny_forLoop_any
    (fun k s' => ∃ h' tk m' i, s' = { s with heap := h', toks := tk } ∧ St i h' ∧ Fr h₀ env.locals h' m' ∧ (∀ z, stored.contains z = false → m' z = m₀ z) ∧ J i h' ∧ i ≤ n ∧ k = n + 1 - i) ?_ (n + 1)
    ⟨s.heap, s.toks, m₀, 0, rfl, hst, F, fun _ _ => rfl, h0, Nat.zero_le _, rfl⟩
  rintro k s' ⟨h', tk, m', i, rfl, hst', F', hm, hJ, hi, rfl⟩
  have next : ∀ h₁ : Heap, (∀ b o, b ∉ wr → h'.get? b = some o → h₁.get? b = some o) → Fr h₀ env.locals h₁ m' := fun h₁ hk₁ =>
    ⟨F'.ns.at' fun o e => hk₁ _ o hLw e, fun b o e => hk₁ b o (old b o e) (F'.keep b o e), F'.above⟩
  by_cases hlt : i < n
  · refine W.item i _ _ _ hlt hst' fun v h₁ tk₁ hP hst₁ hk₁ => ?_
    have F₁ := next h₁ hk₁
    unfold letOwnedTupleGo
    refine wpAny_pure ?_
    refine wpAny_assign_Name (wpAny_storeName_local hx F₁.ns (fun h₂ hn₂ hs₂ => ?_) hp)
    have F₂ := F₁.set hn₂ hs₂
    have hst₂ : St (i + 1) h₂ := W.frame _ _ _ hst₁ fun b hb o e => (hs₂.2 b fun q => hLf (q ▸ hb)).trans e
    have hJ₂ : J i h₂ := stable i h' h₂ hJ fun b o bL bw e => (hs₂.2 b bL).trans (hk₁ b o bw e)
    rw [names_of hm] at F₂
    refine wpAny_mono (step i v m' h₂ _ hlt hP hJ₂ hst₂ F₂) (fun f s₃ h₃ => ?_) fun _ _ e => e
    have fin : TurnEnd h₀ env.locals stored m₀ fp (J (i + 1)) (fun v s' => R (.ok (.ret v)) s') { s with heap := h₂, toks := tk₁ + 1 } .next s₃ →
        ∃ m, m < n + 1 - i ∧ ∃ h' tk m' i, s₃ = { s with heap := h', toks := tk } ∧ St i h' ∧ Fr h₀ env.locals h' m' ∧ (∀ z, stored.contains z = false → m' z = m₀ z) ∧ J i h' ∧ i ≤ n ∧ m = n + 1 - i := by
      rintro ⟨h₃', tk₃, m₃, rfl, F₃, hm₃, hk₃, hJ₃⟩
      exact ⟨n + 1 - (i + 1), by omega, h₃', tk₃, m₃, i + 1, rfl, W.frame _ _ _ hst₂ fun b hb o e => hk₃ b hb o e, F₃, hm₃, hJ₃, hlt, rfl⟩
    cases f with
    | ret v => exact h₃
    | brk => exact h₃.elim
    | cont => exact fin h₃
    | next => exact fin h₃
  · have hin : i = n := by omega
    subst hin
    refine W.done _ _ _ hst' fun h₁ tk₁ hk₁ => wpAny_execs_nil ?_
    have F₁ := next h₁ hk₁
    rw [names_of hm] at F₁
    exact hR h₁ tk₁ m' F₁ (stable i h' h₁ hJ fun b o _ bw e => hk₁ b o bw e)

theorem for_walksU {R : Result → Shared → Prop} {xi xc : Str} {pk pv pt : Pos} {x1 : Nat} {body : List Stmt} {I : Addr} {fp wr : List Addr} {n : Nat} {Pt : Nat → Array Value → Prop} {St : Nat → Heap → Prop} {Mid : Nat → Addr → Heap → Prop}
    {P2 : Nat → Value → Value → Prop} {m₀ : Str → Option Value} (hh : A.handled = none) (W : WalksU prog w A I fp wr n Pt St Mid) (h2 : ∀ i vals, Pt i vals → ∃ v0 v1, vals = #[v0, v1] ∧ P2 i v0 v1) (stored : List Str) (J : Nat → Heap → Prop)
    (hxi : env.kindOf xi = some .local) (hxc : env.kindOf xc = some .local)
    (hp : (env.scope.kind == .class || (env.scope.kind == .module && env.locals != env.globals)) = false) (hxis : stored.contains xi = true) (hxcs : stored.contains xc = true)
    (hLf : env.locals ∉ fp) (hwr : ∀ b ∈ wr, h₀.get? b = none)
    (stable : ∀ i h h', J i h → (∀ b o, b ≠ env.locals → b ∉ wr → h.get? b = some o → h'.get? b = some o) → J i h')
    (hst : St 0 s.heap) (F : Fr h₀ env.locals s.heap m₀) (h0 : J 0 s.heap)
    (step : ∀ i v0 v1 (u : Str → Option Value) h tk, i < n → P2 i v0 v1 → J i h → St (i + 1) h → Fr h₀ env.locals h (fun y => if y = xc then some v1 else if y = xi then some v0 else if stored.contains y = true then u y else m₀ y) →
      wpAny (model prog w) A (execs body env) (TurnEnd h₀ env.locals stored m₀ fp (J (i + 1)) (fun v s' => R (.ok (.ret v)) s') { s with heap := h, toks := tk }) (notedBy (model prog w) A env fun e s' => R (.error e) s') { s with heap := h, toks := tk })
    (hR : ∀ h' tk (u : Str → Option Value), Fr h₀ env.locals h' (fun y => if stored.contains y = true then u y else m₀ y) → J n h' → R (.ok .next) { s with heap := h', toks := tk }) :
    codeAny (model prog w) A (.forLoop (.Tuple [.Name xi pk, .Name xc pv] x1 pt) (.ref I) body [] env) R s := by
  have hLw : env.locals ∉ wr := fun h => hLf (W.sub _ h)
  have old : ∀ b o, h₀.get? b = some o → b ∉ wr := fun b o e hb => by rw [hwr b hb] at e; cases e
  refine codeAny_forLoop_any
    (fun k s' => ∃ h' tk m' i, s' = { s with heap := h', toks := tk } ∧ St i h' ∧ Fr h₀ env.locals h' m' ∧ (∀ z, stored.contains z = false → m' z = m₀ z) ∧ J i h' ∧ i ≤ n ∧ k = n + 1 - i) ?_ (n + 1)
    ⟨s.heap, s.toks, m₀, 0, rfl, hst, F, fun _ _ => rfl, h0, Nat.zero_le _, rfl⟩
  rintro k s' ⟨H, tk, m', i, rfl, hst', F', hm, hJ, hi, rfl⟩
  have next : ∀ h₁ : Heap, (∀ b o, b ∉ wr → H.get? b = some o → h₁.get? b = some o) → Fr h₀ env.locals h₁ m' := fun h₁ hk₁ =>
    ⟨F'.ns.at' fun o e => hk₁ _ o hLw e, fun b o e => hk₁ b o (old b o e) (F'.keep b o e), F'.above⟩
  by_cases hlt : i < n
  · refine W.item i _ _ _ hlt hst' fun T vals h₁ tk₁ hPt hT hMid hk₁ => ?_
    obtain ⟨v0, v1, rfl, hP2⟩ := h2 i vals hPt
    refine W.go _ x1 pt i T _ _ _ hMid fun h₂ hst₂ hk₂ => ?_
    have ht₂ : h₂.IsTuple T #[v0, v1] := hT.at fun o e => hk₂ T o (W.apart i T h₁ hMid) e
    refine wpAny_assign_Tuple hh ht₂ rfl rfl fun h₃ hx₃ => ?_
    replace hx₃ : Heap.ExtBut h₂.objs.size h₂ h₃ := hx₃
    have up₃ : ∀ b o, h₂.get? b = some o → h₃.get? b = some o := fun b o x => hx₃ b o (Nat.ne_of_lt (Heap.lt_size x)) x
    have F₃ := next h₃ fun b o hb x => up₃ b o (hk₂ b o hb (hk₁ b o hb x))
    show wpAny _ A (do holding [v1] (assign (.Name xi pk) env v0); do holding [] (assign (.Name xc pv) env v1); pure ()) _ _ _
    refine wpAny_bind (wpAny_holding (wpAny_assign_Name (wpAny_storeName_local hxi F₃.ns (fun h₄ hn₄ hs₄ => ?_) hp)))
    replace hs₄ : Heap.SameBut env.locals h₃ h₄ := hs₄
    have F₄ := F₃.set hn₄ hs₄
    refine wpAny_bind (wpAny_holding (wpAny_assign_Name (wpAny_storeName_local hxc F₄.ns (fun h₅ hn₅ hs₅ => wpAny_pure ?_) hp)))
    replace hs₅ : Heap.SameBut env.locals h₄ h₅ := hs₅
    have F₅ := F₄.set hn₅ hs₅
    have hst₅ : St (i + 1) h₅ := W.frame _ _ _ hst₂ fun b hb o e => hs₅.extBut b o (fun q => hLf (q ▸ hb)) (hs₄.extBut b o (fun q => hLf (q ▸ hb)) (up₃ b o e))
    have hJ₅ : J i h₅ := stable i H h₅ hJ fun b o bL bw e => hs₅.extBut b o bL (hs₄.extBut b o bL (up₃ b o (hk₂ b o bw (hk₁ b o bw e))))
    rw [names_of hm] at F₅
    refine wpAny_mono (step i v0 v1 m' h₅ _ hlt hP2 hJ₅ hst₅ F₅) (fun f s₃ h₆ => ?_) fun _ _ e => e
    have fin : TurnEnd h₀ env.locals stored m₀ fp (J (i + 1)) (fun v s' => R (.ok (.ret v)) s') { s with heap := h₅, toks := tk₁ + 1 + 1 } .next s₃ →
        ∃ m, m < n + 1 - i ∧ ∃ h' tk m' i, s₃ = { s with heap := h', toks := tk } ∧ St i h' ∧ Fr h₀ env.locals h' m' ∧ (∀ z, stored.contains z = false → m' z = m₀ z) ∧ J i h' ∧ i ≤ n ∧ m = n + 1 - i := by
      rintro ⟨h₃', tk₃, m₃, rfl, F₃, hm₃, hk₃, hJ₃⟩
      exact ⟨n + 1 - (i + 1), by omega, h₃', tk₃, m₃, i + 1, rfl, W.frame _ _ _ hst₅ fun b hb o e => hk₃ b hb o e, F₃, hm₃, hJ₃, hlt, rfl⟩
    cases f with
    | ret v => exact h₆
    | brk => exact h₆.elim
    | cont => exact fin h₆
    | next => exact fin h₆
  · have hin : i = n := by omega
    subst hin
    refine W.done _ _ _ hst' fun h₁ tk₁ hk₁ => wpAny_execs_nil ?_
    have F₁ := next h₁ hk₁
    rw [names_of hm] at F₁
    exact hR h₁ tk₁ m' F₁ (stable i H h₁ hJ fun b o _ bw e => hk₁ b o bw e)

theorem for_items {K : Type} [DecidableEq K] {knd : KeyKind prog w K} {R : Result → Shared → Prop} {xk xv : Str} {pk pv pt : Pos} {x1} {body : List Stmt} {it d : Addr} {kvs : List (K × Value)} {ep : Nat} {m₀ : Str → Option Value}
    (hh : A.handled = none) (stored : List Str) (J : Nat → Heap → Prop) (hxk : env.kindOf xk = some .local) (hxv : env.kindOf xv = some .local)
    (hp : (env.scope.kind == .class || (env.scope.kind == .module && env.locals != env.globals)) = false) (hxks : stored.contains xk = true) (hxvs : stored.contains xv = true)
    (hiL : it ≠ env.locals) (hdL : d ≠ env.locals) (hdi : d ≠ it) (hin : h₀.get? it = none)
    (hit : IsItemIter s.heap it d 0 kvs.length ep .none .none) (hm : s.heap.DictAt knd d kvs ep) (F : Fr h₀ env.locals s.heap m₀)
    (stable : ∀ i h h', J i h → (∀ b o, b ≠ env.locals → b ≠ it → h.get? b = some o → h'.get? b = some o) → J i h') (h0 : J 0 s.heap)
    (step : ∀ i k v key (u : Str → Option Value) h tk, kvs[i]? = some (k, v) → knd.is k key = true → J i h → h.DictAt knd d kvs ep → Fr h₀ env.locals h (fun y => if y = xv then some v else if y = xk then some key else if stored.contains y = true then u y else m₀ y) →
      wpAny (model prog w) A (execs body env) (TurnEnd h₀ env.locals stored m₀ [it, d] (J (i + 1)) (fun v s' => R (.ok (.ret v)) s') { s with heap := h, toks := tk }) (notedBy (model prog w) A env fun e s' => R (.error e) s') { s with heap := h, toks := tk })
    (hR : ∀ h' tk (u : Str → Option Value), Fr h₀ env.locals h' (fun y => if stored.contains y = true then u y else m₀ y) → J kvs.length h' → R (.ok .next) { s with heap := h', toks := tk }) :
    codeAny (model prog w) A (.forLoop (.Tuple [.Name xk pk, .Name xv pv] x1 pt) (.ref it) body [] env) R s := by
  refine codeAny_forLoop_any
    (fun n s' => ∃ h' tk m' i ok ov, s' = { s with heap := h', toks := tk } ∧ IsItemIter h' it d i kvs.length ep ok ov ∧ h'.DictAt knd d kvs ep ∧ Fr h₀ env.locals h' m' ∧ (∀ z, stored.contains z = false → m' z = m₀ z) ∧ J i h' ∧ i ≤ kvs.length ∧
      n = kvs.length + 1 - i) ?_ (kvs.length + 1)
    ⟨s.heap, s.toks, m₀, 0, .none, .none, rfl, hit, hm, F, fun _ _ => rfl, h0, Nat.zero_le _, rfl⟩
  rintro n s' ⟨H, tk, m', i, ok, ov, rfl, hit', hm', F', hnm, hJ, hi, rfl⟩
  have hn' := F'.ns
  have oldNe : ∀ b o, h₀.get? b = some o → b ≠ it := fun b o e q => by rw [q, hin] at e; cases e
  cases hv : kvs[i]? with
  | none =>
    have hsz : i = kvs.length := Nat.le_antisymm hi (by simpa using hv)
    refine wpAny_pyNext_items_end hh hit' hm' hv fun h₁ he₁ => wpAny_execs_nil ?_
    have F₁ : Fr h₀ env.locals h₁ m' := ⟨hn'.extBut he₁ (Ne.symm hiL), fun b o e => he₁ b o (oldNe b o e) (F'.keep b o e), F'.above⟩
    rw [names_of hnm] at F₁
    exact hR h₁ tk m' F₁ (hsz ▸ stable i H h₁ hJ fun b o _ bi e => he₁ b o bi e)
  | some kv =>
    obtain ⟨k, v⟩ := kv
    have hlt : i < kvs.length := (List.getElem?_eq_some_iff.mp hv).1
    have hiH : it < H.objs.size := Heap.lt_size hit'
    have hLH : env.locals < H.objs.size := hn'.lt
    have hdH : d < H.objs.size := hm'.lt_size
    refine wpAny_pyNext_items_item hit' hm' hv fun key h₁ hkey heo ht₁ hz₁ hk₁ => ?_
    refine wpAny_letOwnedTupleGo_items heo fun h₂ he₂ hs₂ => ?_
    replace hs₂ : Heap.SameBut it h₁ h₂ := hs₂
    have ht₂ : h₂.IsTuple H.objs.size #[key, v] := ⟨_, (hs₂.2 _ (Nat.ne_of_gt hiH)).trans ht₁, rfl, _, rfl⟩
    have hz₂ : h₂.objs.size = H.objs.size + 1 := hs₂.1.trans hz₁
    refine wpAny_assign_Tuple hh ht₂ rfl rfl fun h₃ hx₃ => ?_
    replace hx₃ : Heap.ExtBut h₂.objs.size h₂ h₃ := hx₃
    have old₃ : ∀ b o, b < H.objs.size → h₂.get? b = some o → h₃.get? b = some o := fun b o hb x => hx₃ b o (by rw [hz₂]; exact Nat.ne_of_lt (Nat.lt_succ_of_lt hb)) x
    have up₃ : ∀ b o, b ≠ it → H.get? b = some o → h₃.get? b = some o := fun b o hb x => old₃ b o (Heap.lt_size x) (hs₂.extBut b o hb (hk₁ b o hb x))
    have F₃ : Fr h₀ env.locals h₃ m' := ⟨hn'.at fun o x => up₃ _ o (Ne.symm hiL) x, fun b o e => up₃ b o (oldNe b o e) (F'.keep b o e), F'.above⟩
    show wpAny _ _ (do holding [v] (assign (.Name xk pk) env key); do holding [] (assign (.Name xv pv) env v); pure ()) _ _ _
    refine wpAny_bind (wpAny_holding (wpAny_assign_Name (wpAny_storeName_local hxk F₃.ns (fun h₄ hn₄ hs₄ => ?_) hp)))
    replace hs₄ : Heap.SameBut env.locals h₃ h₄ := hs₄
    have F₄ := F₃.set hn₄ hs₄
    refine wpAny_bind (wpAny_holding (wpAny_assign_Name (wpAny_storeName_local hxv F₄.ns (fun h₅ hn₅ hs₅ => wpAny_pure ?_) hp)))
    replace hs₅ : Heap.SameBut env.locals h₄ h₅ := hs₅
    have F₅ := F₄.set hn₅ hs₅
    have up₅ : ∀ b o, b ≠ env.locals → b < H.objs.size → h₂.get? b = some o → h₅.get? b = some o := fun b o hbL hb x => hs₅.extBut b o hbL (hs₄.extBut b o hbL (old₃ b o hb x))
    have hm₂ : h₂.DictAt knd d kvs ep := (hm'.at fun o x => hk₁ d o hdi x).extBut hs₂.extBut hdi
    have hm₅ : h₅.DictAt knd d kvs ep := hm₂.at fun o x => up₅ d o hdL hdH x
    have hit₅ := up₅ it _ hiL hiH he₂
    have hJ₅ : J i h₅ := stable i H h₅ hJ fun b o bL bi e => hs₅.extBut b o bL (hs₄.extBut b o bL (up₃ b o bi e))
    rw [names_of hnm] at F₅
    refine wpAny_mono (step i k v key m' h₅ _ hv hkey hJ₅ hm₅ F₅) (fun f s₃ h₆ => ?_) fun _ _ x => x
    have fin : TurnEnd h₀ env.locals stored m₀ [it, d] (J (i + 1)) (fun v s' => R (.ok (.ret v)) s') { s with heap := h₅, toks := tk + 1 + 1 } .next s₃ →
        ∃ m, m < kvs.length + 1 - i ∧ ∃ h' tk m' i ok ov, s₃ = { s with heap := h', toks := tk } ∧ IsItemIter h' it d i kvs.length ep ok ov ∧ h'.DictAt knd d kvs ep ∧ Fr h₀ env.locals h' m' ∧ (∀ z, stored.contains z = false → m' z = m₀ z) ∧ J i h' ∧ i ≤ kvs.length ∧ m = kvs.length + 1 - i := by
      rintro ⟨h₇, tk₆, m₂, rfl, F₆, hm₆, hk₆, hJ₆⟩
      exact ⟨kvs.length + 1 - (i + 1), by omega, h₇, tk₆, m₂, i + 1, key, v, rfl, hk₆ it (by simp) _ hit₅, hm₅.at fun o x => hk₆ d (by simp) o x, F₆, hm₆, hJ₆, hlt, rfl⟩
    cases f with
    | ret v => exact h₆
    | brk => exact h₆.elim
    | cont => exact fin h₆
    | next => exact fin h₆
end

/-- all that stands beside the written part -/
def restOf (h₀ : Heap) (L : Addr) (W : List Addr) (h : Heap) : List (Addr × Obj) :=
  (List.range h.objs.size).filterMap fun b => if b ∈ W ∨ b = L ∨ (h₀.get? b).isSome = true then none else (h.get? b).map fun o => (b, o)
theorem mem_restOf {h₀ : Heap} {L : Addr} {W : List Addr} {h : Heap} {p : Addr × Obj} : p ∈ restOf h₀ L W h ↔ p.1 ∉ W ∧ p.1 ≠ L ∧ h₀.get? p.1 = none ∧ h.get? p.1 = some p.2 := by
  unfold restOf
  rw [List.mem_filterMap]
  constructor
  · rintro ⟨b, _, e⟩
    by_cases c : b ∈ W ∨ b = L ∨ (h₀.get? b).isSome = true
    · rw [if_pos c] at e; cases e
    · rw [if_neg c] at e
      obtain ⟨o, ho, rfl⟩ := Option.map_eq_some_iff.mp e
      refine ⟨fun q => c (.inl q), fun q => c (.inr (.inl q)), ?_, ho⟩
      cases q : h₀.get? b with
      | none => rfl
      | some o' => exact absurd (.inr (.inr (by rw [q]; rfl))) c
  · rintro ⟨a, b, c, d⟩
    refine ⟨p.1, List.mem_range.mpr (Heap.lt_size d), ?_⟩
    rw [if_neg (by rintro (q | q | q); exact a q; exact b q; rw [c] at q; cases q), d]
    rfl
theorem rest_news {h₀ h : Heap} {L : Addr} {news : List (Addr × Obj)} (N : News h₀ L h news) : News h₀ L h (news ++ restOf h₀ L (news.map (·.1)) h) := fun p hp => by
  rcases List.mem_append.mp hp with hp | hp
  · exact N p hp
  · obtain ⟨_, b, c, d⟩ := mem_restOf.mp hp
    exact ⟨d, b, c⟩
theorem rest_off {h₀ h : Heap} {L : Addr} {W : List Addr} : OwnOff (restOf h₀ L W h) W := fun p hp b hb e => (mem_restOf.mp hp).1 (e ▸ hb)
theorem rest_keep {h₀ h h' : Heap} {L L₂ : Addr} {W : List Addr} {m' : Str → Option Value} {news' : List (Addr × Obj)} (K : ∀ b o, h₀.get? b = some o → h.get? b = some o) (F' : Fr h₀ L h' m') (N' : News h₀ L₂ h' news') (hsub : ∀ p ∈ restOf h₀ L W h, p ∈ news') :
    ∀ b o, b ≠ L → b ∉ W → h.get? b = some o → h'.get? b = some o := fun b o bL bW e => by
  cases q : h₀.get? b with
  | some o' =>
    have := K b o' q
    rw [e] at this
    exact Option.some.inj this ▸ F'.keep b o' q
  | none => exact (N' _ (hsub (b, o) (mem_restOf.mpr ⟨bW, bL, q, e⟩))).1
end
section
def Hold (P : Prop) : Prop := P
section
open PySem.W
variable {prog : Program} {w : World} {A : Around} {s : Shared} {env : Env} {h₀ : Heap} {E : Value → Shared → Prop} {Q : Flow → Shared → Prop}
theorem for_held {target iter : Expr} {body : List Stmt} {pos : Pos}
    (h : wpAny (model prog w) A (eval iter env) (fun x s₁ => wpAny (model prog w) A (pyIter x) (fun it s₂ =>
      Hold (codeAny (model prog w) A (.forLoop target it body [] env) (fun r s' => match r with | .ok f => Q f s' | .error e => cameBackBy (model prog w) A env E e s') s₂)) E s₁) E s)
    (hs : ∀ x, foldedSetIterable iter env x = pure x) :
    wpAny (model prog w) A (exec (.For target iter body [] pos) env) Q E s := wpAny_For h hs

theorem items_held {K : Type} [DecidableEq K] {knd : KeyKind prog w K} {xk xv : Str} {pk pv pt : Pos} {x1} {body : List Stmt} {it d : Addr} {kvs : List (K × Value)} {ep : Nat} {m₀ : Str → Option Value}
    (hE : PassesOwn (model prog w) A env E)
    (hh : A.handled = none) (stored : List Str) (J : Nat → Heap → Prop) (hxk : env.kindOf xk = some .local) (hxv : env.kindOf xv = some .local)
    (hp : (env.scope.kind == .class || (env.scope.kind == .module && env.locals != env.globals)) = false) (hxks : stored.contains xk = true) (hxvs : stored.contains xv = true)
    (hiL : it ≠ env.locals) (hdL : d ≠ env.locals) (hdi : d ≠ it) (hin : h₀.get? it = none)
    (hit : IsItemIter s.heap it d 0 kvs.length ep .none .none) (hm : s.heap.DictAt knd d kvs ep) (F : Fr h₀ env.locals s.heap m₀)
    (stable : ∀ i h h', J i h → (∀ b o, b ≠ env.locals → b ≠ it → h.get? b = some o → h'.get? b = some o) → J i h') (h0 : J 0 s.heap)
    (step : ∀ i k v key (u : Str → Option Value) h tk, kvs[i]? = some (k, v) → knd.is k key = true → J i h → h.DictAt knd d kvs ep → Fr h₀ env.locals h (fun y => if y = xv then some v else if y = xk then some key else if stored.contains y = true then u y else m₀ y) →
      wpAny (model prog w) A (execs body env) (TurnEnd h₀ env.locals stored m₀ [it, d] (J (i + 1)) (fun v s' => Q (.ret v) s') { s with heap := h, toks := tk }) E { s with heap := h, toks := tk })
    (hR : ∀ h' tk (u : Str → Option Value), Fr h₀ env.locals h' (fun y => if stored.contains y = true then u y else m₀ y) → J kvs.length h' → Q .next { s with heap := h', toks := tk }) :
    Hold (codeAny (model prog w) A (.forLoop (.Tuple [.Name xk pk, .Name xv pv] x1 pt) (.ref it) body [] env) (fun r s' => match r with | .ok f => Q f s' | .error e => cameBackBy (model prog w) A env E e s') s) :=
  for_items (R := fun r s' => match r with | .ok f => Q f s' | .error e => cameBackBy (model prog w) A env E e s') hh stored J hxk hxv hp hxks hxvs hiL hdL hdi hin hit hm F stable h0
    (fun i k v key u h tk a b c d e => wpAny_mono (step i k v key u h tk a b c d e) (fun _ _ x => x) hE) hR

theorem pairs_held {xi xc : Str} {pk pv pt : Pos} {x1 : Nat} {body : List Stmt} {I : Addr} {fp wr : List Addr} {n : Nat} {Pt : Nat → Array Value → Prop} {St : Nat → Heap → Prop} {Mid : Nat → Addr → Heap → Prop}
    {P2 : Nat → Value → Value → Prop} {m₀ : Str → Option Value} (hE : PassesOwn (model prog w) A env E) (hh : A.handled = none) (W : WalksU prog w A I fp wr n Pt St Mid) (h2 : ∀ i vals, Pt i vals → ∃ v0 v1, vals = #[v0, v1] ∧ P2 i v0 v1) (stored : List Str) (J : Nat → Heap → Prop)
    (hxi : env.kindOf xi = some .local) (hxc : env.kindOf xc = some .local)
    (hp : (env.scope.kind == .class || (env.scope.kind == .module && env.locals != env.globals)) = false) (hxis : stored.contains xi = true) (hxcs : stored.contains xc = true)
    (hLf : env.locals ∉ fp) (hwr : ∀ b ∈ wr, h₀.get? b = none)
    (stable : ∀ i h h', J i h → (∀ b o, b ≠ env.locals → b ∉ wr → h.get? b = some o → h'.get? b = some o) → J i h')
    (hst : St 0 s.heap) (F : Fr h₀ env.locals s.heap m₀) (h0 : J 0 s.heap)
    (step : ∀ i v0 v1 (u : Str → Option Value) h tk, i < n → P2 i v0 v1 → J i h → St (i + 1) h → Fr h₀ env.locals h (fun y => if y = xc then some v1 else if y = xi then some v0 else if stored.contains y = true then u y else m₀ y) →
      wpAny (model prog w) A (execs body env) (TurnEnd h₀ env.locals stored m₀ fp (J (i + 1)) (fun v s' => Q (.ret v) s') { s with heap := h, toks := tk }) E { s with heap := h, toks := tk })
    (hR : ∀ h' tk (u : Str → Option Value), Fr h₀ env.locals h' (fun y => if stored.contains y = true then u y else m₀ y) → J n h' → Q .next { s with heap := h', toks := tk }) :
    Hold (codeAny (model prog w) A (.forLoop (.Tuple [.Name xi pk, .Name xc pv] x1 pt) (.ref I) body [] env) (fun r s' => match r with | .ok f => Q f s' | .error e => cameBackBy (model prog w) A env E e s') s) :=
  for_walksU (R := fun r s' => match r with | .ok f => Q f s' | .error e => cameBackBy (model prog w) A env E e s') hh W h2 stored J hxi hxc hp hxis hxcs hLf hwr stable hst F h0
    (fun i v0 v1 u h tk a b c d e => wpAny_mono (step i v0 v1 u h tk a b c d e) (fun _ _ x => x) hE) hR

theorem names_held {x : Str} {px : Pos} {body : List Stmt} {I : Addr} {fp wr : List Addr} {n : Nat} {P : Nat → Value → Prop} {St : Nat → Heap → Prop} {m₀ : Str → Option Value}
    (hE : PassesOwn (model prog w) A env E) (W : Walks prog w A I fp wr n P St) (stored : List Str) (J : Nat → Heap → Prop) (hx : env.kindOf x = some .local)
    (hp : (env.scope.kind == .class || (env.scope.kind == .module && env.locals != env.globals)) = false) (hxs : stored.contains x = true)
    (hLf : env.locals ∉ fp) (hwr : ∀ b ∈ wr, h₀.get? b = none)
    (stable : ∀ i h h', J i h → (∀ b o, b ≠ env.locals → b ∉ wr → h.get? b = some o → h'.get? b = some o) → J i h')
    (hst : St 0 s.heap) (F : Fr h₀ env.locals s.heap m₀) (h0 : J 0 s.heap)
    (step : ∀ i v (u : Str → Option Value) h tk, i < n → P i v → J i h → St (i + 1) h → Fr h₀ env.locals h (fun y => if y = x then some v else if stored.contains y = true then u y else m₀ y) →
      wpAny (model prog w) A (execs body env) (TurnEnd h₀ env.locals stored m₀ fp (J (i + 1)) (fun v s' => Q (.ret v) s') { s with heap := h, toks := tk }) E { s with heap := h, toks := tk })
    (hR : ∀ h' tk (u : Str → Option Value), Fr h₀ env.locals h' (fun y => if stored.contains y = true then u y else m₀ y) → J n h' → Q .next { s with heap := h', toks := tk }) :
    Hold (codeAny (model prog w) A (.forLoop (.Name x px) (.ref I) body [] env) (fun r s' => match r with | .ok f => Q f s' | .error e => cameBackBy (model prog w) A env E e s') s) :=
  for_walks (R := fun r s' => match r with | .ok f => Q f s' | .error e => cameBackBy (model prog w) A env E e s') W stored J hx hp hxs hLf hwr stable hst F h0
    (fun i v u h tk a b c d e => wpAny_mono (step i v u h tk a b c d e) (fun _ _ x => x) hE) hR
end

/-- what a commit does with the rows of the cache -/
def app1 (dd : Bool) (acc : List LRow) (r : LRow) : List LRow := match r.2 with
  | .none => if dd = true then without acc r.1 else acc
  | v => stored acc r.1 v
def applied (dd : Bool) (rows kB : List LRow) : List LRow := rows.foldl (app1 dd) kB
theorem applied_take {dd : Bool} {rows kB : List LRow} {i : Nat} {r : LRow} (h : rows[i]? = some r) : applied dd (rows.take (i + 1)) kB = app1 dd (applied dd (rows.take i) kB) r := by
  unfold applied
  rw [List.take_add_one, h, List.foldl_append]; rfl
theorem stored_len (kvs : List LRow) (k : List UInt8) (v : Value) : (stored kvs k v).length ≤ kvs.length + 1 := by
  induction kvs with
  | nil => exact Nat.le_refl _
  | cons p t ih =>
    unfold stored
    split
    · simp
    · simp
theorem without_len (kvs : List LRow) (k : List UInt8) : (without kvs k).length ≤ kvs.length := by
  unfold without
  exact List.length_filter_le _ _
theorem app1_len (dd : Bool) (acc : List LRow) (r : LRow) : (app1 dd acc r).length ≤ acc.length + 1 := by
  unfold app1
  split
  · split
    · exact Nat.le_succ_of_le (without_len _ _)
    · exact Nat.le_succ _
  · exact stored_len _ _ _
theorem applied_len (dd : Bool) (rows : List LRow) : ∀ kB : List LRow, (applied dd rows kB).length ≤ kB.length + rows.length := by
  unfold applied
  induction rows with
  | nil => intro kB; exact Nat.le_refl _
  | cons r t ih =>
    intro kB
    rw [List.foldl_cons, List.length_cons]
    exact Nat.le_trans (ih _) (by have := app1_len dd kB r; omega)
end
section
abbrev viewOf (d : Addr) : Obj := { cls := .type "dict_items", data := .fields #[.ref d] }
abbrev iterOf (d : Addr) (n ep : Nat) : Obj := { cls := .type "dict_itemiterator", data := .fields #[.none, .bool false, .ref d, .int 0 0, .int n 0, .int ep 0, .none, .none] }
section
open PySem.W
variable {prog : Program} {w : World} {K : Type} [DecidableEq K] {knd : KeyKind prog w K} {A : Around} {E : Value → Shared → Prop} {s : Shared} {h₀ : Heap} {L d : Addr} {m : Str → Option Value} {news : List (Addr × Obj)} {g : Obj → List (Addr × Obj)} {o : Obj} {kvs : List (K × Value)} {k : K} {key : Value}
theorem kdi_method {pl : Sem Bool} {Q : Value × List Value → Shared → Prop} (N : News h₀ L s.heap news) (hp : (d, o) ∈ news) (hd : o.IsDictOf knd kvs) (h : Q (.builtin "dict.items", [.ref d]) s) : wpAny (model prog w) A (getMethod (.ref d) "items" pl) Q E s :=
  have hD := kda_dict N hp hd
  getMethod_builtin hD.typeIs PySem.F.plainAttrs_dict PySem.F.slot_dict_items PySem.F.type_dict_items hD.mapOf.noDict h
theorem kdp_method {pl : Sem Bool} {Q : Value × List Value → Shared → Prop} (N : News h₀ L s.heap news) (hp : (d, o) ∈ news) (hd : o.IsDictOf knd kvs) (h : Q (.builtin "dict.pop", [.ref d]) s) : wpAny (model prog w) A (getMethod (.ref d) "pop" pl) Q E s :=
  have hD := kda_dict N hp hd
  getMethod_builtin hD.typeIs PySem.F.plainAttrs_dict PySem.F.slot_dict_pop PySem.F.type_dict_pop hD.mapOf.noDict h
theorem kdi_call {Q : Value → Shared → Prop} (F : Fr h₀ L s.heap m) (N : News h₀ L s.heap news) (hp : (d, o) ∈ news) (hd : o.IsDictOf knd kvs) (lo : (d == sysModules) = false)
    (h : ∀ v h', Fr h₀ L h' m → News h₀ L h' ((v, viewOf d) :: news) → Q (.ref v) { s with heap := h' }) : wpAny (model prog w) A (call (.builtin "dict.items") [.ref d]) Q E s := by
  have hD := kda_dict N hp hd
  exact call_meetsIn PySem.F.slot_dict_items hD.typeIs PySem.F.entry_dict_items (PySem.F.args_dict_items_1 _) (meets_dict_items knd d lo)
    ⟨⟨kvs, hD⟩, h _ _ (F.push _) (News.push F N _)⟩
theorem kdi_iter {v : Addr} {Q : Value → Shared → Prop} (F : Fr h₀ L s.heap m) (N : News h₀ L s.heap news) (hv : (v, viewOf d) ∈ news) (hp : (d, o) ∈ news) (hd : o.IsDictOf knd kvs)
    (h : ∀ it ep h', (∀ p ∈ news, p.1 < it) → h₀.get? it = none → it ≠ L → Fr h₀ L h' m → News h₀ L h' ((it, iterOf d kvs.length ep) :: news) → IsItemIter h' it d 0 kvs.length ep .none .none → h'.DictAt knd d kvs ep → Q (.ref it) { s with heap := h' }) : wpAny (model prog w) A (pyIter (.ref v)) Q E s := by
  obtain ⟨ep, hat⟩ := (kda_dict N hp hd).dictAt
  exact wpAny_pyIter_items (knd := knd) (d := d) (kvs := kvs) (ep := ep) ⟨_, (N _ hv).1, rfl, rfl⟩ hat
    (h _ ep _ (fun p hp => Heap.lt_size (N p hp).1) (next_is_new F) (Nat.ne_of_gt F.ns.lt) (F.push _) (News.push F N _) (Heap.get?_push_size _ rfl) (hat.push _))
theorem kdp_any {Q : Value → Shared → Prop} (F : Fr h₀ L s.heap m) (N : News h₀ L s.heap news) (U : UpdF d o news g) (hd : o.IsDictOf knd kvs) (hkey : knd.is k key = true) (hsz : kvs.length ≤ sizeLine) (lo : (d == sysModules) = false) (hpart : (keyPart key).isSome = true)
    (h : ∀ v h' o', Fr h₀ L h' m → News h₀ L h' (g o') → o'.IsDictOf knd (without kvs k) → Q v { s with heap := h', toks := s.toks + 1 }) :
    wpAny (model prog w) A (call (.builtin "dict.pop") [.ref d, key, .none]) Q E s := by
  cases hl : valueAt kvs k with
  | some v => exact kob_pop F N U hd hkey (.inr ⟨_, rfl⟩) hpart (PySem.F.args_dict_pop_3 _ _ _) hl hsz (fun h' o' a b c => h v h' o' a b c)
  | none =>
    obtain ⟨pre, post, rfl, hg, a, b⟩ := U.split
    have hm := N (d, o) (List.mem_append_right _ (.head _))
    have hD : s.heap.DictOf knd d kvs := Heap.dictOf_iff.mpr ⟨o, hm.1, hd⟩
    have e9 : without kvs k = kvs := by
      refine without_of_not_mem kvs k fun q => ?_
      obtain ⟨p, hp, e⟩ := List.mem_map.mp q
      unfold valueAt at hl
      have := List.find?_eq_none.mp (Option.map_eq_none_iff.mp hl) p hp
      simp [e] at this
    exact call_meetsIn PySem.F.slot_dict_pop hD.typeIs PySem.F.entry_dict_pop (PySem.F.args_dict_pop_3 _ _ _) (meets_dict_pop_default knd d hkey lo hpart .none) ⟨kvs, hD, hl, h .none s.heap o F (hg o ▸ N) (by rw [e9]; exact hd)⟩
end
theorem bytes_is {prog : Program} {w : World} {k : List UInt8} {key : Value} (h : (bytesKind prog w).is k key = true) : ∃ b t, key = .bytes b t ∧ b.toList = k := by
  cases key <;> simp [bytesKind, isBytes] at h
  exact ⟨_, _, rfl, h⟩
theorem names2 {xv xk : Str} {v key : Value} {u m₀ : Str → Option Value} : (fun y => if y = xv then some v else if y = xk then some key else if [xk, xv].contains y = true then u y else m₀ y) = fun y => if y = xv then some v else if y = xk then some key else m₀ y := by
  funext y
  by_cases a : y = xv
  · rw [if_pos a, if_pos a]
  · rw [if_neg a, if_neg a]
    by_cases b : y = xk
    · rw [if_pos b, if_pos b]
    · rw [if_neg b, if_neg b, if_neg (by simp [a, b])]
theorem names1 {xk : Str} {key : Value} {u m₀ : Str → Option Value} : (fun y => if y = xk then some key else if [xk].contains y = true then u y else m₀ y) = fun y => if y = xk then some key else m₀ y := by
  funext y
  by_cases b : y = xk
  · rw [if_pos b, if_pos b]
  · rw [if_neg b, if_neg b, if_neg (by simp [b])]
theorem after2 {xv xk : Str} {u m₀ : Str → Option Value} : (fun y => if [xk, xv].contains y = true then u y else m₀ y) = fun y => if y = xv then u xv else if y = xk then u xk else m₀ y := by
  funext y
  by_cases a : y = xv
  · subst a; rw [if_pos rfl, if_pos (by simp)]
  · rw [if_neg a]
    by_cases b : y = xk
    · subst b; rw [if_pos rfl, if_pos (by simp)]
    · rw [if_neg b, if_neg (by simp [a, b])]
theorem after1 {xk : Str} {u m₀ : Str → Option Value} : (fun y => if [xk].contains y = true then u y else m₀ y) = fun y => if y = xk then u xk else m₀ y := by
  funext y
  by_cases b : y = xk
  · subst b; rw [if_pos rfl, if_pos (by simp)]
  · rw [if_neg b, if_neg (by simp [b])]
theorem stay2 {xv xk : Str} {v key : Value} {m₀ : Str → Option Value} : ∀ z, [xk, xv].contains z = false → (fun y => if y = xv then some v else if y = xk then some key else m₀ y) z = m₀ z := by
  intro z hz
  have a : z ≠ xv := fun e => by subst e; simp at hz
  have b : z ≠ xk := fun e => by subst e; simp at hz
  show (if z = xv then some v else if z = xk then some key else m₀ z) = m₀ z
  rw [if_neg a, if_neg b]
theorem stay1 {xk : Str} {key : Value} {m₀ : Str → Option Value} : ∀ z, [xk].contains z = false → (fun y => if y = xk then some key else m₀ y) z = m₀ z := by
  intro z hz
  have b : z ≠ xk := fun e => by subst e; simp at hz
  show (if z = xk then some key else m₀ z) = m₀ z
  rw [if_neg b]
theorem news_keepBut {h₀ h h' : Heap} {L : Addr} {news l : List (Addr × Obj)} {S : List Addr} (N : News h₀ L h news) (K : KeepBut S h h') (hs : ∀ p ∈ l, p ∈ news ∧ p.1 ∉ S) : News h₀ L h' l :=
  fun p hp => ⟨K _ _ (N p (hs p hp).1).1 (hs p hp).2, (N p (hs p hp).1).2⟩
theorem News.cons' {h₀ h : Heap} {L b : Addr} {o : Obj} {news : List (Addr × Obj)} (e : h.get? b = some o) (n : b ≠ L) (z : h₀.get? b = none) (N : News h₀ L h news) : News h₀ L h ((b, o) :: news) := fun p hp => by
  rcases List.mem_cons.mp hp with rfl | hp
  · exact ⟨e, n, z⟩
  · exact N p hp
theorem rest_news' {h₀ h : Heap} {L : Addr} {W : List Addr} : News h₀ L h (restOf h₀ L W h) := fun p hp => by
  obtain ⟨_, b, c, d⟩ := mem_restOf.mp hp
  exact ⟨d, b, c⟩
theorem KeepBut.ofUp {h h' : Heap} {S : List Addr} {L : Addr} {W : List Addr} (up : ∀ b o, b ≠ L → b ∉ W → h.get? b = some o → h'.get? b = some o) (hL : L ∈ S) (hW : ∀ b ∈ W, b ∈ S) : KeepBut S h h' :=
  fun b o e n => up b o (fun q => n (q ▸ hL)) (fun q => n (hW b q)) e
theorem put_cache {w : World} {t1 t2 n : Nat} {wv key : Value} {c c' : Addr} {hsh : Int} : (putL (Str.ofString "cache") hsh key (.ref c') (wrE w t1 t2 wv c), putN (Str.ofString "cache") (wrE w t1 t2 wv c) n) = (wrE w t1 t2 wv c', n) := rfl
theorem empty_any {prog : Program} {w : World} {K K' : Type} [DecidableEq K] [DecidableEq K'] {knd : KeyKind prog w K} {knd' : KeyKind prog w K'} {o : Obj} (h : o.IsDictOf knd []) : o.IsDictOf knd' [] := by
  obtain ⟨es, ep, hc, hdat, hk, hp, _⟩ := h
  have he : es.toList = [] := List.length_eq_zero_iff.mp hp.length
  have he' : es = #[] := by cases es; simp at he; subst he; rfl
  subst he'
  refine ⟨#[], ep, hc, hdat, ?_, ?_, List.nodup_nil⟩
  · intro e he; simp at he
  · exact .nil
theorem upd_but {h₀ h h' : Heap} {L d : Addr} {m : Str → Option Value} {o o' : Obj} {news : List (Addr × Obj)} {g : Obj → List (Addr × Obj)} (F : Fr h₀ L h m) (N : News h₀ L h news) (U : UpdF d o news g) (K : KeepBut [d] h h') (e : h'.get? d = some o') : Fr h₀ L h' m ∧ News h₀ L h' (g o') := by
  obtain ⟨pre, post, rfl, hg, a, b⟩ := U.split
  have hm := N (d, o) (List.mem_append_right _ (.head _))
  refine ⟨⟨F.ns.at' fun o e9 => K _ o e9 (fun q => hm.2.1 (List.mem_singleton.mp q).symm), fun b o e9 => K _ o (F.keep b o e9) (fun q => by rw [List.mem_singleton.mp q, hm.2.2] at e9; cases e9), F.above⟩, ?_⟩
  rw [hg]
  intro p hp
  rcases List.mem_append.mp hp with q | q
  · have := N p (List.mem_append_left _ q)
    exact ⟨K _ _ this.1 (fun z => a p q (List.mem_singleton.mp z)), this.2⟩
  · rcases List.mem_cons.mp q with rfl | q
    · exact ⟨e, hm.2⟩
    · have := N p (List.mem_append_right _ (.tail _ q))
      exact ⟨K _ _ this.1 (fun z => b p q (List.mem_singleton.mp z)), this.2⟩
theorem sc_setN {w : World} {mean : ExcName → Option Value} {mg mb : Str → Option Value} {A : Around} {cn : Str} {cs : Scope} {a : Addr} {ccd : Value} {outer : List Env} {A₀ : Around} {base h₀ : Heap} {L : Addr} {m : Str → Option Value}
    {s : Shared} {x d c : Addr} {t1 t2 n t : Nat} {wv v : Value} {kb : Array UInt8} {oc : Obj} {kvs : List (List UInt8 × Value)} {Q : Unit → Shared → Prop} {E : Value → Shared → Prop} {news : List (Addr × Obj)}
    (H : At hd.heap_39 w mean mg mb A cn cs a ccd outer A₀ base h₀ L m s 10) (N : News h₀ L s.heap news) (m1 : (x, instObj 67 d) ∈ news) (m2 : (d, dictOf (wrE w t1 t2 wv c) n) ∈ news) (m3 : (c, oc) ∈ news) (n1 : c ≠ x) (n2 : c ≠ d) (hd : oc.IsDictOf (bytesKind PySem.Challenge.rw_ad6016_01.row.prog w) kvs) (hz : kvs.length ≤ sizeLine)
    (h : ∀ h' tk oc', KeepBut [c] s.heap h' → h'.get? c = some oc' → oc'.IsDictOf (bytesKind PySem.Challenge.rw_ad6016_01.row.prog w) (stored kvs kb.toList v) → Q () { s with heap := h', toks := tk }) :
    wpAny (model PySem.Challenge.rw_ad6016_01.row.prog w) A (setItem (.ref x) (.bytes kb t) v) Q E s :=
  sc_set H (fun p hp => by
    simp only [List.mem_cons, List.not_mem_nil, or_false] at hp
    rcases hp with rfl | rfl | rfl
    · exact N _ m1
    · exact N _ m2
    · exact N _ m3) n1 n2 hd hz h
end
section
def puts (acc : List LRow) (rs : List LRow) : List LRow := rs.foldl (fun acc r => stored acc r.1 r.2) acc
theorem puts_take {acc rs : List LRow} {i : Nat} {r : LRow} (h : rs[i]? = some r) : puts acc (rs.take (i + 1)) = stored (puts acc (rs.take i)) r.1 r.2 := by
  unfold puts
  rw [List.take_add_one, h, List.foldl_append]; rfl
theorem puts_len (rs : List LRow) : ∀ acc : List LRow, (puts acc rs).length ≤ acc.length + rs.length := by
  unfold puts
  induction rs with
  | nil => intro kB; exact Nat.le_refl _
  | cons r t ih =>
    intro kB
    rw [List.foldl_cons, List.length_cons]
    exact Nat.le_trans (ih _) (by have := stored_len kB r.1 r.2; omega)
theorem RowsAre.get {h : Heap} : ∀ {vs : List Value} {rs : List LRow} {i : Nat}, RowsAre h vs rs → i < vs.length → ∃ (a : Addr) (b : Array UInt8) (t : Tok) (n : Nat) (v : Value), vs[i]? = some (.ref a) ∧ rs[i]? = some (b.toList, v) ∧ h.get? a = some { cls := .type "tuple", data := .seq #[.bytes b t, v] n }
  | v :: vs, r :: rs, 0, x, _ => by
    obtain ⟨⟨a, b, t, n, e, eb, ho⟩, _⟩ := x
    exact ⟨a, b, t, n, r.2, by rw [e]; rfl, by rw [eb]; rfl, ho⟩
  | v :: vs, r :: rs, i + 1, x, h => RowsAre.get (vs := vs) (rs := rs) (i := i) x.2 (Nat.lt_of_succ_lt_succ h)
  | [], _, _, _, h => absurd h (Nat.not_lt_zero _)
  | _ :: _, [], _, x, _ => x.elim
/-- no row lies there -/
def RowsOff (S : List Addr) (vs : List Value) : Prop := ∀ a, Value.ref a ∈ vs → a ∉ S
theorem RowsAre.stay {h h' : Heap} {S : List Addr} (k : ∀ b o, b ∉ S → h.get? b = some o → h'.get? b = some o) : ∀ {vs : List Value} {rs : List LRow}, RowsAre h vs rs → RowsOff S vs → RowsAre h' vs rs
  | [], [], _, _ => trivial
  | v :: vs, r :: rs, x, off => by
    obtain ⟨⟨a, b, t, n, e, eb, ho⟩, y⟩ := x
    exact ⟨⟨a, b, t, n, e, eb, k a _ (off a (by rw [e]; exact .head _)) ho⟩, RowsAre.stay k y fun a' ha => off a' (.tail _ ha)⟩
  | [], _ :: _, x, _ => x.elim
  | _ :: _, [], x, _ => x.elim
theorem RowsAre.off {h : Heap} {vs : List Value} {rs : List LRow} {S : List Addr} (x : RowsAre h vs rs) (hS : ∀ b ∈ S, ∀ o, h.get? b = some o → o.cls = .type "tuple" → (∃ items n, o.data = .seq items n) → False) : RowsOff S vs := fun a ha hs => by
  obtain ⟨r, _, a', b, t, n, e, _, ho⟩ := x.mem _ ha
  cases e
  exact hS a hs _ ho rfl ⟨_, _, rfl⟩
theorem RowsOff.snoc {S : List Addr} {vs : List Value} {a : Addr} (x : RowsOff S vs) (h : a ∉ S) : RowsOff S (vs ++ [.ref a]) := fun b hb => by
  rcases List.mem_append.mp hb with q | q
  · exact x b q
  · cases List.mem_singleton.mp q; exact h
theorem ns_off {h : Heap} {L : Addr} {m : Str → Option Value} (n : h.Ns L m) : ∀ o, h.get? L = some o → (∃ items k, o.data = .seq items k) → False := by
  obtain ⟨o, es, ep, ho, hd, _⟩ := n
  rintro o' ho' ⟨items, k, e⟩
  rw [ho] at ho'; cases ho'; rw [hd] at e; cases e
abbrev keyIterOf (d : Addr) (n ep : Nat) : Obj := { cls := .type "dict_keyiterator", data := .fields #[.ref d, .int 0 0, .int n 0, .int ep 0] }
abbrev listIterOf (l : Addr) : Obj := { cls := .type "list_iterator", data := .fields #[.ref l, .int 0 0] }
section
open PySem.W
variable {prog : Program} {w : World} {A : Around} {E : Value → Shared → Prop} {s : Shared} {h₀ : Heap} {L : Addr} {m : Str → Option Value} {news : List (Addr × Obj)} {g : Obj → List (Addr × Obj)}
theorem append_rows {D : Addr} {vs : List Value} {n : Nat} {x : Value} {Q : Value → Shared → Prop} (F : Fr h₀ L s.heap m) (N : News h₀ L s.heap news) (U : UpdF D (listOf vs.toArray n) news g) (hsz : vs.length ≤ sizeLine)
    (h : ∀ h', Fr h₀ L h' m → News h₀ L h' (g (listOf (vs ++ [x]).toArray (n + 1))) → Q .none { s with heap := h' }) : wpAny (model prog w) A (call (.builtin "list.append") [.ref D, x]) Q E s := by
  obtain ⟨pre, post, rfl, hg, a, b⟩ := U.split
  rw [hg] at h
  have hU : Upd D (listOf vs.toArray n) (listOf (vs.toArray.push x) (n + 1)) (pre ++ (D, listOf vs.toArray n) :: post) (pre ++ (D, listOf (vs.toArray.push x) (n + 1)) :: post) := by
    clear N h hg U
    induction pre with
    | nil => exact Upd.head b
    | cons p pre ih => exact Upd.tail (a p (.head _)) (ih fun q hq => a q (.tail _ hq))
  refine append_K F N hU (fun h' F' N' => h h' F' ?_) (by rw [List.size_toArray]; exact hsz)
  have e : (vs ++ [x]).toArray = vs.toArray.push x := by simp
  rw [e]; exact N'
variable {K : Type} [DecidableEq K] {knd : KeyKind prog w K} {d : Addr} {o : Obj} {kvs : List (K × Value)}
theorem keys_iter {Q : Value → Shared → Prop} (F : Fr h₀ L s.heap m) (N : News h₀ L s.heap news) (hp : (d, o) ∈ news) (hd : o.IsDictOf knd kvs) (lo : (d == sysModules) = false)
    (h : ∀ it ep h', (∀ p ∈ news, p.1 < it) → h₀.get? it = none → it ≠ L → Fr h₀ L h' m → News h₀ L h' ((it, keyIterOf d kvs.length ep) :: news) → h'.IsKeyIter it d 0 kvs.length ep → h'.DictAt knd d kvs ep → Q (.ref it) { s with heap := h' }) : wpAny (model prog w) A (pyIter (.ref d)) Q E s := by
  obtain ⟨ep, hat⟩ := (kda_dict N hp hd).dictAt
  exact wpAny_pyIter_dict lo hat (h _ ep _ (fun p hp => Heap.lt_size (N p hp).1) (next_is_new F) (Nat.ne_of_gt F.ns.lt) (F.push _) (News.push F N _) ⟨_, Heap.get?_push_size _ rfl, rfl, rfl⟩ (hat.push _))
theorem rows_iter {l : Addr} {vs : List Value} {n : Nat} {ℓ : List LRow} {Q : Value → Shared → Prop} (hh : A.handled = none) (F : Fr h₀ L s.heap m) (N : News h₀ L s.heap news) (hp : (l, listOf vs.toArray n) ∈ news) (R₀ : RowsAre h₀ vs ℓ)
    (h : ∀ it h' fp Pt St Mid, (∀ p ∈ news, p.1 < it) → h₀.get? it = none → it ≠ L → Fr h₀ L h' m → News h₀ L h' ((it, listIterOf l) :: news) → WalksU prog w A it fp [it] vs.length Pt St Mid →
      (∀ i vals, Pt i vals → ∃ v0 v1, vals = #[v0, v1] ∧ ∃ b t, v0 = .bytes b t ∧ ℓ[i]? = some (b.toList, v1)) → St 0 h' → (∀ b ∈ fp, b = it ∨ b = l ∨ ∃ items k, h'.get? b = some { cls := .type "tuple", data := .seq items k }) → Q (.ref it) { s with heap := h' }) : wpAny (model prog w) A (pyIter (.ref l)) Q E s := by
  have R := R₀.mono (fun a o _ e => F.keep a o e)
  have hl : s.heap.IsList l vs.toArray := ⟨_, (N _ hp).1, rfl, _, rfl⟩
  let Ts : Nat → Addr := fun j => match vs[j]? with | some (.ref a) => a | _ => 0
  let vals : Nat → Array Value := fun j => match s.heap.get? (Ts j) with | some ⟨_, _, .seq items _, _⟩ => items | _ => #[]
  have at' : ∀ j, j < vs.length → ∃ (a : Addr) (b : Array UInt8) (t : Tok) (k : Nat) (v : Value), vs[j]? = some (.ref a) ∧ ℓ[j]? = some (b.toList, v) ∧ s.heap.get? a = some { cls := .type "tuple", data := .seq #[.bytes b t, v] k } ∧ Ts j = a ∧ vals j = #[.bytes b t, v] := fun j hj => by
    obtain ⟨a, b, t, k, v, e1, e2, e3⟩ := R.get hj
    have e4 : Ts j = a := by simp only [Ts, e1]
    exact ⟨a, b, t, k, v, e1, e2, e3, e4, by simp only [vals, e4, e3]⟩
  have hsz : vs.toArray.size = vs.length := by simp
  have W := (WalksU.listOfTuples (prog := prog) (w := w) hh s.heap.objs.size l (Nat.ne_of_lt (Heap.lt_size (N _ hp).1)) vs.toArray Ts vals
    (fun j hj => by obtain ⟨a, b, t, k, v, e1, e2, e3, e4, e5⟩ := at' j (hsz ▸ hj); rw [e4]; simpa using e1)
    (fun j hj => by obtain ⟨a, b, t, k, v, e1, e2, e3, e4, e5⟩ := at' j (hsz ▸ hj); rw [e4]; exact Nat.ne_of_lt (Heap.lt_size e3))).bound
  rw [hsz] at W
  refine wpAny_pyIter_list hl (h _ _ _ _ _ _ (fun p hp => Heap.lt_size (N p hp).1) (next_is_new F) (Nat.ne_of_gt F.ns.lt) (F.push _) (News.push F N _) W ?_ ⟨⟨_, Heap.get?_push_size _ rfl, rfl, rfl⟩, hl.push _, fun k hk => ?_⟩ ?_)
  · rintro i v' ⟨hi, rfl⟩
    obtain ⟨a, b, t, k, v, e1, e2, e3, e4, e5⟩ := at' i hi
    exact ⟨.bytes b t, v, e5, b, t, rfl, e2⟩
  · obtain ⟨a, b, t, k', v, e1, e2, e3, e4, e5⟩ := at' k hk
    rw [e5, e4]
    exact ⟨_, Heap.get?_push_of_some _ e3, rfl, _, rfl⟩
  · intro b hb
    rcases List.mem_cons.mp hb with q | hb
    · exact .inl q
    · rcases List.mem_cons.mp hb with q | hb
      · exact .inr (.inl q)
      · obtain ⟨j, hj, rfl⟩ := List.mem_map.mp hb
        obtain ⟨a, b, t, k', v, e1, e2, e3, e4, e5⟩ := at' j (List.mem_range.mp hj)
        rw [e4]
        exact .inr (.inr ⟨_, _, Heap.get?_push_of_some _ e3⟩)
end
theorem stored_vk {k : List UInt8} {v : Value} (hv : Vk (some v)) : ∀ {acc : List LRow}, (∀ r ∈ acc, Vk (some r.2)) → ∀ r ∈ stored acc k v, Vk (some r.2) := by
  intro acc ha r hr
  unfold stored at hr
  split at hr
  · obtain ⟨p, hp, e⟩ := List.mem_map.mp hr
    subst e
    split
    · exact hv
    · exact ha p hp
  · rcases List.mem_append.mp hr with q | q
    · exact ha r q
    · rw [List.mem_singleton.mp q]; exact hv
theorem puts_vk : ∀ {rs acc : List LRow}, (∀ r ∈ rs, Vk (some r.2)) → (∀ r ∈ acc, Vk (some r.2)) → ∀ r ∈ puts acc rs, Vk (some r.2)
  | [], _, _, ha => ha
  | p :: rs, _, h, ha => puts_vk (rs := rs) (fun r hr => h r (.tail _ hr)) (stored_vk (h p (.head _)) ha)
theorem valueAt_row {kvs : List LRow} {i : Nat} {k : List UInt8} {v : Value} (h : kvs[i]? = some (k, v)) (hn : (kvs.map (·.1)).Nodup) : valueAt kvs k = some v := by
  unfold valueAt
  induction kvs generalizing i with
  | nil => simp at h
  | cons p t ih =>
    cases i with
    | zero => simp at h; subst h; simp
    | succ i =>
      simp at h
      rw [List.map_cons, List.nodup_cons] at hn
      have hm : (k, v) ∈ t := List.mem_of_getElem? h
      have hne : p.1 ≠ k := fun e => hn.1 (e ▸ List.mem_map.mpr ⟨(k, v), hm, rfl⟩)
      rw [List.find?_cons]
      simp only [hne, decide_false]
      exact ih h hn.2
/-- the end of a turn that writes one object -/
theorem turn_fin {g h h'' h7 : Heap} {L dW : Addr} {S fp : List Addr} {str : List Str} {m₀ m' : Str → Option Value} {news' : List (Addr × Obj)} {own : List (Addr × Obj)} {o6 : Obj} {P : Heap → Obj → Prop} {s : Shared} {tk tk' : Nat} {Qr : Value → Shared → Prop}
    (keep : ∀ b o, g.get? b = some o → h.get? b = some o) (K : KeepBut S h7 h) (hS1 : L ∈ S) (hS2 : dW ∈ S) (hfp : ∀ b ∈ fp, b ≠ L ∧ b ≠ dW) (F6 : Fr g L h'' m') (hm : ∀ z, str.contains z = false → m' z = m₀ z) (N6 : News g L h'' news')
    (hown : own = restOf g L [dW] h) (sub : ∀ p ∈ own, p ∈ news') (hmem : (dW, o6) ∈ news') (hP : (∀ b o, b ≠ L → b ≠ dW → h.get? b = some o → h''.get? b = some o) → P h'' o6) :
    TurnEnd g L str m₀ fp (fun h => KeepBut S h7 h ∧ ∃ o', h.get? dW = some o' ∧ P h o') Qr { s with heap := h, toks := tk } .next { s with heap := h'', toks := tk' } := by
  have up := rest_keep (W := [dW]) keep F6 N6 (fun p hp => sub p (hown ▸ hp))
  exact ⟨h'', tk', _, rfl, F6, hm, fun b hb o e => up b o (hfp b hb).1 (fun q => (hfp b hb).2 (List.mem_singleton.mp q)) e, KeepBut.trans K (KeepBut.ofUp up hS1 (fun b hb => by rw [List.mem_singleton.mp hb]; exact hS2)) (fun _ hb => hb), o6, (N6 (dW, o6) hmem).1, hP fun b o a c e => up b o a (fun q => c (List.mem_singleton.mp q)) e⟩

def kept (rs : List LRow) : List LRow := rs.filter fun r => match r.2 with | .none => false | _ => true
theorem kept_take {rs : List LRow} {i : Nat} {r : LRow} (h : rs[i]? = some r) : kept (rs.take (i + 1)) = kept (rs.take i) ++ kept [r] := by
  unfold kept
  rw [List.take_add_one, h, List.filter_append]; rfl
end
section
local macro_rules | `(tactic| k_ne) => `(tactic| first | assumption | exact ne_s (by assumption))
local macro_rules | `(tactic| ktr_enter) => `(tactic| (refine' enter ?k1 ?k2 ?k3 ?k4 ?k5 ?kD ?kA ?kK ?k6 ?k7 ?k8 ?k9 ?kB ?_ ?c2 ?c3 ?c4 ?c5; (case kA => exact rfl); (case kK => first | assumption | exact rfl); (case k1 => k_asm); (case k2 => k_asm); (case k3 => k_asm); (case k4 => k_asm); (case k5 => k_asm); (case kD => k_asm); (case k6 => k_is); (case k7 => k_is); (case k8 => ktr_room); (case k9 => first | exact BindsTo.of_eq rfl | exact binds_K (by k_in) rfl (by k_is) rfl rfl rfl); (case c5 => decide); (case kB => exact locs rfl); (case c2 => exact rfl); (case c3 => exact rfl); (case c4 => exact rfl); k_whole; intro g' L' h' hG' F' N' B' X' T' D'; (try dsimp only); (try k_fold)))
local macro_rules | `(tactic| tb_rel) => `(tactic| first | exact List.forall_mem_nil _ | (refine List.forall_mem_cons.mpr ⟨by first | exact Or.inr (by k_mem) | exact Or.inl (by k_mem), ?_⟩; tb_rel))
local macro_rules | `(tactic| walk_at "setItem ref bytes") => `(tactic| (k_here; k_dflt (refine' kda_set (knd := bytesKind _ _) ?F ?N ?U ?d (bk_is _ _ _) ?z ?_; (case F => k_asm); (case N => k_asm); (case U => k_updF); (case d => k_asm); (case z => assumption)); intro h' o' F' N' hd'; (try dsimp only at N')))
local macro_rules | `(tactic| walk_at "compareOp In bytes ref") => `(tactic| (k_here; k_dflt (refine kda_in (knd := bytesKind _ _) (by k_asm) (by k_mem) (by k_asm) (by k_asm) (bk_is _ _ _) _ (by first | exact some_is (by assumption) | exact none_is (by assumption)) ?_)))
local macro_rules | `(tactic| walk_at "subscriptTail") => `(tactic| (k_here; (with_reducible show wpAny _ _ (subscriptTail _ _ (Value.ref _) (Value.bytes _ _)) _ _ _); k_dflt (refine kda_item (knd := bytesKind _ _) (by k_asm) (by k_mem) (by k_asm) (bk_is _ _ _) (by assumption) ?_)))
local macro_rules | `(tactic| tb_start) => `(tactic| exact keep_of (by assumption) (by assumption) (by assumption) (by assumption) (by tb_rel))
local macro_rules | `(tactic| ktf_step) => `(tactic| (intro h' tk' hk'; have F' := fr_keep (by assumption) hk'; have N' := news_keep (by assumption) hk'))
local macro_rules | `(tactic| ktn_step) => `(tactic| (refine' At.mk ?B ?F ?X ?T ?XB ?TB ?D ?hh ?hA ?hck ?hd ?hu; (case B => k_asm); (case F => k_asm); (case X => k_asm); (case T => k_asm); (case XB => k_asm); (case TB => k_asm); (case D => k_asm); (case hh => exact rfl); (case hA => exact rfl); (case hck => first | assumption | exact rfl); (case hd => ktr_room); (case hu => ktr_units)))
local macro_rules | `(tactic| k_room) => `(tactic| ktr_room)
local macro_rules | `(tactic| k_units) => `(tactic| ktr_units)
local macro_rules | `(tactic| kwd_same0) => `(tactic| first | exact List.forall_mem_nil _ | (refine List.forall_mem_cons.mpr ⟨by first | exact dict_cls (by assumption) | (show Value.type "list" ≠ Value.type "tuple"; decide) | (show Value.ref _ ≠ Value.type "tuple"; exact fun x => nomatch x) | (show Value.type "dict" ≠ Value.type "tuple"; decide), ?_⟩; kwd_same0))
local macro_rules | `(tactic| walk_at "compareOp NotEq ref ref") => `(tactic| (k_here; k_dflt (first | (refine' ne_nil_snoc ?N ?a ?b ?u ?_; (case N => k_asm); (case a => k_mem); (case b => k_mem); (case u => ktr_units)) | (refine' ne_nil_nil ?N ?a ?b ?u ?_; (case N => k_asm); (case a => k_mem); (case b => k_mem); (case u => ktr_units)))))
local macro_rules | `(tactic| walk_at "subscriptTail") => `(tactic| (k_here; (with_reducible show wpAny _ _ (subscriptTail _ _ (Value.ref _) (Value.int _ _)) _ _ _); k_dflt (refine' item_tupleT (Fr.tup ?F ?T) ?lo ?hi ?j ?x ?_; (case T => with_reducible assumption); (case F => k_asm); (case lo => decide); (case hi => decide); (case j => rfl); (case x => rfl))))
local macro_rules | `(tactic| walk_at "subscriptTail") => `(tactic| (k_here; (with_reducible show wpAny _ _ (subscriptTail _ _ (Value.ref _) (Value.int (-1) _)) _ _ _); k_dflt (refine' last_item ?N ?a ?z ?_; (case N => k_asm); (case a => k_mem); (case z => assumption))))
local macro_rules | `(tactic| walk_at "call builtin:dict.get") => `(tactic| (k_here; k_dflt (refine kdg_get1 (knd := bytesKind _ _) (by k_asm) (by k_mem) (by k_asm) (by k_asm) (bk_is _ _ _) _ (by assumption) ?_; (try dsimp only [Option.getD]))))
local macro_rules | `(tactic| walk_at "getMethod ref") => `(tactic| (k_here; (with_reducible show wpAny _ _ (getMethod (Value.ref _) (Str.ofString "get") _) _ _ _); k_dflt (refine kdg_method (knd := bytesKind _ _) (by k_asm) (by k_mem) (by k_asm) ?_)))
local macro_rules | `(tactic| walk_at "getMethod ref") => `(tactic| (k_here; (with_reducible show wpAny _ _ (getMethod (Value.ref _) (Str.ofString "items") _) _ _ _); k_dflt (refine kdi_method (knd := bytesKind _ _) (by k_asm) (by k_mem) (by k_asm) ?_)))
local macro_rules | `(tactic| walk_at "getMethod ref") => `(tactic| (k_here; (with_reducible show wpAny _ _ (getMethod (Value.ref _) (Str.ofString "pop") _) _ _ _); k_dflt (refine kdp_method (knd := bytesKind _ _) (by k_asm) (by k_mem) (by k_asm) ?_)))
local macro_rules | `(tactic| walk_at "call builtin:dict.items") => `(tactic| (k_here; k_dflt (refine kdi_call (knd := bytesKind _ _) (by k_asm) (by k_asm) (by k_mem) (by k_asm) (by k_asm) ?_); intro v' h' F' N'))
local macro_rules | `(tactic| walk_at "pyIter ref") => `(tactic| (k_here; k_dflt (refine kdi_iter (knd := bytesKind _ _) (by k_asm) (by k_asm) (by k_mem) (by k_mem) (by k_asm) ?_); intro it' ep' h' lt' no' ne' F' N' hi' da'))
local macro_rules | `(tactic| walk_at "call builtin:dict.pop") => `(tactic| (k_here; k_dflt (refine kdp_any (knd := bytesKind _ _) (by k_asm) (by k_asm) (by k_updF) (by k_asm) (bk_is _ _ _) (by assumption) (by k_asm) (by rfl) ?_); intro v' h' o' F' N' hd'; (try dsimp only at N')))
local macro_rules | `(tactic| walk_at "setAttr ref") => `(tactic| (k_here; k_dflt (refine' set_dict ?k1 ?k2 ?k3 ?k4 ?k5 ?k6 ?k7 ?k8 ?k9 ?k10 put_cache ?k12 ?k13 ?_; (case k1 => k_asm); (case k2 => k_asm); (case k3 => k_asm); (case k4 => k_inst); (case k5 => exact rfl); (case k6 => k_is); (case k7 => k_is); (case k8 => k_is); (case k9 => k_is); (case k10 => k_get); (case k12 => k_upd); (case k13 => exact Nat.le_of_ble_eq_true rfl); k_whole; intro h' F' N'; (try k_sweep))))
/-- the three ways in which the law calls batch_commit -/
def ArgsOk (x : Addr) (dd : Bool) (pos : List Value) (kw : List (Str × Value)) : Prop := pos = [.ref x] ∧ (kw = [(Str.ofString "do_deletes", .bool dd)] ∨ (kw = [] ∧ dd = false))
local macro_rules | `(tactic| walk_at "exec For") => `(tactic| (k_here; k_dflt (refine for_held ?_ ?hs; (case hs => intro _; rfl))))

theorem bc_dict {w : World} {mean : ExcName → Option Value} {mg mb : Str → Option Value} {A : Around} {cn : Str} {cs : Scope} {a : Addr} {ccd : Value} {outer : List Env} {A₀ : Around} {base h₀ : Heap} {L : Addr} {m : Str → Option Value}
    {s : Shared} {x d c dB : Addr} {t1 t2 n : Nat} {oc oB : Obj} {kvs kB : List (List UInt8 × Value)} {Q : Value → Shared → Prop} {E : Value → Shared → Prop} {dd : Bool} {pos : List Value} {kw : List (Str × Value)} :
    At hd.heap_39 w mean mg mb A cn cs a ccd outer A₀ base h₀ L m s 20 →
    News h₀ L s.heap [(x, instObj 67 d), (d, dictOf (wrE w t1 t2 (.ref dB) c) n), (c, oc), (dB, oB)] → c ≠ x → c ≠ d → dB ≠ x → dB ≠ d → dB ≠ c → x ≠ d → oc.IsDictOf (bytesKind PySem.Challenge.rw_ad6016_01.row.prog w) kvs → oB.IsDictOf (bytesKind PySem.Challenge.rw_ad6016_01.row.prog w) kB → kvs.length + kB.length ≤ sizeLine → (c == sysModules) = false → (dB == sysModules) = false →
    (∀ r ∈ kvs, Vk (some r.2)) → ArgsOk x dd pos kw →
    (∀ h' tk c' oc' oB', KeepBut [d, dB] s.heap h' → s.heap.get? c' = none → h'.get? d = some (dictOf (wrE w t1 t2 (.ref dB) c') n) → h'.get? c' = some oc' → h'.get? dB = some oB' → oc'.IsDictOf (bytesKind PySem.Challenge.rw_ad6016_01.row.prog w) [] → oB'.IsDictOf (bytesKind PySem.Challenge.rw_ad6016_01.row.prog w) (applied dd kvs kB) → (c' == sysModules) = false →
      Q .none { s with heap := h', toks := tk }) →
    wpAny (model PySem.Challenge.rw_ad6016_01.row.prog w) A (call (.ref 64) pos kw) Q E s := by
  k_fill
  intro H N n1 n2 n3 n4 n5 n6 hd hdB hz lc lB hv hargs hret
  obtain ⟨rfl, hargs⟩ := hargs
  obtain ⟨B, F, X, T, XB, TB, D, hh, hA, hck, hdp, hun⟩ := H
  obtain ⟨hdl, dp, fr, gd, un⟩ := A
  dsimp only at hh hA hdp hun
  subst hh hA
  refine wpAny_call ?_
  k_dflt (refine' enter (binds := [(Str.ofString "self", .ref x), (Str.ofString "do_deletes", .bool dd)]) ?k1 ?k2 ?k3 ?k4 ?k5 ?kD ?kA ?kK ?k6 ?k7 ?k8 ?k9 ?kB ?_ ?c2 ?c3 ?c4 ?c5; (case kA => exact rfl); (case kK => first | assumption | exact rfl); (case k1 => k_asm); (case k2 => k_asm); (case k3 => k_asm); (case k4 => k_asm); (case k5 => k_asm); (case kD => k_asm); (case k6 => k_is); (case k7 => k_is); (case k8 => ktr_room); (case k9 => rcases hargs with rfl | ⟨rfl, rfl⟩ <;> exact binds_K (X.keeps F.keep) rfl (by k_is) rfl rfl rfl); (case c5 => decide); (case kB => exact locs rfl); (case c2 => exact rfl); (case c3 => exact rfl); (case c4 => exact rfl); k_whole; intro g' L' h' hG' F' N' B' X' T' D'; (try dsimp only); (try k_fold))
  k_steps
  rename_i v9 h8 F8 N8 it ep h9 lt9 no9 ne9 F9 N9 hi9 da9
  clear hi9
  have hdL : dB ≠ L' := (N9 (dB, oB) (by k_mem)).2.1
  have hBg : g'.get? dB = none := (N9 (dB, oB) (by k_mem)).2.2
  have hxL : x ≠ L' := (N9 (x, instObj 67 d) (by k_mem)).2.1
  have hddL : d ≠ L' := (N9 (d, dictOf (wrE w t1 t2 (.ref dB) c) n) (by k_mem)).2.1
  have hcL : c ≠ L' := (N9 (c, oc) (by k_mem)).2.1
  have hxit : x ≠ it := Nat.ne_of_lt (lt9 (x, _) (.tail _ (.head _)))
  have hdit : d ≠ it := Nat.ne_of_lt (lt9 (d, _) (.tail _ (.tail _ (.head _))))
  have hcit : c ≠ it := Nat.ne_of_lt (lt9 (c, _) (.tail _ (.tail _ (.tail _ (.head _)))))
  have hBit : dB ≠ it := Nat.ne_of_lt (lt9 (dB, _) (.tail _ (.tail _ (.tail _ (.tail _ (.head _))))))
  refine' items_held (knd := bk w) (h₀ := g') ?hE rfl [Str.ofString "key", Str.ofString "value"] (fun i h => KeepBut [dB, L', it] h9 h ∧ ∃ oB', h.get? dB = some oB' ∧ oB'.IsDictOf (bk w) (applied dd (kvs.take i) kB)) rfl rfl rfl rfl rfl ne9 hcL hcit no9 ?hit da9 F9 ?stable ?h0 ?step ?hR
  case hE => first | passes_own | with_unfolding_all passes_own
  case hit => exact (N9 (it, iterOf c kvs.length ep) (.head _)).1
  case stable =>
    rintro i h h' ⟨K, oB', eB, hB'⟩ up
    exact ⟨fun b o e nS => up b o (fun q => nS (List.mem_cons.mpr (.inr (List.mem_cons.mpr (.inl q))))) (fun q => nS (List.mem_cons.mpr (.inr (List.mem_cons.mpr (.inr (List.mem_singleton.mpr q)))))) (K b o e nS), oB', up _ _ hdL hBit eB, hB'⟩
  case h0 => exact ⟨fun _ _ e _ => e, oB, (N9 (dB, oB) (by k_mem)).1, hdB⟩
  case step =>
    rintro i k v key u h tk hrow hkey ⟨K, oB', eB, hB'⟩ hat F5
    obtain ⟨b, t, rfl, rfl⟩ := bytes_is hkey
    have hvr := hv _ (List.mem_of_getElem? hrow)
    have ez := applied_take (dd := dd) (kB := kB) hrow
    have hz5 : (applied dd (kvs.take i) kB).length ≤ sizeLine := Nat.le_trans (applied_len _ _ _) (by rw [List.length_take]; omega)
    rw [names2] at F5
    obtain ⟨own, hown⟩ : ∃ own, own = restOf g' L' [dB] h := ⟨_, rfl⟩
    have off5 : OwnOff own [dB] := hown ▸ rest_off
    have N5 : News g' L' h ((x, instObj 67 d) :: (d, dictOf (wrE w t1 t2 (.ref dB) c) n) :: (dB, oB') :: own) := by
      refine News.cons' (K _ _ (N9 (x, _) (by k_mem)).1 (by simp [Ne.symm n3, hxL, hxit])) hxL (N9 (x, _) (by k_mem)).2.2 ?_
      refine News.cons' (K _ _ (N9 (d, _) (by k_mem)).1 (by simp [Ne.symm n4, hddL, hdit])) hddL (N9 (d, _) (by k_mem)).2.2 ?_
      exact News.cons' eB hdL hBg (hown ▸ rest_news')
    have hfin : ∀ h' tk' o' (m' : Str → Option Value) news', Fr g' L' h' m' → m' = (fun y => if y = Str.ofString "value" then some v else if y = Str.ofString "key" then some (.bytes b t) else List.lookup y [(Str.ofString "self", Value.ref x), (Str.ofString "do_deletes", Value.bool dd)].reverse) → News g' L' h' ((x, instObj 67 d) :: (d, dictOf (wrE w t1 t2 (.ref dB) c) n) :: (dB, o') :: news') → (∀ p ∈ own, p ∈ news') → o'.IsDictOf (bk w) (applied dd (kvs.take (i + 1)) kB) →
        ∃ h'' tk'' m₂, ({ s with heap := h', toks := tk' } : Shared) = { s with heap := h'', toks := tk'' } ∧ Fr g' L' h'' m₂ ∧ (∀ z, [Str.ofString "key", Str.ofString "value"].contains z = false → m₂ z = List.lookup z [(Str.ofString "self", Value.ref x), (Str.ofString "do_deletes", Value.bool dd)].reverse) ∧
          (∀ b ∈ [it, c], ∀ o, h.get? b = some o → h''.get? b = some o) ∧ KeepBut [dB, L', it] h9 h'' ∧ ∃ oB', h''.get? dB = some oB' ∧ oB'.IsDictOf (bk w) (applied dd (kvs.take (i + 1)) kB) := by
      rintro h' tk' o' m' news' F6 rfl N6 sub hd6
      have up := rest_keep (W := [dB]) F5.keep F6 N6 (fun p hp => .tail _ (.tail _ (.tail _ (sub p (hown ▸ hp)))))
      refine ⟨h', tk', _, rfl, F6, stay2, fun b hb o e => up b o ?_ ?_ e, KeepBut.trans K (KeepBut.ofUp up (by simp) (by simp)) (fun _ hb => hb), o', (N6 (dB, o') (.tail _ (.tail _ (.head _)))).1, hd6⟩
      · simp only [List.mem_cons, List.not_mem_nil, or_false] at hb; rcases hb with rfl | rfl
        · exact ne9
        · exact hcL
      · simp only [List.mem_cons, List.not_mem_nil, or_false] at hb ⊢; rcases hb with rfl | rfl
        · exact fun q => hBit q.symm
        · exact fun q => n5 q.symm
    clear hrow hkey N9 F9 N8 F8 N' F' K
    rcases hvr with e9 | e9 | ⟨bb, tt, e9⟩ <;> cases e9
    · cases dd
      · k_steps
        exact hfin _ _ _ _ _ (by k_asm) rfl (by k_asm) (fun _ q => q) (by rw [ez]; exact hB')
      · k_steps
        exact hfin _ _ _ _ _ (by k_asm) rfl (by k_asm) (fun _ q => q) (by rw [ez]; assumption)
    · k_steps
      exact hfin _ _ _ _ _ (by k_asm) rfl (by k_asm) (fun _ q => q) (by rw [ez]; assumption)
  case hR =>
    rintro h' tk u F5 ⟨K, oB', eB, hB'⟩
    rw [List.take_length] at hB'
    rw [after2] at F5
    have N5 : News g' L' h' [(x, instObj 67 d), (d, dictOf (wrE w t1 t2 (.ref dB) c) n), (c, oc), (dB, oB')] := by
      refine News.cons' (K _ _ (N9 (x, _) (by k_mem)).1 (by simp [Ne.symm n3, hxL, hxit])) hxL (N9 (x, _) (by k_mem)).2.2 ?_
      refine News.cons' (K _ _ (N9 (d, _) (by k_mem)).1 (by simp [Ne.symm n4, hddL, hdit])) hddL (N9 (d, _) (by k_mem)).2.2 ?_
      refine News.cons' (K _ _ (N9 (c, _) (by k_mem)).1 (by simp [Ne.symm n5, hcL, hcit])) hcL (N9 (c, _) (by k_mem)).2.2 ?_
      exact News.cons' eB hdL hBg (fun _ q => nomatch q)
    clear N9 F9 N8 F8 N' F'
    dsimp only
    k_steps
    rename_i d7 _ o7 lo7 hs7 _ _ _ l7 h7 F7 N7
    refine hret _ _ d7 o7 oB' (by tb_start) ?_ (News.get N7 (by k_mem)) (News.get N7 (by k_mem)) (News.get N7 (by k_mem)) (empty_any hs7) hB' lo7
    cases e7 : s.heap.get? d7 with
    | none => rfl
    | some o =>
      have z7 := (N7 (d7, o7) (.head _)).2.2
      rw [hG' d7 o e7 (by simp only [List.map_cons, List.map_nil, List.mem_cons, List.not_mem_nil, or_false]; rintro (q | q | q | q) <;> (rw [q] at l7; simp at l7))] at z7
      cases z7
end
section
local macro_rules | `(tactic| k_ne) => `(tactic| first | assumption | exact ne_s (by assumption))
local macro_rules | `(tactic| ktr_enter) => `(tactic| (refine' enter ?k1 ?k2 ?k3 ?k4 ?k5 ?kD ?kA ?kK ?k6 ?k7 ?k8 ?k9 ?kB ?_ ?c2 ?c3 ?c4 ?c5; (case kA => exact rfl); (case kK => first | assumption | exact rfl); (case k1 => k_asm); (case k2 => k_asm); (case k3 => k_asm); (case k4 => k_asm); (case k5 => k_asm); (case kD => k_asm); (case k6 => k_is); (case k7 => k_is); (case k8 => ktr_room); (case k9 => first | exact BindsTo.of_eq rfl | exact binds_K (by k_in) rfl (by k_is) rfl rfl rfl); (case c5 => decide); (case kB => exact locs rfl); (case c2 => exact rfl); (case c3 => exact rfl); (case c4 => exact rfl); k_whole; intro g' L' h' hG' F' N' B' X' T' D'; (try dsimp only); (try k_fold)))
local macro_rules | `(tactic| tb_rel) => `(tactic| first | exact List.forall_mem_nil _ | (refine List.forall_mem_cons.mpr ⟨by first | exact Or.inr (by k_mem) | exact Or.inl (by k_mem), ?_⟩; tb_rel))
local macro_rules | `(tactic| walk_at "setItem ref bytes") => `(tactic| (k_here; k_dflt (refine' kda_set (knd := bytesKind _ _) ?F ?N ?U ?d (bk_is _ _ _) ?z ?_; (case F => k_asm); (case N => k_asm); (case U => k_updF); (case d => k_asm); (case z => assumption)); intro h' o' F' N' hd'; (try dsimp only at N')))
local macro_rules | `(tactic| walk_at "compareOp In bytes ref") => `(tactic| (k_here; k_dflt (refine kda_in (knd := bytesKind _ _) (by k_asm) (by k_mem) (by k_asm) (by k_asm) (bk_is _ _ _) _ (by first | exact some_is (by assumption) | exact none_is (by assumption)) ?_)))
local macro_rules | `(tactic| walk_at "subscriptTail") => `(tactic| (k_here; (with_reducible show wpAny _ _ (subscriptTail _ _ (Value.ref _) (Value.bytes _ _)) _ _ _); k_dflt (refine kda_item (knd := bytesKind _ _) (by k_asm) (by k_mem) (by k_asm) (bk_is _ _ _) (by assumption) ?_)))
local macro_rules | `(tactic| tb_start) => `(tactic| exact keep_of (by assumption) (by assumption) (by assumption) (by assumption) (by tb_rel))
local macro_rules | `(tactic| ktf_step) => `(tactic| (intro h' tk' hk'; have F' := fr_keep (by assumption) hk'; have N' := news_keep (by assumption) hk'))
local macro_rules | `(tactic| ktn_step) => `(tactic| (refine' At.mk ?B ?F ?X ?T ?XB ?TB ?D ?hh ?hA ?hck ?hd ?hu; (case B => k_asm); (case F => k_asm); (case X => k_asm); (case T => k_asm); (case XB => k_asm); (case TB => k_asm); (case D => k_asm); (case hh => exact rfl); (case hA => exact rfl); (case hck => first | assumption | exact rfl); (case hd => ktr_room); (case hu => ktr_units)))
local macro_rules | `(tactic| k_room) => `(tactic| ktr_room)
local macro_rules | `(tactic| k_units) => `(tactic| ktr_units)
local macro_rules | `(tactic| kwd_same0) => `(tactic| first | exact List.forall_mem_nil _ | (refine List.forall_mem_cons.mpr ⟨by first | exact dict_cls (by assumption) | (show Value.type "list" ≠ Value.type "tuple"; decide) | (show Value.ref _ ≠ Value.type "tuple"; exact fun x => nomatch x) | (show Value.type "dict" ≠ Value.type "tuple"; decide), ?_⟩; kwd_same0))
local macro_rules | `(tactic| walk_at "compareOp NotEq ref ref") => `(tactic| (k_here; k_dflt (first | (refine' ne_nil_snoc ?N ?a ?b ?u ?_; (case N => k_asm); (case a => k_mem); (case b => k_mem); (case u => ktr_units)) | (refine' ne_nil_nil ?N ?a ?b ?u ?_; (case N => k_asm); (case a => k_mem); (case b => k_mem); (case u => ktr_units)))))
local macro_rules | `(tactic| walk_at "subscriptTail") => `(tactic| (k_here; (with_reducible show wpAny _ _ (subscriptTail _ _ (Value.ref _) (Value.int _ _)) _ _ _); k_dflt (refine' item_tupleT (Fr.tup ?F ?T) ?lo ?hi ?j ?x ?_; (case T => with_reducible assumption); (case F => k_asm); (case lo => decide); (case hi => decide); (case j => rfl); (case x => rfl))))
local macro_rules | `(tactic| walk_at "subscriptTail") => `(tactic| (k_here; (with_reducible show wpAny _ _ (subscriptTail _ _ (Value.ref _) (Value.int (-1) _)) _ _ _); k_dflt (refine' last_item ?N ?a ?z ?_; (case N => k_asm); (case a => k_mem); (case z => assumption))))
local macro_rules | `(tactic| walk_at "call builtin:dict.get") => `(tactic| (k_here; k_dflt (refine kdg_get1 (knd := bytesKind _ _) (by k_asm) (by k_mem) (by k_asm) (by k_asm) (bk_is _ _ _) _ (by assumption) ?_; (try dsimp only [Option.getD]))))
local macro_rules | `(tactic| walk_at "getMethod ref") => `(tactic| (k_here; (with_reducible show wpAny _ _ (getMethod (Value.ref _) (Str.ofString "get") _) _ _ _); k_dflt (refine kdg_method (knd := bytesKind _ _) (by k_asm) (by k_mem) (by k_asm) ?_)))
local macro_rules | `(tactic| walk_at "getMethod ref") => `(tactic| (k_here; (with_reducible show wpAny _ _ (getMethod (Value.ref _) (Str.ofString "items") _) _ _ _); k_dflt (refine kdi_method (knd := bytesKind _ _) (by k_asm) (by k_mem) (by k_asm) ?_)))
local macro_rules | `(tactic| walk_at "getMethod ref") => `(tactic| (k_here; (with_reducible show wpAny _ _ (getMethod (Value.ref _) (Str.ofString "pop") _) _ _ _); k_dflt (refine kdp_method (knd := bytesKind _ _) (by k_asm) (by k_mem) (by k_asm) ?_)))
local macro_rules | `(tactic| walk_at "call builtin:dict.items") => `(tactic| (k_here; k_dflt (refine kdi_call (knd := bytesKind _ _) (by k_asm) (by k_asm) (by k_mem) (by k_asm) (by k_asm) ?_); intro v' h' F' N'))
local macro_rules | `(tactic| walk_at "pyIter ref") => `(tactic| (k_here; k_dflt (refine kdi_iter (knd := bytesKind _ _) (by k_asm) (by k_asm) (by k_mem) (by k_mem) (by k_asm) ?_); intro it' ep' h' lt' no' ne' F' N' hi' da'))
local macro_rules | `(tactic| walk_at "call builtin:dict.pop") => `(tactic| (k_here; k_dflt (refine kdp_any (knd := bytesKind _ _) (by k_asm) (by k_asm) (by k_updF) (by k_asm) (bk_is _ _ _) (by assumption) (by k_asm) (by rfl) ?_); intro v' h' o' F' N' hd'; (try dsimp only at N')))
local macro_rules | `(tactic| walk_at "setAttr ref") => `(tactic| (k_here; k_dflt (refine' set_dict ?k1 ?k2 ?k3 ?k4 ?k5 ?k6 ?k7 ?k8 ?k9 ?k10 put_cache ?k12 ?k13 ?_; (case k1 => k_asm); (case k2 => k_asm); (case k3 => k_asm); (case k4 => k_inst); (case k5 => exact rfl); (case k6 => k_is); (case k7 => k_is); (case k8 => k_is); (case k9 => k_is); (case k10 => k_get); (case k12 => k_upd); (case k13 => exact Nat.le_of_ble_eq_true rfl); k_whole; intro h' F' N'; (try k_sweep))))
local macro_rules | `(tactic| walk_at "exec For") => `(tactic| (k_here; k_dflt (refine for_held ?_ ?hs; (case hs => intro _; rfl))))
local macro_rules | `(tactic| walk_at "setItem ref bytes") => `(tactic| (k_here; k_dflt (refine sc_setN (by ktn_step) (by k_asm) (by k_mem) (by k_mem) (by k_mem) (by k_ne) (by k_ne) (by k_asm) (by assumption) ?_); intro h' tk' oc' hk' e' hd'; (have FN' := upd_but (by k_asm) (by k_asm) (by k_updF) hk' e'); obtain ⟨F', N'⟩ := FN'; (try dsimp only at N')))

theorem bc_scr {w : World} {mean : ExcName → Option Value} {mg mb : Str → Option Value} {A : Around} {cn : Str} {cs : Scope} {a : Addr} {ccd : Value} {outer : List Env} {A₀ : Around} {base h₀ : Heap} {L : Addr} {m : Str → Option Value}
    {s : Shared} {x d c x1 d1 c1 : Addr} {t1 t2 n t3 t4 n' : Nat} {oc oc1 : Obj} {kvs kB : List (List UInt8 × Value)} {wv : Value} {Q : Value → Shared → Prop} {E : Value → Shared → Prop} {pos : List Value} {kw : List (Str × Value)} :
    At hd.heap_39 w mean mg mb A cn cs a ccd outer A₀ base h₀ L m s 20 →
    News h₀ L s.heap [(x, instObj 67 d), (d, dictOf (wrE w t1 t2 (.ref x1) c) n), (c, oc), (x1, instObj 67 d1), (d1, dictOf (wrE w t3 t4 wv c1) n'), (c1, oc1)] → c ≠ x → c ≠ d → c1 ≠ x → c1 ≠ d → c1 ≠ c → x ≠ d → c1 ≠ x1 → c1 ≠ d1 → x1 ≠ d → d1 ≠ d → oc.IsDictOf (bytesKind PySem.Challenge.rw_ad6016_01.row.prog w) kvs → oc1.IsDictOf (bytesKind PySem.Challenge.rw_ad6016_01.row.prog w) kB → kvs.length + kB.length ≤ sizeLine → (c == sysModules) = false → 
    (∀ r ∈ kvs, Vk (some r.2)) → ArgsOk x false pos kw →
    (∀ h' tk c' oc' oB', KeepBut [d, c1] s.heap h' → s.heap.get? c' = none → h'.get? d = some (dictOf (wrE w t1 t2 (.ref x1) c') n) → h'.get? c' = some oc' → h'.get? c1 = some oB' → oc'.IsDictOf (bytesKind PySem.Challenge.rw_ad6016_01.row.prog w) [] → oB'.IsDictOf (bytesKind PySem.Challenge.rw_ad6016_01.row.prog w) (applied false kvs kB) → (c' == sysModules) = false →
      Q .none { s with heap := h', toks := tk }) →
    wpAny (model PySem.Challenge.rw_ad6016_01.row.prog w) A (call (.ref 64) pos kw) Q E s := by
  k_fill
  intro H N n1 n2 n3 n4 n5 n6 n7 n8 n9 n10 hd hdB hz lc hv hargs hret
  obtain ⟨rfl, hargs⟩ := hargs
  obtain ⟨B, F, X, T, XB, TB, D, hh, hA, hck, hdp, hun⟩ := H
  obtain ⟨hdl, dp, fr, gd, un⟩ := A
  dsimp only at hh hA hdp hun
  subst hh hA
  refine wpAny_call ?_
  k_dflt (refine' enter (binds := [(Str.ofString "self", .ref x), (Str.ofString "do_deletes", Value.bool false)]) ?k1 ?k2 ?k3 ?k4 ?k5 ?kD ?kA ?kK ?k6 ?k7 ?k8 ?k9 ?kB ?_ ?c2 ?c3 ?c4 ?c5; (case kA => exact rfl); (case kK => first | assumption | exact rfl); (case k1 => k_asm); (case k2 => k_asm); (case k3 => k_asm); (case k4 => k_asm); (case k5 => k_asm); (case kD => k_asm); (case k6 => k_is); (case k7 => k_is); (case k8 => ktr_room); (case k9 => rcases hargs with rfl | ⟨rfl, _⟩ <;> exact binds_K (X.keeps F.keep) rfl (by k_is) rfl rfl rfl); (case c5 => decide); (case kB => exact locs rfl); (case c2 => exact rfl); (case c3 => exact rfl); (case c4 => exact rfl); k_whole; intro g' L' h' hG' F' N' B' X' T' D'; (try dsimp only); (try k_fold))
  k_steps
  rename_i v9 h8 F8 N8 it ep h9 lt9 no9 ne9 F9 N9 hi9 da9
  clear hi9
  have hdL : c1 ≠ L' := (N9 (c1, oc1) (by k_mem)).2.1
  have hx1L : x1 ≠ L' := (N9 (x1, instObj 67 d1) (by k_mem)).2.1
  have hd1L : d1 ≠ L' := (N9 (d1, dictOf (wrE w t3 t4 wv c1) n') (by k_mem)).2.1
  have hBg : g'.get? c1 = none := (N9 (c1, oc1) (by k_mem)).2.2
  have hxL : x ≠ L' := (N9 (x, instObj 67 d) (by k_mem)).2.1
  have hddL : d ≠ L' := (N9 (d, dictOf (wrE w t1 t2 (.ref x1) c) n) (by k_mem)).2.1
  have hcL : c ≠ L' := (N9 (c, oc) (by k_mem)).2.1
  have hxit : x ≠ it := Nat.ne_of_lt (lt9 (x, _) (.tail _ (.head _)))
  have hdit : d ≠ it := Nat.ne_of_lt (lt9 (d, _) (.tail _ (.tail _ (.head _))))
  have hcit : c ≠ it := Nat.ne_of_lt (lt9 (c, _) (.tail _ (.tail _ (.tail _ (.head _)))))
  have hx1it : x1 ≠ it := Nat.ne_of_lt (lt9 (x1, _) (.tail _ (.tail _ (.tail _ (.tail _ (.head _))))))
  have hd1it : d1 ≠ it := Nat.ne_of_lt (lt9 (d1, _) (.tail _ (.tail _ (.tail _ (.tail _ (.tail _ (.head _)))))))
  have hBit : c1 ≠ it := Nat.ne_of_lt (lt9 (c1, _) (.tail _ (.tail _ (.tail _ (.tail _ (.tail _ (.tail _ (.head _))))))))
  refine' items_held (knd := bk w) (h₀ := g') ?hE rfl [Str.ofString "key", Str.ofString "value"] (fun i h => KeepBut [c1, L', it] h9 h ∧ ∃ oB', h.get? c1 = some oB' ∧ oB'.IsDictOf (bk w) (applied false (kvs.take i) kB)) rfl rfl rfl rfl rfl ne9 hcL hcit no9 ?hit da9 F9 ?stable ?h0 ?step ?hR
  case hE => first | passes_own | with_unfolding_all passes_own
  case hit => exact (N9 (it, iterOf c kvs.length ep) (.head _)).1
  case stable =>
    rintro i h h' ⟨K, oB', eB, hB'⟩ up
    exact ⟨fun b o e nS => up b o (fun q => nS (List.mem_cons.mpr (.inr (List.mem_cons.mpr (.inl q))))) (fun q => nS (List.mem_cons.mpr (.inr (List.mem_cons.mpr (.inr (List.mem_singleton.mpr q)))))) (K b o e nS), oB', up _ _ hdL hBit eB, hB'⟩
  case h0 => exact ⟨fun _ _ e _ => e, oc1, (N9 (c1, oc1) (by k_mem)).1, hdB⟩
  case step =>
    rintro i k v key u h tk hrow hkey ⟨K, oB', eB, hB'⟩ hat F5
    obtain ⟨b, t, rfl, rfl⟩ := bytes_is hkey
    have hvr := hv _ (List.mem_of_getElem? hrow)
    have ez := applied_take (dd := false) (kB := kB) hrow
    have hz5 : (applied false (kvs.take i) kB).length ≤ sizeLine := Nat.le_trans (applied_len _ _ _) (by rw [List.length_take]; omega)
    rw [names2] at F5
    obtain ⟨own, hown⟩ : ∃ own, own = restOf g' L' [c1] h := ⟨_, rfl⟩
    have off5 : OwnOff own [c1] := hown ▸ rest_off
    have N5 : News g' L' h ((x, instObj 67 d) :: (d, dictOf (wrE w t1 t2 (.ref x1) c) n) :: (x1, instObj 67 d1) :: (d1, dictOf (wrE w t3 t4 wv c1) n') :: (c1, oB') :: own) := by
      refine News.cons' (K _ _ (N9 (x, _) (by k_mem)).1 (by simp [Ne.symm n3, hxL, hxit])) hxL (N9 (x, _) (by k_mem)).2.2 ?_
      refine News.cons' (K _ _ (N9 (d, _) (by k_mem)).1 (by simp [Ne.symm n4, hddL, hdit])) hddL (N9 (d, _) (by k_mem)).2.2 ?_
      refine News.cons' (K _ _ (N9 (x1, _) (by k_mem)).1 (by simp [Ne.symm n7, hx1L, hx1it])) hx1L (N9 (x1, _) (by k_mem)).2.2 ?_
      refine News.cons' (K _ _ (N9 (d1, _) (by k_mem)).1 (by simp [Ne.symm n8, hd1L, hd1it])) hd1L (N9 (d1, _) (by k_mem)).2.2 ?_
      exact News.cons' eB hdL hBg (hown ▸ rest_news')
    have hfin : ∀ h' tk' o' (m' : Str → Option Value) news', Fr g' L' h' m' → m' = (fun y => if y = Str.ofString "value" then some v else if y = Str.ofString "key" then some (.bytes b t) else List.lookup y [(Str.ofString "self", Value.ref x), (Str.ofString "do_deletes", Value.bool false)].reverse) → News g' L' h' ((x, instObj 67 d) :: (d, dictOf (wrE w t1 t2 (.ref x1) c) n) :: (x1, instObj 67 d1) :: (d1, dictOf (wrE w t3 t4 wv c1) n') :: (c1, o') :: news') → (∀ p ∈ own, p ∈ news') → o'.IsDictOf (bk w) (applied false (kvs.take (i + 1)) kB) →
        ∃ h'' tk'' m₂, ({ s with heap := h', toks := tk' } : Shared) = { s with heap := h'', toks := tk'' } ∧ Fr g' L' h'' m₂ ∧ (∀ z, [Str.ofString "key", Str.ofString "value"].contains z = false → m₂ z = List.lookup z [(Str.ofString "self", Value.ref x), (Str.ofString "do_deletes", Value.bool false)].reverse) ∧
          (∀ b ∈ [it, c], ∀ o, h.get? b = some o → h''.get? b = some o) ∧ KeepBut [c1, L', it] h9 h'' ∧ ∃ oB', h''.get? c1 = some oB' ∧ oB'.IsDictOf (bk w) (applied false (kvs.take (i + 1)) kB) := by
      rintro h' tk' o' m' news' F6 rfl N6 sub hd6
      have up := rest_keep (W := [c1]) F5.keep F6 N6 (fun p hp => .tail _ (.tail _ (.tail _ (.tail _ (.tail _ (sub p (hown ▸ hp)))))))
      refine ⟨h', tk', _, rfl, F6, stay2, fun b hb o e => up b o ?_ ?_ e, KeepBut.trans K (KeepBut.ofUp up (by simp) (by simp)) (fun _ hb => hb), o', (N6 (c1, o') (.tail _ (.tail _ (.tail _ (.tail _ (.head _)))))).1, hd6⟩
      · simp only [List.mem_cons, List.not_mem_nil, or_false] at hb; rcases hb with rfl | rfl
        · exact ne9
        · exact hcL
      · simp only [List.mem_cons, List.not_mem_nil, or_false] at hb ⊢; rcases hb with rfl | rfl
        · exact fun q => hBit q.symm
        · exact fun q => n5 q.symm
    clear hrow hkey N9 F9 N8 F8 N' F' K
    rcases hvr with e9 | e9 | ⟨bb, tt, e9⟩ <;> cases e9
    · k_steps
      exact hfin _ _ _ _ _ (by k_asm) rfl (by k_asm) (fun _ q => q) (by rw [ez]; exact hB')
    · k_steps
      exact hfin _ _ _ _ _ (by k_asm) rfl (by k_asm) (fun _ q => q) (by rw [ez]; assumption)
  case hR =>
    rintro h' tk u F5 ⟨K, oB', eB, hB'⟩
    rw [List.take_length] at hB'
    rw [after2] at F5
    have N5 : News g' L' h' [(x, instObj 67 d), (d, dictOf (wrE w t1 t2 (.ref x1) c) n), (c, oc), (x1, instObj 67 d1), (d1, dictOf (wrE w t3 t4 wv c1) n'), (c1, oB')] := by
      refine News.cons' (K _ _ (N9 (x, _) (by k_mem)).1 (by simp [Ne.symm n3, hxL, hxit])) hxL (N9 (x, _) (by k_mem)).2.2 ?_
      refine News.cons' (K _ _ (N9 (d, _) (by k_mem)).1 (by simp [Ne.symm n4, hddL, hdit])) hddL (N9 (d, _) (by k_mem)).2.2 ?_
      refine News.cons' (K _ _ (N9 (c, _) (by k_mem)).1 (by simp [Ne.symm n5, hcL, hcit])) hcL (N9 (c, _) (by k_mem)).2.2 ?_
      refine News.cons' (K _ _ (N9 (x1, _) (by k_mem)).1 (by simp [Ne.symm n7, hx1L, hx1it])) hx1L (N9 (x1, _) (by k_mem)).2.2 ?_
      refine News.cons' (K _ _ (N9 (d1, _) (by k_mem)).1 (by simp [Ne.symm n8, hd1L, hd1it])) hd1L (N9 (d1, _) (by k_mem)).2.2 ?_
      exact News.cons' eB hdL hBg (fun _ q => nomatch q)
    clear N9 F9 N8 F8 N' F'
    dsimp only
    k_steps
    rename_i d7 _ o7 lo7 hs7 _ _ _ l7 h7 F7 N7
    refine hret _ _ d7 o7 oB' (by tb_start) ?_ (News.get N7 (by k_mem)) (News.get N7 (by k_mem)) (News.get N7 (by k_mem)) (empty_any hs7) hB' lo7
    cases e7 : s.heap.get? d7 with
    | none => rfl
    | some o =>
      have z7 := (N7 (d7, o7) (.head _)).2.2
      rw [hG' d7 o e7 (by simp only [List.map_cons, List.map_nil, List.mem_cons, List.not_mem_nil, or_false]; rintro (q | q | q | q | q | q) <;> (rw [q] at l7; simp at l7))] at z7
      cases z7
end
section
local macro_rules | `(tactic| k_ne) => `(tactic| first | assumption | exact ne_s (by assumption))
local macro_rules | `(tactic| ktr_enter) => `(tactic| (refine' enter ?k1 ?k2 ?k3 ?k4 ?k5 ?kD ?kA ?kK ?k6 ?k7 ?k8 ?k9 ?kB ?_ ?c2 ?c3 ?c4 ?c5; (case kA => exact rfl); (case kK => first | assumption | exact rfl); (case k1 => k_asm); (case k2 => k_asm); (case k3 => k_asm); (case k4 => k_asm); (case k5 => k_asm); (case kD => k_asm); (case k6 => k_is); (case k7 => k_is); (case k8 => ktr_room); (case k9 => first | exact BindsTo.of_eq rfl | exact binds_K (by k_in) rfl (by k_is) rfl rfl rfl); (case c5 => decide); (case kB => exact locs rfl); (case c2 => exact rfl); (case c3 => exact rfl); (case c4 => exact rfl); k_whole; intro g' L' h' hG' F' N' B' X' T' D'; (try dsimp only); (try k_fold)))
local macro_rules | `(tactic| tb_rel) => `(tactic| first | exact List.forall_mem_nil _ | (refine List.forall_mem_cons.mpr ⟨by first | exact Or.inr (by k_mem) | exact Or.inl (by k_mem), ?_⟩; tb_rel))
local macro_rules | `(tactic| walk_at "setItem ref bytes") => `(tactic| (k_here; k_dflt (refine' kda_set (knd := bytesKind _ _) ?F ?N ?U ?d (bk_is _ _ _) ?z ?_; (case F => k_asm); (case N => k_asm); (case U => k_updF); (case d => k_asm); (case z => assumption)); intro h' o' F' N' hd'; (try dsimp only at N')))
local macro_rules | `(tactic| walk_at "compareOp In bytes ref") => `(tactic| (k_here; k_dflt (refine kda_in (knd := bytesKind _ _) (by k_asm) (by k_mem) (by k_asm) (by k_asm) (bk_is _ _ _) _ (by first | exact some_is (by assumption) | exact none_is (by assumption)) ?_)))
local macro_rules | `(tactic| walk_at "subscriptTail") => `(tactic| (k_here; (with_reducible show wpAny _ _ (subscriptTail _ _ (Value.ref _) (Value.bytes _ _)) _ _ _); k_dflt (refine kda_item (knd := bytesKind _ _) (by k_asm) (by k_mem) (by k_asm) (bk_is _ _ _) (by assumption) ?_)))
local macro_rules | `(tactic| tb_start) => `(tactic| exact keep_of (by assumption) (by assumption) (by assumption) (by assumption) (by tb_rel))
local macro_rules | `(tactic| ktf_step) => `(tactic| (intro h' tk' hk'; have F' := fr_keep (by assumption) hk'; have N' := news_keep (by assumption) hk'))
local macro_rules | `(tactic| ktn_step) => `(tactic| (refine' At.mk ?B ?F ?X ?T ?XB ?TB ?D ?hh ?hA ?hck ?hd ?hu; (case B => k_asm); (case F => k_asm); (case X => k_asm); (case T => k_asm); (case XB => k_asm); (case TB => k_asm); (case D => k_asm); (case hh => exact rfl); (case hA => exact rfl); (case hck => first | assumption | exact rfl); (case hd => ktr_room); (case hu => ktr_units)))
local macro_rules | `(tactic| k_room) => `(tactic| ktr_room)
local macro_rules | `(tactic| k_units) => `(tactic| ktr_units)
local macro_rules | `(tactic| kwd_same0) => `(tactic| first | exact List.forall_mem_nil _ | (refine List.forall_mem_cons.mpr ⟨by first | exact dict_cls (by assumption) | (show Value.type "list" ≠ Value.type "tuple"; decide) | (show Value.ref _ ≠ Value.type "tuple"; exact fun x => nomatch x) | (show Value.type "dict" ≠ Value.type "tuple"; decide), ?_⟩; kwd_same0))
local macro_rules | `(tactic| walk_at "compareOp NotEq ref ref") => `(tactic| (k_here; k_dflt (first | (refine' ne_nil_snoc ?N ?a ?b ?u ?_; (case N => k_asm); (case a => k_mem); (case b => k_mem); (case u => ktr_units)) | (refine' ne_nil_nil ?N ?a ?b ?u ?_; (case N => k_asm); (case a => k_mem); (case b => k_mem); (case u => ktr_units)))))
local macro_rules | `(tactic| walk_at "subscriptTail") => `(tactic| (k_here; (with_reducible show wpAny _ _ (subscriptTail _ _ (Value.ref _) (Value.int _ _)) _ _ _); k_dflt (refine' item_tupleT (Fr.tup ?F ?T) ?lo ?hi ?j ?x ?_; (case T => with_reducible assumption); (case F => k_asm); (case lo => decide); (case hi => decide); (case j => rfl); (case x => rfl))))
local macro_rules | `(tactic| walk_at "subscriptTail") => `(tactic| (k_here; (with_reducible show wpAny _ _ (subscriptTail _ _ (Value.ref _) (Value.int (-1) _)) _ _ _); k_dflt (refine' last_item ?N ?a ?z ?_; (case N => k_asm); (case a => k_mem); (case z => assumption))))
local macro_rules | `(tactic| walk_at "call builtin:dict.get") => `(tactic| (k_here; k_dflt (refine kdg_get1 (knd := bytesKind _ _) (by k_asm) (by k_mem) (by k_asm) (by k_asm) (bk_is _ _ _) _ (by assumption) ?_; (try dsimp only [Option.getD]))))
local macro_rules | `(tactic| walk_at "getMethod ref") => `(tactic| (k_here; (with_reducible show wpAny _ _ (getMethod (Value.ref _) (Str.ofString "get") _) _ _ _); k_dflt (refine kdg_method (knd := bytesKind _ _) (by k_asm) (by k_mem) (by k_asm) ?_)))
local macro_rules | `(tactic| walk_at "getMethod ref") => `(tactic| (k_here; (with_reducible show wpAny _ _ (getMethod (Value.ref _) (Str.ofString "items") _) _ _ _); k_dflt (refine kdi_method (knd := bytesKind _ _) (by k_asm) (by k_mem) (by k_asm) ?_)))
local macro_rules | `(tactic| walk_at "getMethod ref") => `(tactic| (k_here; (with_reducible show wpAny _ _ (getMethod (Value.ref _) (Str.ofString "pop") _) _ _ _); k_dflt (refine kdp_method (knd := bytesKind _ _) (by k_asm) (by k_mem) (by k_asm) ?_)))
local macro_rules | `(tactic| walk_at "call builtin:dict.items") => `(tactic| (k_here; k_dflt (refine kdi_call (knd := bytesKind _ _) (by k_asm) (by k_asm) (by k_mem) (by k_asm) (by k_asm) ?_); intro v' h' F' N'))
local macro_rules | `(tactic| walk_at "pyIter ref") => `(tactic| (k_here; k_dflt (refine kdi_iter (knd := bytesKind _ _) (by k_asm) (by k_asm) (by k_mem) (by k_mem) (by k_asm) ?_); intro it' ep' h' lt' no' ne' F' N' hi' da'))
local macro_rules | `(tactic| walk_at "call builtin:dict.pop") => `(tactic| (k_here; k_dflt (refine kdp_any (knd := bytesKind _ _) (by k_asm) (by k_asm) (by k_updF) (by k_asm) (bk_is _ _ _) (by assumption) (by k_asm) (by rfl) ?_); intro v' h' o' F' N' hd'; (try dsimp only at N')))
local macro_rules | `(tactic| walk_at "setAttr ref") => `(tactic| (k_here; k_dflt (refine' set_dict ?k1 ?k2 ?k3 ?k4 ?k5 ?k6 ?k7 ?k8 ?k9 ?k10 put_cache ?k12 ?k13 ?_; (case k1 => k_asm); (case k2 => k_asm); (case k3 => k_asm); (case k4 => k_inst); (case k5 => exact rfl); (case k6 => k_is); (case k7 => k_is); (case k8 => k_is); (case k9 => k_is); (case k10 => k_get); (case k12 => k_upd); (case k13 => exact Nat.le_of_ble_eq_true rfl); k_whole; intro h' F' N'; (try k_sweep))))
local macro_rules | `(tactic| walk_at "pyIter ref") => `(tactic| (k_here; k_dflt (refine keys_iter (knd := bytesKind _ _) (by k_asm) (by k_asm) (by k_mem) (by k_asm) (by k_asm) ?_); intro it' ep' h' lt' no' ne' F' N' hi' da'))
local macro_rules | `(tactic| walk_at "pyIter ref") => `(tactic| (k_here; k_dflt (refine rows_iter rfl (by k_asm) (by k_asm) (by k_mem) (by assumption) ?_); intro it' h' fp' Pt' St' Mid' lt' no' ne' F' N' W' pt' st' fp9'))
local macro_rules | `(tactic| walk_at "call builtin:list.append") => `(tactic| (k_here; k_dflt (refine append_rows (by k_asm) (by k_asm) (by k_updF) (by assumption) ?_); intro h' F' N'; (try dsimp only at N')))
local macro_rules | `(tactic| kwk_ne) => `(tactic| (intro p9 hp9; repeat (first | exact hp9 | apply List.mem_cons_of_mem)))
local macro_rules | `(tactic| walk_at "newTuple") => `(tactic| (k_here; k_dflt (refine' kup_newTuple ?F ?N ?_ ?z; (case F => k_asm); (case N => k_asm); (case z => exact Nat.le_of_ble_eq_true rfl)); intro D' h' F' N' l1; (try k_lt l1); (try k_sweep)))
local macro_rules | `(tactic| walk_at "exec For Name Name cons nil") => `(tactic| (k_here; k_dflt (refine for_held ?_ ?hs; (case hs => intro _; rfl))))
local macro_rules | `(tactic| walk_at "exec For") => `(tactic| (k_here; k_dflt (refine for_held ?_ ?hs; (case hs => intro _; rfl))))

theorem lc1 {w : World} {mean : ExcName → Option Value} {mg mb : Str → Option Value} {A : Around} {cn : Str} {cs : Scope} {a : Addr} {ccd : Value} {outer : List Env} {A₀ : Around} {base h₀ : Heap} {L : Addr} {m : Str → Option Value}
    {s : Shared} {lg l1 l2 l3 dP : Addr} {n q1 tl : Nat} {vs : List Value} {ℓ : List LRow} {oP : Obj} {kP : List (List UInt8 × Value)} {dd : Bool} {Q : Value → Shared → Prop} {E : Value → Shared → Prop} :
    At hd.heap_39 w mean mg mb A cn cs a ccd outer A₀ base h₀ L m s 20 →
    News h₀ L s.heap [(lg, listOf #[.none, .ref l1, .ref l2, .ref l3] n), (l1, listOf vs.toArray q1), (dP, oP)] → dP ≠ lg → dP ≠ l1 → lg ≠ l1 → oP.IsDictOf (bytesKind PySem.Challenge.rw_ad6016_01.row.prog w) kP →
    (dP == sysModules) = false → RowsAre s.heap vs ℓ → vs.length + kP.length ≤ sizeLine → (∀ r ∈ ℓ, Vk (some r.2)) →
    (∀ h' tk l' n' n'' o', KeepBut [lg, dP] s.heap h' → s.heap.get? l' = none → h'.get? lg = some (listOf #[.none, .ref l', .ref l2, .ref l3] n'') → h'.get? l' = some (listOf #[] n') → h'.get? dP = some o' → o'.IsDictOf (bytesKind PySem.Challenge.rw_ad6016_01.row.prog w) (applied dd (puts [] ℓ) kP) →
      Q .none { s with heap := h', toks := tk }) →
    wpAny (model PySem.Challenge.rw_ad6016_01.row.prog w) A (call (.ref 98) [.ref lg, .ref dP, .int 1 tl, .bool dd]) Q E s := by
  k_fill
  intro H N n1 n2 n3 hd lP hR hz hv hret
  obtain ⟨B, F, X, T, XB, TB, D, hh, hA, hck, hdp, hun⟩ := H
  obtain ⟨hdl, dp, fr, gd, un⟩ := A
  dsimp only at hh hA hdp hun
  subst hh hA
  have off := off_of N (by kwd_same0)
  have hlen := hR.length
  refine wpAny_call ?_
  k_dflt (refine' enter (binds := [(Str.ofString "logs", .ref lg), (Str.ofString "plain", .ref dP), (Str.ofString "level", .int 1 tl), (Str.ofString "deletes", .bool dd)]) ?k1 ?k2 ?k3 ?k4 ?k5 ?kD ?kA ?kK ?k6 ?k7 ?k8 ?k9 ?kB ?_ ?c2 ?c3 ?c4 ?c5; (case kA => exact rfl); (case kK => first | assumption | exact rfl); (case k1 => k_asm); (case k2 => k_asm); (case k3 => k_asm); (case k4 => k_asm); (case k5 => k_asm); (case kD => k_asm); (case k6 => k_is); (case k7 => k_is); (case k8 => ktr_room); (case k9 => exact BindsTo.of_eq rfl); (case c5 => decide); (case kB => exact locs rfl); (case c2 => exact rfl); (case c3 => exact rfl); (case c4 => exact rfl); k_whole; intro g' L' h' hG' F' N' B' X' T' D'; (try dsimp only); (try k_fold))
  replace hR := RowsAre.keep hR hG' off
  k_steps
  rename_i dl _ ol lol hol _ _ _ l9 h8 F8 N8 it h9 fp Pt St Mid lt9 no9 ne9 F9 N9 W9 pt9 st9 fp9
  have hol' := empty_any (knd' := bk w) hol
  clear hol
  have hdlL : dl ≠ L' := (N9 (dl, ol) (by k_mem)).2.1
  have hdlg : g'.get? dl = none := (N9 (dl, ol) (by k_mem)).2.2
  have hgL : lg ≠ L' := (N9 (lg, listOf #[.none, .ref l1, .ref l2, .ref l3] n) (by k_mem)).2.1
  have hlL : l1 ≠ L' := (N9 (l1, listOf vs.toArray q1) (by k_mem)).2.1
  have hPL : dP ≠ L' := (N9 (dP, oP) (by k_mem)).2.1
  have hPg : g'.get? dP = none := (N9 (dP, oP) (by k_mem)).2.2
  have idl : dl ≠ it := Nat.ne_of_lt (lt9 (dl, _) (.head _))
  have ilg : lg ≠ it := Nat.ne_of_lt (lt9 (lg, _) (.tail _ (.head _)))
  have ill : l1 ≠ it := Nat.ne_of_lt (lt9 (l1, _) (.tail _ (.tail _ (.head _))))
  have idP : dP ≠ it := Nat.ne_of_lt (lt9 (dP, _) (.tail _ (.tail _ (.tail _ (.head _)))))
  have m1 : lg ≠ dl := Nat.ne_of_lt l9.1
  have m2 : l1 ≠ dl := Nat.ne_of_lt l9.2.1
  have m3 : dP ≠ dl := Nat.ne_of_lt l9.2.2
  have fpL : ∀ b ∈ fp, b ≠ L' ∧ b ≠ dl := by
    intro b hb
    rcases fp9 b hb with rfl | rfl | ⟨items, k, e⟩
    · exact ⟨ne9, fun q => idl q.symm⟩
    · exact ⟨hlL, m2⟩
    · refine ⟨fun q => ns_off F9.ns _ (q ▸ e) ⟨_, _, rfl⟩, fun q => ?_⟩
      rw [q, (N9 (dl, ol) (by k_mem)).1] at e
      have e8 : ol = { cls := .type "tuple", data := .seq items k } := Option.some.inj e
      exact dict_cls hol' (by rw [e8])
  refine' pairs_held (h₀ := g') (P2 := fun i v0 v1 => ∃ b t, v0 = .bytes b t ∧ ℓ[i]? = some (b.toList, v1)) ?hE rfl W9 pt9 [Str.ofString "key", Str.ofString "value"] (fun i h => KeepBut [dl, L', it] h9 h ∧ ∃ o', h.get? dl = some o' ∧ o'.IsDictOf (bk w) (puts [] (ℓ.take i))) rfl rfl rfl rfl rfl (fun q => (fpL _ q).1 rfl) (fun b hb => List.mem_singleton.mp hb ▸ no9) ?stable st9 F9 ?h0 ?step ?hR
  case hE => first | passes_own | with_unfolding_all passes_own
  case stable =>
    rintro i h h' ⟨K, o', e', hB'⟩ up
    exact ⟨fun b o e nS => up b o (fun q => nS (List.mem_cons.mpr (.inr (List.mem_cons.mpr (.inl q))))) (fun q => nS (List.mem_cons.mpr (.inr (List.mem_cons.mpr (.inr q))))) (K b o e nS), o', up _ _ hdlL (fun q => idl (List.mem_singleton.mp q)) e', hB'⟩
  case h0 => exact ⟨fun _ _ e _ => e, ol, (N9 (dl, ol) (by k_mem)).1, hol'⟩
  case step =>
    rintro i v0 v1 u h tk hi ⟨b, t, rfl, hrow⟩ ⟨K, o', e', hB'⟩ st5 F5
    have ez := puts_take (acc := []) hrow
    have hz5 : (puts [] (ℓ.take i)).length ≤ sizeLine := Nat.le_trans (puts_len _ _) (by rw [List.length_take, List.length_nil]; omega)
    rw [names2] at F5
    obtain ⟨own, hown⟩ : ∃ own, own = restOf g' L' [dl] h := ⟨_, rfl⟩
    have off5 : OwnOff own [dl] := hown ▸ rest_off
    have N5 : News g' L' h ((dl, o') :: own) := News.cons' e' hdlL hdlg (hown ▸ rest_news')
    clear N9 N8 F8 F9
    k_steps
    rename_i h6 o6 F6 N6 hd6
    have up := rest_keep (W := [dl]) F5.keep F6 N6 (fun p hp => .tail _ (hown ▸ hp))
    exact ⟨_, _, _, rfl, F6, stay2, fun b hb o e => up b o (fpL b hb).1 (fun q => (fpL b hb).2 (List.mem_singleton.mp q)) e, KeepBut.trans K (KeepBut.ofUp up (by exact .tail _ (.head _)) (fun b hb => by rw [List.mem_singleton.mp hb]; exact .head _)) (fun _ hb => hb), o6, (N6 (dl, o6) (.head _)).1, by rw [ez]; exact hd6⟩
  case hR =>
    rintro h5 tk u F5 ⟨K, ol5, el5, hl5⟩
    rw [hlen, List.take_length] at hl5
    rw [after2] at F5
    have N5 : News g' L' h5 [(dl, ol5), (lg, listOf #[.none, .ref l1, .ref l2, .ref l3] n), (l1, listOf vs.toArray q1), (dP, oP)] := by
      refine News.cons' el5 hdlL hdlg ?_
      refine News.cons' (K _ _ (N9 (lg, _) (by k_mem)).1 (by simp [m1, hgL, ilg])) hgL (N9 (lg, _) (by k_mem)).2.2 ?_
      refine News.cons' (K _ _ (N9 (l1, _) (by k_mem)).1 (by simp [m2, hlL, ill])) hlL (N9 (l1, _) (by k_mem)).2.2 ?_
      exact News.cons' (K _ _ (N9 (dP, _) (by k_mem)).1 (by simp [m3, hPL, idP])) hPL hPg (fun _ q => nomatch q)
    clear N9 F9 N8 F8 W9 pt9 st9 fp9 fpL K
    dsimp only
    k_steps
    rename_i ln _ _ _ la _ _ _ _ _ _ _ _ _ _ _ lu _ _ _ _ _ _ _ _ _ it2 ep2 h7 lt7 no7 ne7 F7 N7 hi7 da7
    have jdl : dl ≠ it2 := Nat.ne_of_lt (lt7 (dl, _) (by k_mem))
    have jlg : lg ≠ it2 := Nat.ne_of_lt (lt7 (lg, _) (by k_mem))
    have jln : ln ≠ it2 := Nat.ne_of_lt (lt7 (ln, _) (by k_mem))
    have jdP : dP ≠ it2 := Nat.ne_of_lt (lt7 (dP, _) (by k_mem))
    have jlI : l1 ≠ it2 := Nat.ne_of_lt (lt7 (l1, _) (by k_mem))
    have nlP : dP ≠ ln := Nat.ne_of_lt la.2.2.2
    have hlnL : ln ≠ L' := (N7 (ln, listOf #[] 0) (by k_mem)).2.1
    have hvk := puts_vk (acc := []) hv (fun _ q => nomatch q)
    have hnd := da7.nodup
    have hzl := puts_len ℓ []
    refine' names_held (h₀ := g') ?hE (Walks.dictKeys (knd := bk w) rfl it2 dl jdl (puts [] ℓ) ep2) [Str.ofString "key"] (fun i h => KeepBut [dP, L', it2] h7 h ∧ ∃ o', h.get? dP = some o' ∧ o'.IsDictOf (bk w) (applied dd ((puts [] ℓ).take i) kP)) rfl rfl rfl ?hLf (fun b hb => List.mem_singleton.mp hb ▸ no7) ?stable ⟨hi7, da7⟩ F7 ?h0 ?step ?hR
    case hE => first | passes_own | with_unfolding_all passes_own
    case hLf =>
      intro q
      rcases List.mem_cons.mp q with q | q
      · exact ne7 q.symm
      · exact hdlL (List.mem_singleton.mp q).symm
    case stable =>
      rintro i h h' ⟨K, o', e', hB'⟩ up
      exact ⟨fun b o e nS => up b o (fun q => nS (List.mem_cons.mpr (.inr (List.mem_cons.mpr (.inl q))))) (fun q => nS (List.mem_cons.mpr (.inr (List.mem_cons.mpr (.inr q))))) (K b o e nS), o', up _ _ hPL (fun q => jdP (List.mem_singleton.mp q)) e', hB'⟩
    case h0 => exact ⟨fun _ _ e _ => e, oP, (N7 (dP, oP) (by k_mem)).1, hd⟩
    case step =>
      rintro i v u h tk hi ⟨k, x, hrow, hkey⟩ ⟨K, o', e', hB'⟩ ⟨hi5, da5⟩ F5
      obtain ⟨b, t, rfl, rfl⟩ := bytes_is hkey
      have hvr := hvk _ (List.mem_of_getElem? hrow)
      have hval := valueAt_row hrow hnd
      have ez := applied_take (dd := dd) (kB := kP) hrow
      have hz5 : (applied dd ((puts [] ℓ).take i) kP).length ≤ sizeLine := Nat.le_trans (applied_len _ _ _) (by rw [List.length_nil] at hzl; rw [List.length_take]; omega)
      rw [names1] at F5
      obtain ⟨own, hown⟩ : ∃ own, own = restOf g' L' [dP] h := ⟨_, rfl⟩
      have off5 : OwnOff own [dP] := hown ▸ rest_off
      have N5 : News g' L' h ((dl, ol5) :: (lg, listOf #[.none, .ref ln, .ref l2, .ref l3] n) :: (dP, o') :: own) := by
        refine News.cons' (K _ _ (N7 (dl, _) (by k_mem)).1 (by simp [Ne.symm m3, hdlL, jdl])) hdlL hdlg ?_
        refine News.cons' (K _ _ (N7 (lg, _) (by k_mem)).1 (by simp [Ne.symm n1, hgL, jlg])) hgL (N7 (lg, _) (by k_mem)).2.2 ?_
        exact News.cons' e' hPL hPg (hown ▸ rest_news')
      have hfp : ∀ b ∈ [it2, dl], b ≠ L' ∧ b ≠ dP := by
        intro b hb
        simp only [List.mem_cons, List.not_mem_nil, or_false] at hb
        rcases hb with rfl | rfl
        · exact ⟨ne7, fun q => jdP q.symm⟩
        · exact ⟨hdlL, fun q => m3 q.symm⟩
      clear hrow hkey N7 F7
      rcases hvr with e9 | e9 | ⟨bb, tt, e9⟩ <;> cases e9
      · cases dd
        · k_steps
          exact turn_fin F5.keep K (.tail _ (.head _)) (.head _) hfp (by k_asm) stay1 (by k_asm) hown (by kwk_ne) (by k_mem) (fun _ => by rw [ez]; exact hB')
        · k_steps
          exact turn_fin F5.keep K (.tail _ (.head _)) (.head _) hfp (by k_asm) stay1 (by k_asm) hown (by kwk_ne) (by k_mem) (fun _ => by rw [ez]; assumption)
      · k_steps
        exact turn_fin F5.keep K (.tail _ (.head _)) (.head _) hfp (by k_asm) stay1 (by k_asm) hown (by kwk_ne) (by k_mem) (fun _ => by rw [ez]; assumption)
    case hR =>
      rintro h4 tk u F5 ⟨K, o', e', hB'⟩
      rw [List.take_length] at hB'
      rw [after1] at F5
      have N5 : News g' L' h4 [(ln, listOf #[] 0), (lg, listOf #[.none, .ref ln, .ref l2, .ref l3] n), (l1, listOf vs.toArray q1), (dP, o')] := by
        refine News.cons' (K _ _ (N7 (ln, _) (by k_mem)).1 (by simp [Ne.symm nlP, hlnL, jln])) hlnL (N7 (ln, _) (by k_mem)).2.2 ?_
        refine News.cons' (K _ _ (N7 (lg, _) (by k_mem)).1 (by simp [Ne.symm n1, hgL, jlg])) hgL (N7 (lg, _) (by k_mem)).2.2 ?_
        refine News.cons' (K _ _ (N7 (l1, _) (by k_mem)).1 (by simp [Ne.symm n2, hlL, jlI])) hlL (N7 (l1, _) (by k_mem)).2.2 ?_
        exact News.cons' e' hPL hPg (fun _ q => nomatch q)
      clear N7 F7 K
      dsimp only
      k_steps
      refine hret _ _ ln _ _ o' (by tb_start) ?_ (News.get N5 (by k_mem)) (News.get N5 (by k_mem)) (News.get N5 (by k_mem)) hB'
      cases e7 : s.heap.get? ln with
      | none => rfl
      | some o =>
        have z7 := (N5 (ln, _) (.head _)).2.2
        rw [hG' ln o e7 (by simp only [List.map_cons, List.map_nil, List.mem_cons, List.not_mem_nil, or_false]; rintro (q | q | q) <;> (rw [q] at la; simp at la))] at z7
        cases z7

theorem lc3 {w : World} {mean : ExcName → Option Value} {mg mb : Str → Option Value} {A : Around} {cn : Str} {cs : Scope} {a : Addr} {ccd : Value} {outer : List Env} {A₀ : Around} {base h₀ : Heap} {L : Addr} {m : Str → Option Value}
    {s : Shared} {lg l1 l2 l3 dP : Addr} {n q1 tl : Nat} {vs : List Value} {ℓ : List LRow} {oP : Obj} {kP : List (List UInt8 × Value)} {dd : Bool} {Q : Value → Shared → Prop} {E : Value → Shared → Prop} :
    At hd.heap_39 w mean mg mb A cn cs a ccd outer A₀ base h₀ L m s 20 →
    News h₀ L s.heap [(lg, listOf #[.none, .ref l1, .ref l2, .ref l3] n), (l3, listOf vs.toArray q1), (dP, oP)] → dP ≠ lg → dP ≠ l3 → lg ≠ l3 → oP.IsDictOf (bytesKind PySem.Challenge.rw_ad6016_01.row.prog w) kP →
    (dP == sysModules) = false → RowsAre s.heap vs ℓ → vs.length + kP.length ≤ sizeLine → (∀ r ∈ ℓ, Vk (some r.2)) →
    (∀ h' tk l' n' n'' o', KeepBut [lg, dP] s.heap h' → s.heap.get? l' = none → h'.get? lg = some (listOf #[.none, .ref l1, .ref l2, .ref l'] n'') → h'.get? l' = some (listOf #[] n') → h'.get? dP = some o' → o'.IsDictOf (bytesKind PySem.Challenge.rw_ad6016_01.row.prog w) (applied dd (puts [] ℓ) kP) →
      Q .none { s with heap := h', toks := tk }) →
    wpAny (model PySem.Challenge.rw_ad6016_01.row.prog w) A (call (.ref 98) [.ref lg, .ref dP, .int 3 tl, .bool dd]) Q E s := by
  k_fill
  intro H N n1 n2 n3 hd lP hR hz hv hret
  obtain ⟨B, F, X, T, XB, TB, D, hh, hA, hck, hdp, hun⟩ := H
  obtain ⟨hdl, dp, fr, gd, un⟩ := A
  dsimp only at hh hA hdp hun
  subst hh hA
  have off := off_of N (by kwd_same0)
  have hlen := hR.length
  refine wpAny_call ?_
  k_dflt (refine' enter (binds := [(Str.ofString "logs", .ref lg), (Str.ofString "plain", .ref dP), (Str.ofString "level", .int 3 tl), (Str.ofString "deletes", .bool dd)]) ?k1 ?k2 ?k3 ?k4 ?k5 ?kD ?kA ?kK ?k6 ?k7 ?k8 ?k9 ?kB ?_ ?c2 ?c3 ?c4 ?c5; (case kA => exact rfl); (case kK => first | assumption | exact rfl); (case k1 => k_asm); (case k2 => k_asm); (case k3 => k_asm); (case k4 => k_asm); (case k5 => k_asm); (case kD => k_asm); (case k6 => k_is); (case k7 => k_is); (case k8 => ktr_room); (case k9 => exact BindsTo.of_eq rfl); (case c5 => decide); (case kB => exact locs rfl); (case c2 => exact rfl); (case c3 => exact rfl); (case c4 => exact rfl); k_whole; intro g' L' h' hG' F' N' B' X' T' D'; (try dsimp only); (try k_fold))
  replace hR := RowsAre.keep hR hG' off
  k_steps
  rename_i dl _ ol lol hol _ _ _ l9 h8 F8 N8 it h9 fp Pt St Mid lt9 no9 ne9 F9 N9 W9 pt9 st9 fp9
  have hol' := empty_any (knd' := bk w) hol
  clear hol
  have hdlL : dl ≠ L' := (N9 (dl, ol) (by k_mem)).2.1
  have hdlg : g'.get? dl = none := (N9 (dl, ol) (by k_mem)).2.2
  have hgL : lg ≠ L' := (N9 (lg, listOf #[.none, .ref l1, .ref l2, .ref l3] n) (by k_mem)).2.1
  have hlL : l3 ≠ L' := (N9 (l3, listOf vs.toArray q1) (by k_mem)).2.1
  have hPL : dP ≠ L' := (N9 (dP, oP) (by k_mem)).2.1
  have hPg : g'.get? dP = none := (N9 (dP, oP) (by k_mem)).2.2
  have idl : dl ≠ it := Nat.ne_of_lt (lt9 (dl, _) (.head _))
  have ilg : lg ≠ it := Nat.ne_of_lt (lt9 (lg, _) (.tail _ (.head _)))
  have ill : l3 ≠ it := Nat.ne_of_lt (lt9 (l3, _) (.tail _ (.tail _ (.head _))))
  have idP : dP ≠ it := Nat.ne_of_lt (lt9 (dP, _) (.tail _ (.tail _ (.tail _ (.head _)))))
  have m1 : lg ≠ dl := Nat.ne_of_lt l9.1
  have m2 : l3 ≠ dl := Nat.ne_of_lt l9.2.1
  have m3 : dP ≠ dl := Nat.ne_of_lt l9.2.2
  have fpL : ∀ b ∈ fp, b ≠ L' ∧ b ≠ dl := by
    intro b hb
    rcases fp9 b hb with rfl | rfl | ⟨items, k, e⟩
    · exact ⟨ne9, fun q => idl q.symm⟩
    · exact ⟨hlL, m2⟩
    · refine ⟨fun q => ns_off F9.ns _ (q ▸ e) ⟨_, _, rfl⟩, fun q => ?_⟩
      rw [q, (N9 (dl, ol) (by k_mem)).1] at e
      have e8 : ol = { cls := .type "tuple", data := .seq items k } := Option.some.inj e
      exact dict_cls hol' (by rw [e8])
  refine' pairs_held (h₀ := g') (P2 := fun i v0 v1 => ∃ b t, v0 = .bytes b t ∧ ℓ[i]? = some (b.toList, v1)) ?hE rfl W9 pt9 [Str.ofString "key", Str.ofString "value"] (fun i h => KeepBut [dl, L', it] h9 h ∧ ∃ o', h.get? dl = some o' ∧ o'.IsDictOf (bk w) (puts [] (ℓ.take i))) rfl rfl rfl rfl rfl (fun q => (fpL _ q).1 rfl) (fun b hb => List.mem_singleton.mp hb ▸ no9) ?stable st9 F9 ?h0 ?step ?hR
  case hE => first | passes_own | with_unfolding_all passes_own
  case stable =>
    rintro i h h' ⟨K, o', e', hB'⟩ up
    exact ⟨fun b o e nS => up b o (fun q => nS (List.mem_cons.mpr (.inr (List.mem_cons.mpr (.inl q))))) (fun q => nS (List.mem_cons.mpr (.inr (List.mem_cons.mpr (.inr q))))) (K b o e nS), o', up _ _ hdlL (fun q => idl (List.mem_singleton.mp q)) e', hB'⟩
  case h0 => exact ⟨fun _ _ e _ => e, ol, (N9 (dl, ol) (by k_mem)).1, hol'⟩
  case step =>
    rintro i v0 v1 u h tk hi ⟨b, t, rfl, hrow⟩ ⟨K, o', e', hB'⟩ st5 F5
    have ez := puts_take (acc := []) hrow
    have hz5 : (puts [] (ℓ.take i)).length ≤ sizeLine := Nat.le_trans (puts_len _ _) (by rw [List.length_take, List.length_nil]; omega)
    rw [names2] at F5
    obtain ⟨own, hown⟩ : ∃ own, own = restOf g' L' [dl] h := ⟨_, rfl⟩
    have off5 : OwnOff own [dl] := hown ▸ rest_off
    have N5 : News g' L' h ((dl, o') :: own) := News.cons' e' hdlL hdlg (hown ▸ rest_news')
    clear N9 N8 F8 F9
    k_steps
    rename_i h6 o6 F6 N6 hd6
    have up := rest_keep (W := [dl]) F5.keep F6 N6 (fun p hp => .tail _ (hown ▸ hp))
    exact ⟨_, _, _, rfl, F6, stay2, fun b hb o e => up b o (fpL b hb).1 (fun q => (fpL b hb).2 (List.mem_singleton.mp q)) e, KeepBut.trans K (KeepBut.ofUp up (by exact .tail _ (.head _)) (fun b hb => by rw [List.mem_singleton.mp hb]; exact .head _)) (fun _ hb => hb), o6, (N6 (dl, o6) (.head _)).1, by rw [ez]; exact hd6⟩
  case hR =>
    rintro h5 tk u F5 ⟨K, ol5, el5, hl5⟩
    rw [hlen, List.take_length] at hl5
    rw [after2] at F5
    have N5 : News g' L' h5 [(dl, ol5), (lg, listOf #[.none, .ref l1, .ref l2, .ref l3] n), (l3, listOf vs.toArray q1), (dP, oP)] := by
      refine News.cons' el5 hdlL hdlg ?_
      refine News.cons' (K _ _ (N9 (lg, _) (by k_mem)).1 (by simp [m1, hgL, ilg])) hgL (N9 (lg, _) (by k_mem)).2.2 ?_
      refine News.cons' (K _ _ (N9 (l3, _) (by k_mem)).1 (by simp [m2, hlL, ill])) hlL (N9 (l3, _) (by k_mem)).2.2 ?_
      exact News.cons' (K _ _ (N9 (dP, _) (by k_mem)).1 (by simp [m3, hPL, idP])) hPL hPg (fun _ q => nomatch q)
    clear N9 F9 N8 F8 W9 pt9 st9 fp9 fpL K
    dsimp only
    k_steps
    rename_i ln _ _ _ la _ _ _ _ _ _ _ _ _ _ _ lu _ _ _ _ _ _ _ _ _ it2 ep2 h7 lt7 no7 ne7 F7 N7 hi7 da7
    have jdl : dl ≠ it2 := Nat.ne_of_lt (lt7 (dl, _) (by k_mem))
    have jlg : lg ≠ it2 := Nat.ne_of_lt (lt7 (lg, _) (by k_mem))
    have jln : ln ≠ it2 := Nat.ne_of_lt (lt7 (ln, _) (by k_mem))
    have jdP : dP ≠ it2 := Nat.ne_of_lt (lt7 (dP, _) (by k_mem))
    have jlI : l3 ≠ it2 := Nat.ne_of_lt (lt7 (l3, _) (by k_mem))
    have nlP : dP ≠ ln := Nat.ne_of_lt la.2.2.2
    have hlnL : ln ≠ L' := (N7 (ln, listOf #[] 0) (by k_mem)).2.1
    have hvk := puts_vk (acc := []) hv (fun _ q => nomatch q)
    have hnd := da7.nodup
    have hzl := puts_len ℓ []
    refine' names_held (h₀ := g') ?hE (Walks.dictKeys (knd := bk w) rfl it2 dl jdl (puts [] ℓ) ep2) [Str.ofString "key"] (fun i h => KeepBut [dP, L', it2] h7 h ∧ ∃ o', h.get? dP = some o' ∧ o'.IsDictOf (bk w) (applied dd ((puts [] ℓ).take i) kP)) rfl rfl rfl ?hLf (fun b hb => List.mem_singleton.mp hb ▸ no7) ?stable ⟨hi7, da7⟩ F7 ?h0 ?step ?hR
    case hE => first | passes_own | with_unfolding_all passes_own
    case hLf =>
      intro q
      rcases List.mem_cons.mp q with q | q
      · exact ne7 q.symm
      · exact hdlL (List.mem_singleton.mp q).symm
    case stable =>
      rintro i h h' ⟨K, o', e', hB'⟩ up
      exact ⟨fun b o e nS => up b o (fun q => nS (List.mem_cons.mpr (.inr (List.mem_cons.mpr (.inl q))))) (fun q => nS (List.mem_cons.mpr (.inr (List.mem_cons.mpr (.inr q))))) (K b o e nS), o', up _ _ hPL (fun q => jdP (List.mem_singleton.mp q)) e', hB'⟩
    case h0 => exact ⟨fun _ _ e _ => e, oP, (N7 (dP, oP) (by k_mem)).1, hd⟩
    case step =>
      rintro i v u h tk hi ⟨k, x, hrow, hkey⟩ ⟨K, o', e', hB'⟩ ⟨hi5, da5⟩ F5
      obtain ⟨b, t, rfl, rfl⟩ := bytes_is hkey
      have hvr := hvk _ (List.mem_of_getElem? hrow)
      have hval := valueAt_row hrow hnd
      have ez := applied_take (dd := dd) (kB := kP) hrow
      have hz5 : (applied dd ((puts [] ℓ).take i) kP).length ≤ sizeLine := Nat.le_trans (applied_len _ _ _) (by rw [List.length_nil] at hzl; rw [List.length_take]; omega)
      rw [names1] at F5
      obtain ⟨own, hown⟩ : ∃ own, own = restOf g' L' [dP] h := ⟨_, rfl⟩
      have off5 : OwnOff own [dP] := hown ▸ rest_off
      have N5 : News g' L' h ((dl, ol5) :: (lg, listOf #[.none, .ref l1, .ref l2, .ref ln] n) :: (dP, o') :: own) := by
        refine News.cons' (K _ _ (N7 (dl, _) (by k_mem)).1 (by simp [Ne.symm m3, hdlL, jdl])) hdlL hdlg ?_
        refine News.cons' (K _ _ (N7 (lg, _) (by k_mem)).1 (by simp [Ne.symm n1, hgL, jlg])) hgL (N7 (lg, _) (by k_mem)).2.2 ?_
        exact News.cons' e' hPL hPg (hown ▸ rest_news')
      have hfp : ∀ b ∈ [it2, dl], b ≠ L' ∧ b ≠ dP := by
        intro b hb
        simp only [List.mem_cons, List.not_mem_nil, or_false] at hb
        rcases hb with rfl | rfl
        · exact ⟨ne7, fun q => jdP q.symm⟩
        · exact ⟨hdlL, fun q => m3 q.symm⟩
      clear hrow hkey N7 F7
      rcases hvr with e9 | e9 | ⟨bb, tt, e9⟩ <;> cases e9
      · cases dd
        · k_steps
          exact turn_fin F5.keep K (.tail _ (.head _)) (.head _) hfp (by k_asm) stay1 (by k_asm) hown (by kwk_ne) (by k_mem) (fun _ => by rw [ez]; exact hB')
        · k_steps
          exact turn_fin F5.keep K (.tail _ (.head _)) (.head _) hfp (by k_asm) stay1 (by k_asm) hown (by kwk_ne) (by k_mem) (fun _ => by rw [ez]; assumption)
      · k_steps
        exact turn_fin F5.keep K (.tail _ (.head _)) (.head _) hfp (by k_asm) stay1 (by k_asm) hown (by kwk_ne) (by k_mem) (fun _ => by rw [ez]; assumption)
    case hR =>
      rintro h4 tk u F5 ⟨K, o', e', hB'⟩
      rw [List.take_length] at hB'
      rw [after1] at F5
      have N5 : News g' L' h4 [(ln, listOf #[] 0), (lg, listOf #[.none, .ref l1, .ref l2, .ref ln] n), (l3, listOf vs.toArray q1), (dP, o')] := by
        refine News.cons' (K _ _ (N7 (ln, _) (by k_mem)).1 (by simp [Ne.symm nlP, hlnL, jln])) hlnL (N7 (ln, _) (by k_mem)).2.2 ?_
        refine News.cons' (K _ _ (N7 (lg, _) (by k_mem)).1 (by simp [Ne.symm n1, hgL, jlg])) hgL (N7 (lg, _) (by k_mem)).2.2 ?_
        refine News.cons' (K _ _ (N7 (l3, _) (by k_mem)).1 (by simp [Ne.symm n2, hlL, jlI])) hlL (N7 (l3, _) (by k_mem)).2.2 ?_
        exact News.cons' e' hPL hPg (fun _ q => nomatch q)
      clear N7 F7 K
      dsimp only
      k_steps
      refine hret _ _ ln _ _ o' (by tb_start) ?_ (News.get N5 (by k_mem)) (News.get N5 (by k_mem)) (News.get N5 (by k_mem)) hB'
      cases e7 : s.heap.get? ln with
      | none => rfl
      | some o =>
        have z7 := (N5 (ln, _) (.head _)).2.2
        rw [hG' ln o e7 (by simp only [List.map_cons, List.map_nil, List.mem_cons, List.not_mem_nil, or_false]; rintro (q | q | q) <;> (rw [q] at la; simp at la))] at z7
        cases z7
end
section
local macro_rules | `(tactic| walk_at "no such step") => `(tactic| skip)
local macro_rules | `(tactic| k_ne) => `(tactic| first | assumption | exact ne_s (by assumption))
local macro_rules | `(tactic| ktr_enter) => `(tactic| (refine' enter ?k1 ?k2 ?k3 ?k4 ?k5 ?kD ?kA ?kK ?k6 ?k7 ?k8 ?k9 ?kB ?_ ?c2 ?c3 ?c4 ?c5; (case kA => exact rfl); (case kK => first | assumption | exact rfl); (case k1 => k_asm); (case k2 => k_asm); (case k3 => k_asm); (case k4 => k_asm); (case k5 => k_asm); (case kD => k_asm); (case k6 => k_is); (case k7 => k_is); (case k8 => ktr_room); (case k9 => first | exact BindsTo.of_eq rfl | exact binds_K (by k_in) rfl (by k_is) rfl rfl rfl); (case c5 => decide); (case kB => exact locs rfl); (case c2 => exact rfl); (case c3 => exact rfl); (case c4 => exact rfl); k_whole; intro g' L' h' hG' F' N' B' X' T' D'; (try dsimp only); (try k_fold)))
local macro_rules | `(tactic| tb_rel) => `(tactic| first | exact List.forall_mem_nil _ | (refine List.forall_mem_cons.mpr ⟨by first | exact Or.inr (by k_mem) | exact Or.inl (by k_mem), ?_⟩; tb_rel))
local macro_rules | `(tactic| walk_at "setItem ref bytes") => `(tactic| (k_here; k_dflt (refine' kda_set (knd := bytesKind _ _) ?F ?N ?U ?d (bk_is _ _ _) ?z ?_; (case F => k_asm); (case N => k_asm); (case U => k_updF); (case d => k_asm); (case z => assumption)); intro h' o' F' N' hd'; (try dsimp only at N')))
local macro_rules | `(tactic| walk_at "compareOp In bytes ref") => `(tactic| (k_here; k_dflt (refine kda_in (knd := bytesKind _ _) (by k_asm) (by k_mem) (by k_asm) (by k_asm) (bk_is _ _ _) _ (by first | exact some_is (by assumption) | exact none_is (by assumption)) ?_)))
local macro_rules | `(tactic| walk_at "subscriptTail") => `(tactic| (k_here; (with_reducible show wpAny _ _ (subscriptTail _ _ (Value.ref _) (Value.bytes _ _)) _ _ _); k_dflt (refine kda_item (knd := bytesKind _ _) (by k_asm) (by k_mem) (by k_asm) (bk_is _ _ _) (by assumption) ?_)))
local macro_rules | `(tactic| tb_start) => `(tactic| exact keep_of (by assumption) (by assumption) (by assumption) (by assumption) (by tb_rel))
local macro_rules | `(tactic| ktf_step) => `(tactic| (intro h' tk' hk'; have F' := fr_keep (by assumption) hk'; have N' := news_keep (by assumption) hk'))
local macro_rules | `(tactic| ktn_step) => `(tactic| (refine' At.mk ?B ?F ?X ?T ?XB ?TB ?D ?hh ?hA ?hck ?hd ?hu; (case B => k_asm); (case F => k_asm); (case X => k_asm); (case T => k_asm); (case XB => k_asm); (case TB => k_asm); (case D => k_asm); (case hh => exact rfl); (case hA => exact rfl); (case hck => first | assumption | exact rfl); (case hd => ktr_room); (case hu => ktr_units)))
local macro_rules | `(tactic| k_room) => `(tactic| ktr_room)
local macro_rules | `(tactic| k_units) => `(tactic| ktr_units)
local macro_rules | `(tactic| kwd_same0) => `(tactic| first | exact List.forall_mem_nil _ | (refine List.forall_mem_cons.mpr ⟨by first | exact dict_cls (by assumption) | (show Value.type "list" ≠ Value.type "tuple"; decide) | (show Value.ref _ ≠ Value.type "tuple"; exact fun x => nomatch x) | (show Value.type "dict" ≠ Value.type "tuple"; decide), ?_⟩; kwd_same0))
local macro_rules | `(tactic| walk_at "compareOp NotEq ref ref") => `(tactic| (k_here; k_dflt (first | (refine' ne_nil_snoc ?N ?a ?b ?u ?_; (case N => k_asm); (case a => k_mem); (case b => k_mem); (case u => ktr_units)) | (refine' ne_nil_nil ?N ?a ?b ?u ?_; (case N => k_asm); (case a => k_mem); (case b => k_mem); (case u => ktr_units)))))
local macro_rules | `(tactic| walk_at "subscriptTail") => `(tactic| (k_here; (with_reducible show wpAny _ _ (subscriptTail _ _ (Value.ref _) (Value.int _ _)) _ _ _); k_dflt (refine' item_tupleT (Fr.tup ?F ?T) ?lo ?hi ?j ?x ?_; (case T => with_reducible assumption); (case F => k_asm); (case lo => decide); (case hi => decide); (case j => rfl); (case x => rfl))))
local macro_rules | `(tactic| walk_at "subscriptTail") => `(tactic| (k_here; (with_reducible show wpAny _ _ (subscriptTail _ _ (Value.ref _) (Value.int (-1) _)) _ _ _); k_dflt (refine' last_item ?N ?a ?z ?_; (case N => k_asm); (case a => k_mem); (case z => assumption))))
local macro_rules | `(tactic| walk_at "call builtin:dict.get") => `(tactic| (k_here; k_dflt (refine kdg_get1 (knd := bytesKind _ _) (by k_asm) (by k_mem) (by k_asm) (by k_asm) (bk_is _ _ _) _ (by assumption) ?_; (try dsimp only [Option.getD]))))
local macro_rules | `(tactic| walk_at "getMethod ref") => `(tactic| (k_here; (with_reducible show wpAny _ _ (getMethod (Value.ref _) (Str.ofString "get") _) _ _ _); k_dflt (refine kdg_method (knd := bytesKind _ _) (by k_asm) (by k_mem) (by k_asm) ?_)))
local macro_rules | `(tactic| walk_at "getMethod ref") => `(tactic| (k_here; (with_reducible show wpAny _ _ (getMethod (Value.ref _) (Str.ofString "items") _) _ _ _); k_dflt (refine kdi_method (knd := bytesKind _ _) (by k_asm) (by k_mem) (by k_asm) ?_)))
local macro_rules | `(tactic| walk_at "getMethod ref") => `(tactic| (k_here; (with_reducible show wpAny _ _ (getMethod (Value.ref _) (Str.ofString "pop") _) _ _ _); k_dflt (refine kdp_method (knd := bytesKind _ _) (by k_asm) (by k_mem) (by k_asm) ?_)))
local macro_rules | `(tactic| walk_at "call builtin:dict.items") => `(tactic| (k_here; k_dflt (refine kdi_call (knd := bytesKind _ _) (by k_asm) (by k_asm) (by k_mem) (by k_asm) (by k_asm) ?_); intro v' h' F' N'))
local macro_rules | `(tactic| walk_at "pyIter ref") => `(tactic| (k_here; k_dflt (refine kdi_iter (knd := bytesKind _ _) (by k_asm) (by k_asm) (by k_mem) (by k_mem) (by k_asm) ?_); intro it' ep' h' lt' no' ne' F' N' hi' da'))
local macro_rules | `(tactic| walk_at "call builtin:dict.pop") => `(tactic| (k_here; k_dflt (refine kdp_any (knd := bytesKind _ _) (by k_asm) (by k_asm) (by k_updF) (by k_asm) (bk_is _ _ _) (by assumption) (by k_asm) (by rfl) ?_); intro v' h' o' F' N' hd'; (try dsimp only at N')))
local macro_rules | `(tactic| walk_at "setAttr ref") => `(tactic| (k_here; k_dflt (refine' set_dict ?k1 ?k2 ?k3 ?k4 ?k5 ?k6 ?k7 ?k8 ?k9 ?k10 put_cache ?k12 ?k13 ?_; (case k1 => k_asm); (case k2 => k_asm); (case k3 => k_asm); (case k4 => k_inst); (case k5 => exact rfl); (case k6 => k_is); (case k7 => k_is); (case k8 => k_is); (case k9 => k_is); (case k10 => k_get); (case k12 => k_upd); (case k13 => exact Nat.le_of_ble_eq_true rfl); k_whole; intro h' F' N'; (try k_sweep))))
local macro_rules | `(tactic| walk_at "pyIter ref") => `(tactic| (k_here; k_dflt (refine keys_iter (knd := bytesKind _ _) (by k_asm) (by k_asm) (by k_mem) (by k_asm) (by k_asm) ?_); intro it' ep' h' lt' no' ne' F' N' hi' da'))
local macro_rules | `(tactic| walk_at "pyIter ref") => `(tactic| (k_here; k_dflt (refine rows_iter rfl (by k_asm) (by k_asm) (by k_mem) (by assumption) ?_); intro it' h' fp' Pt' St' Mid' lt' no' ne' F' N' W' pt' st' fp9'))
local macro_rules | `(tactic| walk_at "call builtin:list.append") => `(tactic| (k_here; k_dflt (refine append_rows (by k_asm) (by k_asm) (by k_updF) (by assumption) ?_); intro h' F' N'; (try dsimp only at N')))
local macro_rules | `(tactic| kwk_ne) => `(tactic| (intro p9 hp9; repeat (first | exact hp9 | apply List.mem_cons_of_mem)))
local macro_rules | `(tactic| walk_at "newTuple") => `(tactic| (k_here; k_dflt (refine' kup_newTuple ?F ?N ?_ ?z; (case F => k_asm); (case N => k_asm); (case z => exact Nat.le_of_ble_eq_true rfl)); intro D' h' F' N' l1; (try k_lt l1); (try k_sweep)))
local macro_rules | `(tactic| walk_at "exec For Name Name cons nil") => `(tactic| (k_here; k_dflt (refine for_held ?_ ?hs; (case hs => intro _; rfl))))
local macro_rules | `(tactic| walk_at "exec For") => `(tactic| (k_here; k_dflt (refine for_held ?_ ?hs; (case hs => intro _; rfl))))

theorem lc2 {w : World} {mean : ExcName → Option Value} {mg mb : Str → Option Value} {A : Around} {cn : Str} {cs : Scope} {a : Addr} {ccd : Value} {outer : List Env} {A₀ : Around} {base h₀ : Heap} {L : Addr} {m : Str → Option Value}
    {s : Shared} {lg l1 l2 l3 dP : Addr} {n q1 q2 tl : Nat} {vs ws : List Value} {ℓ ℓ1 : List LRow} {Q : Value → Shared → Prop} {E : Value → Shared → Prop} :
    At hd.heap_39 w mean mg mb A cn cs a ccd outer A₀ base h₀ L m s 20 →
    News h₀ L s.heap [(lg, listOf #[.none, .ref l1, .ref l2, .ref l3] n), (l2, listOf vs.toArray q1), (l1, listOf ws.toArray q2)] → l1 ≠ lg → l1 ≠ l2 → lg ≠ l2 →
    RowsAre s.heap vs ℓ → RowsAre s.heap ws ℓ1 → vs.length + ws.length ≤ sizeLine → (∀ r ∈ ℓ, Vk (some r.2)) →
    (∀ h' tk l' n' n'' ws' q', KeepBut [lg, l1] s.heap h' → s.heap.get? l' = none → h'.get? lg = some (listOf #[.none, .ref l1, .ref l', .ref l3] n'') → h'.get? l' = some (listOf #[] n') → h'.get? l1 = some (listOf ws'.toArray q') → RowsAre h' ws' (ℓ1 ++ kept (puts [] ℓ)) →
      Q .none { s with heap := h', toks := tk }) →
    wpAny (model PySem.Challenge.rw_ad6016_01.row.prog w) A (call (.ref 98) [.ref lg, .ref dP, .int 2 tl, Value.bool false]) Q E s := by
  k_fill
  intro H N n1 n2 n3 hR hR1 hz hv hret
  obtain ⟨B, F, X, T, XB, TB, D, hh, hA, hck, hdp, hun⟩ := H
  obtain ⟨hdl, dp, fr, gd, un⟩ := A
  dsimp only at hh hA hdp hun
  subst hh hA
  have off := off_of N (by kwd_same0)
  have hlen := hR.length
  have hlen1 := hR1.length
  refine wpAny_call ?_
  k_dflt (refine' enter (binds := [(Str.ofString "logs", .ref lg), (Str.ofString "plain", .ref dP), (Str.ofString "level", .int 2 tl), (Str.ofString "deletes", Value.bool false)]) ?k1 ?k2 ?k3 ?k4 ?k5 ?kD ?kA ?kK ?k6 ?k7 ?k8 ?k9 ?kB ?_ ?c2 ?c3 ?c4 ?c5; (case kA => exact rfl); (case kK => first | assumption | exact rfl); (case k1 => k_asm); (case k2 => k_asm); (case k3 => k_asm); (case k4 => k_asm); (case k5 => k_asm); (case kD => k_asm); (case k6 => k_is); (case k7 => k_is); (case k8 => ktr_room); (case k9 => exact BindsTo.of_eq rfl); (case c5 => decide); (case kB => exact locs rfl); (case c2 => exact rfl); (case c3 => exact rfl); (case c4 => exact rfl); k_whole; intro g' L' h' hG' F' N' B' X' T' D'; (try dsimp only); (try k_fold))
  replace hR := RowsAre.keep hR hG' off
  replace hR1 := RowsAre.keep hR1 hG' off
  k_steps
  rename_i dl _ ol lol hol _ _ _ l9 h8 F8 N8 it h9 fp Pt St Mid lt9 no9 ne9 F9 N9 W9 pt9 st9 fp9
  have hol' := empty_any (knd' := bk w) hol
  clear hol
  have hdlL : dl ≠ L' := (N9 (dl, ol) (by k_mem)).2.1
  have hdlg : g'.get? dl = none := (N9 (dl, ol) (by k_mem)).2.2
  have hgL : lg ≠ L' := (N9 (lg, listOf #[.none, .ref l1, .ref l2, .ref l3] n) (by k_mem)).2.1
  have hlL : l2 ≠ L' := (N9 (l2, listOf vs.toArray q1) (by k_mem)).2.1
  have hPL : l1 ≠ L' := (N9 (l1, listOf ws.toArray q2) (by k_mem)).2.1
  have hPg : g'.get? l1 = none := (N9 (l1, listOf ws.toArray q2) (by k_mem)).2.2
  have idl : dl ≠ it := Nat.ne_of_lt (lt9 (dl, _) (.head _))
  have ilg : lg ≠ it := Nat.ne_of_lt (lt9 (lg, _) (.tail _ (.head _)))
  have ill : l2 ≠ it := Nat.ne_of_lt (lt9 (l2, _) (.tail _ (.tail _ (.head _))))
  have idP : l1 ≠ it := Nat.ne_of_lt (lt9 (l1, _) (.tail _ (.tail _ (.tail _ (.head _)))))
  have m1 : lg ≠ dl := Nat.ne_of_lt l9.1
  have m2 : l2 ≠ dl := Nat.ne_of_lt l9.2.1
  have m3 : l1 ≠ dl := Nat.ne_of_lt l9.2.2
  have fpL : ∀ b ∈ fp, b ≠ L' ∧ b ≠ dl := by
    intro b hb
    rcases fp9 b hb with rfl | rfl | ⟨items, k, e⟩
    · exact ⟨ne9, fun q => idl q.symm⟩
    · exact ⟨hlL, m2⟩
    · refine ⟨fun q => ns_off F9.ns _ (q ▸ e) ⟨_, _, rfl⟩, fun q => ?_⟩
      rw [q, (N9 (dl, ol) (by k_mem)).1] at e
      have e8 : ol = { cls := .type "tuple", data := .seq items k } := Option.some.inj e
      exact dict_cls hol' (by rw [e8])
  refine' pairs_held (h₀ := g') (P2 := fun i v0 v1 => ∃ b t, v0 = .bytes b t ∧ ℓ[i]? = some (b.toList, v1)) ?hE rfl W9 pt9 [Str.ofString "key", Str.ofString "value"] (fun i h => KeepBut [dl, L', it] h9 h ∧ ∃ o', h.get? dl = some o' ∧ o'.IsDictOf (bk w) (puts [] (ℓ.take i))) rfl rfl rfl rfl rfl (fun q => (fpL _ q).1 rfl) (fun b hb => List.mem_singleton.mp hb ▸ no9) ?stable st9 F9 ?h0 ?step ?hR
  case hE => first | passes_own | with_unfolding_all passes_own
  case stable =>
    rintro i h h' ⟨K, o', e', hB'⟩ up
    exact ⟨fun b o e nS => up b o (fun q => nS (List.mem_cons.mpr (.inr (List.mem_cons.mpr (.inl q))))) (fun q => nS (List.mem_cons.mpr (.inr (List.mem_cons.mpr (.inr q))))) (K b o e nS), o', up _ _ hdlL (fun q => idl (List.mem_singleton.mp q)) e', hB'⟩
  case h0 => exact ⟨fun _ _ e _ => e, ol, (N9 (dl, ol) (by k_mem)).1, hol'⟩
  case step =>
    rintro i v0 v1 u h tk hi ⟨b, t, rfl, hrow⟩ ⟨K, o', e', hB'⟩ st5 F5
    have ez := puts_take (acc := []) hrow
    have hz5 : (puts [] (ℓ.take i)).length ≤ sizeLine := Nat.le_trans (puts_len _ _) (by rw [List.length_take, List.length_nil]; omega)
    rw [names2] at F5
    obtain ⟨own, hown⟩ : ∃ own, own = restOf g' L' [dl] h := ⟨_, rfl⟩
    have off5 : OwnOff own [dl] := hown ▸ rest_off
    have N5 : News g' L' h ((dl, o') :: own) := News.cons' e' hdlL hdlg (hown ▸ rest_news')
    clear N9 N8 F8 F9
    k_steps
    rename_i h6 o6 F6 N6 hd6
    have up := rest_keep (W := [dl]) F5.keep F6 N6 (fun p hp => .tail _ (hown ▸ hp))
    exact ⟨_, _, _, rfl, F6, stay2, fun b hb o e => up b o (fpL b hb).1 (fun q => (fpL b hb).2 (List.mem_singleton.mp q)) e, KeepBut.trans K (KeepBut.ofUp up (by exact .tail _ (.head _)) (fun b hb => by rw [List.mem_singleton.mp hb]; exact .head _)) (fun _ hb => hb), o6, (N6 (dl, o6) (.head _)).1, by rw [ez]; exact hd6⟩
  case hR =>
    rintro h5 tk u F5 ⟨K, ol5, el5, hl5⟩
    rw [hlen, List.take_length] at hl5
    rw [after2] at F5
    have N5 : News g' L' h5 [(dl, ol5), (lg, listOf #[.none, .ref l1, .ref l2, .ref l3] n), (l2, listOf vs.toArray q1), (l1, listOf ws.toArray q2)] := by
      refine News.cons' el5 hdlL hdlg ?_
      refine News.cons' (K _ _ (N9 (lg, _) (by k_mem)).1 (by simp [m1, hgL, ilg])) hgL (N9 (lg, _) (by k_mem)).2.2 ?_
      refine News.cons' (K _ _ (N9 (l2, _) (by k_mem)).1 (by simp [m2, hlL, ill])) hlL (N9 (l2, _) (by k_mem)).2.2 ?_
      exact News.cons' (K _ _ (N9 (l1, _) (by k_mem)).1 (by simp [m3, hPL, idP])) hPL hPg (fun _ q => nomatch q)
    clear N9 F9 N8 F8 W9 pt9 st9 fp9 fpL K
    dsimp only
    k_steps
    rename_i ln _ _ _ la _ _ _ _ _ _ _ _ _ _ _ lu _ _ _ _ _ _ _ _ _ it2 ep2 h7 lt7 no7 ne7 F7 N7 hi7 da7
    have jdl : dl ≠ it2 := Nat.ne_of_lt (lt7 (dl, _) (by k_mem))
    have jlg : lg ≠ it2 := Nat.ne_of_lt (lt7 (lg, _) (by k_mem))
    have jln : ln ≠ it2 := Nat.ne_of_lt (lt7 (ln, _) (by k_mem))
    have jdP : l1 ≠ it2 := Nat.ne_of_lt (lt7 (l1, _) (by k_mem))
    have jlI : l2 ≠ it2 := Nat.ne_of_lt (lt7 (l2, _) (by k_mem))
    have nlP : l1 ≠ ln := Nat.ne_of_lt la.2.2.2
    have hlnL : ln ≠ L' := (N7 (ln, listOf #[] 0) (by k_mem)).2.1
    have hvk := puts_vk (acc := []) hv (fun _ q => nomatch q)
    have hnd := da7.nodup
    have hzl := puts_len ℓ []
    refine' names_held (h₀ := g') ?hE (Walks.dictKeys (knd := bk w) rfl it2 dl jdl (puts [] ℓ) ep2) [Str.ofString "key"] (fun i h => KeepBut [l1, L', it2] h7 h ∧ ∃ o', h.get? l1 = some o' ∧ ∃ ws' n', o' = listOf ws'.toArray n' ∧ RowsAre h ws' (ℓ1 ++ kept ((puts [] ℓ).take i)) ∧ RowsOff [L', it2] ws' ∧ ws'.length ≤ ws.length + i) rfl rfl rfl ?hLf (fun b hb => List.mem_singleton.mp hb ▸ no7) ?stable ⟨hi7, da7⟩ F7 ?h0 ?step ?hR
    case hE => first | passes_own | with_unfolding_all passes_own
    case hLf =>
      intro q
      rcases List.mem_cons.mp q with q | q
      · exact ne7 q.symm
      · exact hdlL (List.mem_singleton.mp q).symm
    case stable =>
      rintro i h h' ⟨K, o', e', ws', n', rfl, hr', ho', hl'⟩ up
      exact ⟨fun b o e nS => up b o (fun q => nS (List.mem_cons.mpr (.inr (List.mem_cons.mpr (.inl q))))) (fun q => nS (List.mem_cons.mpr (.inr (List.mem_cons.mpr (.inr q))))) (K b o e nS), _, up _ _ hPL (fun q => jdP (List.mem_singleton.mp q)) e', ws', n', rfl,
        hr'.stay (S := [L', it2]) (fun b o nb e => up b o (fun q => nb (List.mem_cons.mpr (.inl q))) (fun q => nb (List.mem_cons.mpr (.inr q))) e) ho', ho', hl'⟩
    case h0 =>
      refine ⟨fun _ _ e _ => e, _, (N7 (l1, listOf ws.toArray q2) (by k_mem)).1, ws, q2, rfl, ?_, ?_, Nat.le_refl _⟩
      · rw [List.take_zero]
        show RowsAre h7 ws (ℓ1 ++ [])
        rw [List.append_nil]
        exact hR1.mono fun a o _ e => F7.keep a o e
      · refine hR1.off fun b hb o e hc => ?_
        simp only [List.mem_cons, List.not_mem_nil, or_false] at hb
        rcases hb with rfl | rfl
        · exact ns_off F7.ns o (F7.keep _ _ e)
        · rw [no7] at e; cases e
    case step =>
      rintro i v u h tk hi ⟨k, x, hrow, hkey⟩ ⟨K, o', e', ws', n', rfl, hr', ho', hl'⟩ ⟨hi5, da5⟩ F5
      obtain ⟨b, t, rfl, rfl⟩ := bytes_is hkey
      have hvr := hvk _ (List.mem_of_getElem? hrow)
      have hval := valueAt_row hrow hnd
      have ez := kept_take hrow
      have hz5 : ws'.length ≤ sizeLine := Nat.le_trans hl' (by rw [List.length_nil] at hzl; omega)
      obtain ⟨oI, eI, _⟩ := id hi5
      rw [names1] at F5
      obtain ⟨own, hown⟩ : ∃ own, own = restOf g' L' [l1] h := ⟨_, rfl⟩
      have off5 : OwnOff own [l1] := hown ▸ rest_off
      have N5 : News g' L' h ((it2, oI) :: (dl, ol5) :: (lg, listOf #[.none, .ref l1, .ref ln, .ref l3] n) :: (l1, listOf ws'.toArray n') :: own) := by
        refine News.cons' eI ne7 no7 ?_
        refine News.cons' (K _ _ (N7 (dl, _) (by k_mem)).1 (by simp [Ne.symm m3, hdlL, jdl])) hdlL hdlg ?_
        refine News.cons' (K _ _ (N7 (lg, _) (by k_mem)).1 (by simp [Ne.symm n1, hgL, jlg])) hgL (N7 (lg, _) (by k_mem)).2.2 ?_
        exact News.cons' e' hPL hPg (hown ▸ rest_news')
      have hfp : ∀ b ∈ [it2, dl], b ≠ L' ∧ b ≠ l1 := by
        intro b hb
        simp only [List.mem_cons, List.not_mem_nil, or_false] at hb
        rcases hb with rfl | rfl
        · exact ⟨ne7, fun q => jdP q.symm⟩
        · exact ⟨hdlL, fun q => m3 q.symm⟩
      clear hrow hkey N7 F7
      have hof : RowsOff [L', l1] ws' := by
        refine hr'.off fun b hb o e hc => ?_
        simp only [List.mem_cons, List.not_mem_nil, or_false] at hb
        rcases hb with rfl | rfl
        · exact ns_off F5.ns o e
        · rw [e'] at e; cases e; exact absurd hc (show Value.type "list" ≠ Value.type "tuple" by decide)
      have hkp := F5.keep
      have hle := Nat.le_succ_of_le hl'
      have hle2 := Nat.succ_le_succ hl'
      rcases hvr with e9 | e9 | ⟨bb, tt, e9⟩ <;> cases e9
      · k_steps
        exact turn_fin hkp K (.tail _ (.head _)) (.head _) hfp (by k_asm) stay1 (by k_asm) hown (by kwk_ne) (by k_mem) (fun up => ⟨ws', n', rfl, by rw [ez]; show RowsAre _ ws' (ℓ1 ++ (kept ((puts [] ℓ).take i) ++ [])); rw [List.append_nil]; exact hr'.stay (S := [L', l1]) (fun b o nb e => up b o (fun q => nb (List.mem_cons.mpr (.inl q))) (fun q => nb (List.mem_cons.mpr (.inr (List.mem_singleton.mpr q)))) e) hof, ho', hle⟩)
      · k_steps
        rename_i D8 _ _ _ l8 _ _ N8
        exact turn_fin hkp K (.tail _ (.head _)) (.head _) hfp (by k_asm) stay1 (by k_asm) hown (by kwk_ne) (by k_mem) (fun up => ⟨ws' ++ [_], n' + 1, rfl, by rw [ez, ← List.append_assoc]; exact RowsAre.append (hr'.stay (S := [L', l1]) (fun b o nb e => up b o (fun q => nb (List.mem_cons.mpr (.inl q))) (fun q => nb (List.mem_cons.mpr (.inr (List.mem_singleton.mpr q)))) e) hof) ⟨⟨_, b, t, _, rfl, rfl, News.get (by assumption) (by k_mem)⟩, trivial⟩, ho'.snoc (fun q => by
          rcases List.mem_cons.mp q with q | q
          · exact (N8 _ (.head _)).2.1 q
          · have e9 := List.mem_singleton.mp q
            rw [e9] at l8; exact Nat.lt_irrefl _ l8.1), by rw [List.length_append]; exact hle2⟩)
    case hR =>
      rintro h4 tk u F5 ⟨K, o', e', ws', n', rfl, hr', ho', hl'⟩
      rw [List.take_length] at hr'
      rw [after1] at F5
      have N5 : News g' L' h4 [(ln, listOf #[] 0), (lg, listOf #[.none, .ref l1, .ref ln, .ref l3] n), (l2, listOf vs.toArray q1), (l1, listOf ws'.toArray n')] := by
        refine News.cons' (K _ _ (N7 (ln, _) (by k_mem)).1 (by simp [Ne.symm nlP, hlnL, jln])) hlnL (N7 (ln, _) (by k_mem)).2.2 ?_
        refine News.cons' (K _ _ (N7 (lg, _) (by k_mem)).1 (by simp [Ne.symm n1, hgL, jlg])) hgL (N7 (lg, _) (by k_mem)).2.2 ?_
        refine News.cons' (K _ _ (N7 (l2, _) (by k_mem)).1 (by simp [Ne.symm n2, hlL, jlI])) hlL (N7 (l2, _) (by k_mem)).2.2 ?_
        exact News.cons' e' hPL hPg (fun _ q => nomatch q)
      clear N7 F7 K
      dsimp only
      k_steps
      refine hret _ _ ln _ _ ws' n' (by tb_start) ?_ (News.get N5 (by k_mem)) (News.get N5 (by k_mem)) (News.get N5 (by k_mem)) hr'
      cases e7 : s.heap.get? ln with
      | none => rfl
      | some o =>
        have z7 := (N5 (ln, _) (.head _)).2.2
        rw [hG' ln o e7 (by simp only [List.map_cons, List.map_nil, List.mem_cons, List.not_mem_nil, or_false]; rintro (q | q | q) <;> (rw [q] at la; simp at la))] at z7
        cases z7
end
section
def AllNe (d : Nat) : List (Addr × Obj) → Prop
  | [] => True
  | p :: r => @Ne Addr p.1 d ∧ AllNe d r
theorem allNe_of {d : Addr} : ∀ {l : List (Addr × Obj)}, (∀ p ∈ l, p.1 ≠ d) → AllNe d l
  | [], _ => trivial
  | p :: _, h => ⟨h p (.head _), allNe_of fun q hq => h q (.tail _ hq)⟩
theorem upd_mem {d : Addr} {o o' : Obj} {news : List (Addr × Obj)} {g : Obj → List (Addr × Obj)} (U : UpdF d o news g) : ∀ p ∈ g o', p = (d, o') ∨ (p ∈ news ∧ p.1 ≠ d) := by
  obtain ⟨pre, post, rfl, hg, a, b⟩ := U.split
  intro p hp
  rw [hg] at hp
  rcases List.mem_append.mp hp with q | q
  · exact .inr ⟨List.mem_append_left _ q, a p q⟩
  · rcases List.mem_cons.mp q with rfl | q
    · exact .inl rfl
    · exact .inr ⟨List.mem_append_right _ (.tail _ q), b p q⟩
theorem upd_self {d : Addr} {o : Obj} {news : List (Addr × Obj)} {g : Obj → List (Addr × Obj)} (U : UpdF d o news g) : (d, o) ∈ news := by
  obtain ⟨pre, post, rfl, hg, a, b⟩ := U.split
  exact List.mem_append_right _ (.head _)
theorem upd_two {h₀ h h' : Heap} {L d1 d2 : Addr} {m : Str → Option Value} {o1 o2 o1' o2' : Obj} {news : List (Addr × Obj)} {g1 g2 : Obj → List (Addr × Obj)} (F : Fr h₀ L h m) (N : News h₀ L h news) (U1 : UpdF d1 o1 news g1) (m2 : (d2, o2) ∈ news) (U2 : UpdF d2 o2 (g1 o1') g2) (K : KeepBut [d1, d2] h h') (e1 : h'.get? d1 = some o1') (e2 : h'.get? d2 = some o2') :
    Fr h₀ L h' m ∧ News h₀ L h' (g2 o2') := by
  have a1 := N _ (upd_self U1)
  have a2 := N _ m2
  refine ⟨⟨F.ns.at' fun o e9 => K _ o e9 (fun q => ?_), fun b o e9 => K _ o (F.keep b o e9) (fun q => ?_), F.above⟩, fun p hp => ?_⟩
  · rcases List.mem_cons.mp q with q | q
    · exact a1.2.1 q.symm
    · exact a2.2.1 (List.mem_singleton.mp q).symm
  · rcases List.mem_cons.mp q with q | q
    · rw [q, a1.2.2] at e9; cases e9
    · rw [List.mem_singleton.mp q, a2.2.2] at e9; cases e9
  · rcases upd_mem U2 p hp with rfl | ⟨hp, z2⟩
    · exact ⟨e2, a2.2⟩
    · rcases upd_mem U1 p hp with rfl | ⟨hp, z1⟩
      · exact ⟨e1, a1.2⟩
      · exact ⟨K _ _ (N p hp).1 (fun q => by
          rcases List.mem_cons.mp q with q | q
          · exact z1 q
          · exact z2 (List.mem_singleton.mp q)), (N p hp).2⟩
theorem fresh_facts {h₀ h : Heap} {L c : Addr} {m : Str → Option Value} {news : List (Addr × Obj)} (F : Fr h₀ L h m) (N : News h₀ L h news) (e : h.get? c = none) : c ≠ L ∧ h₀.get? c = none ∧ AllNe c news := by
  refine ⟨fun q => ?_, ?_, allNe_of fun p hp q => ?_⟩
  · obtain ⟨o, es, ep, ho, _⟩ := F.ns
    rw [q, ho] at e; cases e
  · cases z : h₀.get? c with
    | none => rfl
    | some o => rw [F.keep _ _ z] at e; cases e
  · rw [← q, (N p hp).1] at e; cases e

theorem bc_dictN {w : World} {mean : ExcName → Option Value} {mg mb : Str → Option Value} {A : Around} {cn : Str} {cs : Scope} {a : Addr} {ccd : Value} {outer : List Env} {A₀ : Around} {base h₀ : Heap} {L : Addr} {m : Str → Option Value}
    {s : Shared} {x d c dB : Addr} {t1 t2 n : Nat} {oc oB : Obj} {kvs kB : List (List UInt8 × Value)} {Q : Value → Shared → Prop} {E : Value → Shared → Prop} {dd : Bool} {pos : List Value} {kw : List (Str × Value)} {news : List (Addr × Obj)}
    (H : At hd.heap_39 w mean mg mb A cn cs a ccd outer A₀ base h₀ L m s 20) (N : News h₀ L s.heap news) (hargs : ArgsOk x dd pos kw) (m1 : (x, instObj 67 d) ∈ news) (m2 : (d, dictOf (wrE w t1 t2 (.ref dB) c) n) ∈ news) (m3 : (c, oc) ∈ news) (m4 : (dB, oB) ∈ news)
    (n1 : c ≠ x) (n2 : c ≠ d) (n3 : dB ≠ x) (n4 : dB ≠ d) (n5 : dB ≠ c) (n6 : x ≠ d) (hdc : oc.IsDictOf (bytesKind PySem.Challenge.rw_ad6016_01.row.prog w) kvs) (hdB : oB.IsDictOf (bytesKind PySem.Challenge.rw_ad6016_01.row.prog w) kB) (hz : kvs.length + kB.length ≤ sizeLine) (lc : (c == sysModules) = false) (lB : (dB == sysModules) = false)
    (hv : ∀ r ∈ kvs, Vk (some r.2))
    (h : ∀ h' tk c' oc' oB', KeepBut [d, dB] s.heap h' → s.heap.get? c' = none → h'.get? d = some (dictOf (wrE w t1 t2 (.ref dB) c') n) → h'.get? c' = some oc' → h'.get? dB = some oB' → oc'.IsDictOf (bytesKind PySem.Challenge.rw_ad6016_01.row.prog w) [] → oB'.IsDictOf (bytesKind PySem.Challenge.rw_ad6016_01.row.prog w) (applied dd kvs kB) → (c' == sysModules) = false →
      Q .none { s with heap := h', toks := tk }) :
    wpAny (model PySem.Challenge.rw_ad6016_01.row.prog w) A (call (.ref 64) pos kw) Q E s :=
  bc_dict H (fun p hp => by
    simp only [List.mem_cons, List.not_mem_nil, or_false] at hp
    rcases hp with rfl | rfl | rfl | rfl
    · exact N _ m1
    · exact N _ m2
    · exact N _ m3
    · exact N _ m4) n1 n2 n3 n4 n5 n6 hdc hdB hz lc lB hv hargs h
theorem bc_scrN {w : World} {mean : ExcName → Option Value} {mg mb : Str → Option Value} {A : Around} {cn : Str} {cs : Scope} {a : Addr} {ccd : Value} {outer : List Env} {A₀ : Around} {base h₀ : Heap} {L : Addr} {m : Str → Option Value}
    {s : Shared} {x d c x1 d1 c1 : Addr} {t1 t2 n t3 t4 n' : Nat} {oc oc1 : Obj} {kvs kB : List (List UInt8 × Value)} {wv : Value} {Q : Value → Shared → Prop} {E : Value → Shared → Prop} {pos : List Value} {kw : List (Str × Value)} {news : List (Addr × Obj)}
    (H : At hd.heap_39 w mean mg mb A cn cs a ccd outer A₀ base h₀ L m s 20) (N : News h₀ L s.heap news) (hargs : ArgsOk x false pos kw) (m1 : (x, instObj 67 d) ∈ news) (m2 : (d, dictOf (wrE w t1 t2 (.ref x1) c) n) ∈ news) (m3 : (c, oc) ∈ news) (m4 : (x1, instObj 67 d1) ∈ news) (m5 : (d1, dictOf (wrE w t3 t4 wv c1) n') ∈ news) (m6 : (c1, oc1) ∈ news)
    (n1 : c ≠ x) (n2 : c ≠ d) (n3 : c1 ≠ x) (n4 : c1 ≠ d) (n5 : c1 ≠ c) (n6 : x ≠ d) (n7 : c1 ≠ x1) (n8 : c1 ≠ d1) (n9 : x1 ≠ d) (n10 : d1 ≠ d) (hdc : oc.IsDictOf (bytesKind PySem.Challenge.rw_ad6016_01.row.prog w) kvs) (hdB : oc1.IsDictOf (bytesKind PySem.Challenge.rw_ad6016_01.row.prog w) kB) (hz : kvs.length + kB.length ≤ sizeLine) (lc : (c == sysModules) = false)
    (hv : ∀ r ∈ kvs, Vk (some r.2))
    (h : ∀ h' tk c' oc' oB', KeepBut [d, c1] s.heap h' → s.heap.get? c' = none → h'.get? d = some (dictOf (wrE w t1 t2 (.ref x1) c') n) → h'.get? c' = some oc' → h'.get? c1 = some oB' → oc'.IsDictOf (bytesKind PySem.Challenge.rw_ad6016_01.row.prog w) [] → oB'.IsDictOf (bytesKind PySem.Challenge.rw_ad6016_01.row.prog w) (applied false kvs kB) → (c' == sysModules) = false →
      Q .none { s with heap := h', toks := tk }) :
    wpAny (model PySem.Challenge.rw_ad6016_01.row.prog w) A (call (.ref 64) pos kw) Q E s :=
  bc_scr H (fun p hp => by
    simp only [List.mem_cons, List.not_mem_nil, or_false] at hp
    rcases hp with rfl | rfl | rfl | rfl | rfl | rfl
    · exact N _ m1
    · exact N _ m2
    · exact N _ m3
    · exact N _ m4
    · exact N _ m5
    · exact N _ m6) n1 n2 n3 n4 n5 n6 n7 n8 n9 n10 hdc hdB hz lc hv hargs h
theorem lc1N {w : World} {mean : ExcName → Option Value} {mg mb : Str → Option Value} {A : Around} {cn : Str} {cs : Scope} {a : Addr} {ccd : Value} {outer : List Env} {A₀ : Around} {base h₀ : Heap} {L : Addr} {m : Str → Option Value}
    {s : Shared} {lg l1 l2 l3 dP : Addr} {n q1 tl : Nat} {vs : List Value} {ℓ : List LRow} {oP : Obj} {kP : List (List UInt8 × Value)} {dd : Bool} {Q : Value → Shared → Prop} {E : Value → Shared → Prop} {news : List (Addr × Obj)}
    (H : At hd.heap_39 w mean mg mb A cn cs a ccd outer A₀ base h₀ L m s 20) (N : News h₀ L s.heap news) (m1 : (lg, listOf #[.none, .ref l1, .ref l2, .ref l3] n) ∈ news) (m2 : (l1, listOf vs.toArray q1) ∈ news) (m3 : (dP, oP) ∈ news) (n1 : dP ≠ lg) (n2 : dP ≠ l1) (n3 : lg ≠ l1) (hdP : oP.IsDictOf (bytesKind PySem.Challenge.rw_ad6016_01.row.prog w) kP)
    (lP : (dP == sysModules) = false) (hR : RowsAre s.heap vs ℓ) (hz : vs.length + kP.length ≤ sizeLine) (hv : ∀ r ∈ ℓ, Vk (some r.2))
    (h : ∀ h' tk l' n' n'' o', KeepBut [lg, dP] s.heap h' → s.heap.get? l' = none → h'.get? lg = some (listOf #[.none, .ref l', .ref l2, .ref l3] n'') → h'.get? l' = some (listOf #[] n') → h'.get? dP = some o' → o'.IsDictOf (bytesKind PySem.Challenge.rw_ad6016_01.row.prog w) (applied dd (puts [] ℓ) kP) →
      Q .none { s with heap := h', toks := tk }) :
    wpAny (model PySem.Challenge.rw_ad6016_01.row.prog w) A (call (.ref 98) [.ref lg, .ref dP, .int 1 tl, .bool dd]) Q E s :=
  lc1 H (fun p hp => by
    simp only [List.mem_cons, List.not_mem_nil, or_false] at hp
    rcases hp with rfl | rfl | rfl
    · exact N _ m1
    · exact N _ m2
    · exact N _ m3) n1 n2 n3 hdP lP hR hz hv h
theorem lc3N {w : World} {mean : ExcName → Option Value} {mg mb : Str → Option Value} {A : Around} {cn : Str} {cs : Scope} {a : Addr} {ccd : Value} {outer : List Env} {A₀ : Around} {base h₀ : Heap} {L : Addr} {m : Str → Option Value}
    {s : Shared} {lg l1 l2 l3 dP : Addr} {n q1 tl : Nat} {vs : List Value} {ℓ : List LRow} {oP : Obj} {kP : List (List UInt8 × Value)} {dd : Bool} {Q : Value → Shared → Prop} {E : Value → Shared → Prop} {news : List (Addr × Obj)}
    (H : At hd.heap_39 w mean mg mb A cn cs a ccd outer A₀ base h₀ L m s 20) (N : News h₀ L s.heap news) (m1 : (lg, listOf #[.none, .ref l1, .ref l2, .ref l3] n) ∈ news) (m2 : (l3, listOf vs.toArray q1) ∈ news) (m3 : (dP, oP) ∈ news) (n1 : dP ≠ lg) (n2 : dP ≠ l3) (n3 : lg ≠ l3) (hdP : oP.IsDictOf (bytesKind PySem.Challenge.rw_ad6016_01.row.prog w) kP)
    (lP : (dP == sysModules) = false) (hR : RowsAre s.heap vs ℓ) (hz : vs.length + kP.length ≤ sizeLine) (hv : ∀ r ∈ ℓ, Vk (some r.2))
    (h : ∀ h' tk l' n' n'' o', KeepBut [lg, dP] s.heap h' → s.heap.get? l' = none → h'.get? lg = some (listOf #[.none, .ref l1, .ref l2, .ref l'] n'') → h'.get? l' = some (listOf #[] n') → h'.get? dP = some o' → o'.IsDictOf (bytesKind PySem.Challenge.rw_ad6016_01.row.prog w) (applied dd (puts [] ℓ) kP) →
      Q .none { s with heap := h', toks := tk }) :
    wpAny (model PySem.Challenge.rw_ad6016_01.row.prog w) A (call (.ref 98) [.ref lg, .ref dP, .int 3 tl, .bool dd]) Q E s :=
  lc3 H (fun p hp => by
    simp only [List.mem_cons, List.not_mem_nil, or_false] at hp
    rcases hp with rfl | rfl | rfl
    · exact N _ m1
    · exact N _ m2
    · exact N _ m3) n1 n2 n3 hdP lP hR hz hv h
theorem lc2N {w : World} {mean : ExcName → Option Value} {mg mb : Str → Option Value} {A : Around} {cn : Str} {cs : Scope} {a : Addr} {ccd : Value} {outer : List Env} {A₀ : Around} {base h₀ : Heap} {L : Addr} {m : Str → Option Value}
    {s : Shared} {lg l1 l2 l3 dP : Addr} {n q1 q2 tl : Nat} {vs ws : List Value} {ℓ ℓ1 : List LRow} {Q : Value → Shared → Prop} {E : Value → Shared → Prop} {news : List (Addr × Obj)}
    (H : At hd.heap_39 w mean mg mb A cn cs a ccd outer A₀ base h₀ L m s 20) (N : News h₀ L s.heap news) (m1 : (lg, listOf #[.none, .ref l1, .ref l2, .ref l3] n) ∈ news) (m2 : (l2, listOf vs.toArray q1) ∈ news) (m3 : (l1, listOf ws.toArray q2) ∈ news) (n1 : l1 ≠ lg) (n2 : l1 ≠ l2) (n3 : lg ≠ l2)
    (hR : RowsAre s.heap vs ℓ) (hR1 : RowsAre s.heap ws ℓ1) (hz : vs.length + ws.length ≤ sizeLine) (hv : ∀ r ∈ ℓ, Vk (some r.2))
    (h : ∀ h' tk l' n' n'' ws' q', KeepBut [lg, l1] s.heap h' → s.heap.get? l' = none → h'.get? lg = some (listOf #[.none, .ref l1, .ref l', .ref l3] n'') → h'.get? l' = some (listOf #[] n') → h'.get? l1 = some (listOf ws'.toArray q') → RowsAre h' ws' (ℓ1 ++ kept (puts [] ℓ)) →
      Q .none { s with heap := h', toks := tk }) :
    wpAny (model PySem.Challenge.rw_ad6016_01.row.prog w) A (call (.ref 98) [.ref lg, .ref dP, .int 2 tl, .bool false]) Q E s :=
  lc2 H (fun p hp => by
    simp only [List.mem_cons, List.not_mem_nil, or_false] at hp
    rcases hp with rfl | rfl | rfl
    · exact N _ m1
    · exact N _ m2
    · exact N _ m3) n1 n2 n3 hR hR1 hz hv h
theorem AllNe.at {c : Addr} {news : List (Addr × Obj)} : AllNe c news → ∀ p ∈ news, p.1 ≠ c := by
  induction news with
  | nil => intro _ p hp; cases hp
  | cons r news ih =>
    intro h p hp
    rcases List.mem_cons.mp hp with q | q
    · rw [q]; exact h.1
    · exact ih h.2 p q
theorem fresh_of {h g : Heap} {c : Addr} {news : List (Addr × Obj)} (hG : KeepBut (news.map (·.1)) h g) (e : g.get? c = none) (ne : AllNe c news) : h.get? c = none := by
  cases z : h.get? c with
  | none => rfl
  | some o =>
    have z2 := hG c o z (fun q => by
      obtain ⟨p, hp, e9⟩ := List.mem_map.mp q
      exact ne.at p hp e9)
    rw [e] at z2
    cases z2
theorem hold_wp {M : Model} {α : Type} {A : Around} {t : Sem α} {Q : α → Shared → Prop} {E : Value → Shared → Prop} {s : Shared} (h : Hold (wpAny M A t Q E s)) : wpAny M A t Q E s := h
theorem newDictB {prog : Program} {w : World} {A : Around} {E : Value → Shared → Prop} {s : Shared} {K : Type} [DecidableEq K] (knd : KeyKind prog w K) {h₀ : Heap} {L : Addr} {m : Str → Option Value} {news : List (Addr × Obj)} {env : Env} {pos : Pos} {Q : Value → Shared → Prop} (F : Fr h₀ L s.heap m) (N : News h₀ L s.heap news) (hbig : h₀.NoLimit)
    (k : ∀ d h' o, Fr h₀ L h' m → News h₀ L h' ((d, o) :: news) → (∀ p ∈ news, p.1 < d) → (d == sysModules) = false → o.IsDictOf knd [] → KeepBut [] s.heap h' → Q (.ref d) { s with heap := h' }) : wpAny (model prog w) A (eval (.Dict [] [] pos) env) Q E s := by
  refine wpAny_Dict_empty (k _ _ _ (F.push _) (News.push F N _) (fun p hp => Heap.lt_size (N p hp).1) (F.notModules (modules_low hbig)) ?_ (fun _ _ e _ => Heap.get?_push_of_some _ e))
  obtain ⟨o, ho, hd⟩ := Heap.dictOf_iff.mp (Heap.DictOf.new (knd := knd) s.heap)
  rw [Heap.get?_push_size _ rfl] at ho
  exact (Option.some.inj ho) ▸ hd
end
section
local macro_rules | `(tactic| walk_at "no such step") => `(tactic| skip)
local macro_rules | `(tactic| k_ne) => `(tactic| first | assumption | exact ne_s (by assumption))
local macro_rules | `(tactic| ktr_enter) => `(tactic| (refine' enter ?k1 ?k2 ?k3 ?k4 ?k5 ?kD ?kA ?kK ?k6 ?k7 ?k8 ?k9 ?kB ?_ ?c2 ?c3 ?c4 ?c5; (case kA => exact rfl); (case kK => first | assumption | exact rfl); (case k1 => k_asm); (case k2 => k_asm); (case k3 => k_asm); (case k4 => k_asm); (case k5 => k_asm); (case kD => k_asm); (case k6 => k_is); (case k7 => k_is); (case k8 => ktr_room); (case k9 => first | exact BindsTo.of_eq rfl | exact binds_K (by k_in) rfl (by k_is) rfl rfl rfl); (case c5 => decide); (case kB => exact locs rfl); (case c2 => exact rfl); (case c3 => exact rfl); (case c4 => exact rfl); k_whole; intro g' L' h' hG' F' N' B' X' T' D'; (try dsimp only); (try k_fold)))
local macro_rules | `(tactic| tb_rel) => `(tactic| first | exact List.forall_mem_nil _ | (refine List.forall_mem_cons.mpr ⟨by first | exact Or.inr (by k_mem) | exact Or.inl (by k_mem), ?_⟩; tb_rel))
local macro_rules | `(tactic| walk_at "setItem ref bytes") => `(tactic| (k_here; k_dflt (refine' kda_set (knd := bytesKind _ _) ?F ?N ?U ?d (bk_is _ _ _) ?z ?_; (case F => k_asm); (case N => k_asm); (case U => k_updF); (case d => k_asm); (case z => assumption)); intro h' o' F' N' hd'; (try dsimp only at N')))
local macro_rules | `(tactic| walk_at "compareOp In bytes ref") => `(tactic| (k_here; k_dflt (refine kda_in (knd := bytesKind _ _) (by k_asm) (by k_mem) (by k_asm) (by k_asm) (bk_is _ _ _) _ (by first | exact some_is (by assumption) | exact none_is (by assumption)) ?_)))
local macro_rules | `(tactic| walk_at "subscriptTail") => `(tactic| (k_here; (with_reducible show wpAny _ _ (subscriptTail _ _ (Value.ref _) (Value.bytes _ _)) _ _ _); k_dflt (refine kda_item (knd := bytesKind _ _) (by k_asm) (by k_mem) (by k_asm) (bk_is _ _ _) (by assumption) ?_)))
local macro_rules | `(tactic| tb_start) => `(tactic| exact keep_of (by assumption) (by assumption) (by assumption) (by assumption) (by tb_rel))
local macro_rules | `(tactic| ktf_step) => `(tactic| (intro h' tk' hk'; have F' := fr_keep (by assumption) hk'; have N' := news_keep (by assumption) hk'))
local macro_rules | `(tactic| ktn_step) => `(tactic| (refine' At.mk ?B ?F ?X ?T ?XB ?TB ?D ?hh ?hA ?hck ?hd ?hu; (case B => k_asm); (case F => k_asm); (case X => k_asm); (case T => k_asm); (case XB => k_asm); (case TB => k_asm); (case D => k_asm); (case hh => exact rfl); (case hA => exact rfl); (case hck => first | assumption | exact rfl); (case hd => ktr_room); (case hu => ktr_units)))
local macro_rules | `(tactic| k_room) => `(tactic| ktr_room)
local macro_rules | `(tactic| k_units) => `(tactic| ktr_units)
local macro_rules | `(tactic| kwd_same0) => `(tactic| first | exact List.forall_mem_nil _ | (refine List.forall_mem_cons.mpr ⟨by first | exact dict_cls (by assumption) | (show Value.type "list" ≠ Value.type "tuple"; decide) | (show Value.ref _ ≠ Value.type "tuple"; exact fun x => nomatch x) | (show Value.type "dict" ≠ Value.type "tuple"; decide), ?_⟩; kwd_same0))
local macro_rules | `(tactic| walk_at "compareOp NotEq ref ref") => `(tactic| (k_here; k_dflt (first | (refine' ne_nil_snoc ?N ?a ?b ?u ?_; (case N => k_asm); (case a => k_mem); (case b => k_mem); (case u => ktr_units)) | (refine' ne_nil_nil ?N ?a ?b ?u ?_; (case N => k_asm); (case a => k_mem); (case b => k_mem); (case u => ktr_units)))))
local macro_rules | `(tactic| walk_at "subscriptTail") => `(tactic| (k_here; (with_reducible show wpAny _ _ (subscriptTail _ _ (Value.ref _) (Value.int _ _)) _ _ _); k_dflt (refine' item_tupleT (Fr.tup ?F ?T) ?lo ?hi ?j ?x ?_; (case T => with_reducible assumption); (case F => k_asm); (case lo => decide); (case hi => decide); (case j => rfl); (case x => rfl))))
local macro_rules | `(tactic| walk_at "subscriptTail") => `(tactic| (k_here; (with_reducible show wpAny _ _ (subscriptTail _ _ (Value.ref _) (Value.int (-1) _)) _ _ _); k_dflt (refine' last_item ?N ?a ?z ?_; (case N => k_asm); (case a => k_mem); (case z => assumption))))
local macro_rules | `(tactic| walk_at "call builtin:dict.get") => `(tactic| (k_here; k_dflt (refine kdg_get1 (knd := bytesKind _ _) (by k_asm) (by k_mem) (by k_asm) (by k_asm) (bk_is _ _ _) _ (by assumption) ?_; (try dsimp only [Option.getD]))))
local macro_rules | `(tactic| walk_at "getMethod ref") => `(tactic| (k_here; (with_reducible show wpAny _ _ (getMethod (Value.ref _) (Str.ofString "get") _) _ _ _); k_dflt (refine kdg_method (knd := bytesKind _ _) (by k_asm) (by k_mem) (by k_asm) ?_)))
local macro_rules | `(tactic| walk_at "getMethod ref") => `(tactic| (k_here; (with_reducible show wpAny _ _ (getMethod (Value.ref _) (Str.ofString "items") _) _ _ _); k_dflt (refine kdi_method (knd := bytesKind _ _) (by k_asm) (by k_mem) (by k_asm) ?_)))
local macro_rules | `(tactic| walk_at "getMethod ref") => `(tactic| (k_here; (with_reducible show wpAny _ _ (getMethod (Value.ref _) (Str.ofString "pop") _) _ _ _); k_dflt (refine kdp_method (knd := bytesKind _ _) (by k_asm) (by k_mem) (by k_asm) ?_)))
local macro_rules | `(tactic| walk_at "call builtin:dict.items") => `(tactic| (k_here; k_dflt (refine kdi_call (knd := bytesKind _ _) (by k_asm) (by k_asm) (by k_mem) (by k_asm) (by k_asm) ?_); intro v' h' F' N'))
local macro_rules | `(tactic| walk_at "pyIter ref") => `(tactic| (k_here; k_dflt (refine kdi_iter (knd := bytesKind _ _) (by k_asm) (by k_asm) (by k_mem) (by k_mem) (by k_asm) ?_); intro it' ep' h' lt' no' ne' F' N' hi' da'))
local macro_rules | `(tactic| walk_at "call builtin:dict.pop") => `(tactic| (k_here; k_dflt (refine kdp_any (knd := bytesKind _ _) (by k_asm) (by k_asm) (by k_updF) (by k_asm) (bk_is _ _ _) (by assumption) (by k_asm) (by rfl) ?_); intro v' h' o' F' N' hd'; (try dsimp only at N')))
local macro_rules | `(tactic| walk_at "setAttr ref") => `(tactic| (k_here; k_dflt (refine' set_dict ?k1 ?k2 ?k3 ?k4 ?k5 ?k6 ?k7 ?k8 ?k9 ?k10 put_cache ?k12 ?k13 ?_; (case k1 => k_asm); (case k2 => k_asm); (case k3 => k_asm); (case k4 => k_inst); (case k5 => exact rfl); (case k6 => k_is); (case k7 => k_is); (case k8 => k_is); (case k9 => k_is); (case k10 => k_get); (case k12 => k_upd); (case k13 => exact Nat.le_of_ble_eq_true rfl); k_whole; intro h' F' N'; (try k_sweep))))
local macro_rules | `(tactic| walk_at "pyIter ref") => `(tactic| (k_here; k_dflt (refine keys_iter (knd := bytesKind _ _) (by k_asm) (by k_asm) (by k_mem) (by k_asm) (by k_asm) ?_); intro it' ep' h' lt' no' ne' F' N' hi' da'))
local macro_rules | `(tactic| walk_at "pyIter ref") => `(tactic| (k_here; k_dflt (refine rows_iter rfl (by k_asm) (by k_asm) (by k_mem) (by assumption) ?_); intro it' h' fp' Pt' St' Mid' lt' no' ne' F' N' W' pt' st' fp9'))
local macro_rules | `(tactic| walk_at "call builtin:list.append") => `(tactic| (k_here; k_dflt (refine append_rows (by k_asm) (by k_asm) (by k_updF) (by assumption) ?_); intro h' F' N'; (try dsimp only at N')))
local macro_rules | `(tactic| kwk_ne) => `(tactic| (intro p9 hp9; repeat (first | exact hp9 | apply List.mem_cons_of_mem)))
local macro_rules | `(tactic| walk_at "newTuple") => `(tactic| (k_here; k_dflt (refine' kup_newTuple ?F ?N ?_ ?z; (case F => k_asm); (case N => k_asm); (case z => exact Nat.le_of_ble_eq_true rfl)); intro D' h' F' N' l1; (try k_lt l1); (try k_sweep)))
local macro_rules | `(tactic| walk_at "call ref") => `(tactic| (k_here; (with_reducible show wpAny _ _ (call (.ref 64) _ _) _ _ _); k_dflt (refine bc_dictN (by ktn_step) (by k_asm) (by first | exact ⟨rfl, .inl rfl⟩ | exact ⟨rfl, .inr ⟨rfl, rfl⟩⟩) (by k_mem) (by k_mem) (by k_mem) (by k_mem) (by k_ne) (by k_ne) (by k_ne) (by k_ne) (by k_ne) (by k_ne) (by k_asm) (by k_asm) (by assumption) (by k_asm) (by k_asm) (by assumption) ?_); intro h' tk' c' oc' oB' hk' fr' e1' e2' e3' hc' hB' lo'; k_dflt (have ff' := fresh_facts (by k_asm) (by k_asm) fr'); obtain ⟨nL', n0', ne9⟩ := ff'; k_dflt (have FN' := upd_two (by k_asm) (by k_asm) (by k_updF) (by k_mem) (by k_updF) hk' e1' e3'); obtain ⟨F', N'⟩ := FN'; k_dflt (replace N' := News.cons' e2' nL' n0' N'); (simp only [AllNe] at ne9); (repeat obtain ⟨_, ne9⟩ := ne9); (try dsimp only at N')))
local macro_rules | `(tactic| walk_at "call ref") => `(tactic| (k_here; (with_reducible show wpAny _ _ (call (.ref 98) _ _) _ _ _); k_dflt (refine lc1N (by ktn_step) (by k_asm) (by k_mem) (by k_mem) (by k_mem) (by k_ne) (by k_ne) (by k_ne) (by k_asm) (by k_asm) (RowsAre.mono (fun a o _ e => Fr.keep (by k_asm) a o e) (by assumption)) (by assumption) (by assumption) ?_); intro h' tk' l' n' n'' o' hk' fr' e1' e2' e3' hc'; k_dflt (have ff' := fresh_facts (by k_asm) (by k_asm) fr'); obtain ⟨nL', n0', ne9⟩ := ff'; k_dflt (have FN' := upd_two (by k_asm) (by k_asm) (by k_updF) (by k_mem) (by k_updF) hk' e1' e3'); obtain ⟨F', N'⟩ := FN'; k_dflt (replace N' := News.cons' e2' nL' n0' N'); (simp only [AllNe] at ne9); (repeat obtain ⟨_, ne9⟩ := ne9); (try dsimp only at N')))
local macro_rules | `(tactic| walk_at "compareOp Eq ref ref") => `(tactic| (k_here; k_dflt (refine keq_pairs (knd := bytesKind _ _) (by k_asm) (by k_mem) (by k_mem) (by first | k_asm | exact empty_any (by assumption)) (by first | k_asm | exact empty_any (by assumption)) (by k_asm) (by k_asm) (by rfl) (by k_units) KeqHits.nil ?_)))

theorem cm1 {w : World} {mean : ExcName → Option Value} {mg mb : Str → Option Value} {A : Around} {cn : Str} {cs : Scope} {a : Addr} {ccd : Value} {outer : List Env} {A₀ : Around} {base h₀ : Heap} {L : Addr} {m : Str → Option Value}
    {s : Shared} {x d c dB lg l1 l2 l3 dP : Addr} {t1 t2 n n3 q tl : Nat} {oc oB oP : Obj} {kB kP : List (List UInt8 × Value)} {vs : List Value} {ℓ : List LRow} {dd : Bool} {Q : Value → Shared → Prop} {E : Value → Shared → Prop} :
    At hd.heap_39 w mean mg mb A cn cs a ccd outer A₀ base h₀ L m s 30 →
    News h₀ L s.heap [(x, instObj 67 d), (d, dictOf (wrE w t1 t2 (.ref dB) c) n), (c, oc), (dB, oB), (lg, listOf #[.none, .ref l1, .ref l2, .ref l3] n3), (l1, listOf vs.toArray q), (dP, oP)] → [x, d, c, dB, lg, l1, dP].Nodup →
    oc.IsDictOf (bytesKind PySem.Challenge.rw_ad6016_01.row.prog w) (puts [] ℓ) → oB.IsDictOf (bytesKind PySem.Challenge.rw_ad6016_01.row.prog w) kB → oP.IsDictOf (bytesKind PySem.Challenge.rw_ad6016_01.row.prog w) kP → (c == sysModules) = false → (dB == sysModules) = false → (dP == sysModules) = false →
    RowsAre s.heap vs ℓ → (∀ r ∈ ℓ, Vk (some r.2)) → ℓ.length + kB.length ≤ sizeLine → ℓ.length + kP.length ≤ sizeLine →
    (∀ h' tk c' oc' oB' l' n' n'' oP', KeepBut [d, dB, lg, dP] s.heap h' → s.heap.get? c' = none → s.heap.get? l' = none → l' ≠ c' → h'.get? d = some (dictOf (wrE w t1 t2 (.ref dB) c') n) → h'.get? c' = some oc' → oc'.IsDictOf (bytesKind PySem.Challenge.rw_ad6016_01.row.prog w) [] → (c' == sysModules) = false → h'.get? dB = some oB' → oB'.IsDictOf (bytesKind PySem.Challenge.rw_ad6016_01.row.prog w) (applied dd (puts [] ℓ) kB) →
      h'.get? lg = some (listOf #[.none, .ref l', .ref l2, .ref l3] n'') → h'.get? l' = some (listOf #[] n') → h'.get? dP = some oP' → oP'.IsDictOf (bytesKind PySem.Challenge.rw_ad6016_01.row.prog w) (applied dd (puts [] ℓ) kP) → Q (.bool true) { s with heap := h', toks := tk }) →
    wpAny (model PySem.Challenge.rw_ad6016_01.row.prog w) A (call (.ref 119) [.ref x, .ref lg, .ref dP, .int 1 tl, .bool dd]) Q E s := by
  k_fill
  intro H N nd hdc hdB hdP lc lB lP hR hv hz hzP hret
  obtain ⟨B, F, X, T, XB, TB, D, hh, hA, hck, hdp, hun⟩ := H
  obtain ⟨hdl, dp, fr, gd, un⟩ := A
  dsimp only at hh hA hdp hun
  subst hh hA
  simp only [List.nodup_cons, List.mem_cons, List.not_mem_nil, or_false, not_or, not_false_eq_true, List.nodup_nil, and_true] at nd
  obtain ⟨⟨z0, z1, z2, z3, z4, z5⟩, ⟨z6, z7, z8, z9, z10⟩, ⟨z11, z12, z13, z14⟩, ⟨z15, z16, z17⟩, ⟨z18, z19⟩, z20⟩ := nd
  have off := off_of N (by kwd_same0)
  have hlen := hR.length
  have hz1 : (puts [] ℓ).length + kB.length ≤ sizeLine := by have := puts_len ℓ []; rw [List.length_nil] at this; omega
  have hz2 : vs.length + kP.length ≤ sizeLine := by omega
  have hvk := puts_vk (acc := []) hv (fun _ q => nomatch q)
  cases dd
  all_goals
    refine wpAny_call ?_
    k_dflt ktr_enter
    rename KeepBut _ _ _ => hG
    replace hR := RowsAre.keep hR hG off
    k_steps
    rename_i c7 oc7 oB7 hk7 fr7 e17 e27 e37 hc7 hB7 lo7 nL7 n07 y1 y2 y3 y4 y5 y6 y7 _ _ _ l7 n7 n7' oP7 hk8 fr8 e18 e28 e38 hP8 nL8 n08 y8 y9 y10 y11 y12 y13 y14 y15 d9 _ o9 F9 N9 lo9 hs9 _ _ _ _
    exact hret _ _ c7 oc7 oB7 l7 n7 n7' oP7 (by tb_start) (fresh_of hG n07 ⟨y1, y2, y3, y4, y5, y6, y7, trivial⟩) (fresh_of hG n08 ⟨y9, y10, y11, y12, y13, y14, y15, trivial⟩) (Ne.symm y8) (News.get N9 (by k_mem)) (News.get N9 (by k_mem)) hc7 lo7 (News.get N9 (by k_mem)) hB7 (News.get N9 (by k_mem)) (News.get N9 (by k_mem)) (News.get N9 (by k_mem)) hP8
end
section
local macro_rules | `(tactic| walk_at "no such step") => `(tactic| skip)
local macro_rules | `(tactic| walk_at "no such step") => `(tactic| skip)
local macro_rules | `(tactic| k_ne) => `(tactic| first | assumption | exact ne_s (by assumption))
local macro_rules | `(tactic| ktr_enter) => `(tactic| (refine' enter ?k1 ?k2 ?k3 ?k4 ?k5 ?kD ?kA ?kK ?k6 ?k7 ?k8 ?k9 ?kB ?_ ?c2 ?c3 ?c4 ?c5; (case kA => exact rfl); (case kK => first | assumption | exact rfl); (case k1 => k_asm); (case k2 => k_asm); (case k3 => k_asm); (case k4 => k_asm); (case k5 => k_asm); (case kD => k_asm); (case k6 => k_is); (case k7 => k_is); (case k8 => ktr_room); (case k9 => first | exact BindsTo.of_eq rfl | exact binds_K (by k_in) rfl (by k_is) rfl rfl rfl); (case c5 => decide); (case kB => exact locs rfl); (case c2 => exact rfl); (case c3 => exact rfl); (case c4 => exact rfl); k_whole; intro g' L' h' hG' F' N' B' X' T' D'; (try dsimp only); (try k_fold)))
local macro_rules | `(tactic| tb_rel) => `(tactic| first | exact List.forall_mem_nil _ | (refine List.forall_mem_cons.mpr ⟨by first | exact Or.inr (by k_mem) | exact Or.inl (by k_mem), ?_⟩; tb_rel))
local macro_rules | `(tactic| walk_at "setItem ref bytes") => `(tactic| (k_here; k_dflt (refine' kda_set (knd := bytesKind _ _) ?F ?N ?U ?d (bk_is _ _ _) ?z ?_; (case F => k_asm); (case N => k_asm); (case U => k_updF); (case d => k_asm); (case z => assumption)); intro h' o' F' N' hd'; (try dsimp only at N')))
local macro_rules | `(tactic| walk_at "compareOp In bytes ref") => `(tactic| (k_here; k_dflt (refine kda_in (knd := bytesKind _ _) (by k_asm) (by k_mem) (by k_asm) (by k_asm) (bk_is _ _ _) _ (by first | exact some_is (by assumption) | exact none_is (by assumption)) ?_)))
local macro_rules | `(tactic| walk_at "subscriptTail") => `(tactic| (k_here; (with_reducible show wpAny _ _ (subscriptTail _ _ (Value.ref _) (Value.bytes _ _)) _ _ _); k_dflt (refine kda_item (knd := bytesKind _ _) (by k_asm) (by k_mem) (by k_asm) (bk_is _ _ _) (by assumption) ?_)))
local macro_rules | `(tactic| tb_start) => `(tactic| exact keep_of (by assumption) (by assumption) (by assumption) (by assumption) (by tb_rel))
local macro_rules | `(tactic| ktf_step) => `(tactic| (intro h' tk' hk'; have F' := fr_keep (by assumption) hk'; have N' := news_keep (by assumption) hk'))
local macro_rules | `(tactic| ktn_step) => `(tactic| (refine' At.mk ?B ?F ?X ?T ?XB ?TB ?D ?hh ?hA ?hck ?hd ?hu; (case B => k_asm); (case F => k_asm); (case X => k_asm); (case T => k_asm); (case XB => k_asm); (case TB => k_asm); (case D => k_asm); (case hh => exact rfl); (case hA => exact rfl); (case hck => first | assumption | exact rfl); (case hd => ktr_room); (case hu => ktr_units)))
local macro_rules | `(tactic| k_room) => `(tactic| ktr_room)
local macro_rules | `(tactic| k_units) => `(tactic| ktr_units)
local macro_rules | `(tactic| kwd_same0) => `(tactic| first | exact List.forall_mem_nil _ | (refine List.forall_mem_cons.mpr ⟨by first | exact dict_cls (by assumption) | (show Value.type "list" ≠ Value.type "tuple"; decide) | (show Value.ref _ ≠ Value.type "tuple"; exact fun x => nomatch x) | (show Value.type "dict" ≠ Value.type "tuple"; decide), ?_⟩; kwd_same0))
local macro_rules | `(tactic| walk_at "compareOp NotEq ref ref") => `(tactic| (k_here; k_dflt (first | (refine' ne_nil_snoc ?N ?a ?b ?u ?_; (case N => k_asm); (case a => k_mem); (case b => k_mem); (case u => ktr_units)) | (refine' ne_nil_nil ?N ?a ?b ?u ?_; (case N => k_asm); (case a => k_mem); (case b => k_mem); (case u => ktr_units)))))
local macro_rules | `(tactic| walk_at "subscriptTail") => `(tactic| (k_here; (with_reducible show wpAny _ _ (subscriptTail _ _ (Value.ref _) (Value.int _ _)) _ _ _); k_dflt (refine' item_tupleT (Fr.tup ?F ?T) ?lo ?hi ?j ?x ?_; (case T => with_reducible assumption); (case F => k_asm); (case lo => decide); (case hi => decide); (case j => rfl); (case x => rfl))))
local macro_rules | `(tactic| walk_at "subscriptTail") => `(tactic| (k_here; (with_reducible show wpAny _ _ (subscriptTail _ _ (Value.ref _) (Value.int (-1) _)) _ _ _); k_dflt (refine' last_item ?N ?a ?z ?_; (case N => k_asm); (case a => k_mem); (case z => assumption))))
local macro_rules | `(tactic| walk_at "call builtin:dict.get") => `(tactic| (k_here; k_dflt (refine kdg_get1 (knd := bytesKind _ _) (by k_asm) (by k_mem) (by k_asm) (by k_asm) (bk_is _ _ _) _ (by assumption) ?_; (try dsimp only [Option.getD]))))
local macro_rules | `(tactic| walk_at "getMethod ref") => `(tactic| (k_here; (with_reducible show wpAny _ _ (getMethod (Value.ref _) (Str.ofString "get") _) _ _ _); k_dflt (refine kdg_method (knd := bytesKind _ _) (by k_asm) (by k_mem) (by k_asm) ?_)))
local macro_rules | `(tactic| walk_at "getMethod ref") => `(tactic| (k_here; (with_reducible show wpAny _ _ (getMethod (Value.ref _) (Str.ofString "items") _) _ _ _); k_dflt (refine kdi_method (knd := bytesKind _ _) (by k_asm) (by k_mem) (by k_asm) ?_)))
local macro_rules | `(tactic| walk_at "getMethod ref") => `(tactic| (k_here; (with_reducible show wpAny _ _ (getMethod (Value.ref _) (Str.ofString "pop") _) _ _ _); k_dflt (refine kdp_method (knd := bytesKind _ _) (by k_asm) (by k_mem) (by k_asm) ?_)))
local macro_rules | `(tactic| walk_at "call builtin:dict.items") => `(tactic| (k_here; k_dflt (refine kdi_call (knd := bytesKind _ _) (by k_asm) (by k_asm) (by k_mem) (by k_asm) (by k_asm) ?_); intro v' h' F' N'))
local macro_rules | `(tactic| walk_at "pyIter ref") => `(tactic| (k_here; k_dflt (refine kdi_iter (knd := bytesKind _ _) (by k_asm) (by k_asm) (by k_mem) (by k_mem) (by k_asm) ?_); intro it' ep' h' lt' no' ne' F' N' hi' da'))
local macro_rules | `(tactic| walk_at "call builtin:dict.pop") => `(tactic| (k_here; k_dflt (refine kdp_any (knd := bytesKind _ _) (by k_asm) (by k_asm) (by k_updF) (by k_asm) (bk_is _ _ _) (by assumption) (by k_asm) (by rfl) ?_); intro v' h' o' F' N' hd'; (try dsimp only at N')))
local macro_rules | `(tactic| walk_at "setAttr ref") => `(tactic| (k_here; k_dflt (refine' set_dict ?k1 ?k2 ?k3 ?k4 ?k5 ?k6 ?k7 ?k8 ?k9 ?k10 put_cache ?k12 ?k13 ?_; (case k1 => k_asm); (case k2 => k_asm); (case k3 => k_asm); (case k4 => k_inst); (case k5 => exact rfl); (case k6 => k_is); (case k7 => k_is); (case k8 => k_is); (case k9 => k_is); (case k10 => k_get); (case k12 => k_upd); (case k13 => exact Nat.le_of_ble_eq_true rfl); k_whole; intro h' F' N'; (try k_sweep))))
local macro_rules | `(tactic| walk_at "pyIter ref") => `(tactic| (k_here; k_dflt (refine keys_iter (knd := bytesKind _ _) (by k_asm) (by k_asm) (by k_mem) (by k_asm) (by k_asm) ?_); intro it' ep' h' lt' no' ne' F' N' hi' da'))
local macro_rules | `(tactic| walk_at "pyIter ref") => `(tactic| (k_here; k_dflt (refine rows_iter rfl (by k_asm) (by k_asm) (by k_mem) (by assumption) ?_); intro it' h' fp' Pt' St' Mid' lt' no' ne' F' N' W' pt' st' fp9'))
local macro_rules | `(tactic| walk_at "call builtin:list.append") => `(tactic| (k_here; k_dflt (refine append_rows (by k_asm) (by k_asm) (by k_updF) (by assumption) ?_); intro h' F' N'; (try dsimp only at N')))
local macro_rules | `(tactic| kwk_ne) => `(tactic| (intro p9 hp9; repeat (first | exact hp9 | apply List.mem_cons_of_mem)))
local macro_rules | `(tactic| walk_at "newTuple") => `(tactic| (k_here; k_dflt (refine' kup_newTuple ?F ?N ?_ ?z; (case F => k_asm); (case N => k_asm); (case z => exact Nat.le_of_ble_eq_true rfl)); intro D' h' F' N' l1; (try k_lt l1); (try k_sweep)))
local macro_rules | `(tactic| walk_at "call ref") => `(tactic| (k_here; (with_reducible show wpAny _ _ (call (.ref 64) _ _) _ _ _); k_dflt (refine bc_dictN (by ktn_step) (by k_asm) (by first | exact ⟨rfl, .inl rfl⟩ | exact ⟨rfl, .inr ⟨rfl, rfl⟩⟩) (by k_mem) (by k_mem) (by k_mem) (by k_mem) (by k_ne) (by k_ne) (by k_ne) (by k_ne) (by k_ne) (by k_ne) (by k_asm) (by k_asm) (by assumption) (by k_asm) (by k_asm) (by assumption) ?_); intro h' tk' c' oc' oB' hk' fr' e1' e2' e3' hc' hB' lo'; k_dflt (have ff' := fresh_facts (by k_asm) (by k_asm) fr'); obtain ⟨nL', n0', ne9⟩ := ff'; k_dflt (have FN' := upd_two (by k_asm) (by k_asm) (by k_updF) (by k_mem) (by k_updF) hk' e1' e3'); obtain ⟨F', N'⟩ := FN'; k_dflt (replace N' := News.cons' e2' nL' n0' N'); (simp only [AllNe] at ne9); (repeat obtain ⟨_, ne9⟩ := ne9); (try dsimp only at N')))
local macro_rules | `(tactic| walk_at "call ref") => `(tactic| (k_here; (with_reducible show wpAny _ _ (call (.ref 98) _ _) _ _ _); k_dflt (refine lc3N (by ktn_step) (by k_asm) (by k_mem) (by k_mem) (by k_mem) (by k_ne) (by k_ne) (by k_ne) (by k_asm) (by k_asm) (RowsAre.mono (fun a o _ e => Fr.keep (by k_asm) a o e) (by assumption)) (by assumption) (by assumption) ?_); intro h' tk' l' n' n'' o' hk' fr' e1' e2' e3' hc'; k_dflt (have ff' := fresh_facts (by k_asm) (by k_asm) fr'); obtain ⟨nL', n0', ne9⟩ := ff'; k_dflt (have FN' := upd_two (by k_asm) (by k_asm) (by k_updF) (by k_mem) (by k_updF) hk' e1' e3'); obtain ⟨F', N'⟩ := FN'; k_dflt (replace N' := News.cons' e2' nL' n0' N'); (simp only [AllNe] at ne9); (repeat obtain ⟨_, ne9⟩ := ne9); (try dsimp only at N')))
local macro_rules | `(tactic| walk_at "compareOp Eq ref ref") => `(tactic| (k_here; k_dflt (refine keq_pairs (knd := bytesKind _ _) (by k_asm) (by k_mem) (by k_mem) (by first | k_asm | exact empty_any (by assumption)) (by first | k_asm | exact empty_any (by assumption)) (by k_asm) (by k_asm) (by rfl) (by k_units) KeqHits.nil ?_)))

theorem cm3 {w : World} {mean : ExcName → Option Value} {mg mb : Str → Option Value} {A : Around} {cn : Str} {cs : Scope} {a : Addr} {ccd : Value} {outer : List Env} {A₀ : Around} {base h₀ : Heap} {L : Addr} {m : Str → Option Value}
    {s : Shared} {x d c dB lg l1 l2 l3 dP : Addr} {t1 t2 n n3 q tl : Nat} {oc oB oP : Obj} {kB kP : List (List UInt8 × Value)} {vs : List Value} {ℓ : List LRow} {dd : Bool} {Q : Value → Shared → Prop} {E : Value → Shared → Prop} :
    At hd.heap_39 w mean mg mb A cn cs a ccd outer A₀ base h₀ L m s 30 →
    News h₀ L s.heap [(x, instObj 67 d), (d, dictOf (wrE w t1 t2 (.ref dB) c) n), (c, oc), (dB, oB), (lg, listOf #[.none, .ref l1, .ref l2, .ref l3] n3), (l3, listOf vs.toArray q), (dP, oP)] → [x, d, c, dB, lg, l3, dP].Nodup →
    oc.IsDictOf (bytesKind PySem.Challenge.rw_ad6016_01.row.prog w) (puts [] ℓ) → oB.IsDictOf (bytesKind PySem.Challenge.rw_ad6016_01.row.prog w) kB → oP.IsDictOf (bytesKind PySem.Challenge.rw_ad6016_01.row.prog w) kP → (c == sysModules) = false → (dB == sysModules) = false → (dP == sysModules) = false →
    RowsAre s.heap vs ℓ → (∀ r ∈ ℓ, Vk (some r.2)) → ℓ.length + kB.length ≤ sizeLine → ℓ.length + kP.length ≤ sizeLine →
    (∀ h' tk c' oc' oB' l' n' n'' oP', KeepBut [d, dB, lg, dP] s.heap h' → s.heap.get? c' = none → s.heap.get? l' = none → l' ≠ c' → h'.get? d = some (dictOf (wrE w t1 t2 (.ref dB) c') n) → h'.get? c' = some oc' → oc'.IsDictOf (bytesKind PySem.Challenge.rw_ad6016_01.row.prog w) [] → (c' == sysModules) = false → h'.get? dB = some oB' → oB'.IsDictOf (bytesKind PySem.Challenge.rw_ad6016_01.row.prog w) (applied dd (puts [] ℓ) kB) →
      h'.get? lg = some (listOf #[.none, .ref l1, .ref l2, .ref l'] n'') → h'.get? l' = some (listOf #[] n') → h'.get? dP = some oP' → oP'.IsDictOf (bytesKind PySem.Challenge.rw_ad6016_01.row.prog w) (applied dd (puts [] ℓ) kP) → Q (.bool true) { s with heap := h', toks := tk }) →
    wpAny (model PySem.Challenge.rw_ad6016_01.row.prog w) A (call (.ref 119) [.ref x, .ref lg, .ref dP, .int 3 tl, .bool dd]) Q E s := by
  k_fill
  intro H N nd hdc hdB hdP lc lB lP hR hv hz hzP hret
  obtain ⟨B, F, X, T, XB, TB, D, hh, hA, hck, hdp, hun⟩ := H
  obtain ⟨hdl, dp, fr, gd, un⟩ := A
  dsimp only at hh hA hdp hun
  subst hh hA
  simp only [List.nodup_cons, List.mem_cons, List.not_mem_nil, or_false, not_or, not_false_eq_true, List.nodup_nil, and_true] at nd
  obtain ⟨⟨z0, z1, z2, z3, z4, z5⟩, ⟨z6, z7, z8, z9, z10⟩, ⟨z11, z12, z13, z14⟩, ⟨z15, z16, z17⟩, ⟨z18, z19⟩, z20⟩ := nd
  have off := off_of N (by kwd_same0)
  have hlen := hR.length
  have hz1 : (puts [] ℓ).length + kB.length ≤ sizeLine := by have := puts_len ℓ []; rw [List.length_nil] at this; omega
  have hz2 : vs.length + kP.length ≤ sizeLine := by omega
  have hvk := puts_vk (acc := []) hv (fun _ q => nomatch q)
  cases dd
  all_goals
    refine wpAny_call ?_
    k_dflt ktr_enter
    rename KeepBut _ _ _ => hG
    replace hR := RowsAre.keep hR hG off
    k_steps
    rename_i c7 oc7 oB7 hk7 fr7 e17 e27 e37 hc7 hB7 lo7 nL7 n07 y1 y2 y3 y4 y5 y6 y7 _ _ _ l7 n7 n7' oP7 hk8 fr8 e18 e28 e38 hP8 nL8 n08 y8 y9 y10 y11 y12 y13 y14 y15 d9 _ o9 F9 N9 lo9 hs9 _ _ _ _
    exact hret _ _ c7 oc7 oB7 l7 n7 n7' oP7 (by tb_start) (fresh_of hG n07 ⟨y1, y2, y3, y4, y5, y6, y7, trivial⟩) (fresh_of hG n08 ⟨y9, y10, y11, y12, y13, y14, y15, trivial⟩) (Ne.symm y8) (News.get N9 (by k_mem)) (News.get N9 (by k_mem)) hc7 lo7 (News.get N9 (by k_mem)) hB7 (News.get N9 (by k_mem)) (News.get N9 (by k_mem)) (News.get N9 (by k_mem)) hP8
end
section
local macro_rules | `(tactic| walk_at "no such step") => `(tactic| skip)
local macro_rules | `(tactic| walk_at "no such step") => `(tactic| skip)
local macro_rules | `(tactic| k_ne) => `(tactic| first | assumption | exact ne_s (by assumption))
local macro_rules | `(tactic| ktr_enter) => `(tactic| (refine' enter ?k1 ?k2 ?k3 ?k4 ?k5 ?kD ?kA ?kK ?k6 ?k7 ?k8 ?k9 ?kB ?_ ?c2 ?c3 ?c4 ?c5; (case kA => exact rfl); (case kK => first | assumption | exact rfl); (case k1 => k_asm); (case k2 => k_asm); (case k3 => k_asm); (case k4 => k_asm); (case k5 => k_asm); (case kD => k_asm); (case k6 => k_is); (case k7 => k_is); (case k8 => ktr_room); (case k9 => first | exact BindsTo.of_eq rfl | exact binds_K (by k_in) rfl (by k_is) rfl rfl rfl); (case c5 => decide); (case kB => exact locs rfl); (case c2 => exact rfl); (case c3 => exact rfl); (case c4 => exact rfl); k_whole; intro g' L' h' hG' F' N' B' X' T' D'; (try dsimp only); (try k_fold)))
local macro_rules | `(tactic| tb_rel) => `(tactic| first | exact List.forall_mem_nil _ | (refine List.forall_mem_cons.mpr ⟨by first | exact Or.inr (by k_mem) | exact Or.inl (by k_mem), ?_⟩; tb_rel))
local macro_rules | `(tactic| walk_at "setItem ref bytes") => `(tactic| (k_here; k_dflt (refine' kda_set (knd := bytesKind _ _) ?F ?N ?U ?d (bk_is _ _ _) ?z ?_; (case F => k_asm); (case N => k_asm); (case U => k_updF); (case d => k_asm); (case z => assumption)); intro h' o' F' N' hd'; (try dsimp only at N')))
local macro_rules | `(tactic| walk_at "compareOp In bytes ref") => `(tactic| (k_here; k_dflt (refine kda_in (knd := bytesKind _ _) (by k_asm) (by k_mem) (by k_asm) (by k_asm) (bk_is _ _ _) _ (by first | exact some_is (by assumption) | exact none_is (by assumption)) ?_)))
local macro_rules | `(tactic| walk_at "subscriptTail") => `(tactic| (k_here; (with_reducible show wpAny _ _ (subscriptTail _ _ (Value.ref _) (Value.bytes _ _)) _ _ _); k_dflt (refine kda_item (knd := bytesKind _ _) (by k_asm) (by k_mem) (by k_asm) (bk_is _ _ _) (by assumption) ?_)))
local macro_rules | `(tactic| tb_start) => `(tactic| exact keep_of (by assumption) (by assumption) (by assumption) (by assumption) (by tb_rel))
local macro_rules | `(tactic| ktf_step) => `(tactic| (intro h' tk' hk'; have F' := fr_keep (by assumption) hk'; have N' := news_keep (by assumption) hk'))
local macro_rules | `(tactic| ktn_step) => `(tactic| (refine' At.mk ?B ?F ?X ?T ?XB ?TB ?D ?hh ?hA ?hck ?hd ?hu; (case B => k_asm); (case F => k_asm); (case X => k_asm); (case T => k_asm); (case XB => k_asm); (case TB => k_asm); (case D => k_asm); (case hh => exact rfl); (case hA => exact rfl); (case hck => first | assumption | exact rfl); (case hd => ktr_room); (case hu => ktr_units)))
local macro_rules | `(tactic| k_room) => `(tactic| ktr_room)
local macro_rules | `(tactic| k_units) => `(tactic| ktr_units)
local macro_rules | `(tactic| kwd_same0) => `(tactic| first | exact List.forall_mem_nil _ | (refine List.forall_mem_cons.mpr ⟨by first | exact dict_cls (by assumption) | (show Value.type "list" ≠ Value.type "tuple"; decide) | (show Value.ref _ ≠ Value.type "tuple"; exact fun x => nomatch x) | (show Value.type "dict" ≠ Value.type "tuple"; decide), ?_⟩; kwd_same0))
local macro_rules | `(tactic| walk_at "compareOp NotEq ref ref") => `(tactic| (k_here; k_dflt (first | (refine' ne_nil_snoc ?N ?a ?b ?u ?_; (case N => k_asm); (case a => k_mem); (case b => k_mem); (case u => ktr_units)) | (refine' ne_nil_nil ?N ?a ?b ?u ?_; (case N => k_asm); (case a => k_mem); (case b => k_mem); (case u => ktr_units)))))
local macro_rules | `(tactic| walk_at "subscriptTail") => `(tactic| (k_here; (with_reducible show wpAny _ _ (subscriptTail _ _ (Value.ref _) (Value.int _ _)) _ _ _); k_dflt (refine' item_tupleT (Fr.tup ?F ?T) ?lo ?hi ?j ?x ?_; (case T => with_reducible assumption); (case F => k_asm); (case lo => decide); (case hi => decide); (case j => rfl); (case x => rfl))))
local macro_rules | `(tactic| walk_at "subscriptTail") => `(tactic| (k_here; (with_reducible show wpAny _ _ (subscriptTail _ _ (Value.ref _) (Value.int (-1) _)) _ _ _); k_dflt (refine' last_item ?N ?a ?z ?_; (case N => k_asm); (case a => k_mem); (case z => assumption))))
local macro_rules | `(tactic| walk_at "call builtin:dict.get") => `(tactic| (k_here; k_dflt (refine kdg_get1 (knd := bytesKind _ _) (by k_asm) (by k_mem) (by k_asm) (by k_asm) (bk_is _ _ _) _ (by assumption) ?_; (try dsimp only [Option.getD]))))
local macro_rules | `(tactic| walk_at "getMethod ref") => `(tactic| (k_here; (with_reducible show wpAny _ _ (getMethod (Value.ref _) (Str.ofString "get") _) _ _ _); k_dflt (refine kdg_method (knd := bytesKind _ _) (by k_asm) (by k_mem) (by k_asm) ?_)))
local macro_rules | `(tactic| walk_at "getMethod ref") => `(tactic| (k_here; (with_reducible show wpAny _ _ (getMethod (Value.ref _) (Str.ofString "items") _) _ _ _); k_dflt (refine kdi_method (knd := bytesKind _ _) (by k_asm) (by k_mem) (by k_asm) ?_)))
local macro_rules | `(tactic| walk_at "getMethod ref") => `(tactic| (k_here; (with_reducible show wpAny _ _ (getMethod (Value.ref _) (Str.ofString "pop") _) _ _ _); k_dflt (refine kdp_method (knd := bytesKind _ _) (by k_asm) (by k_mem) (by k_asm) ?_)))
local macro_rules | `(tactic| walk_at "call builtin:dict.items") => `(tactic| (k_here; k_dflt (refine kdi_call (knd := bytesKind _ _) (by k_asm) (by k_asm) (by k_mem) (by k_asm) (by k_asm) ?_); intro v' h' F' N'))
local macro_rules | `(tactic| walk_at "pyIter ref") => `(tactic| (k_here; k_dflt (refine kdi_iter (knd := bytesKind _ _) (by k_asm) (by k_asm) (by k_mem) (by k_mem) (by k_asm) ?_); intro it' ep' h' lt' no' ne' F' N' hi' da'))
local macro_rules | `(tactic| walk_at "call builtin:dict.pop") => `(tactic| (k_here; k_dflt (refine kdp_any (knd := bytesKind _ _) (by k_asm) (by k_asm) (by k_updF) (by k_asm) (bk_is _ _ _) (by assumption) (by k_asm) (by rfl) ?_); intro v' h' o' F' N' hd'; (try dsimp only at N')))
local macro_rules | `(tactic| walk_at "setAttr ref") => `(tactic| (k_here; k_dflt (refine' set_dict ?k1 ?k2 ?k3 ?k4 ?k5 ?k6 ?k7 ?k8 ?k9 ?k10 put_cache ?k12 ?k13 ?_; (case k1 => k_asm); (case k2 => k_asm); (case k3 => k_asm); (case k4 => k_inst); (case k5 => exact rfl); (case k6 => k_is); (case k7 => k_is); (case k8 => k_is); (case k9 => k_is); (case k10 => k_get); (case k12 => k_upd); (case k13 => exact Nat.le_of_ble_eq_true rfl); k_whole; intro h' F' N'; (try k_sweep))))
local macro_rules | `(tactic| walk_at "pyIter ref") => `(tactic| (k_here; k_dflt (refine keys_iter (knd := bytesKind _ _) (by k_asm) (by k_asm) (by k_mem) (by k_asm) (by k_asm) ?_); intro it' ep' h' lt' no' ne' F' N' hi' da'))
local macro_rules | `(tactic| walk_at "pyIter ref") => `(tactic| (k_here; k_dflt (refine rows_iter rfl (by k_asm) (by k_asm) (by k_mem) (by assumption) ?_); intro it' h' fp' Pt' St' Mid' lt' no' ne' F' N' W' pt' st' fp9'))
local macro_rules | `(tactic| walk_at "call builtin:list.append") => `(tactic| (k_here; k_dflt (refine append_rows (by k_asm) (by k_asm) (by k_updF) (by assumption) ?_); intro h' F' N'; (try dsimp only at N')))
local macro_rules | `(tactic| kwk_ne) => `(tactic| (intro p9 hp9; repeat (first | exact hp9 | apply List.mem_cons_of_mem)))
local macro_rules | `(tactic| walk_at "newTuple") => `(tactic| (k_here; k_dflt (refine' kup_newTuple ?F ?N ?_ ?z; (case F => k_asm); (case N => k_asm); (case z => exact Nat.le_of_ble_eq_true rfl)); intro D' h' F' N' l1; (try k_lt l1); (try k_sweep)))
local macro_rules | `(tactic| walk_at "eval Dict nil nil") => `(tactic| (k_here; k_dflt (refine newDictB (bytesKind PySem.Challenge.rw_ad6016_01.row.prog _) (by k_asm) (by k_asm) (TopRead.nolimit (by k_asm)) ?_); intro d' h' o' F' N' l1 lo' hd' hk'; (try k_lt l1)))
local macro_rules | `(tactic| walk_at "call ref") => `(tactic| (k_here; (with_reducible show wpAny _ _ (call (.ref 64) _ _) _ _ _); k_dflt (refine bc_scrN (by ktn_step) (by k_asm) (by first | exact ⟨rfl, .inl rfl⟩ | exact ⟨rfl, .inr ⟨rfl, rfl⟩⟩) (by k_mem) (by k_mem) (by k_mem) (by k_mem) (by k_mem) (by k_mem) (by k_ne) (by k_ne) (by k_ne) (by k_ne) (by k_ne) (by k_ne) (by k_ne) (by k_ne) (by k_ne) (by k_ne) (by k_asm) (by k_asm) (by assumption) (by k_asm) (by assumption) ?_); intro h' tk' c' oc' oB' hk' fr' e1' e2' e3' hc' hB' lo'; k_dflt (have ff' := fresh_facts (by k_asm) (by k_asm) fr'); obtain ⟨nL', n0', ne9⟩ := ff'; k_dflt (have FN' := upd_two (by k_asm) (by k_asm) (by k_updF) (by k_mem) (by k_updF) hk' e1' e3'); obtain ⟨F', N'⟩ := FN'; k_dflt (replace N' := News.cons' e2' nL' n0' N'); (simp only [AllNe] at ne9); (repeat obtain ⟨_, ne9⟩ := ne9); (try dsimp only at N')))
local macro_rules | `(tactic| walk_at "call ref") => `(tactic| (k_here; (with_reducible show wpAny _ _ (call (.ref 98) _ _) _ _ _); k_dflt (refine lc2N (by ktn_step) (by k_asm) (by k_mem) (by k_mem) (by k_mem) (by k_ne) (by k_ne) (by k_ne) (RowsAre.mono (fun a o _ e => Fr.keep (by k_asm) a o e) (by assumption)) (RowsAre.mono (fun a o _ e => Fr.keep (by k_asm) a o e) (by assumption)) (by assumption) (by assumption) ?_); intro h' tk' l' n' n'' ws' q' hk' fr' e1' e2' e3' hc'; k_dflt (have ff' := fresh_facts (by k_asm) (by k_asm) fr'); obtain ⟨nL', n0', ne9⟩ := ff'; k_dflt (have FN' := upd_two (by k_asm) (by k_asm) (by k_updF) (by k_mem) (by k_updF) hk' e1' e3'); obtain ⟨F', N'⟩ := FN'; k_dflt (replace N' := News.cons' e2' nL' n0' N'); (simp only [AllNe] at ne9); (repeat obtain ⟨_, ne9⟩ := ne9); (try dsimp only at N')))
local macro_rules | `(tactic| walk_at "compareOp Eq ref ref") => `(tactic| (k_here; k_dflt (refine keq_pairs (knd := bytesKind _ _) (by k_asm) (by k_mem) (by k_mem) (by first | k_asm | exact empty_any (by assumption)) (by first | k_asm | exact empty_any (by assumption)) (by k_asm) (by k_asm) (by rfl) (by k_units) KeqHits.nil ?_)))

theorem cm2 {w : World} {mean : ExcName → Option Value} {mg mb : Str → Option Value} {A : Around} {cn : Str} {cs : Scope} {a : Addr} {ccd : Value} {outer : List Env} {A₀ : Around} {base h₀ : Heap} {L : Addr} {m : Str → Option Value}
    {s : Shared} {x d c x1 d1 c1 lg l1 l2 l3 dP : Addr} {t1 t2 n t3 t4 n3 n4 q q1 tl : Nat} {oc oc1 : Obj} {wv : Value} {vs ws : List Value} {ℓ ℓ1 : List LRow} {Q : Value → Shared → Prop} {E : Value → Shared → Prop} :
    At hd.heap_39 w mean mg mb A cn cs a ccd outer A₀ base h₀ L m s 30 →
    News h₀ L s.heap [(x, instObj 67 d), (d, dictOf (wrE w t1 t2 (.ref x1) c) n), (c, oc), (x1, instObj 67 d1), (d1, dictOf (wrE w t3 t4 wv c1) n4), (c1, oc1), (lg, listOf #[.none, .ref l1, .ref l2, .ref l3] n3), (l2, listOf vs.toArray q), (l1, listOf ws.toArray q1)] → [x, d, c, x1, d1, c1, lg, l2, l1].Nodup →
    oc.IsDictOf (bytesKind PySem.Challenge.rw_ad6016_01.row.prog w) (puts [] ℓ) → oc1.IsDictOf (bytesKind PySem.Challenge.rw_ad6016_01.row.prog w) (puts [] ℓ1) → (c == sysModules) = false →
    RowsAre s.heap vs ℓ → RowsAre s.heap ws ℓ1 → (∀ r ∈ ℓ, Vk (some r.2)) → ℓ.length + ℓ1.length ≤ sizeLine →
    (∀ h' tk c' oc' oB' l' n' n'' ws' q', KeepBut [d, c1, lg, l1] s.heap h' → s.heap.get? c' = none → s.heap.get? l' = none → l' ≠ c' → h'.get? d = some (dictOf (wrE w t1 t2 (.ref x1) c') n) → h'.get? c' = some oc' → oc'.IsDictOf (bytesKind PySem.Challenge.rw_ad6016_01.row.prog w) [] → (c' == sysModules) = false → h'.get? c1 = some oB' → oB'.IsDictOf (bytesKind PySem.Challenge.rw_ad6016_01.row.prog w) (applied false (puts [] ℓ) (puts [] ℓ1)) →
      h'.get? lg = some (listOf #[.none, .ref l1, .ref l', .ref l3] n'') → h'.get? l' = some (listOf #[] n') → h'.get? l1 = some (listOf ws'.toArray q') → RowsAre h' ws' (ℓ1 ++ kept (puts [] ℓ)) → Q (.bool true) { s with heap := h', toks := tk }) →
    wpAny (model PySem.Challenge.rw_ad6016_01.row.prog w) A (call (.ref 119) [.ref x, .ref lg, .ref dP, .int 2 tl, .bool false]) Q E s := by
  k_fill
  intro H N nd hdc hdB lc hR hR1 hv hz hret
  obtain ⟨B, F, X, T, XB, TB, D, hh, hA, hck, hdp, hun⟩ := H
  obtain ⟨hdl, dp, fr, gd, un⟩ := A
  dsimp only at hh hA hdp hun
  subst hh hA
  simp only [List.nodup_cons, List.mem_cons, List.not_mem_nil, or_false, not_or, not_false_eq_true, List.nodup_nil, and_true] at nd
  obtain ⟨⟨z0, z1, z2, z3, z4, z5, z6, z7⟩, ⟨z8, z9, z10, z11, z12, z13, z14⟩, ⟨z15, z16, z17, z18, z19, z20⟩, ⟨z21, z22, z23, z24, z25⟩, ⟨z26, z27, z28, z29⟩, ⟨z30, z31, z32⟩, ⟨z33, z34⟩, z35⟩ := nd
  have off := off_of N (by kwd_same0)
  have hlen := hR.length
  have hlen1 := hR1.length
  have hz1 : (puts [] ℓ).length + (puts [] ℓ1).length ≤ sizeLine := by have := puts_len ℓ []; have := puts_len ℓ1 []; simp only [List.length_nil] at *; omega
  have hz2 : vs.length + ws.length ≤ sizeLine := by omega
  have hvk := puts_vk (acc := []) hv (fun _ q => nomatch q)
  refine wpAny_call ?_
  k_dflt ktr_enter
  rename KeepBut _ _ _ => hG
  replace hR := RowsAre.keep hR hG off
  replace hR1 := RowsAre.keep hR1 hG off
  k_steps
  rename_i c7 oc7 oB7 hk7 fr7 e17 e27 e37 hc7 hB7 lo7 nL7 n07 y1 y2 y3 y4 y5 y6 y7 y71 y72 _ _ _ _ _ l7 n7 n7' ws7 q7 hk8 fr8 e18 e28 e38 hP8 nL8 n08 _ _ y8 y9 y10 y11 y12 y13 y14 y15 y16 y17 d9 _ o9 F9 N9 lo9 hs9 hk9 _
  have hP9 := RowsAre.keep hP8 hk9 (fun _ q => nomatch q)
  exact hret _ _ c7 oc7 oB7 l7 n7 n7' ws7 q7 (by tb_start) (fresh_of hG n07 ⟨y1, y2, y3, y4, y5, y6, y7, y71, y72, trivial⟩) (fresh_of hG n08 ⟨y9, y10, y11, y12, y13, y14, y15, y16, y17, trivial⟩) (Ne.symm y8) (News.get N9 (by k_mem)) (News.get N9 (by k_mem)) hc7 lo7 (News.get N9 (by k_mem)) hB7 (News.get N9 (by k_mem)) (News.get N9 (by k_mem)) (News.get N9 (by k_mem)) hP9
end
section
def TurnEnd2 (L : Addr) (stored : List Str) (m₀ : Str → Option Value) (fp : List Addr) (J : Heap → Heap → Prop) (Qr : Value → Shared → Prop) (s₁ : Shared) (f : Flow) (s₂ : Shared) : Prop :=
  match f with
  | .ret v => Qr v s₂
  | .brk => False
  | _ => ∃ g' h' tk' m₂, s₂ = { s₁ with heap := h', toks := tk' } ∧ Fr g' L h' m₂ ∧ (∀ z, stored.contains z = false → m₂ z = m₀ z) ∧ (∀ b ∈ fp, ∀ o, s₁.heap.get? b = some o → h'.get? b = some o) ∧ J g' h'
section
variable {prog : Program} {w : World} {A : Around} {s : Shared} {env : Env} {g₀ : Heap}
theorem for_walks2 {R : Result → Shared → Prop} {x : Str} {px : Pos} {body : List Stmt} {I : Addr} {fp wr : List Addr} {n : Nat} {P : Nat → Value → Prop} {St : Nat → Heap → Prop} {m₀ : Str → Option Value}
    (W : Walks prog w A I fp wr n P St) (stored : List Str) (J : Nat → Heap → Heap → Prop) (hx : env.kindOf x = some .local)
    (hp : (env.scope.kind == .class || (env.scope.kind == .module && env.locals != env.globals)) = false) (hxs : stored.contains x = true)
    (hLf : env.locals ∉ fp) (hwr : ∀ i g h, J i g h → ∀ b ∈ wr, g.get? b = none)
    (stable : ∀ i g h h', J i g h → (∀ b o, b ≠ env.locals → b ∉ wr → h.get? b = some o → h'.get? b = some o) → J i g h')
    (hst : St 0 s.heap) (F : Fr g₀ env.locals s.heap m₀) (h0 : J 0 g₀ s.heap)
    (step : ∀ i v (u : Str → Option Value) g h tk, i < n → P i v → J i g h → St (i + 1) h → Fr g env.locals h (fun y => if y = x then some v else if stored.contains y = true then u y else m₀ y) →
      wpAny (model prog w) A (execs body env) (TurnEnd2 env.locals stored m₀ fp (J (i + 1)) (fun v s' => R (.ok (.ret v)) s') { s with heap := h, toks := tk }) (notedBy (model prog w) A env fun e s' => R (.error e) s') { s with heap := h, toks := tk })
    (hR : ∀ g h' tk (u : Str → Option Value), Fr g env.locals h' (fun y => if stored.contains y = true then u y else m₀ y) → J n g h' → R (.ok .next) { s with heap := h', toks := tk }) :
    codeAny (model prog w) A (.forLoop (.Name x px) (.ref I) body [] env) R s := by
  have hLw : env.locals ∉ wr := fun h => hLf (W.sub _ h)
  refine codeAny_forLoop_any
    (fun k s' => ∃ g h' tk m' i, s' = { s with heap := h', toks := tk } ∧ St i h' ∧ Fr g env.locals h' m' ∧ (∀ z, stored.contains z = false → m' z = m₀ z) ∧ J i g h' ∧ i ≤ n ∧ k = n + 1 - i) ?_ (n + 1)
    ⟨g₀, s.heap, s.toks, m₀, 0, rfl, hst, F, fun _ _ => rfl, h0, Nat.zero_le _, rfl⟩
  rintro k s' ⟨g, h', tk, m', i, rfl, hst', F', hm, hJ, hi, rfl⟩
  have old : ∀ b o, g.get? b = some o → b ∉ wr := fun b o e hb => by rw [hwr i g h' hJ b hb] at e; cases e
  have next : ∀ h₁ : Heap, (∀ b o, b ∉ wr → h'.get? b = some o → h₁.get? b = some o) → Fr g env.locals h₁ m' := fun h₁ hk₁ =>
    ⟨F'.ns.at' fun o e => hk₁ _ o hLw e, fun b o e => hk₁ b o (old b o e) (F'.keep b o e), F'.above⟩
  by_cases hlt : i < n
  · refine W.item i _ _ _ hlt hst' fun v h₁ tk₁ hP hst₁ hk₁ => ?_
    have F₁ := next h₁ hk₁
    unfold letOwnedTupleGo
    refine wpAny_pure ?_
    refine wpAny_assign_Name (wpAny_storeName_local hx F₁.ns (fun h₂ hn₂ hs₂ => ?_) hp)
    have F₂ := F₁.set hn₂ hs₂
    have hst₂ : St (i + 1) h₂ := W.frame _ _ _ hst₁ fun b hb o e => (hs₂.2 b fun q => hLf (q ▸ hb)).trans e
    have hJ₂ : J i g h₂ := stable i g h' h₂ hJ fun b o bL bw e => (hs₂.2 b bL).trans (hk₁ b o bw e)
    rw [names_of hm] at F₂
    refine wpAny_mono (step i v m' g h₂ _ hlt hP hJ₂ hst₂ F₂) (fun f s₃ h₃ => ?_) fun _ _ e => e
    have fin : TurnEnd2 env.locals stored m₀ fp (J (i + 1)) (fun v s' => R (.ok (.ret v)) s') { s with heap := h₂, toks := tk₁ + 1 } .next s₃ →
        ∃ m, m < n + 1 - i ∧ ∃ g h' tk m' i, s₃ = { s with heap := h', toks := tk } ∧ St i h' ∧ Fr g env.locals h' m' ∧ (∀ z, stored.contains z = false → m' z = m₀ z) ∧ J i g h' ∧ i ≤ n ∧ m = n + 1 - i := by
      rintro ⟨g₃, h₃', tk₃, m₃, rfl, F₃, hm₃, hk₃, hJ₃⟩
      exact ⟨n + 1 - (i + 1), by omega, g₃, h₃', tk₃, m₃, i + 1, rfl, W.frame _ _ _ hst₂ fun b hb o e => hk₃ b hb o e, F₃, hm₃, hJ₃, hlt, rfl⟩
    cases f with
    | ret v => exact h₃
    | brk => exact h₃.elim
    | cont => exact fin h₃
    | next => exact fin h₃
  · have hin : i = n := by omega
    subst hin
    refine W.done _ _ _ hst' fun h₁ tk₁ hk₁ => wpAny_execs_nil ?_
    have F₁ := next h₁ hk₁
    rw [names_of hm] at F₁
    exact hR g h₁ tk₁ m' F₁ (stable i g h' h₁ hJ fun b o _ bw e => hk₁ b o bw e)

theorem names_held2 {Q : Flow → Shared → Prop} {E : Value → Shared → Prop} {x : Str} {px : Pos} {body : List Stmt} {I : Addr} {fp wr : List Addr} {n : Nat} {P : Nat → Value → Prop} {St : Nat → Heap → Prop} {m₀ : Str → Option Value}
    (hE : PassesOwn (model prog w) A env E) (W : Walks prog w A I fp wr n P St) (stored : List Str) (J : Nat → Heap → Heap → Prop) (hx : env.kindOf x = some .local)
    (hp : (env.scope.kind == .class || (env.scope.kind == .module && env.locals != env.globals)) = false) (hxs : stored.contains x = true)
    (hLf : env.locals ∉ fp) (hwr : ∀ i g h, J i g h → ∀ b ∈ wr, g.get? b = none)
    (stable : ∀ i g h h', J i g h → (∀ b o, b ≠ env.locals → b ∉ wr → h.get? b = some o → h'.get? b = some o) → J i g h')
    (hst : St 0 s.heap) (F : Fr g₀ env.locals s.heap m₀) (h0 : J 0 g₀ s.heap)
    (step : ∀ i v (u : Str → Option Value) g h tk, i < n → P i v → J i g h → St (i + 1) h → Fr g env.locals h (fun y => if y = x then some v else if stored.contains y = true then u y else m₀ y) →
      wpAny (model prog w) A (execs body env) (TurnEnd2 env.locals stored m₀ fp (J (i + 1)) (fun v s' => Q (.ret v) s') { s with heap := h, toks := tk }) E { s with heap := h, toks := tk })
    (hR : ∀ g h' tk (u : Str → Option Value), Fr g env.locals h' (fun y => if stored.contains y = true then u y else m₀ y) → J n g h' → Q .next { s with heap := h', toks := tk }) :
    Hold (codeAny (model prog w) A (.forLoop (.Name x px) (.ref I) body [] env) (fun r s' => match r with | .ok f => Q f s' | .error e => cameBackBy (model prog w) A env E e s') s) :=
  for_walks2 (R := fun r s' => match r with | .ok f => Q f s' | .error e => cameBackBy (model prog w) A env E e s') W stored J hx hp hxs hLf hwr stable hst F h0
    (fun i v u g h tk a b c d e => wpAny_mono (step i v u g h tk a b c d e) (fun _ _ x => x) hE) hR

variable {E : Value → Shared → Prop} {h₀ : Heap} {L : Addr} {m : Str → Option Value} {news : List (Addr × Obj)}
theorem list_iterK {l : Addr} {items : Array Value} {Q : Value → Shared → Prop} (F : Fr h₀ L s.heap m) (N : News h₀ L s.heap news) (hl : s.heap.IsList l items)
    (h : ∀ it h', (∀ p ∈ news, p.1 < it) → h₀.get? it = none → it ≠ L → l ≠ it → Fr h₀ L h' m → News h₀ L h' ((it, listIterOf l) :: news) → h'.IsListIter it l 0 → h'.IsList l items → Q (.ref it) { s with heap := h' }) : wpAny (model prog w) A (pyIter (.ref l)) Q E s :=
  wpAny_pyIter_list hl (h _ _ (fun p hp => Heap.lt_size (N p hp).1) (next_is_new F) (Nat.ne_of_gt F.ns.lt) (let ⟨_, e, _⟩ := hl; Nat.ne_of_lt (Heap.lt_size e)) (F.push _) (News.push F N _) ⟨_, Heap.get?_push_size _ rfl, rfl, rfl⟩ (hl.push _))
end
theorem turned_trans {fs : List Addr} {a b c : Heap} {L : Addr} (x : Turned fs a b) (y : Turned (L :: fs) b c) (e : a.get? L = none) : Turned fs a c := by
  refine ⟨fun b' o h n => y.other b' o (x.other b' o h n) (fun q => ?_), fun b' o h => ?_⟩
  · rcases List.mem_cons.mp q with q | q
    · rw [q, e] at h; cases h
    · exact n q
  · obtain ⟨s1, h1⟩ := x.up b' o h
    obtain ⟨s2, h2⟩ := y.up b' _ h1
    exact ⟨s2, h2⟩
theorem Turned.keep {fs : List Addr} {a b c : Heap} (x : Turned fs a b) (y : KeepBut [] b c) : Turned fs a c :=
  ⟨fun b' o h n => y.all _ _ (x.other b' o h n), fun b' o h => let ⟨sl, e⟩ := x.up b' o h; ⟨sl, y.all _ _ e⟩⟩
theorem rows_turn {fs : List Addr} {g g' : Heap} {vs : List Value} {ℓ : List LRow} (R : RowsAre g vs ℓ) (T : KtsTurn fs g g') (D : KtsDicts fs g) : RowsAre g' vs ℓ := by
  refine RowsAre.stay (S := fs) (fun b o n e => T.other b o e n) R (R.off fun b hb o e _ hd => ?_)
  obtain ⟨o', es, n, ho, hd'⟩ := D b hb
  obtain ⟨items, k, hd⟩ := hd
  rw [ho] at e; cases e; rw [hd'] at hd; cases hd
theorem keys_at (w : World) : ∃ (items : Array Value) (n : Nat), (hd.heap_39 w.params).lookup 72 = some (listOf items n) ∧ items.size = 5 ∧ ∀ (i : Nat) (v : Value), items[i]? = some v → ∃ b t, v = .bytes b t := by
  refine ⟨_, _, by with_unfolding_all rfl, by rfl, ?_⟩
  intro i v e
  rcases i with _ | _ | _ | _ | _ | i
  all_goals first
    | exact ⟨_, _, (Option.some.inj e).symm⟩
    | (simp at e)
end
section
theorem lastOf_cons (r : LRow) (rs : List LRow) (k : List UInt8) : lastOf (r :: rs) k = match lastOf rs k with | some v => some v | none => if r.1 = k then some r.2 else none := by
  unfold lastOf
  rw [List.filter_cons]
  by_cases h : r.1 = k
  · rw [if_pos (by simp [h])]
    cases q : (rs.filter fun r => r.1 == k) with
    | nil => simp [h]
    | cons a l => simp [List.getLast?_cons]
  · rw [if_neg (by simp [h])]
    cases q : (rs.filter fun r => r.1 == k) with
    | nil => simp [h]
    | cons a l => simp [List.getLast?_cons]
theorem lastOf_nil (k : List UInt8) : lastOf [] k = none := rfl
theorem lastOf_append (a b : List LRow) (k : List UInt8) : lastOf (a ++ b) k = match lastOf b k with | some v => some v | none => lastOf a k := by
  induction a with
  | nil => rw [List.nil_append, lastOf_nil]; cases lastOf b k <;> rfl
  | cons r a ih =>
    rw [List.cons_append, lastOf_cons, ih, lastOf_cons]
    cases lastOf b k <;> rfl
theorem find_mapped (k : List UInt8) (v : Value) (k' : List UInt8) : ∀ t : List LRow, ((t.map fun kv => if kv.1 = k then (kv.1, v) else kv).find? fun kv => decide (kv.1 = k')).map (·.2) = if k = k' then (if t.any (fun kv => decide (kv.1 = k)) = true then some v else none) else (t.find? fun kv => decide (kv.1 = k')).map (·.2)
  | [] => by simp
  | q :: t => by
    have ih := find_mapped k v k' t
    rw [List.map_cons, List.find?_cons, List.find?_cons, List.any_cons]
    by_cases hq : q.1 = k
    · by_cases hkk : k = k'
      · simp [hq, hkk]
      · have hqk : ¬ q.1 = k' := fun e => hkk (hq ▸ e)
        simp only [hq, if_true, hkk, decide_false, if_false] at ih ⊢
        exact ih
    · by_cases hkk : k = k'
      · have hqk : ¬ q.1 = k' := fun e => hq (e.trans hkk.symm)
        simp only [hq, if_false, hqk, decide_false, Bool.false_or]
        exact ih
      · simp only [hq, if_false]
        by_cases hqk : q.1 = k'
        · simp [hqk, hkk]
        · simp only [hqk, decide_false]
          exact ih
theorem valueAt_stored (kvs : List LRow) (k : List UInt8) (v : Value) (k' : List UInt8) : valueAt (stored kvs k v) k' = if k = k' then some v else valueAt kvs k' := by
  unfold valueAt stored
  split
  · next h => rw [find_mapped, h, if_pos rfl]
  · next h =>
    rw [List.find?_append]
    by_cases hkk : k = k'
    · subst hkk
      have : kvs.find? (fun kv => decide (kv.1 = k)) = none := by
        rw [List.find?_eq_none]
        intro p hp hd
        exact h (List.any_eq_true.mpr ⟨p, hp, hd⟩)
      rw [this]; simp
    · rw [if_neg hkk]
      cases kvs.find? (fun kv => decide (kv.1 = k')) with
      | some p => rfl
      | none => simp [hkk]
theorem puts_lookup (rs : List LRow) (k : List UInt8) : ∀ acc : List LRow, valueAt (puts acc rs) k = match lastOf rs k with | some v => some v | none => valueAt acc k := by
  induction rs with
  | nil => intro acc; rfl
  | cons r t ih =>
    intro acc
    have e : puts acc (r :: t) = puts (stored acc r.1 r.2) t := rfl
    rw [e, ih, lastOf_cons, valueAt_stored]
    cases lastOf t k with
    | some v => rfl
    | none =>
      by_cases h : r.1 = k
      · simp [h]
      · simp [h]
theorem puts_last (rs : List LRow) (k : List UInt8) : valueAt (puts [] rs) k = lastOf rs k := by
  rw [puts_lookup]
  cases lastOf rs k <;> rfl
theorem lastOf_vk {rs : List LRow} {k : List UInt8} (h : ∀ r ∈ rs, Vk (some r.2)) : Vk (lastOf rs k) := by
  unfold lastOf
  cases q : (rs.filter fun r => r.1 == k).getLast? with
  | none => exact .inl rfl
  | some r => exact h r (List.mem_filter.mp (List.mem_of_getLast? q)).1
theorem in_look1 (vc vB : Option Value) : (match vc with | some (.bytes _ _) => true | _ => vB.isSome) = (look1 vc vB).isSome := by
  cases vc with
  | none => rfl
  | some v => cases v <;> rfl
theorem in_look2 (vc v1 vB : Option Value) : (match vc with | some (.bytes _ _) => true | _ => match v1 with | some (.bytes _ _) => true | _ => vB.isSome) = (look2 vc v1 vB).isSome := by
  rw [in_look1]
  cases vc with
  | none => rfl
  | some v => cases v <;> rfl
theorem told1N {w : World} {mean : ExcName → Option Value} {mg mb : Str → Option Value} {A : Around} {cn : Str} {cs : Scope} {a : Addr} {ccd : Value} {outer : List Env} {A₀ : Around} {base h₀ : Heap} {L : Addr} {m : Str → Option Value}
    {s : Shared} {news : List (Addr × Obj)} {kb : Array UInt8} {t : Nat} {lg l1 l2 l3 dP : Addr} {n n1 tl : Nat} {vs : List Value} {ℓ : List LRow} {oP : Obj} {kP : List LRow} {due : Value} {Q : Value → Shared → Prop} {E : Value → Shared → Prop}
    (H : At hd.heap_39 w mean mg mb A cn cs a ccd outer A₀ base h₀ L m s 20) (N : News h₀ L s.heap news) (m1 : (lg, listOf #[.none, .ref l1, .ref l2, .ref l3] n) ∈ news) (m2 : (l1, listOf vs.toArray n1) ∈ news) (m3 : (dP, oP) ∈ news) (hdP : oP.IsDictOf (bytesKind PySem.Challenge.rw_ad6016_01.row.prog w) kP)
    (lP : (dP == sysModules) = false) (hR : RowsAre h₀ vs ℓ) (hz : ℓ.length ≤ sizeLine) (hvk : ∀ r ∈ ℓ, Vk (some r.2)) (hdv : (look1 (lastOf ℓ kb.toList) (valueAt kP kb.toList)).getD .none = due)
    (h : ∀ h' tk, KeepBut [] s.heap h' → Q due { s with heap := h', toks := tk }) : wpAny (model PySem.Challenge.rw_ad6016_01.row.prog w) A (call (.ref 91) [.ref lg, .ref dP, .int 1 tl, .bytes kb t]) Q E s := by
  have hR' := RowsAre.mono (fun a o _ e => H.F.keep a o e) hR
  exact told1 H (fun p hp => by
    simp only [List.mem_cons, List.not_mem_nil, or_false] at hp
    rcases hp with rfl | rfl | rfl
    · exact N _ m1
    · exact N _ m2
    · exact N _ m3) hdP lP hR' (by rw [hR.length]; exact hz) _ _ rfl rfl (lastOf_vk hvk) (fun h' tk k => by rw [show toldV _ _ = due from hdv]; exact h h' tk k)
theorem told3N {w : World} {mean : ExcName → Option Value} {mg mb : Str → Option Value} {A : Around} {cn : Str} {cs : Scope} {a : Addr} {ccd : Value} {outer : List Env} {A₀ : Around} {base h₀ : Heap} {L : Addr} {m : Str → Option Value}
    {s : Shared} {news : List (Addr × Obj)} {kb : Array UInt8} {t : Nat} {lg l1 l2 l3 dP : Addr} {n n1 tl : Nat} {vs : List Value} {ℓ : List LRow} {oP : Obj} {kP : List LRow} {due : Value} {Q : Value → Shared → Prop} {E : Value → Shared → Prop}
    (H : At hd.heap_39 w mean mg mb A cn cs a ccd outer A₀ base h₀ L m s 20) (N : News h₀ L s.heap news) (m1 : (lg, listOf #[.none, .ref l1, .ref l2, .ref l3] n) ∈ news) (m2 : (l3, listOf vs.toArray n1) ∈ news) (m3 : (dP, oP) ∈ news) (hdP : oP.IsDictOf (bytesKind PySem.Challenge.rw_ad6016_01.row.prog w) kP)
    (lP : (dP == sysModules) = false) (hR : RowsAre h₀ vs ℓ) (hz : ℓ.length ≤ sizeLine) (hvk : ∀ r ∈ ℓ, Vk (some r.2)) (hdv : (look1 (lastOf ℓ kb.toList) (valueAt kP kb.toList)).getD .none = due)
    (h : ∀ h' tk, KeepBut [] s.heap h' → Q due { s with heap := h', toks := tk }) : wpAny (model PySem.Challenge.rw_ad6016_01.row.prog w) A (call (.ref 91) [.ref lg, .ref dP, .int 3 tl, .bytes kb t]) Q E s := by
  have hR' := RowsAre.mono (fun a o _ e => H.F.keep a o e) hR
  exact told3 H (fun p hp => by
    simp only [List.mem_cons, List.not_mem_nil, or_false] at hp
    rcases hp with rfl | rfl | rfl
    · exact N _ m1
    · exact N _ m2
    · exact N _ m3) hdP lP hR' (by rw [hR.length]; exact hz) _ _ rfl rfl (lastOf_vk hvk) (fun h' tk k => by rw [show toldV _ _ = due from hdv]; exact h h' tk k)
theorem told2N {w : World} {mean : ExcName → Option Value} {mg mb : Str → Option Value} {A : Around} {cn : Str} {cs : Scope} {a : Addr} {ccd : Value} {outer : List Env} {A₀ : Around} {base h₀ : Heap} {L : Addr} {m : Str → Option Value}
    {s : Shared} {news : List (Addr × Obj)} {kb : Array UInt8} {t : Nat} {lg l1 l2 l3 dP : Addr} {n n1 n2 tl : Nat} {vs2 vs : List Value} {ℓ2 ℓ : List LRow} {oP : Obj} {kP : List LRow} {due : Value} {Q : Value → Shared → Prop} {E : Value → Shared → Prop}
    (H : At hd.heap_39 w mean mg mb A cn cs a ccd outer A₀ base h₀ L m s 20) (N : News h₀ L s.heap news) (m1 : (lg, listOf #[.none, .ref l1, .ref l2, .ref l3] n) ∈ news) (m2 : (l2, listOf vs2.toArray n2) ∈ news) (m3 : (l1, listOf vs.toArray n1) ∈ news) (m4 : (dP, oP) ∈ news) (hdP : oP.IsDictOf (bytesKind PySem.Challenge.rw_ad6016_01.row.prog w) kP)
    (lP : (dP == sysModules) = false) (hR2 : RowsAre h₀ vs2 ℓ2) (hR : RowsAre h₀ vs ℓ) (hz2 : ℓ2.length ≤ sizeLine) (hz : ℓ.length ≤ sizeLine) (hvk2 : ∀ r ∈ ℓ2, Vk (some r.2)) (hvk : ∀ r ∈ ℓ, Vk (some r.2)) (hdv : (look2 (lastOf ℓ2 kb.toList) (lastOf ℓ kb.toList) (valueAt kP kb.toList)).getD .none = due)
    (h : ∀ h' tk, KeepBut [] s.heap h' → Q due { s with heap := h', toks := tk }) : wpAny (model PySem.Challenge.rw_ad6016_01.row.prog w) A (call (.ref 91) [.ref lg, .ref dP, .int 2 tl, .bytes kb t]) Q E s := by
  have hR' := RowsAre.mono (fun a o _ e => H.F.keep a o e) hR
  have hR2' := RowsAre.mono (fun a o _ e => H.F.keep a o e) hR2
  exact told2 H (fun p hp => by
    simp only [List.mem_cons, List.not_mem_nil, or_false] at hp
    rcases hp with rfl | rfl | rfl | rfl
    · exact N _ m1
    · exact N _ m2
    · exact N _ m3
    · exact N _ m4) hdP lP hR2' (by rw [hR2.length]; exact hz2) hR' (by rw [hR.length]; exact hz) _ _ _ rfl rfl rfl (lastOf_vk hvk2) (lastOf_vk hvk) (fun h' tk k => by rw [hdv]; exact h h' tk k)
theorem asked1N {w : World} {mean : ExcName → Option Value} {mg mb : Str → Option Value} {A : Around} {cn : Str} {cs : Scope} {a : Addr} {ccd : Value} {outer : List Env} {A₀ : Around} {base h₀ : Heap} {L : Addr} {m : Str → Option Value}
    {s : Shared} {news : List (Addr × Obj)} {kb : Array UInt8} {t : Nat} {x d c dB : Addr} {t1 t2 n : Nat} {due : Value} {oc oB : Obj} {ℓ kB : List LRow} {Q : Value → Shared → Prop} {E : Value → Shared → Prop}
    (H : At hd.heap_39 w mean mg mb A cn cs a ccd outer A₀ base h₀ L m s 20) (N : News h₀ L s.heap news) (m1 : (x, instObj 67 d) ∈ news) (m2 : (d, dictOf (wrE w t1 t2 (.ref dB) c) n) ∈ news) (m3 : (c, oc) ∈ news) (m4 : (dB, oB) ∈ news) (hdc : oc.IsDictOf (bytesKind PySem.Challenge.rw_ad6016_01.row.prog w) (puts [] ℓ)) (hdB : oB.IsDictOf (bytesKind PySem.Challenge.rw_ad6016_01.row.prog w) kB)
    (lc : (c == sysModules) = false) (lB : (dB == sysModules) = false) (hvk : ∀ r ∈ ℓ, Vk (some r.2)) (hdue : Due (look1 (lastOf ℓ kb.toList) (valueAt kB kb.toList)) due)
    (h : ∀ h' tk, Turned ((envOf cn cs L a ccd :: outer).filterMap (·.frame)) s.heap h' → Q (.bool true) { s with heap := h', toks := tk }) : wpAny (model PySem.Challenge.rw_ad6016_01.row.prog w) A (call (.ref 105) [.ref x, .bytes kb t, due]) Q E s :=
  asked1 H (fun p hp => by
    simp only [List.mem_cons, List.not_mem_nil, or_false] at hp
    rcases hp with rfl | rfl | rfl | rfl
    · exact N _ m1
    · exact N _ m2
    · exact N _ m3
    · exact N _ m4) hdc hdB lc lB _ _ (puts_last _ _) rfl (lastOf_vk hvk) hdue h
theorem asked2N {w : World} {mean : ExcName → Option Value} {mg mb : Str → Option Value} {A : Around} {cn : Str} {cs : Scope} {a : Addr} {ccd : Value} {outer : List Env} {A₀ : Around} {base h₀ : Heap} {L : Addr} {m : Str → Option Value}
    {s : Shared} {news : List (Addr × Obj)} {kb : Array UInt8} {t : Nat} {x d c x1 d1 c1 dB : Addr} {t1 t2 n t3 t4 n1 : Nat} {due : Value} {oc oc1 oB : Obj} {ℓ ℓ1 kB : List LRow} {Q : Value → Shared → Prop} {E : Value → Shared → Prop}
    (H : At hd.heap_39 w mean mg mb A cn cs a ccd outer A₀ base h₀ L m s 30) (N : News h₀ L s.heap news) (m1 : (x, instObj 67 d) ∈ news) (m2 : (d, dictOf (wrE w t1 t2 (.ref x1) c) n) ∈ news) (m3 : (c, oc) ∈ news) (m4 : (x1, instObj 67 d1) ∈ news) (m5 : (d1, dictOf (wrE w t3 t4 (.ref dB) c1) n1) ∈ news) (m6 : (c1, oc1) ∈ news) (m7 : (dB, oB) ∈ news) (hdc : oc.IsDictOf (bytesKind PySem.Challenge.rw_ad6016_01.row.prog w) (puts [] ℓ)) (hdc1 : oc1.IsDictOf (bytesKind PySem.Challenge.rw_ad6016_01.row.prog w) (puts [] ℓ1)) (hdB : oB.IsDictOf (bytesKind PySem.Challenge.rw_ad6016_01.row.prog w) kB)
    (lc : (c == sysModules) = false) (lc1 : (c1 == sysModules) = false) (lB : (dB == sysModules) = false) (hvk : ∀ r ∈ ℓ, Vk (some r.2)) (hvk1 : ∀ r ∈ ℓ1, Vk (some r.2)) (hdue : Due (look2 (lastOf ℓ kb.toList) (lastOf ℓ1 kb.toList) (valueAt kB kb.toList)) due)
    (h : ∀ h' tk, Turned ((envOf cn cs L a ccd :: outer).filterMap (·.frame)) s.heap h' → Q (.bool true) { s with heap := h', toks := tk }) : wpAny (model PySem.Challenge.rw_ad6016_01.row.prog w) A (call (.ref 105) [.ref x, .bytes kb t, due]) Q E s :=
  asked2 H (fun p hp => by
    simp only [List.mem_cons, List.not_mem_nil, or_false] at hp
    rcases hp with rfl | rfl | rfl | rfl | rfl | rfl | rfl
    · exact N _ m1
    · exact N _ m2
    · exact N _ m3
    · exact N _ m4
    · exact N _ m5
    · exact N _ m6
    · exact N _ m7) hdc hdc1 hdB lc lc1 lB _ _ _ (puts_last _ _) (puts_last _ _) rfl (lastOf_vk hvk) (lastOf_vk hvk1) hdue h
theorem in1N {w : World} {mean : ExcName → Option Value} {mg mb : Str → Option Value} {A : Around} {cn : Str} {cs : Scope} {a : Addr} {ccd : Value} {outer : List Env} {A₀ : Around} {base h₀ : Heap} {L : Addr} {m : Str → Option Value}
    {s : Shared} {news : List (Addr × Obj)} {kb : Array UInt8} {t : Nat} {x d c dB : Addr} {t1 t2 n : Nat} {b : Bool} {oc oB : Obj} {ℓ kB : List LRow} {Q : Value → Shared → Prop} {E : Value → Shared → Prop}
    (H : At hd.heap_39 w mean mg mb A cn cs a ccd outer A₀ base h₀ L m s 10) (N : News h₀ L s.heap news) (m1 : (x, instObj 67 d) ∈ news) (m2 : (d, dictOf (wrE w t1 t2 (.ref dB) c) n) ∈ news) (m3 : (c, oc) ∈ news) (m4 : (dB, oB) ∈ news) (hdc : oc.IsDictOf (bytesKind PySem.Challenge.rw_ad6016_01.row.prog w) (puts [] ℓ)) (hdB : oB.IsDictOf (bytesKind PySem.Challenge.rw_ad6016_01.row.prog w) kB)
    (lc : (c == sysModules) = false) (lB : (dB == sysModules) = false) (hvk : ∀ r ∈ ℓ, Vk (some r.2)) (hb : (look1 (lastOf ℓ kb.toList) (valueAt kB kb.toList)).isSome = b)
    (h : ∀ h' tk, KeepBut [] s.heap h' → Q (.bool b) { s with heap := h', toks := tk }) : wpAny (model PySem.Challenge.rw_ad6016_01.row.prog w) A (compareOp .In (.bytes kb t) (.ref x)) Q E s :=
  sc_in1 H (fun p hp => by
    simp only [List.mem_cons, List.not_mem_nil, or_false] at hp
    rcases hp with rfl | rfl | rfl | rfl
    · exact N _ m1
    · exact N _ m2
    · exact N _ m3
    · exact N _ m4) hdc hdB lc lB _ _ _ (puts_last _ _) rfl (lastOf_vk hvk) (hb.symm.trans (in_look1 _ _).symm) h
theorem in2N {w : World} {mean : ExcName → Option Value} {mg mb : Str → Option Value} {A : Around} {cn : Str} {cs : Scope} {a : Addr} {ccd : Value} {outer : List Env} {A₀ : Around} {base h₀ : Heap} {L : Addr} {m : Str → Option Value}
    {s : Shared} {news : List (Addr × Obj)} {kb : Array UInt8} {t : Nat} {x d c x1 d1 c1 dB : Addr} {t1 t2 n t3 t4 n1 : Nat} {b : Bool} {oc oc1 oB : Obj} {ℓ ℓ1 kB : List LRow} {Q : Value → Shared → Prop} {E : Value → Shared → Prop}
    (H : At hd.heap_39 w mean mg mb A cn cs a ccd outer A₀ base h₀ L m s 20) (N : News h₀ L s.heap news) (m1 : (x, instObj 67 d) ∈ news) (m2 : (d, dictOf (wrE w t1 t2 (.ref x1) c) n) ∈ news) (m3 : (c, oc) ∈ news) (m4 : (x1, instObj 67 d1) ∈ news) (m5 : (d1, dictOf (wrE w t3 t4 (.ref dB) c1) n1) ∈ news) (m6 : (c1, oc1) ∈ news) (m7 : (dB, oB) ∈ news) (hdc : oc.IsDictOf (bytesKind PySem.Challenge.rw_ad6016_01.row.prog w) (puts [] ℓ)) (hdc1 : oc1.IsDictOf (bytesKind PySem.Challenge.rw_ad6016_01.row.prog w) (puts [] ℓ1)) (hdB : oB.IsDictOf (bytesKind PySem.Challenge.rw_ad6016_01.row.prog w) kB)
    (lc : (c == sysModules) = false) (lc1 : (c1 == sysModules) = false) (lB : (dB == sysModules) = false) (hvk : ∀ r ∈ ℓ, Vk (some r.2)) (hvk1 : ∀ r ∈ ℓ1, Vk (some r.2)) (hb : (look2 (lastOf ℓ kb.toList) (lastOf ℓ1 kb.toList) (valueAt kB kb.toList)).isSome = b)
    (h : ∀ h' tk, KeepBut [] s.heap h' → Q (.bool b) { s with heap := h', toks := tk }) : wpAny (model PySem.Challenge.rw_ad6016_01.row.prog w) A (compareOp .In (.bytes kb t) (.ref x)) Q E s :=
  sc_in2 H (fun p hp => by
    simp only [List.mem_cons, List.not_mem_nil, or_false] at hp
    rcases hp with rfl | rfl | rfl | rfl | rfl | rfl | rfl
    · exact N _ m1
    · exact N _ m2
    · exact N _ m3
    · exact N _ m4
    · exact N _ m5
    · exact N _ m6
    · exact N _ m7) hdc hdc1 hdB lc lc1 lB _ _ _ _ (puts_last _ _) (puts_last _ _) rfl (lastOf_vk hvk) (lastOf_vk hvk1) (hb.symm.trans (in_look2 _ _ _).symm) h
theorem fresh_L {h g h' : Heap} {L' : Addr} {m : Str → Option Value} {news : List (Addr × Obj)} (hG : KeepBut (news.map (·.1)) h g) (F : Fr g L' h' m) (N : News g L' h' news) : h.get? L' = none := by
  cases z : h.get? L' with
  | none => rfl
  | some o =>
    have z2 := hG L' o z (fun q => by
      obtain ⟨p, hp, e9⟩ := List.mem_map.mp q
      exact (N p hp).2.1 e9)
    exact absurd (Heap.lt_size z2) (Nat.not_lt.mpr F.above)
theorem turned_rest {fs : List Addr} {a g g9 h h'' : Heap} {L L₂ : Addr} {m5 m9 : Str → Option Value} {news9 : List (Addr × Obj)} (x : Turned fs a h) (eL : a.get? L = none) (F5 : Fr g L h m5) (T : KtsTurn fs g g9) (F9 : Fr g9 L h'' m9) (N9 : News g9 L₂ h'' news9) (sub : ∀ p ∈ restOf g L [] h, p ∈ news9) : Turned fs a h'' := by
  refine ⟨fun b o e n => ?_, fun b o e => ?_⟩
  · have h1 := x.other b o e n
    cases q : g.get? b with
    | some o2 =>
      have h2 := F5.keep b o2 q
      rw [h1] at h2
      have e2 : o = o2 := Option.some.inj h2
      exact F9.keep b o (T.other b o (e2 ▸ q) n)
    | none =>
      exact (N9 _ (sub (b, o) (mem_restOf.mpr ⟨fun z => (nomatch z), (fun z => by rw [← z, e] at eL; cases eL), q, h1⟩))).1
  · obtain ⟨sl, h1⟩ := x.up b o e
    cases q : g.get? b with
    | some o2 =>
      have h2 := F5.keep b o2 q
      rw [h1] at h2
      have e2 : { o with slots := sl } = o2 := Option.some.inj h2
      by_cases n : b ∈ fs
      · obtain ⟨sl2, h3⟩ := T.frame b o2 q n
        exact ⟨sl2, by have := F9.keep b _ h3; rw [← e2] at this; exact this⟩
      · exact ⟨sl, F9.keep b _ (T.other b _ (e2 ▸ q) n)⟩
    | none =>
      exact ⟨sl, (N9 _ (sub (b, _) (mem_restOf.mpr ⟨fun z => (nomatch z), (fun z => by rw [← z, e] at eL; cases eL), q, h1⟩))).1⟩
def GroundAt (Kf : Params → Frag) (w : World) (mean : ExcName → Option Value) (mg mb : Str → Option Value) (A : Around) (base : Heap) (envs : List Env) (g : Heap) : Prop :=
  Below A base envs g ∧ Frag.In (Kf w.params) g ∧ Top hd.view_39 (looseW hd.view_39 [Str.ofString "_law_keys"]) mean mg mb g ∧ KtsDicts (envs.filterMap (·.frame)) g
/-- what holds between two turns of a loop that asks -/
structure JT (Kf : Params → Frag) (w : World) (mean : ExcName → Option Value) (mg mb : Str → Option Value) (A : Around) (base : Heap) (envs : List Env) (a : Heap) (L : Addr) (led : List (Addr × Obj)) (its : List Addr) (vs1 : List Value) (ℓ1 : List LRow) (vs2 : List Value) (ℓ2 : List LRow) (vs3 : List Value) (ℓ3 : List LRow) (g h : Heap) : Prop where
  G : GroundAt Kf w mean mg mb A base envs g
  U : Turned (envs.filterMap (·.frame)) a h
  I : ∀ b ∈ its, g.get? b = none
  N : News g L h led
  R1 : RowsAre g vs1 ℓ1
  R2 : RowsAre g vs2 ℓ2
  R3 : RowsAre g vs3 ℓ3
section
variable {Kf : Params → Frag} {w : World} {mean : ExcName → Option Value} {mg mb : Str → Option Value} {A : Around} {base : Heap} {envs : List Env} {a : Heap} {L : Addr} {led : List (Addr × Obj)} {its : List Addr} {vs1 : List Value} {ℓ1 : List LRow} {vs2 : List Value} {ℓ2 : List LRow} {vs3 : List Value} {ℓ3 : List LRow} {g h : Heap}
theorem JT.stable {h' : Heap} {wr : List Addr} (J : JT Kf w mean mg mb A base envs a L led its vs1 ℓ1 vs2 ℓ2 vs3 ℓ3 g h) (eL : a.get? L = none) (hw : ∀ b ∈ wr, a.get? b = none) (hn : ∀ p ∈ led, p.1 ∉ wr) (up : ∀ b o, b ≠ L → b ∉ wr → h.get? b = some o → h'.get? b = some o) : JT Kf w mean mg mb A base envs a L led its vs1 ℓ1 vs2 ℓ2 vs3 ℓ3 g h' := by
  have nL : ∀ b o, a.get? b = some o → b ≠ L := fun b o e q => by rw [q, eL] at e; cases e
  have nw : ∀ b o, a.get? b = some o → b ∉ wr := fun b o e q => by rw [hw b q] at e; cases e
  refine ⟨J.G, ⟨fun b o e n => up b o (nL b o e) (nw b o e) (J.U.other b o e n), fun b o e => ?_⟩, J.I, fun p hp => ⟨up _ _ (J.N p hp).2.1 (hn p hp) (J.N p hp).1, (J.N p hp).2⟩, J.R1, J.R2, J.R3⟩
  obtain ⟨sl, h1⟩ := J.U.up b o e
  exact ⟨sl, up b _ (nL b o e) (nw b o e) h1⟩
theorem JT.turn {led' : List (Addr × Obj)} {its' : List Addr} {g9 h'' : Heap} {m5 m9 : Str → Option Value} {news9 : List (Addr × Obj)} (J : JT Kf w mean mg mb A base envs a L led its vs1 ℓ1 vs2 ℓ2 vs3 ℓ3 g h) (eL : a.get? L = none) (F5 : Fr g L h m5) (T : KtsTurn (envs.filterMap (·.frame)) g g9) (F9 : Fr g9 L h'' m9) (N9 : News g9 L h'' news9) (G9 : GroundAt Kf w mean mg mb A base envs g9)
    (sub : ∀ p ∈ restOf g L [] h, p ∈ news9) (sub2 : ∀ p ∈ led', p ∈ news9) (hits : ∀ b ∈ its', g9.get? b = none) : JT Kf w mean mg mb A base envs a L led' its' vs1 ℓ1 vs2 ℓ2 vs3 ℓ3 g9 h'' :=
  ⟨G9, turned_rest J.U eL F5 T F9 N9 sub, hits, fun p hp => N9 p (sub2 p hp), rows_turn J.R1 T J.G.2.2.2, rows_turn J.R2 T J.G.2.2.2, rows_turn J.R3 T J.G.2.2.2⟩
end
theorem names3 {a b c : Str} {v : Value} {u m₀ : Str → Option Value} : (fun y => if y = a then some v else if [a, b, c].contains y = true then u y else m₀ y) = fun y => if y = a then some v else if y = b then u b else if y = c then u c else m₀ y := by
  funext y
  by_cases ha : y = a
  · rw [if_pos ha, if_pos ha]
  · rw [if_neg ha, if_neg ha]
    by_cases hb : y = b
    · subst hb; rw [if_pos (by simp), if_pos rfl]
    · rw [if_neg hb]
      by_cases hc : y = c
      · subst hc; rw [if_pos (by simp), if_pos rfl]
      · rw [if_neg hc, if_neg (by simp [ha, hb, hc])]
theorem names2' {a b : Str} {v : Value} {u m₀ : Str → Option Value} : (fun y => if y = a then some v else if [a, b].contains y = true then u y else m₀ y) = fun y => if y = a then some v else if y = b then u b else m₀ y := by
  funext y
  by_cases ha : y = a
  · rw [if_pos ha, if_pos ha]
  · rw [if_neg ha, if_neg ha]
    by_cases hb : y = b
    · subst hb; rw [if_pos (by simp), if_pos rfl]
    · rw [if_neg hb, if_neg (by simp [ha, hb])]
theorem after3 {a b c : Str} {u m₀ : Str → Option Value} : (fun y => if [a, b, c].contains y = true then u y else m₀ y) = fun y => if y = a then u a else if y = b then u b else if y = c then u c else m₀ y := by
  funext y
  by_cases ha : y = a
  · subst ha; rw [if_pos (by simp), if_pos rfl]
  · rw [if_neg ha]
    by_cases hb : y = b
    · subst hb; rw [if_pos (by simp), if_pos rfl]
    · rw [if_neg hb]
      by_cases hc : y = c
      · subst hc; rw [if_pos (by simp), if_pos rfl]
      · rw [if_neg hc, if_neg (by simp [ha, hb, hc])]
theorem fresh_it {fs : List Addr} {a g h : Heap} {L it : Addr} {m : Str → Option Value} {news : List (Addr × Obj)} (U : Turned fs a h) (eL : a.get? L = none) (F : Fr g L h m) (no : g.get? it = none) (lt : ∀ p ∈ news, p.1 < it) (sub : ∀ p ∈ restOf g L [] h, p ∈ news) : a.get? it = none := by
  cases z : a.get? it with
  | none => rfl
  | some o =>
    obtain ⟨sl, h1⟩ := U.up it o z
    exact absurd (lt _ (sub (it, _) (mem_restOf.mpr ⟨fun q => (nomatch q), (fun q => by rw [show it = L from q, eL] at z; cases z), no, h1⟩))) (Nat.lt_irrefl _)
theorem keep_rest {fs : List Addr} {g g9 h h'' : Heap} {L L₂ : Addr} {m5 m9 : Str → Option Value} {news9 : List (Addr × Obj)} (F5 : Fr g L h m5) (T : KtsTurn fs g g9) (F9 : Fr g9 L h'' m9) (N9 : News g9 L₂ h'' news9) (sub : ∀ p ∈ restOf g L [] h, p ∈ news9) : ∀ b o, b ≠ L → b ∉ fs → h.get? b = some o → h''.get? b = some o := by
  intro b o nL n h1
  cases q : g.get? b with
  | some o2 =>
    have h2 := F5.keep b o2 q
    rw [h1] at h2
    have e2 : o = o2 := Option.some.inj h2
    exact F9.keep b o (T.other b o (e2 ▸ q) n)
  | none => exact (N9 _ (sub (b, o) (mem_restOf.mpr ⟨fun z => (nomatch z), nL, q, h1⟩))).1
theorem not_frame {fs : List Addr} {g : Heap} {b : Addr} (D : KtsDicts fs g) (h : g.get? b = none ∨ ∃ items n, g.get? b = some (listOf items n)) : b ∉ fs := by
  intro q
  obtain ⟨o, es, n, ho, hd⟩ := D b q
  rcases h with h | ⟨items, k, h⟩
  · rw [ho] at h; cases h
  · rw [ho] at h; cases h; cases hd
def SimAt (b p : Option Value) : Prop := (b = none ∧ p = none) ∨ ∃ x t u, b = some (.bytes x t) ∧ p = some (.bytes x u)
theorem due1 {vc b p : Option Value} (hv : Vk vc) (h : SimAt b p) : Due (look1 vc b) ((look1 vc p).getD .none) := by
  rcases hv with rfl | rfl | ⟨bb, tt, rfl⟩
  · rcases h with ⟨rfl, rfl⟩ | ⟨x, t, u, rfl, rfl⟩
    · exact .inl ⟨rfl, rfl⟩
    · exact .inr ⟨x, t, u, rfl, rfl⟩
  · rcases h with ⟨rfl, rfl⟩ | ⟨x, t, u, rfl, rfl⟩
    · exact .inl ⟨rfl, rfl⟩
    · exact .inr ⟨x, t, u, rfl, rfl⟩
  · exact .inr ⟨bb, tt, tt, rfl, rfl⟩
theorem due2 {vc v1 b p : Option Value} (hv : Vk vc) (hv1 : Vk v1) (h : SimAt b p) : Due (look2 vc v1 b) ((look2 vc v1 p).getD .none) := by
  rcases hv with rfl | rfl | ⟨bb, tt, rfl⟩
  · exact due1 hv1 h
  · exact due1 hv1 h
  · exact .inr ⟨bb, tt, tt, rfl, rfl⟩
end
section
theorem puts_append (a b acc : List LRow) : puts acc (a ++ b) = puts (puts acc a) b := by
  unfold puts; rw [List.foldl_append]
theorem puts_kept : ∀ (rows acc : List LRow), puts acc (kept rows) = applied false rows acc
  | [], _ => rfl
  | r :: rows, acc => by
    have ih := puts_kept rows
    obtain ⟨k, v⟩ := r
    have e : applied false ((k, v) :: rows) acc = applied false rows (app1 false acc (k, v)) := rfl
    rw [e, ← ih]
    cases v <;> rfl
theorem commit2 (ℓ1 ℓ2 : List LRow) : puts [] (ℓ1 ++ kept (puts [] ℓ2)) = applied false (puts [] ℓ2) (puts [] ℓ1) := by
  rw [puts_append, puts_kept]
theorem kept_len (rs : List LRow) : (kept rs).length ≤ rs.length := List.length_filter_le _ _
theorem kept_vk {rs : List LRow} (h : ∀ r ∈ rs, Vk (some r.2)) : ∀ r ∈ kept rs, Vk (some r.2) := fun r hr => h r (List.mem_filter.mp hr).1

/-- the same keys, with the same bytes -/
inductive Sim : List LRow → List LRow → Prop
  | nil : Sim [] []
  | cons {k : List UInt8} {x : Array UInt8} {t u : Tok} {a b : List LRow} : Sim a b → Sim ((k, .bytes x t) :: a) ((k, .bytes x u) :: b)
theorem Sim.length {a b : List LRow} (h : Sim a b) : a.length = b.length := by
  induction h with
  | nil => rfl
  | cons _ ih => rw [List.length_cons, List.length_cons, ih]
theorem Sim.at {a b : List LRow} (h : Sim a b) (k : List UInt8) : SimAt (valueAt a k) (valueAt b k) := by
  induction h with
  | nil => exact .inl ⟨rfl, rfl⟩
  | @cons k' x t u a b _ ih =>
    unfold valueAt at ih ⊢
    rw [List.find?_cons, List.find?_cons]
    by_cases e : k' = k
    · simp only [e, decide_true]
      exact .inr ⟨x, t, u, rfl, rfl⟩
    · simp only [e, decide_false]
      exact ih
theorem Sim.any {a b : List LRow} (h : Sim a b) (k : List UInt8) : (a.any fun kv => decide (kv.1 = k)) = b.any fun kv => decide (kv.1 = k) := by
  induction h with
  | nil => rfl
  | cons _ ih => rw [List.any_cons, List.any_cons, ih]
theorem Sim.append {a b c d : List LRow} (h : Sim a b) (h' : Sim c d) : Sim (a ++ c) (b ++ d) := by
  induction h with
  | nil => exact h'
  | cons _ ih => exact .cons ih
theorem Sim.stored {a b : List LRow} (h : Sim a b) (k : List UInt8) (x : Array UInt8) (t u : Tok) : Sim (stored a k (.bytes x t)) (stored b k (.bytes x u)) := by
  unfold PySem.stored
  rw [h.any k]
  split
  · rename_i h9; clear h9
    induction h with
    | nil => exact .nil
    | @cons k' y t' u' a b _ ih =>
      rw [List.map_cons, List.map_cons]
      by_cases e : k' = k
      · simp only [e, if_true]; exact .cons ih
      · simp only [e, if_false]; exact .cons ih
  · exact h.append (.cons .nil)
theorem Sim.without {a b : List LRow} (h : Sim a b) (k : List UInt8) : Sim (without a k) (without b k) := by
  unfold PySem.without
  induction h with
  | nil => exact .nil
  | @cons k' y t' u' a b _ ih =>
    rw [List.filter_cons, List.filter_cons]
    by_cases e : k' = k
    · simp only [e, ne_eq, not_true_eq_false, decide_false, Bool.false_eq_true, if_false]; exact ih
    · simp only [e, ne_eq, not_false_eq_true, decide_true, if_true]; exact .cons ih
theorem Sim.applied {dd : Bool} {rows : List LRow} (hv : ∀ r ∈ rows, Vk (some r.2)) : ∀ {a b : List LRow}, Sim a b → Sim (applied dd rows a) (applied dd rows b) := by
  induction rows with
  | nil => intro a b h; exact h
  | cons r rows ih =>
    intro a b h
    refine ih (fun q hq => hv q (.tail _ hq)) (a := app1 dd a r) (b := app1 dd b r) ?_
    obtain ⟨k, v⟩ := r
    rcases hv (k, v) (.head _) with e | e | ⟨bb, tt, e⟩
    · cases e
    · have e : v = .none := Option.some.inj e
      subst e
      show Sim (if dd = true then PySem.without a k else a) (if dd = true then PySem.without b k else b)
      cases dd
      · exact h
      · exact h.without k
    · have e : v = .bytes bb tt := Option.some.inj e
      subst e
      exact h.stored k bb tt tt
theorem Sim.hits {A : Around} {s : Shared} {a b : List LRow} (h : Sim a b) (hn : (a.map (·.1)).Nodup) : KeqHits A s b a true := by
  have key : ∀ c : List LRow, (∀ r ∈ c, r ∈ a) → KeqHits A s b c true := by
    intro c
    induction c with
    | nil => intro _; exact .nil
    | cons r c ih =>
      intro hc
      obtain ⟨k, v⟩ := r
      have hm := hc (k, v) (.head _)
      obtain ⟨i, hi⟩ := List.mem_iff_getElem?.mp hm
      have hva := valueAt_row hi hn
      rcases h.at k with ⟨e, _⟩ | ⟨x, t, u, e1, e2⟩
      · rw [hva] at e; cases e
      · rw [hva] at e1; cases e1
        have := KeqHits.hit (A := A) (s := s) (kb := b) (k := k) (v := .bytes x t) (r := c) (e := true) (b := true) e2 (fun prog w E Q hq => eqBool_bytes (by simpa using hq)) (ih fun r hr => hc r (.tail _ hr))
        simpa using this
  exact key a fun _ hr => hr
theorem dict_nodup {prog : Program} {w : World} {o : Obj} {kvs : List LRow} (h : o.IsDictOf (bytesKind prog w) kvs) : (kvs.map (·.1)).Nodup := let ⟨_, _, _, _, _, _, hn⟩ := h; hn
end
section
/-- the places that stay -/
structure Fx where
  x1 : Addr
  d1 : Addr
  x2 : Addr
  d2 : Addr
  x3 : Addr
  d3 : Addr
  dB : Addr
  dP : Addr
  lg : Addr
  tr : Addr
  t11 : Nat
  t12 : Nat
  n1 : Nat
  t21 : Nat
  t22 : Nat
  n2 : Nat
  t31 : Nat
  t32 : Nat
  n3 : Nat
  qt : Nat
/-- what turns, as the law sees it -/
structure Mv where
  l1 : Addr
  l2 : Addr
  l3 : Addr
  K1 : List LRow
  K2 : List LRow
  K3 : List LRow
  r1 : List LRow
  r2 : List LRow
  r3 : List LRow
  kB : List LRow
  kP : List LRow
/-- what turns, as the heap bears it -/
structure Cv where
  c1 : Addr
  c2 : Addr
  c3 : Addr
  o1 : Obj
  o2 : Obj
  o3 : Obj
  oB : Obj
  oP : Obj
  v1 : List Value
  v2 : List Value
  v3 : List Value
  q1 : Nat
  q2 : Nat
  q3 : Nat
  ql : Nat
def led (w : World) (fx : Fx) (st : Mv) (cv : Cv) : List (Addr × Obj) :=
  [(fx.x1, instObj 67 fx.d1), (fx.d1, dictOf (wrE w fx.t11 fx.t12 (.ref fx.dB) cv.c1) fx.n1), (cv.c1, cv.o1), (fx.x2, instObj 67 fx.d2), (fx.d2, dictOf (wrE w fx.t21 fx.t22 (.ref fx.x1) cv.c2) fx.n2), (cv.c2, cv.o2), (fx.x3, instObj 67 fx.d3), (fx.d3, dictOf (wrE w fx.t31 fx.t32 (.ref fx.dB) cv.c3) fx.n3), (cv.c3, cv.o3), (fx.dB, cv.oB), (fx.dP, cv.oP), (st.l1, listOf cv.v1.toArray cv.q1), (st.l2, listOf cv.v2.toArray cv.q2), (st.l3, listOf cv.v3.toArray cv.q3), (fx.lg, listOf #[.none, .ref st.l1, .ref st.l2, .ref st.l3] cv.ql), (fx.tr, listOf #[.none, .ref fx.x1, .ref fx.x2, .ref fx.x3] fx.qt)]
def adr (fx : Fx) (st : Mv) (cv : Cv) : List Addr :=
  [fx.x1, fx.d1, cv.c1, fx.x2, fx.d2, cv.c2, fx.x3, fx.d3, cv.c3, fx.dB, fx.dP, st.l1, st.l2, st.l3, fx.lg, fx.tr]
theorem led_adr {w : World} {fx : Fx} {st : Mv} {cv : Cv} : (led w fx st cv).map (·.1) = adr fx st cv := rfl
structure InvAt (w : World) (fx : Fx) (st : Mv) (cv : Cv) (its : List Addr) (hb g : Heap) (L : Addr) (h : Heap) : Prop where
  N : News g L h (led w fx st cv)
  nd : (adr fx st cv).Nodup
  ap : ∀ b ∈ its, b ∉ adr fx st cv ∧ b ≠ L ∧ g.get? b = none ∧ ∃ o, hb.get? b = some o ∧ h.get? b = some o
  D1 : cv.o1.IsDictOf (bytesKind PySem.Challenge.rw_ad6016_01.row.prog w) st.K1
  D2 : cv.o2.IsDictOf (bytesKind PySem.Challenge.rw_ad6016_01.row.prog w) st.K2
  D3 : cv.o3.IsDictOf (bytesKind PySem.Challenge.rw_ad6016_01.row.prog w) st.K3
  DB : cv.oB.IsDictOf (bytesKind PySem.Challenge.rw_ad6016_01.row.prog w) st.kB
  DP : cv.oP.IsDictOf (bytesKind PySem.Challenge.rw_ad6016_01.row.prog w) st.kP
  lo1 : (cv.c1 == sysModules) = false
  lo2 : (cv.c2 == sysModules) = false
  lo3 : (cv.c3 == sysModules) = false
  loB : (fx.dB == sysModules) = false
  loP : (fx.dP == sysModules) = false
  R1 : RowsAre h cv.v1 st.r1
  R2 : RowsAre h cv.v2 st.r2
  R3 : RowsAre h cv.v3 st.r3
  O1 : RowsOff [L] cv.v1
  O2 : RowsOff [L] cv.v2
  O3 : RowsOff [L] cv.v3
theorem nd_ne {l : List Addr} (nd : l.Nodup) {i j : Nat} {a b : Addr} (hi : l[i]? = some a) (hj : l[j]? = some b) (hij : i ≠ j) : a ≠ b := by
  obtain ⟨h1, e1⟩ := List.getElem?_eq_some_iff.mp hi
  obtain ⟨h2, e2⟩ := List.getElem?_eq_some_iff.mp hj
  have p := List.pairwise_iff_getElem.mp nd
  rcases Nat.lt_or_gt_of_ne hij with q | q
  · exact e1 ▸ e2 ▸ p i j h1 h2 q
  · exact e1 ▸ e2 ▸ Ne.symm (p j i h2 h1 q)
theorem nd_set {c : Addr} : ∀ {l : List Addr} (_ : l.Nodup) (_ : c ∉ l) (i : Nat), (l.set i c).Nodup
  | [], _, _, _ => List.nodup_nil
  | a :: l, nd, h, 0 => by
    rw [List.nodup_cons] at nd
    exact List.nodup_cons.mpr ⟨fun q => h (.tail _ q), nd.2⟩
  | a :: l, nd, h, i + 1 => by
    rw [List.nodup_cons] at nd
    refine List.nodup_cons.mpr ⟨fun q => ?_, nd_set nd.2 (fun q => h (.tail _ q)) i⟩
    rcases List.mem_or_eq_of_mem_set q with q | q
    · exact nd.1 q
    · exact h (q ▸ .head _)
theorem nd_pick {l : List Addr} (nd : l.Nodup) {l' : List Addr} (idx : List Nat) (hi : idx.Nodup) (e : idx.map (fun i => l[i]?) = l'.map some) : l'.Nodup := by
  induction l' generalizing idx with
  | nil => exact List.nodup_nil
  | cons a l' ih =>
    cases idx with
    | nil => cases e
    | cons i idx =>
      rw [List.map_cons, List.map_cons, List.cons.injEq] at e
      rw [List.nodup_cons] at hi
      refine List.nodup_cons.mpr ⟨fun q => ?_, ih idx hi.2 e.2⟩
      have q2 : some a ∈ l'.map some := List.mem_map.mpr ⟨a, q, rfl⟩
      rw [← e.2] at q2
      obtain ⟨j, hj, ej⟩ := List.mem_map.mp q2
      exact nd_ne nd e.1 ej (fun z => hi.1 (z ▸ hj)) rfl
theorem sets_mem {p : Addr × Obj} : ∀ {us : List (Nat × Addr × Obj)} {l : List (Addr × Obj)}, p ∈ us.foldl (fun l u => l.set u.1 u.2) l → (∃ u ∈ us, p = u.2) ∨ ∃ j, l[j]? = some p ∧ ∀ u ∈ us, u.1 ≠ j
  | [], l, h => by
    obtain ⟨j, hj⟩ := List.mem_iff_getElem?.mp h
    exact .inr ⟨j, hj, fun _ q => nomatch q⟩
  | u :: us, l, h => by
    rcases sets_mem (us := us) (l := l.set u.1 u.2) h with ⟨u', hu', e⟩ | ⟨j, hj, hn⟩
    · exact .inl ⟨u', .tail _ hu', e⟩
    · by_cases q : u.1 = j
      · rw [List.getElem?_set, if_pos q] at hj
        split at hj
        · exact .inl ⟨u, .head _, (Option.some.inj hj).symm⟩
        · cases hj
      · rw [List.getElem?_set, if_neg q] at hj
        exact .inr ⟨j, hj, fun u' hu' => by
          rcases List.mem_cons.mp hu' with z | z
          · rw [z]; exact q
          · exact hn u' z⟩
theorem news_sets {g h h' : Heap} {L : Addr} {l : List (Addr × Obj)} {S : List Addr} (N : News g L h l) (nd : (l.map (·.1)).Nodup) (K : KeepBut S h h') (us : List (Nat × Addr × Obj)) (hS : ∀ b ∈ S, ∃ u ∈ us, (l.map (·.1))[u.1]? = some b)
    (hu : ∀ u ∈ us, h'.get? u.2.1 = some u.2.2 ∧ u.2.1 ≠ L ∧ g.get? u.2.1 = none) : News g L h' (us.foldl (fun l u => l.set u.1 u.2) l) := fun p hp => by
  rcases sets_mem hp with ⟨u, h1, rfl⟩ | ⟨j, hj, hn⟩
  · exact hu u h1
  · have hp2 := List.mem_of_getElem? hj
    refine ⟨K _ _ (N p hp2).1 (fun q => ?_), (N p hp2).2⟩
    obtain ⟨u, h1, e⟩ := hS _ q
    exact nd_ne nd e (j := j) (b := p.1) (by rw [List.getElem?_map, hj]; rfl) (hn u h1) rfl
theorem ledP {w : World} {fx : Fx} {st : Mv} {cv : Cv} {p : Addr × Obj} (i : Nat) (h : (led w fx st cv)[i]? = some p) : p ∈ led w fx st cv := List.mem_of_getElem? h
theorem InvAt.live {w : World} {fx : Fx} {st : Mv} {cv : Cv} {its : List Addr} {hb g h : Heap} {L : Addr} (_ : InvAt w fx st cv its hb g L h) {b : Addr} (hb : b ∈ adr fx st cv) : (∃ o, (b, o) ∈ led w fx st cv) := by
  rw [← led_adr (w := w)] at hb
  obtain ⟨p, hp, e⟩ := List.mem_map.mp hb
  exact ⟨p.2, e ▸ hp⟩
theorem InvAt.off {w : World} {fx : Fx} {st : Mv} {cv : Cv} {its : List Addr} {hb g h : Heap} {L : Addr} (I : InvAt w fx st cv its hb g L h) : ∀ b ∈ adr fx st cv, ∀ o, h.get? b = some o → o.cls ≠ .type "tuple" := by
  rw [← led_adr (w := w)]
  have hD1 := dict_cls I.D1
  have hD2 := dict_cls I.D2
  have hD3 := dict_cls I.D3
  have hDB := dict_cls I.DB
  have hDP := dict_cls I.DP
  refine off_of I.N ?_
  intro p hp
  simp only [led, List.mem_cons, List.not_mem_nil, or_false] at hp
  rcases hp with rfl | rfl | rfl | rfl | rfl | rfl | rfl | rfl | rfl | rfl | rfl | rfl | rfl | rfl | rfl | rfl
  all_goals first
    | assumption
    | (show Value.ref _ ≠ Value.type "tuple"; exact fun x => nomatch x)
    | (show Value.type "dict" ≠ Value.type "tuple"; decide)
    | (show Value.type "list" ≠ Value.type "tuple"; decide)
theorem InvAt.up {w : World} {fx : Fx} {st : Mv} {cv : Cv} {its : List Addr} {hb g h h' : Heap} {L : Addr} (I : InvAt w fx st cv its hb g L h) (up : ∀ b o, b ≠ L → h.get? b = some o → h'.get? b = some o) : InvAt w fx st cv its hb g L h' := by
  have k : ∀ b o, b ∉ [L] → h.get? b = some o → h'.get? b = some o := fun b o n e => up b o (fun q => n (q ▸ .head _)) e
  exact { I with
    N := fun p hp => ⟨up _ _ (I.N p hp).2.1 (I.N p hp).1, (I.N p hp).2⟩
    ap := fun b hb => let ⟨a1, a2, a3, o, a4, a5⟩ := I.ap b hb; ⟨a1, a2, a3, o, a4, up b o a2 a5⟩
    R1 := RowsAre.stay k I.R1 I.O1
    R2 := RowsAre.stay k I.R2 I.O2
    R3 := RowsAre.stay k I.R3 I.O3 }
theorem off_ns {g h : Heap} {L : Addr} {m : Str → Option Value} (F : Fr g L h m) {vs : List Value} {rs : List LRow} (R : RowsAre h vs rs) : RowsOff [L] vs := R.off fun _ hb o e _ hd => ns_off F.ns o (List.mem_singleton.mp hb ▸ e) hd
/-- the invariant stood at an earlier heap of the same ground, of which all is in the ledger -/
def Wit (w : World) (fx : Fx) (st : Mv) (its : List Addr) (hb g : Heap) (L : Addr) (own : List (Addr × Obj)) : Prop :=
  ∃ cv h0 m0, Fr g L h0 m0 ∧ own = restOf g L [] h0 ∧ InvAt w fx st cv its hb g L h0
section
variable {w : World} {fx : Fx} {st st' : Mv} {cv cv' : Cv} {its : List Addr} {hb g h h' : Heap} {L : Addr} {own news : List (Addr × Obj)} {m : Str → Option Value} {S : List Addr}
theorem Wit.here (W : Wit w fx st its hb g L own) (F : Fr g L h m) (N : News g L h news) (sub : ∀ p ∈ own, p ∈ news) : ∃ cv, InvAt w fx st cv its hb g L h := by
  obtain ⟨cv, h0, m0, F0, e, I⟩ := W
  refine ⟨cv, I.up fun b o bL eb => ?_⟩
  exact rest_keep (W := []) F0.keep F N (e ▸ sub) b o bL (fun q => nomatch q) eb
theorem InvAt.wit (I : InvAt w fx st cv its hb g L h) (F : Fr g L h m) : Wit w fx st its hb g L (restOf g L [] h) := ⟨cv, h, m, F, rfl, I⟩
theorem fr_buts (F : Fr g L h m) (K : KeepBut S h h') (hS : ∀ b ∈ S, b ≠ L ∧ g.get? b = none) : Fr g L h' m :=
  ⟨F.ns.at' fun o e => K _ o e (fun q => (hS _ q).1 rfl), fun b o e => K b o (F.keep b o e) (fun q => by rw [(hS b q).2] at e; cases e), F.above⟩
theorem InvAt.sub_adr (I : InvAt w fx st cv its hb g L h) (hS : ∀ b ∈ S, b ∈ adr fx st cv) : ∀ b ∈ S, b ≠ L ∧ g.get? b = none := fun b hb => by
  obtain ⟨o, ho⟩ := I.live (hS b hb)
  exact (I.N _ ho).2
theorem InvAt.frame (I : InvAt w fx st cv its hb g L h) (F : Fr g L h m) (K : KeepBut S h h') (hS : ∀ b ∈ S, b ∈ adr fx st cv) : Fr g L h' m := fr_buts F K (I.sub_adr hS)
theorem InvAt.rows (I : InvAt w fx st cv its hb g L h) (K : KeepBut S h h') (hS : ∀ b ∈ S, b ∈ adr fx st cv) {vs : List Value} {rs : List LRow} (R : RowsAre h vs rs) : RowsAre h' vs rs := R.keep K fun a ha => I.off a (hS a ha)
/-- a call that writes some of the places, without a new one -/
theorem InvAt.wrote (I : InvAt w fx st cv its hb g L h) (F' : Fr g L h' m) (K : KeepBut S h h') (us : List (Nat × Addr × Obj)) (hS : ∀ b ∈ S, ∃ u ∈ us, (adr fx st cv)[u.1]? = some b) (hu : ∀ u ∈ us, h'.get? u.2.1 = some u.2.2 ∧ (adr fx st cv)[u.1]? = some u.2.1)
    (e : us.foldl (fun l u => l.set u.1 u.2) (led w fx st cv) = led w fx st' cv') (ea : adr fx st' cv' = adr fx st cv)
    (D1 : cv'.o1.IsDictOf (bytesKind PySem.Challenge.rw_ad6016_01.row.prog w) st'.K1) (D2 : cv'.o2.IsDictOf (bytesKind PySem.Challenge.rw_ad6016_01.row.prog w) st'.K2) (D3 : cv'.o3.IsDictOf (bytesKind PySem.Challenge.rw_ad6016_01.row.prog w) st'.K3)
    (DB : cv'.oB.IsDictOf (bytesKind PySem.Challenge.rw_ad6016_01.row.prog w) st'.kB) (DP : cv'.oP.IsDictOf (bytesKind PySem.Challenge.rw_ad6016_01.row.prog w) st'.kP)
    (lo1 : (cv'.c1 == sysModules) = false) (lo2 : (cv'.c2 == sysModules) = false) (lo3 : (cv'.c3 == sysModules) = false)
    (R1 : RowsAre h' cv'.v1 st'.r1) (R2 : RowsAre h' cv'.v2 st'.r2) (R3 : RowsAre h' cv'.v3 st'.r3) : InvAt w fx st' cv' its hb g L h' := by
  have hSa : ∀ b ∈ S, b ∈ adr fx st cv := fun b hb => let ⟨u, _, e⟩ := hS b hb; List.mem_of_getElem? e
  refine ⟨e ▸ news_sets I.N I.nd K us hS (fun u hu' => ?_), ea ▸ I.nd, fun b hb => ?_, D1, D2, D3, DB, DP, lo1, lo2, lo3, I.loB, I.loP, R1, R2, R3, off_ns F' R1, off_ns F' R2, off_ns F' R3⟩
  · obtain ⟨h1, h2⟩ := hu u hu'
    obtain ⟨o, ho⟩ := I.live (List.mem_of_getElem? h2)
    exact ⟨h1, (I.N _ ho).2⟩
  · obtain ⟨a1, a2, a3, o, a4, a5⟩ := I.ap b hb
    exact ⟨ea ▸ a1, a2, a3, o, a4, K b o a5 fun q => a1 (hSa b q)⟩
/-- a commit: two new places -/
theorem InvAt.committed (I : InvAt w fx st cv its hb g L h) (F : Fr g L h m) (F' : Fr g L h' m) (K : KeepBut S h h') (us : List (Nat × Addr × Obj)) {i j : Nat} {c l : Addr} (fc : h.get? c = none) (fl : h.get? l = none) (ncl : l ≠ c)
    (hS : ∀ b ∈ S, ∃ u ∈ us, (adr fx st cv)[u.1]? = some b) (hu : ∀ u ∈ us, h'.get? u.2.1 = some u.2.2 ∧ ((adr fx st cv)[u.1]? = some u.2.1 ∨ u.2.1 = c ∨ u.2.1 = l))
    (e : us.foldl (fun l u => l.set u.1 u.2) (led w fx st cv) = led w fx st' cv') (ea : adr fx st' cv' = ((adr fx st cv).set i c).set j l)
    (D1 : cv'.o1.IsDictOf (bytesKind PySem.Challenge.rw_ad6016_01.row.prog w) st'.K1) (D2 : cv'.o2.IsDictOf (bytesKind PySem.Challenge.rw_ad6016_01.row.prog w) st'.K2) (D3 : cv'.o3.IsDictOf (bytesKind PySem.Challenge.rw_ad6016_01.row.prog w) st'.K3)
    (DB : cv'.oB.IsDictOf (bytesKind PySem.Challenge.rw_ad6016_01.row.prog w) st'.kB) (DP : cv'.oP.IsDictOf (bytesKind PySem.Challenge.rw_ad6016_01.row.prog w) st'.kP)
    (lo1 : (cv'.c1 == sysModules) = false) (lo2 : (cv'.c2 == sysModules) = false) (lo3 : (cv'.c3 == sysModules) = false)
    (R1 : RowsAre h' cv'.v1 st'.r1) (R2 : RowsAre h' cv'.v2 st'.r2) (R3 : RowsAre h' cv'.v3 st'.r3) : InvAt w fx st' cv' its hb g L h' := by
  have hSa : ∀ b ∈ S, b ∈ adr fx st cv := fun b hb => let ⟨u, _, e⟩ := hS b hb; List.mem_of_getElem? e
  obtain ⟨c1, c2, _⟩ := fresh_facts F I.N fc
  obtain ⟨l1, l2, _⟩ := fresh_facts F I.N fl
  have not : ∀ b, h.get? b = none → b ∉ adr fx st cv := fun b e q => by
    obtain ⟨o, ho⟩ := I.live q
    rw [(I.N _ ho).1] at e; cases e
  refine ⟨e ▸ news_sets I.N I.nd K us hS (fun u hu' => ?_), ?_, fun b hb => ?_, D1, D2, D3, DB, DP, lo1, lo2, lo3, I.loB, I.loP, R1, R2, R3, off_ns F' R1, off_ns F' R2, off_ns F' R3⟩
  · obtain ⟨h1, h2 | h2 | h2⟩ := hu u hu'
    · obtain ⟨o, ho⟩ := I.live (List.mem_of_getElem? h2)
      exact ⟨h1, (I.N _ ho).2⟩
    · exact ⟨h1, h2 ▸ c1, h2 ▸ c2⟩
    · exact ⟨h1, h2 ▸ l1, h2 ▸ l2⟩
  · rw [ea]
    refine nd_set (nd_set I.nd (not c fc) i) (fun q => ?_) j
    rcases List.mem_or_eq_of_mem_set q with q | q
    · exact not l fl q
    · exact ncl q
  · obtain ⟨a1, a2, a3, o, a4, a5⟩ := I.ap b hb
    refine ⟨fun q => ?_, a2, a3, o, a4, K b o a5 fun q => a1 (hSa b q)⟩
    rw [ea] at q
    rcases List.mem_or_eq_of_mem_set q with q | q
    · rcases List.mem_or_eq_of_mem_set q with q | q
      · exact a1 q
      · rw [q, fc] at a5; cases a5
    · rw [q, fl] at a5; cases a5
end

/-- between the turns: caches and lists agree, and so do the two dicts -/
structure Good (st : Mv) : Prop where
  k1 : st.K1 = puts [] st.r1
  k2 : st.K2 = puts [] st.r2
  k3 : st.K3 = puts [] st.r3
  v1 : ∀ r ∈ st.r1, Vk (some r.2)
  v2 : ∀ r ∈ st.r2, Vk (some r.2)
  v3 : ∀ r ∈ st.r3, Vk (some r.2)
  sim : Sim st.kB st.kP
def Mv.size (st : Mv) : Nat := st.r1.length + st.r2.length + st.r3.length + st.kB.length
def Fx.x (fx : Fx) (lv : Int) : Addr := if lv = 1 then fx.x1 else if lv = 2 then fx.x2 else fx.x3
def Mv.l (st : Mv) (lv : Int) : Addr := if lv = 1 then st.l1 else if lv = 2 then st.l2 else st.l3
def Mv.put (st : Mv) (lv : Int) (k : List UInt8) (v : Value) : Mv :=
  if lv = 1 then { st with K1 := stored st.K1 k v } else if lv = 2 then { st with K2 := stored st.K2 k v } else { st with K3 := stored st.K3 k v }
def Mv.app (st : Mv) (lv : Int) (r : LRow) : Mv :=
  if lv = 1 then { st with r1 := st.r1 ++ [r] } else if lv = 2 then { st with r2 := st.r2 ++ [r] } else { st with r3 := st.r3 ++ [r] }
def Mv.due (st : Mv) (lv : Int) (k : List UInt8) : Option Value :=
  if lv = 1 then look1 (lastOf st.r1 k) (valueAt st.kP k) else if lv = 2 then look2 (lastOf st.r2 k) (lastOf st.r1 k) (valueAt st.kP k) else look1 (lastOf st.r3 k) (valueAt st.kP k)
theorem lv_cases {lv : Int} (h1 : 1 ≤ lv) (h3 : lv ≤ 3) : lv = 1 ∨ lv = 2 ∨ lv = 3 := by omega
theorem look1_two {vc p : Option Value} (hv : Vk vc) (hp : p = none ∨ ∃ x u, p = some (.bytes x u)) : look1 vc p = none ∨ ∃ x u, look1 vc p = some (.bytes x u) := by
  rcases hv with rfl | rfl | ⟨bb, tt, rfl⟩
  · exact hp
  · exact hp
  · exact .inr ⟨bb, tt, rfl⟩
theorem look2_two {vc v1 p : Option Value} (hv : Vk vc) (hv1 : Vk v1) (hp : p = none ∨ ∃ x u, p = some (.bytes x u)) : look2 vc v1 p = none ∨ ∃ x u, look2 vc v1 p = some (.bytes x u) := by
  rcases hv with rfl | rfl | ⟨bb, tt, rfl⟩
  · exact look1_two hv1 hp
  · exact look1_two hv1 hp
  · exact .inr ⟨bb, tt, rfl⟩
theorem Good.two {st : Mv} (G : Good st) (lv : Int) (k : List UInt8) : st.due lv k = none ∨ ∃ x u, st.due lv k = some (.bytes x u) := by
  have hp : valueAt st.kP k = none ∨ ∃ x u, valueAt st.kP k = some (.bytes x u) := by
    rcases G.sim.at k with ⟨_, e⟩ | ⟨x, t, u, _, e⟩
    · exact .inl e
    · exact .inr ⟨x, u, e⟩
  unfold Mv.due
  split
  · exact look1_two (lastOf_vk G.v1) hp
  · split
    · exact look2_two (lastOf_vk G.v2) (lastOf_vk G.v1) hp
    · exact look1_two (lastOf_vk G.v3) hp
theorem look1_some {vc b p : Option Value} (h : SimAt b p) : (look1 vc b).isSome = (look1 vc p).isSome := by
  have hbp : b.isSome = p.isSome := by
    rcases h with ⟨rfl, rfl⟩ | ⟨x, t, u, rfl, rfl⟩ <;> rfl
  cases vc with
  | none => exact hbp
  | some v => cases v <;> first | exact hbp | rfl
theorem look2_some {vc v1 b p : Option Value} (h : SimAt b p) : (look2 vc v1 b).isSome = (look2 vc v1 p).isSome := by
  cases vc with
  | none => exact look1_some h
  | some v => cases v <;> first | exact look1_some h | rfl
theorem puts_snoc (acc rs : List LRow) (r : LRow) : puts acc (rs ++ [r]) = stored (puts acc rs) r.1 r.2 := by
  unfold puts; rw [List.foldl_append]; rfl
theorem snoc_vk {rs : List LRow} {r : LRow} (h : ∀ r ∈ rs, Vk (some r.2)) (hr : Vk (some r.2)) : ∀ q ∈ rs ++ [r], Vk (some q.2) := fun q hq => by
  rcases List.mem_append.mp hq with z | z
  · exact h q z
  · rw [List.mem_singleton.mp z]; exact hr
theorem Good.deed {st : Mv} (G : Good st) {lv : Int} (h1 : 1 ≤ lv) (h3 : lv ≤ 3) {k : List UInt8} {v : Value} (hv : Vk (some v)) : Good ((st.put lv k v).app lv (k, v)) ∧ ((st.put lv k v).app lv (k, v)).size = st.size + 1 := by
  rcases lv_cases h1 h3 with rfl | rfl | rfl
  · refine ⟨⟨?_, G.k2, G.k3, snoc_vk G.v1 hv, G.v2, G.v3, G.sim⟩, ?_⟩
    · show stored st.K1 k v = puts [] (st.r1 ++ [(k, v)])
      rw [puts_snoc, G.k1]
    · show (st.r1 ++ [(k, v)]).length + st.r2.length + st.r3.length + st.kB.length = st.r1.length + st.r2.length + st.r3.length + st.kB.length + 1
      rw [List.length_append, List.length_singleton]; omega
  · refine ⟨⟨G.k1, ?_, G.k3, G.v1, snoc_vk G.v2 hv, G.v3, G.sim⟩, ?_⟩
    · show stored st.K2 k v = puts [] (st.r2 ++ [(k, v)])
      rw [puts_snoc, G.k2]
    · show st.r1.length + (st.r2 ++ [(k, v)]).length + st.r3.length + st.kB.length = st.r1.length + st.r2.length + st.r3.length + st.kB.length + 1
      rw [List.length_append, List.length_singleton]; omega
  · refine ⟨⟨G.k1, G.k2, ?_, G.v1, G.v2, snoc_vk G.v3 hv, G.sim⟩, ?_⟩
    · show stored st.K3 k v = puts [] (st.r3 ++ [(k, v)])
      rw [puts_snoc, G.k3]
    · show st.r1.length + st.r2.length + (st.r3 ++ [(k, v)]).length + st.kB.length = st.r1.length + st.r2.length + st.r3.length + st.kB.length + 1
      rw [List.length_append, List.length_singleton]; omega
end
section
/-- what is due, by the law's own lists -/
def DueIs (st : Mv) (lv : Int) (k : List UInt8) (due : Value) : Prop := (st.due lv k = none ∧ due = .none) ∨ ∃ x u, st.due lv k = some (.bytes x u) ∧ due = .bytes x u
theorem DueIs.get {st : Mv} {lv : Int} {k : List UInt8} {due : Value} (h : DueIs st lv k due) : (st.due lv k).getD .none = due := by
  rcases h with ⟨e, rfl⟩ | ⟨x, u, e, rfl⟩ <;> rw [e] <;> rfl
theorem fx1 (fx : Fx) : fx.x 1 = fx.x1 := rfl
theorem fx2 (fx : Fx) : fx.x 2 = fx.x2 := rfl
theorem fx3 (fx : Fx) : fx.x 3 = fx.x3 := rfl
theorem Good.len1 {st : Mv} (_ : Good st) (hz : st.size ≤ 1000) : st.r1.length ≤ sizeLine := by unfold Mv.size at hz; rw [sizeLine_eq]; omega
theorem Good.len2 {st : Mv} (_ : Good st) (hz : st.size ≤ 1000) : st.r2.length ≤ sizeLine := by unfold Mv.size at hz; rw [sizeLine_eq]; omega
theorem Good.len3 {st : Mv} (_ : Good st) (hz : st.size ≤ 1000) : st.r3.length ≤ sizeLine := by unfold Mv.size at hz; rw [sizeLine_eq]; omega
theorem Good.K1 {st : Mv} (G : Good st) (hz : st.size ≤ 1000) : st.K1.length ≤ sizeLine := by have := puts_len st.r1 []; rw [List.length_nil] at this; rw [G.k1]; exact Nat.le_trans this (by rw [Nat.zero_add]; exact G.len1 hz)
theorem Good.K2 {st : Mv} (G : Good st) (hz : st.size ≤ 1000) : st.K2.length ≤ sizeLine := by have := puts_len st.r2 []; rw [List.length_nil] at this; rw [G.k2]; exact Nat.le_trans this (by rw [Nat.zero_add]; exact G.len2 hz)
theorem Good.K3 {st : Mv} (G : Good st) (hz : st.size ≤ 1000) : st.K3.length ≤ sizeLine := by have := puts_len st.r3 []; rw [List.length_nil] at this; rw [G.k3]; exact Nat.le_trans this (by rw [Nat.zero_add]; exact G.len3 hz)
theorem one_in {b c : Addr} {l : List Addr} {i : Nat} {o : Obj} (e : l[i]? = some c) (hb : b ∈ [c]) : ∃ u ∈ [(i, c, o)], l[u.1]? = some b := ⟨_, .head _, by rw [List.mem_singleton.mp hb]; exact e⟩
theorem one_put {c : Addr} {l : List Addr} {i : Nat} {o : Obj} {h' : Heap} (e : l[i]? = some c) (g : h'.get? c = some o) : ∀ u ∈ [(i, c, o)], h'.get? u.2.1 = some u.2.2 ∧ l[u.1]? = some u.2.1 := fun u hu => by rw [List.mem_singleton.mp hu]; exact ⟨g, e⟩
section
variable {w : World} {mean : ExcName → Option Value} {mg mb : Str → Option Value} {A : Around} {cn : Str} {cs : Scope} {a : Addr} {ccd : Value} {outer : List Env} {A₀ : Around} {base h₀ : Heap} {L : Addr} {m : Str → Option Value}
    {s : Shared} {news own : List (Addr × Obj)} {fx : Fx} {st : Mv} {its : List Addr} {hb : Heap} {lv : Int} {kb : Array UInt8} {t tl : Nat} {Q : Value → Shared → Prop} {Qu : Unit → Shared → Prop} {E : Value → Shared → Prop} {v due : Value}
theorem setM (H : At hd.heap_39 w mean mg mb A cn cs a ccd outer A₀ base h₀ L m s 10) (N : News h₀ L s.heap news) (W : Wit w fx st its hb h₀ L own) (sub : ∀ p ∈ own, p ∈ news) (h1 : 1 ≤ lv) (h3 : lv ≤ 3) (G : Good st) (hz : st.size ≤ 1000)
    (k : ∀ h' tk own', Fr h₀ L h' m → News h₀ L h' own' → Wit w fx (st.put lv kb.toList v) its hb h₀ L own' → Qu () { s with heap := h', toks := tk }) :
    wpAny (model PySem.Challenge.rw_ad6016_01.row.prog w) A (setItem (.ref (fx.x lv)) (.bytes kb t) v) Qu E s := by
  obtain ⟨cv, I⟩ := W.here H.F N sub
  rcases lv_cases h1 h3 with rfl | rfl | rfl
  · rw [fx1]
    refine sc_setN H I.N (ledP 0 rfl) (ledP 1 rfl) (ledP 2 rfl) (nd_ne I.nd (i := 2) (j := 0) rfl rfl (by decide)) (nd_ne I.nd (i := 2) (j := 1) rfl rfl (by decide)) I.D1 (G.K1 hz) fun h' tk oc' K e d => ?_
    have hS : ∀ b ∈ [cv.c1], b ∈ adr fx st cv := fun b hb => by rw [List.mem_singleton.mp hb]; exact List.mem_of_getElem? (i := 2) rfl
    have F' := I.frame H.F K hS
    have I' : InvAt w fx (st.put 1 kb.toList v) { cv with o1 := oc' } its hb h₀ L h' := I.wrote F' K [(2, cv.c1, oc')] (fun _ => one_in rfl) (one_put rfl e) rfl rfl d I.D2 I.D3 I.DB I.DP I.lo1 I.lo2 I.lo3 (I.rows K hS I.R1) (I.rows K hS I.R2) (I.rows K hS I.R3)
    exact k h' tk _ F' rest_news' (I'.wit F')
  · rw [fx2]
    refine sc_setN H I.N (ledP 3 rfl) (ledP 4 rfl) (ledP 5 rfl) (nd_ne I.nd (i := 5) (j := 3) rfl rfl (by decide)) (nd_ne I.nd (i := 5) (j := 4) rfl rfl (by decide)) I.D2 (G.K2 hz) fun h' tk oc' K e d => ?_
    have hS : ∀ b ∈ [cv.c2], b ∈ adr fx st cv := fun b hb => by rw [List.mem_singleton.mp hb]; exact List.mem_of_getElem? (i := 5) rfl
    have F' := I.frame H.F K hS
    have I' : InvAt w fx (st.put 2 kb.toList v) { cv with o2 := oc' } its hb h₀ L h' := I.wrote F' K [(5, cv.c2, oc')] (fun _ => one_in rfl) (one_put rfl e) rfl rfl I.D1 d I.D3 I.DB I.DP I.lo1 I.lo2 I.lo3 (I.rows K hS I.R1) (I.rows K hS I.R2) (I.rows K hS I.R3)
    exact k h' tk _ F' rest_news' (I'.wit F')
  · rw [fx3]
    refine sc_setN H I.N (ledP 6 rfl) (ledP 7 rfl) (ledP 8 rfl) (nd_ne I.nd (i := 8) (j := 6) rfl rfl (by decide)) (nd_ne I.nd (i := 8) (j := 7) rfl rfl (by decide)) I.D3 (G.K3 hz) fun h' tk oc' K e d => ?_
    have hS : ∀ b ∈ [cv.c3], b ∈ adr fx st cv := fun b hb => by rw [List.mem_singleton.mp hb]; exact List.mem_of_getElem? (i := 8) rfl
    have F' := I.frame H.F K hS
    have I' : InvAt w fx (st.put 3 kb.toList v) { cv with o3 := oc' } its hb h₀ L h' := I.wrote F' K [(8, cv.c3, oc')] (fun _ => one_in rfl) (one_put rfl e) rfl rfl I.D1 I.D2 d I.DB I.DP I.lo1 I.lo2 I.lo3 (I.rows K hS I.R1) (I.rows K hS I.R2) (I.rows K hS I.R3)
    exact k h' tk _ F' rest_news' (I'.wit F')
theorem sc_delN {x d c : Addr} {t1 t2 n t : Nat} {wv : Value} {oc : Obj} {kvs : List LRow} {led : List (Addr × Obj)}
    (H : At hd.heap_39 w mean mg mb A cn cs a ccd outer A₀ base h₀ L m s 10) (N : News h₀ L s.heap led) (m1 : (x, instObj 67 d) ∈ led) (m2 : (d, dictOf (wrE w t1 t2 wv c) n) ∈ led) (m3 : (c, oc) ∈ led) (n1 : c ≠ x) (n2 : c ≠ d) (hd : oc.IsDictOf (bytesKind PySem.Challenge.rw_ad6016_01.row.prog w) kvs) (hz : kvs.length ≤ sizeLine)
    (h : ∀ h' tk oc', KeepBut [c] s.heap h' → h'.get? c = some oc' → oc'.IsDictOf (bytesKind PySem.Challenge.rw_ad6016_01.row.prog w) (stored kvs kb.toList .none) → Qu () { s with heap := h', toks := tk }) :
    wpAny (model PySem.Challenge.rw_ad6016_01.row.prog w) A (delItem (.ref x) (.bytes kb t)) Qu E s :=
  sc_del H (fun p hp => by
    simp only [List.mem_cons, List.not_mem_nil, or_false] at hp
    rcases hp with rfl | rfl | rfl
    · exact N _ m1
    · exact N _ m2
    · exact N _ m3) n1 n2 hd hz h
theorem delM (H : At hd.heap_39 w mean mg mb A cn cs a ccd outer A₀ base h₀ L m s 10) (N : News h₀ L s.heap news) (W : Wit w fx st its hb h₀ L own) (sub : ∀ p ∈ own, p ∈ news) (h1 : 1 ≤ lv) (h3 : lv ≤ 3) (G : Good st) (hz : st.size ≤ 1000)
    (k : ∀ h' tk own', Fr h₀ L h' m → News h₀ L h' own' → Wit w fx (st.put lv kb.toList .none) its hb h₀ L own' → Qu () { s with heap := h', toks := tk }) :
    wpAny (model PySem.Challenge.rw_ad6016_01.row.prog w) A (delItem (.ref (fx.x lv)) (.bytes kb t)) Qu E s := by
  obtain ⟨cv, I⟩ := W.here H.F N sub
  rcases lv_cases h1 h3 with rfl | rfl | rfl
  · rw [fx1]
    refine sc_delN H I.N (ledP 0 rfl) (ledP 1 rfl) (ledP 2 rfl) (nd_ne I.nd (i := 2) (j := 0) rfl rfl (by decide)) (nd_ne I.nd (i := 2) (j := 1) rfl rfl (by decide)) I.D1 (G.K1 hz) fun h' tk oc' K e d => ?_
    have hS : ∀ b ∈ [cv.c1], b ∈ adr fx st cv := fun b hb => by rw [List.mem_singleton.mp hb]; exact List.mem_of_getElem? (i := 2) rfl
    have F' := I.frame H.F K hS
    have I' : InvAt w fx (st.put 1 kb.toList .none) { cv with o1 := oc' } its hb h₀ L h' := I.wrote F' K [(2, cv.c1, oc')] (fun _ => one_in rfl) (one_put rfl e) rfl rfl d I.D2 I.D3 I.DB I.DP I.lo1 I.lo2 I.lo3 (I.rows K hS I.R1) (I.rows K hS I.R2) (I.rows K hS I.R3)
    exact k h' tk _ F' rest_news' (I'.wit F')
  · rw [fx2]
    refine sc_delN H I.N (ledP 3 rfl) (ledP 4 rfl) (ledP 5 rfl) (nd_ne I.nd (i := 5) (j := 3) rfl rfl (by decide)) (nd_ne I.nd (i := 5) (j := 4) rfl rfl (by decide)) I.D2 (G.K2 hz) fun h' tk oc' K e d => ?_
    have hS : ∀ b ∈ [cv.c2], b ∈ adr fx st cv := fun b hb => by rw [List.mem_singleton.mp hb]; exact List.mem_of_getElem? (i := 5) rfl
    have F' := I.frame H.F K hS
    have I' : InvAt w fx (st.put 2 kb.toList .none) { cv with o2 := oc' } its hb h₀ L h' := I.wrote F' K [(5, cv.c2, oc')] (fun _ => one_in rfl) (one_put rfl e) rfl rfl I.D1 d I.D3 I.DB I.DP I.lo1 I.lo2 I.lo3 (I.rows K hS I.R1) (I.rows K hS I.R2) (I.rows K hS I.R3)
    exact k h' tk _ F' rest_news' (I'.wit F')
  · rw [fx3]
    refine sc_delN H I.N (ledP 6 rfl) (ledP 7 rfl) (ledP 8 rfl) (nd_ne I.nd (i := 8) (j := 6) rfl rfl (by decide)) (nd_ne I.nd (i := 8) (j := 7) rfl rfl (by decide)) I.D3 (G.K3 hz) fun h' tk oc' K e d => ?_
    have hS : ∀ b ∈ [cv.c3], b ∈ adr fx st cv := fun b hb => by rw [List.mem_singleton.mp hb]; exact List.mem_of_getElem? (i := 8) rfl
    have F' := I.frame H.F K hS
    have I' : InvAt w fx (st.put 3 kb.toList .none) { cv with o3 := oc' } its hb h₀ L h' := I.wrote F' K [(8, cv.c3, oc')] (fun _ => one_in rfl) (one_put rfl e) rfl rfl I.D1 I.D2 d I.DB I.DP I.lo1 I.lo2 I.lo3 (I.rows K hS I.R1) (I.rows K hS I.R2) (I.rows K hS I.R3)
    exact k h' tk _ F' rest_news' (I'.wit F')
theorem tiersM {value slice : PySem.Expr} (F : Fr h₀ L s.heap m) (N : News h₀ L s.heap news) (W : Wit w fx st its hb h₀ L own) (sub : ∀ p ∈ own, p ∈ news) (h1 : 1 ≤ lv) (h3 : lv ≤ 3) (k : Q (.ref (fx.x lv)) s)
    (hs : subscripted slice false (.ref fx.tr) (.int lv t) = operate [.ref fx.tr, .int lv t] (getItem (.ref fx.tr) (.int lv t)) := by with_unfolding_all rfl) :
    wpAny (model PySem.Challenge.rw_ad6016_01.row.prog w) A (subscriptTail value slice (.ref fx.tr) (.int lv t)) Q E s := by
  obtain ⟨cv, I⟩ := W.here F N sub
  have hl : s.heap.IsList fx.tr #[.none, .ref fx.x1, .ref fx.x2, .ref fx.x3] := ⟨_, (I.N _ (ledP 15 rfl)).1, rfl, _, rfl⟩
  refine tail_any hl.typeIs slot_list_getitem.lookup (wpAny_getItem_list hl (by omega) (by omega) ?_ k) hs
  rcases lv_cases h1 h3 with rfl | rfl | rfl <;> rfl
theorem logsM {value slice : PySem.Expr} (F : Fr h₀ L s.heap m) (N : News h₀ L s.heap news) (W : Wit w fx st its hb h₀ L own) (sub : ∀ p ∈ own, p ∈ news) (h1 : 1 ≤ lv) (h3 : lv ≤ 3) (k : Q (.ref (st.l lv)) s)
    (hs : subscripted slice false (.ref fx.lg) (.int lv t) = operate [.ref fx.lg, .int lv t] (getItem (.ref fx.lg) (.int lv t)) := by with_unfolding_all rfl) :
    wpAny (model PySem.Challenge.rw_ad6016_01.row.prog w) A (subscriptTail value slice (.ref fx.lg) (.int lv t)) Q E s := by
  obtain ⟨cv, I⟩ := W.here F N sub
  have hl : s.heap.IsList fx.lg #[.none, .ref st.l1, .ref st.l2, .ref st.l3] := ⟨_, (I.N _ (ledP 14 rfl)).1, rfl, _, rfl⟩
  refine tail_any hl.typeIs slot_list_getitem.lookup (wpAny_getItem_list hl (by omega) (by omega) ?_ k) hs
  rcases lv_cases h1 h3 with rfl | rfl | rfl <;> rfl
theorem appendMethM {pl : Sem Bool} {Qm : Value × List Value → Shared → Prop} (F : Fr h₀ L s.heap m) (N : News h₀ L s.heap news) (W : Wit w fx st its hb h₀ L own) (sub : ∀ p ∈ own, p ∈ news) (h1 : 1 ≤ lv) (h3 : lv ≤ 3) (k : Qm (.builtin "list.append", [.ref (st.l lv)]) s) :
    wpAny (model PySem.Challenge.rw_ad6016_01.row.prog w) A (getMethod (.ref (st.l lv)) "append" pl) Qm E s := by
  obtain ⟨cv, I⟩ := W.here F N sub
  rcases lv_cases h1 h3 with rfl | rfl | rfl
  · exact kl_method (D := st.l1) I.N (ledP 11 rfl) slot_list_append type_list_append k
  · exact kl_method (D := st.l2) I.N (ledP 12 rfl) slot_list_append type_list_append k
  · exact kl_method (D := st.l3) I.N (ledP 13 rfl) slot_list_append type_list_append k
theorem row_snoc {h : Heap} {vs : List Value} {rs : List LRow} {tup : Addr} {n : Nat} (R : RowsAre h vs rs) (e : h.get? tup = some { cls := .type "tuple", data := .seq #[.bytes kb t, v] n }) : RowsAre h (vs ++ [Value.ref tup]) (rs ++ [(kb.toList, v)]) :=
  RowsAre.append R (show RowAt h (.ref tup) (kb.toList, v) ∧ True from ⟨⟨tup, kb, t, n, rfl, rfl, e⟩, trivial⟩)
theorem push_at {h' : Heap} {D : Addr} {vs : List Value} {x : Value} {n : Nat} (e : h'.get? D = some { cls := .type "list", data := .seq (vs.toArray.push x) (n + 1) }) : h'.get? D = some (listOf (vs ++ [x]).toArray (n + 1)) := by
  have q : (vs ++ [x]).toArray = vs.toArray.push x := by simp
  rw [q]; exact e
theorem appendM {tup : Addr} {n : Nat} (F : Fr h₀ L s.heap m) (N : News h₀ L s.heap news) (W : Wit w fx st its hb h₀ L own) (sub : ∀ p ∈ own, p ∈ news) (hm : (tup, ({ cls := .type "tuple", data := .seq #[.bytes kb t, v] n } : Obj)) ∈ news) (h1 : 1 ≤ lv) (h3 : lv ≤ 3) (hz : st.r1.length ≤ sizeLine ∧ st.r2.length ≤ sizeLine ∧ st.r3.length ≤ sizeLine)
    (k : ∀ h' own', Fr h₀ L h' m → News h₀ L h' own' → Wit w fx (st.app lv (kb.toList, v)) its hb h₀ L own' → Q .none { s with heap := h' }) :
    wpAny (model PySem.Challenge.rw_ad6016_01.row.prog w) A (call (.builtin "list.append") [.ref (st.l lv), .ref tup]) Q E s := by
  obtain ⟨cv, I⟩ := W.here F N sub
  obtain ⟨z1, z2, z3⟩ := hz
  have et := (N _ hm).1
  have ntup : ∀ b ∈ adr fx st cv, tup ≠ b := fun b hb e => I.off b hb _ (e ▸ et) rfl
  rcases lv_cases h1 h3 with rfl | rfl | rfl
  · refine append_at (D := st.l1) (I.N _ (ledP 11 rfl)).1 (fun h' hs e => ?_) (by rw [List.size_toArray, I.R1.length]; exact z1)
    have K : KeepBut [st.l1] s.heap h' := fun b o e n => (hs.2 b (fun q => n (List.mem_singleton.mpr q))).trans e
    have hS : ∀ b ∈ [st.l1], b ∈ adr fx st cv := fun b hb => by rw [List.mem_singleton.mp hb]; exact List.mem_of_getElem? (i := 11) rfl
    have F' := I.frame F K hS
    have et' := K _ _ et (fun q => ntup _ (hS _ q) rfl)
    have I' : InvAt w fx (st.app 1 (kb.toList, v)) { cv with v1 := cv.v1 ++ [Value.ref tup], q1 := cv.q1 + 1 } its hb h₀ L h' := I.wrote F' K [(11, st.l1, listOf (cv.v1 ++ [Value.ref tup]).toArray (cv.q1 + 1))] (fun _ => one_in rfl) (one_put rfl (push_at e)) rfl rfl I.D1 I.D2 I.D3 I.DB I.DP I.lo1 I.lo2 I.lo3 (row_snoc (I.rows K hS I.R1) et') (I.rows K hS I.R2) (I.rows K hS I.R3)
    exact k h' _ F' rest_news' (I'.wit F')
  · refine append_at (D := st.l2) (I.N _ (ledP 12 rfl)).1 (fun h' hs e => ?_) (by rw [List.size_toArray, I.R2.length]; exact z2)
    have K : KeepBut [st.l2] s.heap h' := fun b o e n => (hs.2 b (fun q => n (List.mem_singleton.mpr q))).trans e
    have hS : ∀ b ∈ [st.l2], b ∈ adr fx st cv := fun b hb => by rw [List.mem_singleton.mp hb]; exact List.mem_of_getElem? (i := 12) rfl
    have F' := I.frame F K hS
    have et' := K _ _ et (fun q => ntup _ (hS _ q) rfl)
    have I' : InvAt w fx (st.app 2 (kb.toList, v)) { cv with v2 := cv.v2 ++ [Value.ref tup], q2 := cv.q2 + 1 } its hb h₀ L h' := I.wrote F' K [(12, st.l2, listOf (cv.v2 ++ [Value.ref tup]).toArray (cv.q2 + 1))] (fun _ => one_in rfl) (one_put rfl (push_at e)) rfl rfl I.D1 I.D2 I.D3 I.DB I.DP I.lo1 I.lo2 I.lo3 (I.rows K hS I.R1) (row_snoc (I.rows K hS I.R2) et') (I.rows K hS I.R3)
    exact k h' _ F' rest_news' (I'.wit F')
  · refine append_at (D := st.l3) (I.N _ (ledP 13 rfl)).1 (fun h' hs e => ?_) (by rw [List.size_toArray, I.R3.length]; exact z3)
    have K : KeepBut [st.l3] s.heap h' := fun b o e n => (hs.2 b (fun q => n (List.mem_singleton.mpr q))).trans e
    have hS : ∀ b ∈ [st.l3], b ∈ adr fx st cv := fun b hb => by rw [List.mem_singleton.mp hb]; exact List.mem_of_getElem? (i := 13) rfl
    have F' := I.frame F K hS
    have et' := K _ _ et (fun q => ntup _ (hS _ q) rfl)
    have I' : InvAt w fx (st.app 3 (kb.toList, v)) { cv with v3 := cv.v3 ++ [Value.ref tup], q3 := cv.q3 + 1 } its hb h₀ L h' := I.wrote F' K [(13, st.l3, listOf (cv.v3 ++ [Value.ref tup]).toArray (cv.q3 + 1))] (fun _ => one_in rfl) (one_put rfl (push_at e)) rfl rfl I.D1 I.D2 I.D3 I.DB I.DP I.lo1 I.lo2 I.lo3 (I.rows K hS I.R1) (I.rows K hS I.R2) (row_snoc (I.rows K hS I.R3) et')
    exact k h' _ F' rest_news' (I'.wit F')
theorem toldB (H : At hd.heap_39 w mean mg mb A cn cs a ccd outer A₀ base h₀ L m s 20) {cv : Cv} (I : InvAt w fx st cv its hb h₀ L s.heap) (h1 : 1 ≤ lv) (h3 : lv ≤ 3) (G : Good st) (hz : st.size ≤ 1000) (hd : DueIs st lv kb.toList due)
    (fin : ∀ h' tk, KeepBut [] s.heap h' → Q due { s with heap := h', toks := tk }) :
    wpAny (model PySem.Challenge.rw_ad6016_01.row.prog w) A (call (.ref 91) [.ref fx.lg, .ref fx.dP, .int lv tl, .bytes kb t]) Q E s := by
  have hd := hd.get
  rcases lv_cases h1 h3 with rfl | rfl | rfl
  · exact told1 (vs := cv.v1) H (fun p hp => by
      simp only [List.mem_cons, List.not_mem_nil, or_false] at hp
      rcases hp with rfl | rfl | rfl
      · exact I.N _ (ledP 14 rfl)
      · exact I.N _ (ledP 11 rfl)
      · exact I.N _ (ledP 10 rfl)) I.DP I.loP I.R1 (by rw [I.R1.length]; exact G.len1 hz) _ _ rfl rfl (lastOf_vk G.v1) (fun h' tk K => by rw [show toldV (lastOf st.r1 kb.toList) (valueAt st.kP kb.toList) = due from hd]; exact fin h' tk K)
  · exact told2 (vs2 := cv.v2) (vs := cv.v1) H (fun p hp => by
      simp only [List.mem_cons, List.not_mem_nil, or_false] at hp
      rcases hp with rfl | rfl | rfl | rfl
      · exact I.N _ (ledP 14 rfl)
      · exact I.N _ (ledP 12 rfl)
      · exact I.N _ (ledP 11 rfl)
      · exact I.N _ (ledP 10 rfl)) I.DP I.loP I.R2 (by rw [I.R2.length]; exact G.len2 hz) I.R1 (by rw [I.R1.length]; exact G.len1 hz) _ _ _ rfl rfl rfl (lastOf_vk G.v2) (lastOf_vk G.v1) (fun h' tk K => by rw [show (look2 (lastOf st.r2 kb.toList) (lastOf st.r1 kb.toList) (valueAt st.kP kb.toList)).getD .none = due from hd]; exact fin h' tk K)
  · exact told3 (vs := cv.v3) H (fun p hp => by
      simp only [List.mem_cons, List.not_mem_nil, or_false] at hp
      rcases hp with rfl | rfl | rfl
      · exact I.N _ (ledP 14 rfl)
      · exact I.N _ (ledP 13 rfl)
      · exact I.N _ (ledP 10 rfl)) I.DP I.loP I.R3 (by rw [I.R3.length]; exact G.len3 hz) _ _ rfl rfl (lastOf_vk G.v3) (fun h' tk K => by rw [show toldV (lastOf st.r3 kb.toList) (valueAt st.kP kb.toList) = due from hd]; exact fin h' tk K)
theorem toldM (H : At hd.heap_39 w mean mg mb A cn cs a ccd outer A₀ base h₀ L m s 20) (N : News h₀ L s.heap news) (W : Wit w fx st its hb h₀ L own) (sub : ∀ p ∈ own, p ∈ news) (h1 : 1 ≤ lv) (h3 : lv ≤ 3) (G : Good st) (hz : st.size ≤ 1000) (hd : DueIs st lv kb.toList due)
    (k : ∀ h' tk own', Fr h₀ L h' m → News h₀ L h' own' → Wit w fx st its hb h₀ L own' → Q due { s with heap := h', toks := tk }) :
    wpAny (model PySem.Challenge.rw_ad6016_01.row.prog w) A (call (.ref 91) [.ref fx.lg, .ref fx.dP, .int lv tl, .bytes kb t]) Q E s := by
  obtain ⟨cv, I⟩ := W.here H.F N sub
  exact toldB H I h1 h3 G hz hd fun h' tk K => by
    have F' := fr_keep H.F K
    exact k h' tk _ F' rest_news' ((I.up fun b o _ e => K.all b o e).wit F')
theorem inB (H : At hd.heap_39 w mean mg mb A cn cs a ccd outer A₀ base h₀ L m s 20) {cv : Cv} (I : InvAt w fx st cv its hb h₀ L s.heap) (h1 : 1 ≤ lv) (h3 : lv ≤ 3) (G : Good st)
    (fin : ∀ h' tk, KeepBut [] s.heap h' → Q (.bool (st.due lv kb.toList).isSome) { s with heap := h', toks := tk }) :
    wpAny (model PySem.Challenge.rw_ad6016_01.row.prog w) A (compareOp .In (.bytes kb t) (.ref (fx.x lv))) Q E s := by
  have H10 : At hd.heap_39 w mean mg mb A cn cs a ccd outer A₀ base h₀ L m s 10 := { H with hd := by have := H.hd; omega, hu := by have := H.hu; omega }
  rcases lv_cases h1 h3 with rfl | rfl | rfl
  · rw [fx1]
    exact in1N H10 I.N (ledP 0 rfl) (ledP 1 rfl) (ledP 2 rfl) (ledP 9 rfl) (G.k1 ▸ I.D1) I.DB I.lo1 I.loB G.v1 (look1_some (G.sim.at _)) fin
  · rw [fx2]
    exact in2N H I.N (ledP 3 rfl) (ledP 4 rfl) (ledP 5 rfl) (ledP 0 rfl) (ledP 1 rfl) (ledP 2 rfl) (ledP 9 rfl) (G.k2 ▸ I.D2) (G.k1 ▸ I.D1) I.DB I.lo2 I.lo1 I.loB G.v2 G.v1 (look2_some (G.sim.at _)) fin
  · rw [fx3]
    exact in1N H10 I.N (ledP 6 rfl) (ledP 7 rfl) (ledP 8 rfl) (ledP 9 rfl) (G.k3 ▸ I.D3) I.DB I.lo3 I.loB G.v3 (look1_some (G.sim.at _)) fin
theorem inM (H : At hd.heap_39 w mean mg mb A cn cs a ccd outer A₀ base h₀ L m s 20) (N : News h₀ L s.heap news) (W : Wit w fx st its hb h₀ L own) (sub : ∀ p ∈ own, p ∈ news) (h1 : 1 ≤ lv) (h3 : lv ≤ 3) (G : Good st)
    (k0 : st.due lv kb.toList = none → ∀ h' tk own', Fr h₀ L h' m → News h₀ L h' own' → Wit w fx st its hb h₀ L own' → Q (.bool false) { s with heap := h', toks := tk })
    (k1 : ∀ x u, st.due lv kb.toList = some (.bytes x u) → ∀ h' tk own', Fr h₀ L h' m → News h₀ L h' own' → Wit w fx st its hb h₀ L own' → Q (.bool true) { s with heap := h', toks := tk }) :
    wpAny (model PySem.Challenge.rw_ad6016_01.row.prog w) A (compareOp .In (.bytes kb t) (.ref (fx.x lv))) Q E s := by
  obtain ⟨cv, I⟩ := W.here H.F N sub
  exact inB H I h1 h3 G fun h' tk K => by
    have F' := fr_keep H.F K
    have W' := (I.up fun b o _ e => K.all b o e).wit F'
    rcases G.two lv kb.toList with e | ⟨x, u, e⟩
    · rw [e]; exact k0 e h' tk _ F' rest_news' W'
    · rw [e]; exact k1 x u e h' tk _ F' rest_news' W'
theorem neM (F : Fr h₀ L s.heap m) (N : News h₀ L s.heap news) (W : Wit w fx st its hb h₀ L own) (sub : ∀ p ∈ own, p ∈ news) (G : Good st) (hu : A.units < cLine) (k : Q (.bool false) s) :
    wpAny (model PySem.Challenge.rw_ad6016_01.row.prog w) A (compareOp .NotEq (.ref fx.dB) (.ref fx.dP)) Q E s := by
  obtain ⟨cv, I⟩ := W.here F N sub
  exact kne_pairs (knd := bytesKind _ _) I.N (ledP 9 rfl) (ledP 10 rfl) I.DB I.DP I.loB I.loP G.sim.length hu (G.sim.hits (dict_nodup I.DB)) k
end
end
section
theorem At.less {w : World} {mean : ExcName → Option Value} {mg mb : Str → Option Value} {A : Around} {cn : Str} {cs : Scope} {a : Addr} {ccd : Value} {outer : List Env} {A₀ : Around} {base h₀ : Heap} {L : Addr} {m : Str → Option Value} {s : Shared} {k k' : Nat} {Kf : Params → Frag}
    (H : At Kf w mean mg mb A cn cs a ccd outer A₀ base h₀ L m s k) (h : k' ≤ k) : At Kf w mean mg mb A cn cs a ccd outer A₀ base h₀ L m s k' :=
  { H with hd := by have := H.hd; omega, hu := by have := H.hu; omega }
theorem applied_sim {dd : Bool} {r : List LRow} {a b : List LRow} (hv : ∀ q ∈ r, Vk (some q.2)) (h : Sim a b) : Sim (applied dd (puts [] r) a) (applied dd (puts [] r) b) := Sim.applied (puts_vk (acc := []) hv (fun _ q => nomatch q)) h
theorem applied_size {dd : Bool} {r a : List LRow} : (applied dd (puts [] r) a).length ≤ a.length + r.length := by
  have h1 := applied_len dd (puts [] r) a
  have h2 := puts_len r []
  rw [List.length_nil] at h2
  omega
section
variable {w : World} {mean : ExcName → Option Value} {mg mb : Str → Option Value} {A : Around} {cn : Str} {cs : Scope} {a : Addr} {ccd : Value} {outer : List Env} {A₀ : Around} {base h₀ : Heap} {L : Addr} {m : Str → Option Value}
    {s : Shared} {news own : List (Addr × Obj)} {fx : Fx} {st : Mv} {its : List Addr} {hb : Heap} {lv : Int} {kb : Array UInt8} {t tl : Nat} {Q : Value → Shared → Prop} {E : Value → Shared → Prop} {due : Value} {dd : Bool}
theorem InvAt.turned {h' : Heap} {cv : Cv} {k : Nat} (H : At hd.heap_39 w mean mg mb A cn cs a ccd outer A₀ base h₀ L m s k) (I : InvAt w fx st cv its hb h₀ L s.heap) (T : Turned ((envOf cn cs L a ccd :: outer).filterMap (·.frame)) s.heap h') :
    ∃ g', KtsTurn (outer.filterMap (·.frame)) h₀ g' ∧ Below A₀ base outer g' ∧ Frag.In (hd.heap_39 w.params) g' ∧ Top hd.view_39 (looseW hd.view_39 [Str.ofString "_law_keys"]) mean mg mb g' ∧ KtsDicts (outer.filterMap (·.frame)) g' ∧ Fr g' L h' m ∧ InvAt w fx st cv its hb g' L h' := by
  obtain ⟨g', T', F', hN', B', X', TT', D'⟩ := at_turn (A := A) H.B H.F H.XB H.TB H.D T
  have off : ∀ {vs : List Value} {rs : List LRow}, RowsAre s.heap vs rs → RowsAre h' vs rs := fun R => RowsAre.stay (S := (envOf cn cs L a ccd :: outer).filterMap (·.frame)) (fun b o n e => T.other b o e n) R (R.off fun b hb o e _ hd => by
    rcases kts_mem hb with z | z
    · exact ns_off H.F.ns o (z ▸ e) hd
    · obtain ⟨o', es, n, ho, hd'⟩ := H.D b z
      have := H.F.keep b o' ho
      rw [e] at this
      cases Option.some.inj this
      obtain ⟨items, q, hd⟩ := hd
      rw [hd'] at hd; cases hd)
  have I' : InvAt w fx st cv its hb g' L h' := { I with
    N := hN' _ I.N
    ap := fun b hb => by
      obtain ⟨a1, a2, a3, o, a4, a5⟩ := I.ap b hb
      have n := hN' [(b, o)] (fun p hp => by rw [List.mem_singleton.mp hp]; exact ⟨a5, a2, a3⟩) (b, o) (.head _)
      exact ⟨a1, a2, n.2.2, o, a4, n.1⟩
    R1 := off I.R1
    R2 := off I.R2
    R3 := off I.R3
    O1 := off_ns F' (off I.R1)
    O2 := off_ns F' (off I.R2)
    O3 := off_ns F' (off I.R3) }
  exact ⟨g', T', B', X', TT', D', F', I'⟩
theorem askedB (H : At hd.heap_39 w mean mg mb A cn cs a ccd outer A₀ base h₀ L m s 30) {cv : Cv} (I : InvAt w fx st cv its hb h₀ L s.heap) (h1 : 1 ≤ lv) (h3 : lv ≤ 3) (G : Good st) (hdue : DueIs st lv kb.toList due)
    (fin : ∀ h' tk, Turned ((envOf cn cs L a ccd :: outer).filterMap (·.frame)) s.heap h' → Q (.bool true) { s with heap := h', toks := tk }) :
    wpAny (model PySem.Challenge.rw_ad6016_01.row.prog w) A (call (.ref 105) [.ref (fx.x lv), .bytes kb t, due]) Q E s := by
  have hd9 := hdue.get
  rcases lv_cases h1 h3 with rfl | rfl | rfl
  · rw [fx1]
    exact asked1N (H.less (by decide)) I.N (ledP 0 rfl) (ledP 1 rfl) (ledP 2 rfl) (ledP 9 rfl) (G.k1 ▸ I.D1) I.DB I.lo1 I.loB G.v1 (by rw [← hd9]; exact due1 (lastOf_vk G.v1) (G.sim.at _)) fin
  · rw [fx2]
    exact asked2N H I.N (ledP 3 rfl) (ledP 4 rfl) (ledP 5 rfl) (ledP 0 rfl) (ledP 1 rfl) (ledP 2 rfl) (ledP 9 rfl) (G.k2 ▸ I.D2) (G.k1 ▸ I.D1) I.DB I.lo2 I.lo1 I.loB G.v2 G.v1 (by rw [← hd9]; exact due2 (lastOf_vk G.v2) (lastOf_vk G.v1) (G.sim.at _)) fin
  · rw [fx3]
    exact asked1N (H.less (by decide)) I.N (ledP 6 rfl) (ledP 7 rfl) (ledP 8 rfl) (ledP 9 rfl) (G.k3 ▸ I.D3) I.DB I.lo3 I.loB G.v3 (by rw [← hd9]; exact due1 (lastOf_vk G.v3) (G.sim.at _)) fin
theorem askedM (H : At hd.heap_39 w mean mg mb A cn cs a ccd outer A₀ base h₀ L m s 30) (N : News h₀ L s.heap news) (W : Wit w fx st its hb h₀ L own) (sub : ∀ p ∈ own, p ∈ news) (h1 : 1 ≤ lv) (h3 : lv ≤ 3) (G : Good st) (hdue : DueIs st lv kb.toList due)
    (k : ∀ g' h' tk own', KtsTurn (outer.filterMap (·.frame)) h₀ g' → Below A₀ base outer g' → Frag.In (hd.heap_39 w.params) g' → Top hd.view_39 (looseW hd.view_39 [Str.ofString "_law_keys"]) mean mg mb g' → KtsDicts (outer.filterMap (·.frame)) g' → Fr g' L h' m → News g' L h' own' → Wit w fx st its hb g' L own' → Q (.bool true) { s with heap := h', toks := tk }) :
    wpAny (model PySem.Challenge.rw_ad6016_01.row.prog w) A (call (.ref 105) [.ref (fx.x lv), .bytes kb t, due]) Q E s := by
  obtain ⟨cv, I⟩ := W.here H.F N sub
  exact askedB H I h1 h3 G hdue fun h' tk T => by
    obtain ⟨g', T', B', X', TT', D', F', I'⟩ := I.turned H T
    exact k g' h' tk _ T' B' X' TT' D' F' rest_news' (I'.wit F')
theorem committedM (H : At hd.heap_39 w mean mg mb A cn cs a ccd outer A₀ base h₀ L m s 30) (N : News h₀ L s.heap news) (W : Wit w fx st its hb h₀ L own) (sub : ∀ p ∈ own, p ∈ news) (h1 : 1 ≤ lv) (h3 : lv ≤ 3) (G : Good st) (hz : st.size ≤ 1000) (hdd : lv = 2 → dd = false)
    (k : ∀ st' h' tk own', Good st' → st'.size ≤ st.size → Fr h₀ L h' m → News h₀ L h' own' → Wit w fx st' its hb h₀ L own' → Q (.bool true) { s with heap := h', toks := tk }) :
    wpAny (model PySem.Challenge.rw_ad6016_01.row.prog w) A (call (.ref 119) [.ref (fx.x lv), .ref fx.lg, .ref fx.dP, .int lv tl, .bool dd]) Q E s := by
  obtain ⟨cv, I⟩ := W.here H.F N sub
  have hsz : st.r1.length + st.r2.length + st.r3.length + st.kB.length ≤ 1000 := hz
  have hkl := G.sim.length
  rcases lv_cases h1 h3 with rfl | rfl | rfl
  · rw [fx1]
    refine cm1 (vs := cv.v1) (l2 := st.l2) (l3 := st.l3) H (fun p hp => by
      simp only [List.mem_cons, List.not_mem_nil, or_false] at hp
      rcases hp with rfl | rfl | rfl | rfl | rfl | rfl | rfl
      · exact I.N _ (ledP 0 rfl)
      · exact I.N _ (ledP 1 rfl)
      · exact I.N _ (ledP 2 rfl)
      · exact I.N _ (ledP 9 rfl)
      · exact I.N _ (ledP 14 rfl)
      · exact I.N _ (ledP 11 rfl)
      · exact I.N _ (ledP 10 rfl)) (nd_pick I.nd [0, 1, 2, 9, 14, 11, 10] (by decide) rfl) (G.k1 ▸ I.D1) I.DB I.DP I.lo1 I.loB I.loP I.R1 G.v1 (by rw [sizeLine_eq]; omega) (by rw [sizeLine_eq]; omega) ?_
    intro h' tk c' oc' oB' l' n' n'' oP' K fc fl ncl e1 e2 d2 lo e3 d3 e4 e5 e6 d6
    let st' : Mv := { st with l1 := l', K1 := [], r1 := [], kB := applied dd (puts [] st.r1) st.kB, kP := applied dd (puts [] st.r1) st.kP }
    let cv' : Cv := { cv with c1 := c', o1 := oc', oB := oB', oP := oP', v1 := [], q1 := n', ql := n'' }
    have hS : ∀ b ∈ [fx.d1, fx.dB, fx.lg, fx.dP], b ∈ adr fx st cv := fun b hb => by
      simp only [List.mem_cons, List.not_mem_nil, or_false] at hb
      rcases hb with rfl | rfl | rfl | rfl
      · exact List.mem_of_getElem? (i := 1) rfl
      · exact List.mem_of_getElem? (i := 9) rfl
      · exact List.mem_of_getElem? (i := 14) rfl
      · exact List.mem_of_getElem? (i := 10) rfl
    have F' := I.frame H.F K hS
    have I' : InvAt w fx st' cv' its hb h₀ L h' := I.committed H.F F' K [(1, fx.d1, dictOf (wrE w fx.t11 fx.t12 (.ref fx.dB) c') fx.n1), (2, c', oc'), (9, fx.dB, oB'), (10, fx.dP, oP'), (11, l', listOf #[] n'), (14, fx.lg, listOf #[.none, .ref l', .ref st.l2, .ref st.l3] n'')] (i := 2) (j := 11) fc fl ncl
      (fun b hb => by
        simp only [List.mem_cons, List.not_mem_nil, or_false] at hb
        rcases hb with rfl | rfl | rfl | rfl
        · exact ⟨_, .head _, rfl⟩
        · exact ⟨_, .tail _ (.tail _ (.head _)), rfl⟩
        · exact ⟨_, .tail _ (.tail _ (.tail _ (.tail _ (.tail _ (.head _))))), rfl⟩
        · exact ⟨_, .tail _ (.tail _ (.tail _ (.head _))), rfl⟩)
      (fun u hu => by
        simp only [List.mem_cons, List.not_mem_nil, or_false] at hu
        rcases hu with rfl | rfl | rfl | rfl | rfl | rfl
        · exact ⟨e1, .inl rfl⟩
        · exact ⟨e2, .inr (.inl rfl)⟩
        · exact ⟨e3, .inl rfl⟩
        · exact ⟨e6, .inl rfl⟩
        · exact ⟨e5, .inr (.inr rfl)⟩
        · exact ⟨e4, .inl rfl⟩) rfl rfl d2 I.D2 I.D3 d3 d6 lo I.lo2 I.lo3 trivial (I.rows K hS I.R2) (I.rows K hS I.R3)
    have G' : Good st' := ⟨rfl, G.k2, G.k3, (fun _ q => nomatch q), G.v2, G.v3, applied_sim G.v1 G.sim⟩
    refine k st' h' tk _ G' ?_ F' rest_news' (I'.wit F')
    have := applied_size (dd := dd) (r := st.r1) (a := st.kB)
    show 0 + st.r2.length + st.r3.length + (applied dd (puts [] st.r1) st.kB).length ≤ st.r1.length + st.r2.length + st.r3.length + st.kB.length
    omega
  · cases hdd rfl
    rw [fx2]
    refine cm2 (vs := cv.v2) (ws := cv.v1) (l1 := st.l1) (l3 := st.l3) H (fun p hp => by
      simp only [List.mem_cons, List.not_mem_nil, or_false] at hp
      rcases hp with rfl | rfl | rfl | rfl | rfl | rfl | rfl | rfl | rfl
      · exact I.N _ (ledP 3 rfl)
      · exact I.N _ (ledP 4 rfl)
      · exact I.N _ (ledP 5 rfl)
      · exact I.N _ (ledP 0 rfl)
      · exact I.N _ (ledP 1 rfl)
      · exact I.N _ (ledP 2 rfl)
      · exact I.N _ (ledP 14 rfl)
      · exact I.N _ (ledP 12 rfl)
      · exact I.N _ (ledP 11 rfl)) (nd_pick I.nd [3, 4, 5, 0, 1, 2, 14, 12, 11] (by decide) rfl) (G.k2 ▸ I.D2) (G.k1 ▸ I.D1) I.lo2 I.R2 I.R1 G.v2 (by rw [sizeLine_eq]; omega) ?_
    intro h' tk c' oc' oB' l' n' n'' ws' q' K fc fl ncl e1 e2 d2 lo e3 d3 e4 e5 e6 R
    let st' : Mv := { st with l2 := l', K2 := [], r2 := [], K1 := applied false (puts [] st.r2) (puts [] st.r1), r1 := st.r1 ++ kept (puts [] st.r2) }
    let cv' : Cv := { cv with c2 := c', o2 := oc', o1 := oB', v2 := [], q2 := n', v1 := ws', q1 := q', ql := n'' }
    have hS : ∀ b ∈ [fx.d2, cv.c1, fx.lg, st.l1], b ∈ adr fx st cv := fun b hb => by
      simp only [List.mem_cons, List.not_mem_nil, or_false] at hb
      rcases hb with rfl | rfl | rfl | rfl
      · exact List.mem_of_getElem? (i := 4) rfl
      · exact List.mem_of_getElem? (i := 2) rfl
      · exact List.mem_of_getElem? (i := 14) rfl
      · exact List.mem_of_getElem? (i := 11) rfl
    have F' := I.frame H.F K hS
    have I' : InvAt w fx st' cv' its hb h₀ L h' := I.committed H.F F' K [(4, fx.d2, dictOf (wrE w fx.t21 fx.t22 (.ref fx.x1) c') fx.n2), (5, c', oc'), (2, cv.c1, oB'), (11, st.l1, listOf ws'.toArray q'), (12, l', listOf #[] n'), (14, fx.lg, listOf #[.none, .ref st.l1, .ref l', .ref st.l3] n'')] (i := 5) (j := 12) fc fl ncl
      (fun b hb => by
        simp only [List.mem_cons, List.not_mem_nil, or_false] at hb
        rcases hb with rfl | rfl | rfl | rfl
        · exact ⟨_, .head _, rfl⟩
        · exact ⟨_, .tail _ (.tail _ (.head _)), rfl⟩
        · exact ⟨_, .tail _ (.tail _ (.tail _ (.tail _ (.tail _ (.head _))))), rfl⟩
        · exact ⟨_, .tail _ (.tail _ (.tail _ (.head _))), rfl⟩)
      (fun u hu => by
        simp only [List.mem_cons, List.not_mem_nil, or_false] at hu
        rcases hu with rfl | rfl | rfl | rfl | rfl | rfl
        · exact ⟨e1, .inl rfl⟩
        · exact ⟨e2, .inr (.inl rfl)⟩
        · exact ⟨e3, .inl rfl⟩
        · exact ⟨e6, .inl rfl⟩
        · exact ⟨e5, .inr (.inr rfl)⟩
        · exact ⟨e4, .inl rfl⟩) rfl rfl d3 d2 I.D3 I.DB I.DP I.lo1 lo I.lo3 R trivial (I.rows K hS I.R3)
    have G' : Good st' := ⟨(commit2 _ _).symm, rfl, G.k3, fun r hr => by
      rcases List.mem_append.mp hr with q | q
      · exact G.v1 r q
      · exact kept_vk (puts_vk (acc := []) G.v2 (fun _ q => nomatch q)) r q, (fun _ q => nomatch q), G.v3, G.sim⟩
    refine k st' h' tk _ G' ?_ F' rest_news' (I'.wit F')
    have z1 := puts_len st.r2 []
    have z2 := kept_len (puts [] st.r2)
    rw [List.length_nil] at z1
    show (st.r1 ++ kept (puts [] st.r2)).length + 0 + st.r3.length + st.kB.length ≤ st.r1.length + st.r2.length + st.r3.length + st.kB.length
    rw [List.length_append]
    omega
  · rw [fx3]
    refine cm3 (vs := cv.v3) (l1 := st.l1) (l2 := st.l2) H (fun p hp => by
      simp only [List.mem_cons, List.not_mem_nil, or_false] at hp
      rcases hp with rfl | rfl | rfl | rfl | rfl | rfl | rfl
      · exact I.N _ (ledP 6 rfl)
      · exact I.N _ (ledP 7 rfl)
      · exact I.N _ (ledP 8 rfl)
      · exact I.N _ (ledP 9 rfl)
      · exact I.N _ (ledP 14 rfl)
      · exact I.N _ (ledP 13 rfl)
      · exact I.N _ (ledP 10 rfl)) (nd_pick I.nd [6, 7, 8, 9, 14, 13, 10] (by decide) rfl) (G.k3 ▸ I.D3) I.DB I.DP I.lo3 I.loB I.loP I.R3 G.v3 (by rw [sizeLine_eq]; omega) (by rw [sizeLine_eq]; omega) ?_
    intro h' tk c' oc' oB' l' n' n'' oP' K fc fl ncl e1 e2 d2 lo e3 d3 e4 e5 e6 d6
    let st' : Mv := { st with l3 := l', K3 := [], r3 := [], kB := applied dd (puts [] st.r3) st.kB, kP := applied dd (puts [] st.r3) st.kP }
    let cv' : Cv := { cv with c3 := c', o3 := oc', oB := oB', oP := oP', v3 := [], q3 := n', ql := n'' }
    have hS : ∀ b ∈ [fx.d3, fx.dB, fx.lg, fx.dP], b ∈ adr fx st cv := fun b hb => by
      simp only [List.mem_cons, List.not_mem_nil, or_false] at hb
      rcases hb with rfl | rfl | rfl | rfl
      · exact List.mem_of_getElem? (i := 7) rfl
      · exact List.mem_of_getElem? (i := 9) rfl
      · exact List.mem_of_getElem? (i := 14) rfl
      · exact List.mem_of_getElem? (i := 10) rfl
    have F' := I.frame H.F K hS
    have I' : InvAt w fx st' cv' its hb h₀ L h' := I.committed H.F F' K [(7, fx.d3, dictOf (wrE w fx.t31 fx.t32 (.ref fx.dB) c') fx.n3), (8, c', oc'), (9, fx.dB, oB'), (10, fx.dP, oP'), (13, l', listOf #[] n'), (14, fx.lg, listOf #[.none, .ref st.l1, .ref st.l2, .ref l'] n'')] (i := 8) (j := 13) fc fl ncl
      (fun b hb => by
        simp only [List.mem_cons, List.not_mem_nil, or_false] at hb
        rcases hb with rfl | rfl | rfl | rfl
        · exact ⟨_, .head _, rfl⟩
        · exact ⟨_, .tail _ (.tail _ (.head _)), rfl⟩
        · exact ⟨_, .tail _ (.tail _ (.tail _ (.tail _ (.tail _ (.head _))))), rfl⟩
        · exact ⟨_, .tail _ (.tail _ (.tail _ (.head _))), rfl⟩)
      (fun u hu => by
        simp only [List.mem_cons, List.not_mem_nil, or_false] at hu
        rcases hu with rfl | rfl | rfl | rfl | rfl | rfl
        · exact ⟨e1, .inl rfl⟩
        · exact ⟨e2, .inr (.inl rfl)⟩
        · exact ⟨e3, .inl rfl⟩
        · exact ⟨e6, .inl rfl⟩
        · exact ⟨e5, .inr (.inr rfl)⟩
        · exact ⟨e4, .inl rfl⟩) rfl rfl I.D1 I.D2 d2 d3 d6 I.lo1 I.lo2 lo (I.rows K hS I.R1) (I.rows K hS I.R2) trivial
    have G' : Good st' := ⟨G.k1, G.k2, rfl, G.v1, G.v2, (fun _ q => nomatch q), applied_sim G.v3 G.sim⟩
    refine k st' h' tk _ G' ?_ F' rest_news' (I'.wit F')
    have := applied_size (dd := dd) (r := st.r3) (a := st.kB)
    show st.r1.length + st.r2.length + 0 + (applied dd (puts [] st.r3) st.kB).length ≤ st.r1.length + st.r2.length + st.r3.length + st.kB.length
    omega
end
end
section
theorem hold_any {P : Prop} (h : Hold P) : P := h
def IntPost (s : Shared) (v : Value) (s' : Shared) : Prop := ∃ n t tk, v = .int n t ∧ s' = { s with toks := tk }
theorem int_cut {M : Model} {A : Around} {t : Sem Value} {Q : Value → Shared → Prop} {E : Value → Shared → Prop} {s : Shared} (h1 : Hold (wpAny M A t (IntPost s) E s)) (h2 : ∀ n tk k, Q (.int n tk) { s with toks := k }) : wpAny M A t Q E s :=
  wpAny_mono h1 (fun v s' ⟨n, tk, k, e1, e2⟩ => by rw [e1, e2]; exact h2 n tk k) fun _ _ e => e
def TokPost (s : Shared) (_ : Bool) (s' : Shared) : Prop := ∃ tk, s' = { s with toks := tk }
theorem if_any0 {M : Model} {A : Around} {env : Env} {test : PySem.Expr} {body orelse : List Stmt} {pos : Pos} {Q : Flow → Shared → Prop} {E : Value → Shared → Prop} {s : Shared} (h1 : wpAny M A (isTrue test env (eval test env)) (TokPost s) E s)
    (h2 : ∀ tk, wpAny M A (execs body env) Q E { s with toks := tk }) (h3 : ∀ tk, wpAny M A (execs orelse env) Q E { s with toks := tk }) : wpAny M A (exec (.If test body orelse pos) env) Q E s :=
  wpAny_If (wpAny_mono h1 (fun b s' ⟨tk, e⟩ => by
    subst e
    cases b
    · exact h3 tk
    · exact h2 tk) fun _ _ e => e)
theorem if_any {M : Model} {A : Around} {env : Env} {test : PySem.Expr} {body orelse : List Stmt} {pos : Pos} {Q : Flow → Shared → Prop} {E : Value → Shared → Prop} {s : Shared} (h1 : Hold (wpAny M A (isTrue test env (eval test env)) (TokPost s) E s))
    (h2 : ∀ tk, wpAny M A (execs body env) Q E { s with toks := tk }) (h3 : ∀ tk, wpAny M A (execs orelse env) Q E { s with toks := tk }) : wpAny M A (exec (.If test body orelse pos) env) Q E s := if_any0 h1 h2 h3
theorem turn_any {M : Model} {A : Around} {t : Sem Flow} {L : Addr} {str : List Str} {m₀ : Str → Option Value} {fp : List Addr} {J : Heap → Heap → Prop} {Qr : Value → Shared → Prop} {s : Shared} {h : Heap} {tk : Nat} {E : Value → Shared → Prop}
    (k : ∀ (Qr : Value → Shared → Prop) (E : Value → Shared → Prop) (s : Shared), wpAny M A t (TurnEnd2 L str m₀ fp J Qr { s with heap := h, toks := tk }) E { s with heap := h, toks := tk }) :
    wpAny M A t (TurnEnd2 L str m₀ fp J Qr { s with heap := h, toks := tk }) E { s with heap := h, toks := tk } := k Qr E s
theorem turn_any1 {M : Model} {A : Around} {t : Sem Flow} {h₀ : Heap} {L : Addr} {str : List Str} {m₀ : Str → Option Value} {fp : List Addr} {J : Heap → Prop} {Qr : Value → Shared → Prop} {s : Shared} {h : Heap} {tk : Nat} {E : Value → Shared → Prop}
    (k : ∀ (Qr : Value → Shared → Prop) (E : Value → Shared → Prop) (s : Shared), wpAny M A t (TurnEnd h₀ L str m₀ fp J Qr { s with heap := h, toks := tk }) E { s with heap := h, toks := tk }) :
    wpAny M A t (TurnEnd h₀ L str m₀ fp J Qr { s with heap := h, toks := tk }) E { s with heap := h, toks := tk } := k Qr E s
theorem ctn_cons {b y : Str} {l : List Str} {u : Str → Option Value} {x : Option Value} : (if (b :: l).contains y = true then u y else x) = if y = b then u b else if l.contains y = true then u y else x := by
  by_cases e : y = b
  · subst e; rw [if_pos (by simp), if_pos rfl]
  · rw [if_neg e]
    have : (b :: l).contains y = l.contains y := by
      rw [List.contains_cons]
      simp [e]
    rw [this]
theorem ctn_nil {y : Str} {u : Str → Option Value} {x : Option Value} : (if ([] : List Str).contains y = true then u y else x) = x := by
  rw [if_neg (by simp)]
def pick4 {α : Type} (a b c d : α) (e : Int) : α := if e = 0 then a else if e = 1 then b else if e = 2 then c else d
def keyOf (its : Array Value) (e : Int) : Array UInt8 := match its[e.toNat]? with | some (.bytes b _) => b | _ => #[]
def keyTok (its : Array Value) (e : Int) : Nat := match its[e.toNat]? with | some (.bytes _ t) => t | _ => 0
section
variable {prog : Program} {w : World} {A : Around} {E : Value → Shared → Prop} {s : Shared} {h₀ : Heap} {L : Addr} {m : Str → Option Value} {news : List (Addr × Obj)}
theorem range_iterK {r : Addr} {t u v : Tok} {Q : Value → Shared → Prop} (F : Fr h₀ L s.heap m) (N : News h₀ L s.heap news) (hr : IsRange s.heap r 0 5 1 t u v)
    (h : ∀ it h', (∀ p ∈ news, p.1 < it) → h₀.get? it = none → it ≠ L → Fr h₀ L h' m → News h₀ L h' news → IsRangeIter h' it 0 5 1 → Q (.ref it) { s with heap := h' }) : wpAny (model prog w) A (pyIter (.ref r)) Q E s :=
  wpAny_pyIter_range hr (by decide) (h _ _ (fun p hp => Heap.lt_size (N p hp).1) (next_is_new F) (Nat.ne_of_gt F.ns.lt) (F.push _) (fun p hp => (News.push F N _) p (.tail _ hp)) (Heap.get?_push_size _ rfl))
/-- _law_keys[e] -/
theorem keysK {value slice : PySem.Expr} {its : Array Value} {nk : Nat} {e : Int} {t : Tok} {Q : Value → Shared → Prop} (X : (hd.heap_39 w.params).In h₀) (F : Fr h₀ L s.heap m) (hk : (hd.heap_39 w.params).lookup 72 = some (listOf its nk)) (hsz : its.size = 5) (hks : ∀ (i : Nat) (v : Value), its[i]? = some v → ∃ b t, v = .bytes b t)
    (h0 : 0 ≤ e) (h5 : e < 5) (k : Q (.bytes (keyOf its e) (keyTok its e)) s)
    (hs : subscripted slice false (.ref 72) (.int e t) = operate [.ref 72, .int e t] (getItem (.ref 72) (.int e t)) := by with_unfolding_all rfl) :
    wpAny (model prog w) A (subscriptTail value slice (.ref 72) (.int e t)) Q E s := by
  have hl : s.heap.IsList 72 its := ⟨_, F.keep _ _ (X 72 _ hk), rfl, _, rfl⟩
  have hlt : e.toNat < its.size := by omega
  obtain ⟨b, t', eb⟩ := hks e.toNat _ (Array.getElem?_eq_getElem hlt)
  have ek : keyOf its e = b := by unfold keyOf; rw [Array.getElem?_eq_getElem hlt, eb]
  have et : keyTok its e = t' := by unfold keyTok; rw [Array.getElem?_eq_getElem hlt, eb]
  rw [ek, et] at k
  exact tail_any hl.typeIs slot_list_getitem.lookup (wpAny_getItem_list hl h0 (by omega) ((Array.getElem?_eq_getElem hlt).trans (congrArg some eb)) k) hs
/-- an item of the list of the four values -/
theorem valuesK {value slice : PySem.Expr} {l : Addr} {b0 b1 b2 b3 : Array UInt8} {t0 t1 t2 t3 : Tok} {n : Nat} {e : Int} {t : Tok} {Q : Value → Shared → Prop} (N : News h₀ L s.heap news) (hl : (l, listOf #[.bytes b0 t0, .bytes b1 t1, .bytes b2 t2, .bytes b3 t3] n) ∈ news) (h0 : 0 ≤ e) (h4 : e < 4)
    (k : Q (.bytes (pick4 b0 b1 b2 b3 e) (pick4 t0 t1 t2 t3 e)) s) (hs : subscripted slice false (.ref l) (.int e t) = operate [.ref l, .int e t] (getItem (.ref l) (.int e t)) := by with_unfolding_all rfl) :
    wpAny (model prog w) A (subscriptTail value slice (.ref l) (.int e t)) Q E s := by
  have hL : s.heap.IsList l #[.bytes b0 t0, .bytes b1 t1, .bytes b2 t2, .bytes b3 t3] := ⟨_, (N _ hl).1, rfl, _, rfl⟩
  refine tail_any hL.typeIs slot_list_getitem.lookup (wpAny_getItem_list hL h0 (by omega) ?_ k) hs
  have : e = 0 ∨ e = 1 ∨ e = 2 ∨ e = 3 := by omega
  rcases this with rfl | rfl | rfl | rfl <;> rfl
end
theorem fm2 (a : Int) : a.fmod 2 = a % 2 := Int.fmod_eq_emod_of_nonneg _ (by decide)
theorem fm3 (a : Int) : a.fmod 3 = a % 3 := Int.fmod_eq_emod_of_nonneg _ (by decide)
theorem fm4 (a : Int) : a.fmod 4 = a % 4 := Int.fmod_eq_emod_of_nonneg _ (by decide)
theorem fm5 (a : Int) : a.fmod 5 = a % 5 := Int.fmod_eq_emod_of_nonneg _ (by decide)
theorem fm8 (a : Int) : a.fmod 8 = a % 8 := Int.fmod_eq_emod_of_nonneg _ (by decide)
end
section
local macro_rules | `(tactic| k_ne) => `(tactic| first | assumption | exact ne_s (by assumption))
local macro_rules | `(tactic| ktr_enter) => `(tactic| (refine' enter ?k1 ?k2 ?k3 ?k4 ?k5 ?kD ?kA ?kK ?k6 ?k7 ?k8 ?k9 ?kB ?_ ?c2 ?c3 ?c4 ?c5; (case kA => exact rfl); (case kK => first | assumption | exact rfl); (case k1 => k_asm); (case k2 => k_asm); (case k3 => k_asm); (case k4 => k_asm); (case k5 => k_asm); (case kD => k_asm); (case k6 => k_is); (case k7 => k_is); (case k8 => ktr_room); (case k9 => first | exact BindsTo.of_eq rfl | exact binds_K (by k_in) rfl (by k_is) rfl rfl rfl); (case c5 => decide); (case kB => exact locs rfl); (case c2 => exact rfl); (case c3 => exact rfl); (case c4 => exact rfl); k_whole; intro g' L' h' hG' F' N' B' X' T' D'; (try dsimp only); (try k_fold)))
local macro_rules | `(tactic| tb_rel) => `(tactic| first | exact List.forall_mem_nil _ | (refine List.forall_mem_cons.mpr ⟨by first | exact Or.inr (by k_mem) | exact Or.inl (by k_mem), ?_⟩; tb_rel))
local macro_rules | `(tactic| walk_at "setItem ref bytes") => `(tactic| (k_here; k_dflt (refine' kda_set (knd := bytesKind _ _) ?F ?N ?U ?d (bk_is _ _ _) ?z ?_; (case F => k_asm); (case N => k_asm); (case U => k_updF); (case d => k_asm); (case z => assumption)); intro h' o' F' N' hd'; (try dsimp only at N')))
local macro_rules | `(tactic| walk_at "compareOp In bytes ref") => `(tactic| (k_here; k_dflt (refine kda_in (knd := bytesKind _ _) (by k_asm) (by k_mem) (by k_asm) (by k_asm) (bk_is _ _ _) _ (by first | exact some_is (by assumption) | exact none_is (by assumption)) ?_)))
local macro_rules | `(tactic| walk_at "subscriptTail") => `(tactic| (k_here; (with_reducible show wpAny _ _ (subscriptTail _ _ (Value.ref _) (Value.bytes _ _)) _ _ _); k_dflt (refine kda_item (knd := bytesKind _ _) (by k_asm) (by k_mem) (by k_asm) (bk_is _ _ _) (by assumption) ?_)))
local macro_rules | `(tactic| tb_start) => `(tactic| exact keep_of (by assumption) (by assumption) (by assumption) (by assumption) (by tb_rel))
local macro_rules | `(tactic| ktf_step) => `(tactic| (intro h' tk' hk'; have F' := fr_keep (by assumption) hk'; have N' := news_keep (by assumption) hk'))
local macro_rules | `(tactic| ktn_step) => `(tactic| (refine' At.mk ?B ?F ?X ?T ?XB ?TB ?D ?hh ?hA ?hck ?hd ?hu; (case B => k_asm); (case F => k_asm); (case X => k_asm); (case T => k_asm); (case XB => k_asm); (case TB => k_asm); (case D => k_asm); (case hh => exact rfl); (case hA => exact rfl); (case hck => first | assumption | exact rfl); (case hd => ktr_room); (case hu => ktr_units)))
local macro_rules | `(tactic| k_room) => `(tactic| ktr_room)
local macro_rules | `(tactic| k_units) => `(tactic| ktr_units)
local macro_rules | `(tactic| kwd_same0) => `(tactic| first | exact List.forall_mem_nil _ | (refine List.forall_mem_cons.mpr ⟨by first | exact dict_cls (by assumption) | (show Value.type "list" ≠ Value.type "tuple"; decide) | (show Value.ref _ ≠ Value.type "tuple"; exact fun x => nomatch x) | (show Value.type "dict" ≠ Value.type "tuple"; decide), ?_⟩; kwd_same0))
local macro_rules | `(tactic| walk_at "compareOp NotEq ref ref") => `(tactic| (k_here; k_dflt (first | (refine' ne_nil_snoc ?N ?a ?b ?u ?_; (case N => k_asm); (case a => k_mem); (case b => k_mem); (case u => ktr_units)) | (refine' ne_nil_nil ?N ?a ?b ?u ?_; (case N => k_asm); (case a => k_mem); (case b => k_mem); (case u => ktr_units)))))
local macro_rules | `(tactic| walk_at "subscriptTail") => `(tactic| (k_here; (with_reducible show wpAny _ _ (subscriptTail _ _ (Value.ref _) (Value.int _ _)) _ _ _); k_dflt (refine' item_tupleT (Fr.tup ?F ?T) ?lo ?hi ?j ?x ?_; (case T => with_reducible assumption); (case F => k_asm); (case lo => decide); (case hi => decide); (case j => rfl); (case x => rfl))))
local macro_rules | `(tactic| walk_at "subscriptTail") => `(tactic| (k_here; (with_reducible show wpAny _ _ (subscriptTail _ _ (Value.ref _) (Value.int (-1) _)) _ _ _); k_dflt (refine' last_item ?N ?a ?z ?_; (case N => k_asm); (case a => k_mem); (case z => assumption))))
local macro_rules | `(tactic| walk_at "call builtin:dict.get") => `(tactic| (k_here; k_dflt (refine kdg_get1 (knd := bytesKind _ _) (by k_asm) (by k_mem) (by k_asm) (by k_asm) (bk_is _ _ _) _ (by assumption) ?_; (try dsimp only [Option.getD]))))
local macro_rules | `(tactic| walk_at "getMethod ref") => `(tactic| (k_here; (with_reducible show wpAny _ _ (getMethod (Value.ref _) (Str.ofString "get") _) _ _ _); k_dflt (refine kdg_method (knd := bytesKind _ _) (by k_asm) (by k_mem) (by k_asm) ?_)))
local macro_rules | `(tactic| walk_at "getMethod ref") => `(tactic| (k_here; (with_reducible show wpAny _ _ (getMethod (Value.ref _) (Str.ofString "items") _) _ _ _); k_dflt (refine kdi_method (knd := bytesKind _ _) (by k_asm) (by k_mem) (by k_asm) ?_)))
local macro_rules | `(tactic| walk_at "getMethod ref") => `(tactic| (k_here; (with_reducible show wpAny _ _ (getMethod (Value.ref _) (Str.ofString "pop") _) _ _ _); k_dflt (refine kdp_method (knd := bytesKind _ _) (by k_asm) (by k_mem) (by k_asm) ?_)))
local macro_rules | `(tactic| walk_at "call builtin:dict.items") => `(tactic| (k_here; k_dflt (refine kdi_call (knd := bytesKind _ _) (by k_asm) (by k_asm) (by k_mem) (by k_asm) (by k_asm) ?_); intro v' h' F' N'))
local macro_rules | `(tactic| walk_at "pyIter ref") => `(tactic| (k_here; k_dflt (refine kdi_iter (knd := bytesKind _ _) (by k_asm) (by k_asm) (by k_mem) (by k_mem) (by k_asm) ?_); intro it' ep' h' lt' no' ne' F' N' hi' da'))
local macro_rules | `(tactic| walk_at "call builtin:dict.pop") => `(tactic| (k_here; k_dflt (refine kdp_any (knd := bytesKind _ _) (by k_asm) (by k_asm) (by k_updF) (by k_asm) (bk_is _ _ _) (by assumption) (by k_asm) (by rfl) ?_); intro v' h' o' F' N' hd'; (try dsimp only at N')))
local macro_rules | `(tactic| walk_at "setAttr ref") => `(tactic| (k_here; k_dflt (refine' set_dict ?k1 ?k2 ?k3 ?k4 ?k5 ?k6 ?k7 ?k8 ?k9 ?k10 put_cache ?k12 ?k13 ?_; (case k1 => k_asm); (case k2 => k_asm); (case k3 => k_asm); (case k4 => k_inst); (case k5 => exact rfl); (case k6 => k_is); (case k7 => k_is); (case k8 => k_is); (case k9 => k_is); (case k10 => k_get); (case k12 => k_upd); (case k13 => exact Nat.le_of_ble_eq_true rfl); k_whole; intro h' F' N'; (try k_sweep))))
local macro_rules | `(tactic| walk_at "pyIter ref") => `(tactic| (k_here; k_dflt (refine keys_iter (knd := bytesKind _ _) (by k_asm) (by k_asm) (by k_mem) (by k_asm) (by k_asm) ?_); intro it' ep' h' lt' no' ne' F' N' hi' da'))
local macro_rules | `(tactic| walk_at "pyIter ref") => `(tactic| (k_here; k_dflt (refine rows_iter rfl (by k_asm) (by k_asm) (by k_mem) (by assumption) ?_); intro it' h' fp' Pt' St' Mid' lt' no' ne' F' N' W' pt' st' fp9'))
local macro_rules | `(tactic| walk_at "call builtin:list.append") => `(tactic| (k_here; k_dflt (refine append_rows (by k_asm) (by k_asm) (by k_updF) (by assumption) ?_); intro h' F' N'; (try dsimp only at N')))
local macro_rules | `(tactic| kwk_ne) => `(tactic| (intro p9 hp9; repeat (first | exact hp9 | apply List.mem_cons_of_mem)))
local macro_rules | `(tactic| walk_at "newTuple") => `(tactic| (k_here; k_dflt (refine' kup_newTuple ?F ?N ?_ ?z; (case F => k_asm); (case N => k_asm); (case z => exact Nat.le_of_ble_eq_true rfl)); intro D' h' F' N' l1; (try k_lt l1); (try k_sweep)))
local macro_rules | `(tactic| walk_at "eval Dict nil nil") => `(tactic| (k_here; k_dflt (refine newDictB (bytesKind PySem.Challenge.rw_ad6016_01.row.prog _) (by k_asm) (by k_asm) (TopRead.nolimit (by k_asm)) ?_); intro d' h' o' F' N' l1 lo' hd' hk'; (try k_lt l1)))
def val0 : Array UInt8 := #[]
def val1 : Array UInt8 := #[111, 110, 101]
def val2 : Array UInt8 := #[116, 119, 111]
def val3 : Array UInt8 := #[97, 32, 108, 111, 110, 103, 101, 114, 32, 118, 97, 108, 117, 101, 32, 111, 102, 32, 115, 111, 109, 101, 32, 111, 99, 116, 101, 116, 115]
theorem values_call {w : World} {mean : ExcName → Option Value} {mg mb : Str → Option Value} {A : Around} {cn : Str} {cs : Scope} {a : Addr} {ccd : Value} {outer : List Env} {A₀ : Around} {base h₀ : Heap} {L : Addr} {m : Str → Option Value}
    {s : Shared} {news : List (Addr × Obj)} {Q : Value → Shared → Prop} {E : Value → Shared → Prop} :
    At hd.heap_39 w mean mg mb A cn cs a ccd outer A₀ base h₀ L m s 10 →
    News h₀ L s.heap news →
    (∀ h' tk l t0 t1 t2 t3 n, KeepBut [] s.heap h' → s.heap.get? l = none → h'.get? l = some (listOf #[.bytes val0 t0, .bytes val1 t1, .bytes val2 t2, .bytes val3 t3] n) → Q (.ref l) { s with heap := h', toks := tk }) →
    wpAny (model PySem.Challenge.rw_ad6016_01.row.prog w) A (call (.ref 79) [] []) Q E s := by
  k_fill
  intro H N hret
  obtain ⟨B, F, X, T, XB, TB, D, hh, hA, hck, hdp, hun⟩ := H
  obtain ⟨hdl, dp, fr, gd, un⟩ := A
  dsimp only at hh hA hdp hun
  subst hh hA
  refine wpAny_call ?_
  k_dflt ktr_enter
  k_steps
  rename KeepBut _ _ _ => hG
  rename_i F9 N9 l9
  exact hret _ _ _ _ _ _ _ _ (keep_of N hG F9 N9 (fun p hp => .inr (.tail _ hp))) (fresh_of hG (N9 _ (.head _)).2.2 (allNe_of fun p hp => Nat.ne_of_lt (l9 p hp))) (News.get N9 (by k_mem))
theorem valuesCallK {w : World} {mean : ExcName → Option Value} {mg mb : Str → Option Value} {A : Around} {cn : Str} {cs : Scope} {a : Addr} {ccd : Value} {outer : List Env} {A₀ : Around} {base h₀ : Heap} {L : Addr} {m : Str → Option Value}
    {s : Shared} {news : List (Addr × Obj)} {Q : Value → Shared → Prop} {E : Value → Shared → Prop}
    (H : At hd.heap_39 w mean mg mb A cn cs a ccd outer A₀ base h₀ L m s 10) (N : News h₀ L s.heap news)
    (h : ∀ h' tk l t0 t1 t2 t3 n, Fr h₀ L h' m → News h₀ L h' ((l, listOf #[.bytes val0 t0, .bytes val1 t1, .bytes val2 t2, .bytes val3 t3] n) :: news) → (∀ p ∈ news, p.1 ≠ l) → Q (.ref l) { s with heap := h', toks := tk }) :
    wpAny (model PySem.Challenge.rw_ad6016_01.row.prog w) A (call (.ref 79) [] []) Q E s :=
  values_call H N fun h' tk l t0 t1 t2 t3 n K fr e => by
    obtain ⟨f1, f2, f3⟩ := fresh_facts H.F N fr
    exact h h' tk l t0 t1 t2 t3 n (fr_keep H.F K) (News.cons' e f1 f2 (news_keep N K)) f3.at
end
section
/-- the two dicts of the law, ahead of the stores -/
structure Inv2 (w : World) (dB dP : Addr) (kB kP : List LRow) (it : Addr) (hb g : Heap) (L : Addr) (h : Heap) : Prop where
  ex : ∃ oB oP, News g L h [(dB, oB), (dP, oP)] ∧ oB.IsDictOf (bytesKind PySem.Challenge.rw_ad6016_01.row.prog w) kB ∧ oP.IsDictOf (bytesKind PySem.Challenge.rw_ad6016_01.row.prog w) kP
  ne : dB ≠ dP
  ap : it ≠ L ∧ it ≠ dB ∧ it ≠ dP ∧ ∀ o, hb.get? it = some o → h.get? it = some o
def Wit2 (w : World) (dB dP : Addr) (kB kP : List LRow) (it : Addr) (hb g : Heap) (L : Addr) (own : List (Addr × Obj)) : Prop :=
  ∃ h0 m0, Fr g L h0 m0 ∧ own = restOf g L [] h0 ∧ Inv2 w dB dP kB kP it hb g L h0
section
variable {w : World} {dB dP it : Addr} {kB kP : List LRow} {hb g h h' : Heap} {L : Addr} {own news : List (Addr × Obj)} {m : Str → Option Value}
theorem Inv2.up (I : Inv2 w dB dP kB kP it hb g L h) (up : ∀ b o, b ≠ L → h.get? b = some o → h'.get? b = some o) : Inv2 w dB dP kB kP it hb g L h' := by
  obtain ⟨⟨oB, oP, N, a, b⟩, ne, ap⟩ := I
  exact ⟨⟨oB, oP, fun p hp => ⟨up _ _ (N p hp).2.1 (N p hp).1, (N p hp).2⟩, a, b⟩, ne, ap.1, ap.2.1, ap.2.2.1, fun o e => up _ o ap.1 (ap.2.2.2 o e)⟩
theorem Wit2.here (W : Wit2 w dB dP kB kP it hb g L own) (F : Fr g L h m) (N : News g L h news) (sub : ∀ p ∈ own, p ∈ news) : Inv2 w dB dP kB kP it hb g L h := by
  obtain ⟨h0, m0, F0, e, I⟩ := W
  exact I.up fun b o bL eb => rest_keep (W := []) F0.keep F N (e ▸ sub) b o bL (fun q => nomatch q) eb
variable {A : Around} {s : Shared} {E : Value → Shared → Prop} {Qu : Unit → Shared → Prop} {kb : Array UInt8} {t : Nat} {v : Value} {d : Addr} {o : Obj} {kvs : List LRow}
theorem dict_put (F : Fr g L s.heap m) (N : News g L s.heap [(d, o)]) (hd : o.IsDictOf (bytesKind PySem.Challenge.rw_ad6016_01.row.prog w) kvs) (hz : kvs.length ≤ sizeLine)
    (k : ∀ h' tk o', Fr g L h' m → (∀ b ob, b ≠ L → b ≠ d → s.heap.get? b = some ob → h'.get? b = some ob) → News g L h' [(d, o')] → o'.IsDictOf (bytesKind PySem.Challenge.rw_ad6016_01.row.prog w) (stored kvs kb.toList v) → Qu () { s with heap := h', toks := tk }) :
    wpAny (model PySem.Challenge.rw_ad6016_01.row.prog w) A (setItem (.ref d) (.bytes kb t) v) Qu E s := by
  obtain ⟨own, hown⟩ : ∃ own, own = restOf g L [d] s.heap := ⟨_, rfl⟩
  have off5 : OwnOff own [d] := hown ▸ rest_off
  have N5 : News g L s.heap ((d, o) :: own) := N.append (hown ▸ rest_news')
  refine' kda_set (knd := bytesKind _ _) F N5 ?U hd (bk_is _ _ _) hz ?_
  case U => k_updF
  intro h' o' F' N' hd'
  refine k _ _ _ F' (fun b ob bL bd e => ?_) (fun p hp => N' p (by rw [List.mem_singleton.mp hp]; exact .head _)) hd'
  exact rest_keep (W := [d]) F.keep F' N' (fun p hp => .tail _ (hown ▸ hp)) b ob bL (fun q => bd (List.mem_singleton.mp q)) e
theorem setBK (F : Fr g L s.heap m) (N : News g L s.heap news) (W : Wit2 w dB dP kB kP it hb g L own) (sub : ∀ p ∈ own, p ∈ news) (e : d = dB) (hz : kB.length ≤ sizeLine)
    (k : ∀ h' tk own', Fr g L h' m → News g L h' own' → Wit2 w dB dP (stored kB kb.toList v) kP it hb g L own' → Qu () { s with heap := h', toks := tk }) :
    wpAny (model PySem.Challenge.rw_ad6016_01.row.prog w) A (setItem (.ref d) (.bytes kb t) v) Qu E s := by
  subst e
  obtain ⟨⟨oB, oP, N2, hB, hP⟩, ne, ap⟩ := W.here F N sub
  refine dict_put F (fun p hp => N2 p (by rw [List.mem_singleton.mp hp]; exact .head _)) hB hz fun h' tk o' F' K N' hd' => k h' tk _ F' rest_news' ⟨h', m, F', rfl, ⟨⟨o', oP, fun p hp => ?_, hd', hP⟩, ne, ap.1, ap.2.1, ap.2.2.1, fun o e => K _ o ap.1 ap.2.1 (ap.2.2.2 o e)⟩⟩
  simp only [List.mem_cons, List.not_mem_nil, or_false] at hp
  rcases hp with rfl | rfl
  · exact N' _ (.head _)
  · have n := N2 (dP, oP) (.tail _ (.head _))
    exact ⟨K _ _ n.2.1 (Ne.symm ne) n.1, n.2⟩
theorem setPK (F : Fr g L s.heap m) (N : News g L s.heap news) (W : Wit2 w dB dP kB kP it hb g L own) (sub : ∀ p ∈ own, p ∈ news) (e : d = dP) (hz : kP.length ≤ sizeLine)
    (k : ∀ h' tk own', Fr g L h' m → News g L h' own' → Wit2 w dB dP kB (stored kP kb.toList v) it hb g L own' → Qu () { s with heap := h', toks := tk }) :
    wpAny (model PySem.Challenge.rw_ad6016_01.row.prog w) A (setItem (.ref d) (.bytes kb t) v) Qu E s := by
  subst e
  obtain ⟨⟨oB, oP, N2, hB, hP⟩, ne, ap⟩ := W.here F N sub
  refine dict_put F (fun p hp => N2 p (by rw [List.mem_singleton.mp hp]; exact .tail _ (.head _))) hP hz fun h' tk o' F' K N' hd' => k h' tk _ F' rest_news' ⟨h', m, F', rfl, ⟨⟨oB, o', fun p hp => ?_, hB, hd'⟩, ne, ap.1, ap.2.1, ap.2.2.1, fun o e => K _ o ap.1 ap.2.2.1 (ap.2.2.2 o e)⟩⟩
  simp only [List.mem_cons, List.not_mem_nil, or_false] at hp
  rcases hp with rfl | rfl
  · have n := N2 (dB, oB) (.head _)
    exact ⟨K _ _ n.2.1 ne n.1, n.2⟩
  · exact N' _ (.head _)
end
/-- between the turns of the first loop -/
def KT (w : World) (dB dP it : Addr) (g : Heap) (L : Addr) (i : Nat) (h : Heap) : Prop :=
  ∃ kB kP, Sim kB kP ∧ kB.length ≤ i ∧ ∃ oB oP, News g L h [(dB, oB), (dP, oP)] ∧ oB.IsDictOf (bytesKind PySem.Challenge.rw_ad6016_01.row.prog w) kB ∧ oP.IsDictOf (bytesKind PySem.Challenge.rw_ad6016_01.row.prog w) kP ∧ dB ≠ dP ∧ it ≠ L ∧ it ≠ dB ∧ it ≠ dP
theorem KT.stable {w : World} {dB dP it : Addr} {g h h' : Heap} {L : Addr} {i : Nat} (J : KT w dB dP it g L i h) (up : ∀ b o, b ≠ L → b ∉ [it] → h.get? b = some o → h'.get? b = some o) : KT w dB dP it g L i h' := by
  obtain ⟨kB, kP, hS, hl, oB, oP, N, hB, hP, n1, n2, n3, n4⟩ := J
  refine ⟨kB, kP, hS, hl, oB, oP, fun p hp => ⟨up _ _ (N p hp).2.1 (fun q => ?_) (N p hp).1, (N p hp).2⟩, hB, hP, n1, n2, n3, n4⟩
  have q := List.mem_singleton.mp q
  simp only [List.mem_cons, List.not_mem_nil, or_false] at hp
  rcases hp with rfl | rfl
  · exact n3 q.symm
  · exact n4 q.symm
theorem KT.enter {w : World} {dB dP it : Addr} {g h : Heap} {L : Addr} {i : Nat} {m : Str → Option Value} (J : KT w dB dP it g L i h) (F : Fr g L h m) : ∃ kB kP, Sim kB kP ∧ kB.length ≤ i ∧ Wit2 w dB dP kB kP it h g L (restOf g L [] h) := by
  obtain ⟨kB, kP, hS, hl, oB, oP, N, hB, hP, n1, n2, n3, n4⟩ := J
  exact ⟨kB, kP, hS, hl, h, m, F, rfl, ⟨oB, oP, N, hB, hP⟩, n1, n2, n3, n4, fun _ e => e⟩
theorem KT.leave {w : World} {dB dP it : Addr} {g hb h : Heap} {L : Addr} {i : Nat} {m m₀ : Str → Option Value} {kB kP : List LRow} {own news : List (Addr × Obj)} {Qr : Value → Shared → Prop} {s : Shared} {tk tk' : Nat} {str : List Str} (F : Fr g L h m) (N : News g L h news) (W : Wit2 w dB dP kB kP it hb g L own) (sub : ∀ p ∈ own, p ∈ news) (hS : Sim kB kP) (hl : kB.length ≤ i)
    (hm : ∀ z, str.contains z = false → m z = m₀ z) : TurnEnd g L str m₀ [it] (KT w dB dP it g L i) Qr { s with heap := hb, toks := tk } .next { s with heap := h, toks := tk' } := by
  obtain ⟨⟨oB, oP, N2, hB, hP⟩, ne, n2, n3, n4, n5⟩ := W.here F N sub
  exact ⟨h, tk', m, rfl, F, hm, fun b hb o e => by rw [List.mem_singleton.mp hb] at e ⊢; exact n5 o e, kB, kP, hS, hl, oB, oP, N2, hB, hP, ne, n2, n3, n4⟩
end
section
/-- whatever the frame at hand holds, a def may be called -/
def AtAll (n : Nat) (w : World) (mean : ExcName → Option Value) (mg mb : Str → Option Value) (A : Around) (cn : Str) (cs : Scope) (a : Addr) (ccd : Value) (outer : List Env) (A₀ : Around) (base g : Heap) (L : Addr) : Prop :=
  Below A₀ base outer g ∧ Frag.In (hd.heap_39 w.params) g ∧ Top hd.view_39 (looseW hd.view_39 [Str.ofString "_law_keys"]) mean mg mb g ∧ KtsDicts (outer.filterMap (·.frame)) g ∧ ∀ m s, Fr g L s.heap m → At hd.heap_39 w mean mg mb A cn cs a ccd outer A₀ base g L m s n
/-- between the turns -/
def Turn (HA : Heap → Prop) (w : World) (fx : Fx) (it lst : Addr) (n : Nat) (L : Addr) (i : Nat) (g h : Heap) : Prop :=
  ∃ st cv hb, HA g ∧ InvAt w fx st cv [lst] hb g L h ∧ it ∉ adr fx st cv ∧ it ≠ L ∧ it ≠ lst ∧ g.get? it = none ∧ RowsOff [it] cv.v1 ∧ RowsOff [it] cv.v2 ∧ RowsOff [it] cv.v3 ∧ Good st ∧ st.size ≤ n + i
section
variable {HA : Heap → Prop} {w : World} {fx : Fx} {it lst : Addr} {n : Nat} {L : Addr} {i : Nat} {g h h' hb : Heap} {m m₀ : Str → Option Value} {st : Mv} {own news : List (Addr × Obj)}
theorem Turn.stable (J : Turn HA w fx it lst n L i g h) (up : ∀ b o, b ≠ L → b ∉ [it] → h.get? b = some o → h'.get? b = some o) : Turn HA w fx it lst n L i g h' := by
  obtain ⟨st, cv, hb, H, I, n1, n2, n3, n4, o1, o2, o3, G, z⟩ := J
  have two : ∀ {vs : List Value}, RowsOff [L] vs → RowsOff [it] vs → RowsOff [L, it] vs := fun x y a ha q => by
    rcases List.mem_cons.mp q with q | q
    · exact x a ha (q ▸ .head _)
    · exact y a ha q
  have k : ∀ b o, b ∉ [L, it] → h.get? b = some o → h'.get? b = some o := fun b o nb e => up b o (fun q => nb (q ▸ .head _)) (fun q => nb (.tail _ q)) e
  refine ⟨st, cv, hb, H, { I with
    N := fun p hp => ⟨up _ _ (I.N p hp).2.1 (fun q => n1 ?_) (I.N p hp).1, (I.N p hp).2⟩
    ap := fun b hb => let ⟨a1, a2, a3, o, a4, a5⟩ := I.ap b hb; ⟨a1, a2, a3, o, a4, up b o a2 (fun q => n3 (by rw [← List.mem_singleton.mp q, List.mem_singleton.mp hb])) a5⟩
    R1 := RowsAre.stay k I.R1 (two I.O1 o1)
    R2 := RowsAre.stay k I.R2 (two I.O2 o2)
    R3 := RowsAre.stay k I.R3 (two I.O3 o3) }, n1, n2, n3, n4, o1, o2, o3, G, z⟩
  rw [← List.mem_singleton.mp q, ← led_adr (w := w)]
  exact List.mem_map.mpr ⟨p, hp, rfl⟩
theorem InvAt.start {cv : Cv} {its its' : List Addr} (I : InvAt w fx st cv its hb g L h) (hits : ∀ b ∈ its', b ∈ its ∨ (b ∉ adr fx st cv ∧ b ≠ L ∧ g.get? b = none ∧ ∃ o, h.get? b = some o)) : InvAt w fx st cv its' h g L h := { I with
  ap := fun b hb => by
    rcases hits b hb with q | ⟨q1, q2, q3, o, q4⟩
    · obtain ⟨a1, a2, a3, o, a4, a5⟩ := I.ap b q
      exact ⟨a1, a2, a3, o, a5, a5⟩
    · exact ⟨q1, q2, q3, o, q4, q4⟩ }
theorem Turn.enter (J : Turn HA w fx it lst n L i g h) (F : Fr g L h m) (hit : ∃ o, h.get? it = some o) : ∃ st, HA g ∧ Good st ∧ st.size ≤ n + i ∧ Wit w fx st [it, lst] h g L (restOf g L [] h) := by
  obtain ⟨st, cv, hb, H, I, n1, n2, n3, n4, o1, o2, o3, G, z⟩ := J
  refine ⟨st, H, G, z, InvAt.wit (cv := cv) (I.start fun b hb => ?_) F⟩
  rcases List.mem_cons.mp hb with q | q
  · exact .inr (q ▸ ⟨n1, n2, n4, hit⟩)
  · exact .inl q
theorem InvAt.turn {cv : Cv} (I : InvAt w fx st cv [it, lst] hb g L h) (H : HA g) (nl : it ≠ lst) (G : Good st) (z : st.size ≤ n + i) (hoff : ∀ o, hb.get? it = some o → o.cls ≠ .type "tuple") : Turn HA w fx it lst n L i g h := by
  obtain ⟨a1, a2, a3, o, a4, a5⟩ := I.ap it (.head _)
  have off : ∀ {vs : List Value} {rs : List LRow}, RowsAre h vs rs → RowsOff [it] vs := fun R => R.off fun b hb o' e hc _ => by
    rw [List.mem_singleton.mp hb, a5] at e
    cases e
    exact hoff o a4 hc
  exact ⟨st, cv, hb, H, { I with ap := fun b hb => I.ap b (.tail _ hb) }, a1, a2, nl, a3, off I.R1, off I.R2, off I.R3, G, z⟩
theorem Turn.leave {Qr : Value → Shared → Prop} {s : Shared} {tk tk' : Nat} {str : List Str} (H : HA g) (F : Fr g L h m) (N : News g L h news) (W : Wit w fx st [it, lst] hb g L own) (sub : ∀ p ∈ own, p ∈ news) (nl : it ≠ lst) (G : Good st) (z : st.size ≤ n + i) (hoff : ∀ o, hb.get? it = some o → o.cls ≠ .type "tuple")
    (hm : ∀ z, str.contains z = false → m z = m₀ z) : TurnEnd2 L str m₀ [it, lst] (Turn HA w fx it lst n L i) Qr { s with heap := hb, toks := tk } .next { s with heap := h, toks := tk' } := by
  obtain ⟨cv, I⟩ := W.here F N sub
  refine ⟨g, h, tk', m, rfl, F, hm, fun b hb' o e => ?_, I.turn H nl G z hoff⟩
  obtain ⟨_, _, _, o', a4, a5⟩ := I.ap b hb'
  rw [show hb.get? b = some o from e] at a4
  exact (Option.some.inj a4) ▸ a5
end
section
variable {w : World} {mean : ExcName → Option Value} {mg mb : Str → Option Value} {A : Around} {cn : Str} {cs : Scope} {a : Addr} {ccd : Value} {outer : List Env} {A₀ : Around} {base h₀ : Heap} {L : Addr} {m : Str → Option Value}
    {s : Shared} {news own : List (Addr × Obj)} {fx : Fx} {st : Mv} {its : List Addr} {hb : Heap} {lv : Int} {kb : Array UInt8} {t tl : Nat} {Q : Value → Shared → Prop} {Qu : Unit → Shared → Prop} {E : Value → Shared → Prop} {v due : Value} {x y z : Addr} {dd : Bool} {n : Nat}
theorem AtAll.at (H : AtAll n w mean mg mb A cn cs a ccd outer A₀ base h₀ L) (F : Fr h₀ L s.heap m) {k : Nat} (hk : k ≤ n) : At hd.heap_39 w mean mg mb A cn cs a ccd outer A₀ base h₀ L m s k := (H.2.2.2.2 m s F).less hk
theorem setK (H : AtAll n w mean mg mb A cn cs a ccd outer A₀ base h₀ L) (F : Fr h₀ L s.heap m) (N : News h₀ L s.heap news) (W : Wit w fx st its hb h₀ L own) (sub : ∀ p ∈ own, p ∈ news) (e : x = fx.x lv) (h1 : 1 ≤ lv) (h3 : lv ≤ 3) (G : Good st) (hz : st.size ≤ 1000)
    (k : ∀ h' tk own', Fr h₀ L h' m → News h₀ L h' own' → Wit w fx (st.put lv kb.toList v) its hb h₀ L own' → Qu () { s with heap := h', toks := tk }) (hn : 30 ≤ n := by decide) :
    wpAny (model PySem.Challenge.rw_ad6016_01.row.prog w) A (setItem (.ref x) (.bytes kb t) v) Qu E s := by subst e; exact setM (H.at F (Nat.le_trans (by decide) hn)) N W sub h1 h3 G hz k
theorem delK (H : AtAll n w mean mg mb A cn cs a ccd outer A₀ base h₀ L) (F : Fr h₀ L s.heap m) (N : News h₀ L s.heap news) (W : Wit w fx st its hb h₀ L own) (sub : ∀ p ∈ own, p ∈ news) (e : x = fx.x lv) (h1 : 1 ≤ lv) (h3 : lv ≤ 3) (G : Good st) (hz : st.size ≤ 1000)
    (k : ∀ h' tk own', Fr h₀ L h' m → News h₀ L h' own' → Wit w fx (st.put lv kb.toList .none) its hb h₀ L own' → Qu () { s with heap := h', toks := tk }) (hn : 30 ≤ n := by decide) :
    wpAny (model PySem.Challenge.rw_ad6016_01.row.prog w) A (delItem (.ref x) (.bytes kb t)) Qu E s := by subst e; exact delM (H.at F (Nat.le_trans (by decide) hn)) N W sub h1 h3 G hz k
theorem tiersK {value slice : PySem.Expr} (F : Fr h₀ L s.heap m) (N : News h₀ L s.heap news) (W : Wit w fx st its hb h₀ L own) (sub : ∀ p ∈ own, p ∈ news) (e : x = fx.tr) (h1 : 1 ≤ lv) (h3 : lv ≤ 3) (k : Q (.ref (fx.x lv)) s)
    (hs : subscripted slice false (.ref x) (.int lv t) = operate [.ref x, .int lv t] (getItem (.ref x) (.int lv t)) := by with_unfolding_all rfl) :
    wpAny (model PySem.Challenge.rw_ad6016_01.row.prog w) A (subscriptTail value slice (.ref x) (.int lv t)) Q E s := by subst e; exact tiersM F N W sub h1 h3 k hs
theorem logsK {value slice : PySem.Expr} (F : Fr h₀ L s.heap m) (N : News h₀ L s.heap news) (W : Wit w fx st its hb h₀ L own) (sub : ∀ p ∈ own, p ∈ news) (e : x = fx.lg) (h1 : 1 ≤ lv) (h3 : lv ≤ 3) (k : Q (.ref (st.l lv)) s)
    (hs : subscripted slice false (.ref x) (.int lv t) = operate [.ref x, .int lv t] (getItem (.ref x) (.int lv t)) := by with_unfolding_all rfl) :
    wpAny (model PySem.Challenge.rw_ad6016_01.row.prog w) A (subscriptTail value slice (.ref x) (.int lv t)) Q E s := by subst e; exact logsM F N W sub h1 h3 k hs
theorem appendMethK {pl : Sem Bool} {Qm : Value × List Value → Shared → Prop} (F : Fr h₀ L s.heap m) (N : News h₀ L s.heap news) (W : Wit w fx st its hb h₀ L own) (sub : ∀ p ∈ own, p ∈ news) (e : x = st.l lv) (h1 : 1 ≤ lv) (h3 : lv ≤ 3) (k : Qm (.builtin "list.append", [.ref x]) s) :
    wpAny (model PySem.Challenge.rw_ad6016_01.row.prog w) A (getMethod (.ref x) "append" pl) Qm E s := by subst e; exact appendMethM F N W sub h1 h3 k
theorem put_r {k : List UInt8} : (st.put lv k v).r1 = st.r1 ∧ (st.put lv k v).r2 = st.r2 ∧ (st.put lv k v).r3 = st.r3 := by
  unfold Mv.put
  split
  · exact ⟨rfl, rfl, rfl⟩
  · split <;> exact ⟨rfl, rfl, rfl⟩
theorem appendK {tup : Addr} {n9 : Nat} (F : Fr h₀ L s.heap m) (N : News h₀ L s.heap news) (W : Wit w fx (st.put lv kb.toList v) its hb h₀ L own) (sub : ∀ p ∈ own, p ∈ news) (e : x = (st.put lv kb.toList v).l lv) (hm : (tup, ({ cls := .type "tuple", data := .seq #[.bytes kb t, v] n9 } : Obj)) ∈ news) (h1 : 1 ≤ lv) (h3 : lv ≤ 3) (G : Good st) (hz : st.size ≤ 1000) (hv : Vk (some v))
    (k : ∀ st' h' own', Good st' → st'.size ≤ st.size + 1 → Fr h₀ L h' m → News h₀ L h' own' → Wit w fx st' its hb h₀ L own' → Q .none { s with heap := h' }) :
    wpAny (model PySem.Challenge.rw_ad6016_01.row.prog w) A (call (.builtin "list.append") [.ref x, .ref tup]) Q E s := by
  subst e
  obtain ⟨e1, e2, e3⟩ := put_r (st := st) (lv := lv) (v := v) (k := kb.toList)
  obtain ⟨G', z'⟩ := G.deed h1 h3 (k := kb.toList) hv
  exact appendM F N W sub hm h1 h3 ⟨e1 ▸ G.len1 hz, e2 ▸ G.len2 hz, e3 ▸ G.len3 hz⟩ fun h' own' F' N' W' => k _ h' own' G' (Nat.le_of_eq z') F' N' W'
theorem toldK (H : AtAll n w mean mg mb A cn cs a ccd outer A₀ base h₀ L) (F : Fr h₀ L s.heap m) (N : News h₀ L s.heap news) (W : Wit w fx st its hb h₀ L own) (sub : ∀ p ∈ own, p ∈ news) (e : x = fx.lg) (e' : y = fx.dP) (h1 : 1 ≤ lv) (h3 : lv ≤ 3) (G : Good st) (hz : st.size ≤ 1000) (hdue : DueIs st lv kb.toList due)
    (k : ∀ h' tk own', Fr h₀ L h' m → News h₀ L h' own' → Wit w fx st its hb h₀ L own' → Q due { s with heap := h', toks := tk }) (hn : 30 ≤ n := by decide) :
    wpAny (model PySem.Challenge.rw_ad6016_01.row.prog w) A (call (.ref 91) [.ref x, .ref y, .int lv tl, .bytes kb t]) Q E s := by subst e e'; exact toldM (H.at F (Nat.le_trans (by decide) hn)) N W sub h1 h3 G hz hdue k
theorem toldSplitK (H : AtAll n w mean mg mb A cn cs a ccd outer A₀ base h₀ L) (F : Fr h₀ L s.heap m) (N : News h₀ L s.heap news) (W : Wit w fx st its hb h₀ L own) (sub : ∀ p ∈ own, p ∈ news) (e : x = fx.lg) (e' : y = fx.dP) (h1 : 1 ≤ lv) (h3 : lv ≤ 3) (G : Good st) (hz : st.size ≤ 1000)
    (k : ∀ due, DueIs st lv kb.toList due → ∀ h' tk own', Fr h₀ L h' m → News h₀ L h' own' → Wit w fx st its hb h₀ L own' → Q due { s with heap := h', toks := tk }) (hn : 30 ≤ n := by decide) :
    wpAny (model PySem.Challenge.rw_ad6016_01.row.prog w) A (call (.ref 91) [.ref x, .ref y, .int lv tl, .bytes kb t]) Q E s := by
  have : ∃ due, DueIs st lv kb.toList due := by
    rcases G.two lv kb.toList with e | ⟨b, u, e⟩
    · exact ⟨_, .inl ⟨e, rfl⟩⟩
    · exact ⟨_, .inr ⟨b, u, e, rfl⟩⟩
  obtain ⟨due, hd⟩ := this
  exact toldK H F N W sub e e' h1 h3 G hz hd (k due hd) hn
theorem inK (H : AtAll n w mean mg mb A cn cs a ccd outer A₀ base h₀ L) (F : Fr h₀ L s.heap m) (N : News h₀ L s.heap news) (W : Wit w fx st its hb h₀ L own) (sub : ∀ p ∈ own, p ∈ news) (e : x = fx.x lv) (h1 : 1 ≤ lv) (h3 : lv ≤ 3) (G : Good st)
    (k0 : DueIs st lv kb.toList .none → ∀ h' tk own', Fr h₀ L h' m → News h₀ L h' own' → Wit w fx st its hb h₀ L own' → Q (.bool false) { s with heap := h', toks := tk })
    (k1 : ∀ b u, DueIs st lv kb.toList (.bytes b u) → ∀ h' tk own', Fr h₀ L h' m → News h₀ L h' own' → Wit w fx st its hb h₀ L own' → Q (.bool true) { s with heap := h', toks := tk }) (hn : 30 ≤ n := by decide) :
    wpAny (model PySem.Challenge.rw_ad6016_01.row.prog w) A (compareOp .In (.bytes kb t) (.ref x)) Q E s := by subst e; exact inM (H.at F (Nat.le_trans (by decide) hn)) N W sub h1 h3 G (fun e => k0 (.inl ⟨e, rfl⟩)) (fun b u e => k1 b u (.inr ⟨b, u, e, rfl⟩))
theorem neK (H : AtAll n w mean mg mb A cn cs a ccd outer A₀ base h₀ L) (F : Fr h₀ L s.heap m) (N : News h₀ L s.heap news) (W : Wit w fx st its hb h₀ L own) (sub : ∀ p ∈ own, p ∈ news) (e : x = fx.dB) (e' : y = fx.dP) (G : Good st) (k : Q (.bool false) s) :
    wpAny (model PySem.Challenge.rw_ad6016_01.row.prog w) A (compareOp .NotEq (.ref x) (.ref y)) Q E s := by subst e e'; exact neM F N W sub G (by have := (H.at F (k := 0) (Nat.zero_le _)).hu; omega) k
theorem askedK (H : AtAll n w mean mg mb A cn cs a ccd outer A₀ base h₀ L) (F : Fr h₀ L s.heap m) (N : News h₀ L s.heap news) (W : Wit w fx st its hb h₀ L own) (sub : ∀ p ∈ own, p ∈ news) (e : x = fx.x lv) (h1 : 1 ≤ lv) (h3 : lv ≤ 3) (G : Good st) (hdue : DueIs st lv kb.toList due)
    (k : ∀ g' h' tk own', KtsTurn (outer.filterMap (·.frame)) h₀ g' → Below A₀ base outer g' → Frag.In (hd.heap_39 w.params) g' → Top hd.view_39 (looseW hd.view_39 [Str.ofString "_law_keys"]) mean mg mb g' → KtsDicts (outer.filterMap (·.frame)) g' → AtAll n w mean mg mb A cn cs a ccd outer A₀ base g' L → Fr g' L h' m → News g' L h' own' → Wit w fx st its hb g' L own' → Q (.bool true) { s with heap := h', toks := tk }) (hn : 30 ≤ n := by decide) :
    wpAny (model PySem.Challenge.rw_ad6016_01.row.prog w) A (call (.ref 105) [.ref x, .bytes kb t, due]) Q E s := by
  subst e
  exact askedM (H.at F (Nat.le_trans (by decide) hn)) N W sub h1 h3 G hdue fun g' h' tk own' T B' X' T' D' F' N' W' => k g' h' tk own' T B' X' T' D' ⟨B', X', T', D', fun m' s' F9 => { (H.at F (k := n) (Nat.le_refl _)) with B := B', F := F9, X := X', T := T', D := D' }⟩ F' N' W'
theorem committedK (H : AtAll n w mean mg mb A cn cs a ccd outer A₀ base h₀ L) (F : Fr h₀ L s.heap m) (N : News h₀ L s.heap news) (W : Wit w fx st its hb h₀ L own) (sub : ∀ p ∈ own, p ∈ news) (e : x = fx.x lv) (e' : y = fx.lg) (e'' : z = fx.dP) (h1 : 1 ≤ lv) (h3 : lv ≤ 3) (G : Good st) (hz : st.size ≤ 1000) (hdd : lv = 2 → dd = false)
    (k : ∀ st' h' tk own', Good st' → st'.size ≤ st.size → Fr h₀ L h' m → News h₀ L h' own' → Wit w fx st' its hb h₀ L own' → Q (.bool true) { s with heap := h', toks := tk }) (hn : 30 ≤ n := by decide) :
    wpAny (model PySem.Challenge.rw_ad6016_01.row.prog w) A (call (.ref 119) [.ref x, .ref y, .ref z, .int lv tl, .bool dd]) Q E s := by subst e e' e''; exact committedM (H.at F (Nat.le_trans (by decide) hn)) N W sub h1 h3 G hz hdd k
end
theorem with_at {n : Nat} {w : World} {mean : ExcName → Option Value} {mg mb : Str → Option Value} {cn : Str} {cs : Scope} {a : Addr} {ccd : Value} {base g : Heap} {L : Addr} {M : Model} {t : Sem Flow} {Q : Flow → Shared → Prop} {E : Value → Shared → Prop} {s : Shared}
    (H : AtAll n w mean mg mb (callerA.deeper (envOf cn cs L a ccd)) cn cs a ccd [] callerA base g L) (k : AtAll n w mean mg mb (callerA.deeper (envOf cn cs L a ccd)) cn cs a ccd [] callerA base g L → wpAny M (callerA.deeper (envOf cn cs L a ccd)) t Q E s) : wpAny M (callerA.deeper (envOf cn cs L a ccd)) t Q E s := k H
end
section
def Desc : List Nat → Prop
  | a :: b :: r => b < a ∧ Desc (b :: r)
  | _ => True
theorem Desc.below {a : Nat} : ∀ {l : List Nat}, Desc (a :: l) → ∀ b ∈ l, b < a
  | [], _, _, h => nomatch h
  | c :: l, d, b, h => by
    rcases List.mem_cons.mp h with rfl | h
    · exact d.1
    · exact Nat.lt_trans (Desc.below (l := l) d.2 b h) d.1
theorem Desc.tail {a : Nat} : ∀ {l : List Nat}, Desc (a :: l) → Desc l
  | [], _ => trivial
  | _ :: _, d => d.2
theorem Desc.nodup : ∀ {l : List Nat}, Desc l → l.Nodup
  | [], _ => List.nodup_nil
  | a :: l, d => List.nodup_cons.mpr ⟨fun q => Nat.lt_irrefl _ (d.below a q), d.tail.nodup⟩
theorem at_pred {w : World} {mean : ExcName → Option Value} {mg mb : Str → Option Value} {A : Around} {cn : Str} {cs : Scope} {a : Addr} {ccd : Value} {outer : List Env} {A₀ : Around} {base g : Heap} {L : Addr} {n : Nat} (_ : AtAll n w mean mg mb A cn cs a ccd outer A₀ base g L) :
    ∃ HP : Heap → Prop, ∀ g, HP g ↔ AtAll n w mean mg mb A cn cs a ccd outer A₀ base g L := ⟨_, fun _ => Iff.rfl⟩
theorem law_start {w : World} {g h : Heap} {L : Addr} {D lg l1 l2 l3 tr x1 d1 c1 x2 d2 c2 x3 d3 c3 dB dP : Addr} {ws : Array Value} {q ql q1 q2 q3 qt t11 t12 n1 t21 t22 n2 t31 t32 n3 : Nat} {o1 o2 o3 oB oP : Obj} {kB kP : List LRow}
    (N : News g L h [(D, listOf ws q), (lg, listOf #[.none, .ref l1, .ref l2, .ref l3] ql), (l3, listOf ([] : List Value).toArray q3), (l2, listOf ([] : List Value).toArray q2), (l1, listOf ([] : List Value).toArray q1), (tr, listOf #[.none, .ref x1, .ref x2, .ref x3] qt), (c3, o3), (x3, instObj 67 d3), (d3, dictOf (wrE w t31 t32 (.ref dB) c3) n3), (c2, o2), (x2, instObj 67 d2), (d2, dictOf (wrE w t21 t22 (.ref x1) c2) n2), (c1, o1), (x1, instObj 67 d1), (d1, dictOf (wrE w t11 t12 (.ref dB) c1) n1), (dB, oB), (dP, oP)])
    (hn : dB ≠ dP) (hd : Desc [D, lg, l3, l2, l1, tr, c3, x3, d3, c2, x2, d2, c1, x1, d1, dB]) (hdP : @LT.lt Nat _ dP d1)
    (D1 : o1.IsDictOf (bytesKind PySem.Challenge.rw_ad6016_01.row.prog w) []) (D2 : o2.IsDictOf (bytesKind PySem.Challenge.rw_ad6016_01.row.prog w) []) (D3 : o3.IsDictOf (bytesKind PySem.Challenge.rw_ad6016_01.row.prog w) [])
    (DB : oB.IsDictOf (bytesKind PySem.Challenge.rw_ad6016_01.row.prog w) kB) (DP : oP.IsDictOf (bytesKind PySem.Challenge.rw_ad6016_01.row.prog w) kP)
    (lo1 : (c1 == sysModules) = false) (lo2 : (c2 == sysModules) = false) (lo3 : (c3 == sysModules) = false) (loB : (dB == sysModules) = false) (loP : (dP == sysModules) = false) (hS : Sim kB kP) (hl : kB.length ≤ 5) :
    ∃ fx : Fx, dB = fx.dB ∧ dP = fx.dP ∧ x1 = fx.x1 ∧ tr = fx.tr ∧ lg = fx.lg ∧ ∃ st cv, InvAt w fx st cv [D] h g L h ∧ Good st ∧ st.size ≤ 5 ∧ ∀ b ∈ D :: adr fx st cv, b ≤ D := by
  have nd1 := hd.nodup
  have bel : ∀ b ∈ [D, lg, l3, l2, l1, tr, c3, x3, d3, c2, x2, d2, c1, x1, d1], dP < b := fun b hb => by
    have hh : Desc [D, lg, l3, l2, l1, tr, c3, x3, d3, c2, x2, d2, c1, x1, d1, dP] := by
      simp only [Desc, and_true] at hd ⊢
      exact ⟨hd.1, hd.2.1, hd.2.2.1, hd.2.2.2.1, hd.2.2.2.2.1, hd.2.2.2.2.2.1, hd.2.2.2.2.2.2.1, hd.2.2.2.2.2.2.2.1, hd.2.2.2.2.2.2.2.2.1, hd.2.2.2.2.2.2.2.2.2.1, hd.2.2.2.2.2.2.2.2.2.2.1, hd.2.2.2.2.2.2.2.2.2.2.2.1, hd.2.2.2.2.2.2.2.2.2.2.2.2.1, hd.2.2.2.2.2.2.2.2.2.2.2.2.2.1, hdP⟩
    have last : ∀ {l : List Nat} {z : Nat}, Desc (l ++ [z]) → ∀ b ∈ l, z < b := by
      intro l
      induction l with
      | nil => intro z _ b hb; cases hb
      | cons a l ih =>
        intro z d b hb
        rcases List.mem_cons.mp hb with rfl | hb
        · exact Desc.below (l := l ++ [z]) d z (List.mem_append_right _ (.head _))
        · exact ih (Desc.tail (l := l ++ [z]) d) b hb
    exact last (l := [D, lg, l3, l2, l1, tr, c3, x3, d3, c2, x2, d2, c1, x1, d1]) hh b hb
  have nd : (dP :: [D, lg, l3, l2, l1, tr, c3, x3, d3, c2, x2, d2, c1, x1, d1, dB]).Nodup := by
    refine List.nodup_cons.mpr ⟨fun hm => ?_, nd1⟩
    have hm : dP ∈ [D, lg, l3, l2, l1, tr, c3, x3, d3, c2, x2, d2, c1, x1, d1] ++ [dB] := hm
    rcases List.mem_append.mp hm with z | z
    · exact Nat.lt_irrefl _ (bel dP z)
    · exact hn (List.mem_singleton.mp z).symm
  let fx : Fx := ⟨x1, d1, x2, d2, x3, d3, dB, dP, lg, tr, t11, t12, n1, t21, t22, n2, t31, t32, n3, qt⟩
  let st : Mv := ⟨l1, l2, l3, [], [], [], [], [], [], kB, kP⟩
  let cv : Cv := ⟨c1, c2, c3, o1, o2, o3, oB, oP, [], [], [], q1, q2, q3, ql⟩
  have nda : (D :: adr fx st cv).Nodup := nd_pick nd [1, 14, 15, 13, 11, 12, 10, 8, 9, 7, 16, 0, 5, 4, 3, 2, 6] (by decide) rfl
  have nN : News g L h (led w fx st cv) := fun p hp => by
    simp only [led, List.mem_cons, List.not_mem_nil, or_false] at hp
    rcases hp with rfl | rfl | rfl | rfl | rfl | rfl | rfl | rfl | rfl | rfl | rfl | rfl | rfl | rfl | rfl | rfl
    · exact N _ (List.mem_of_getElem? (i := 13) rfl)
    · exact N _ (List.mem_of_getElem? (i := 14) rfl)
    · exact N _ (List.mem_of_getElem? (i := 12) rfl)
    · exact N _ (List.mem_of_getElem? (i := 10) rfl)
    · exact N _ (List.mem_of_getElem? (i := 11) rfl)
    · exact N _ (List.mem_of_getElem? (i := 9) rfl)
    · exact N _ (List.mem_of_getElem? (i := 7) rfl)
    · exact N _ (List.mem_of_getElem? (i := 8) rfl)
    · exact N _ (List.mem_of_getElem? (i := 6) rfl)
    · exact N _ (List.mem_of_getElem? (i := 15) rfl)
    · exact N _ (List.mem_of_getElem? (i := 16) rfl)
    · exact N _ (List.mem_of_getElem? (i := 4) rfl)
    · exact N _ (List.mem_of_getElem? (i := 3) rfl)
    · exact N _ (List.mem_of_getElem? (i := 2) rfl)
    · exact N _ (List.mem_of_getElem? (i := 1) rfl)
    · exact N _ (List.mem_of_getElem? (i := 5) rfl)
  have nD := N (D, listOf ws q) (.head _)
  have none : RowsOff [L] ([] : List Value) := fun a ha => nomatch ha
  refine ⟨fx, rfl, rfl, rfl, rfl, rfl, st, cv, ⟨nN, (List.nodup_cons.mp nda).2, fun b hb => ?_, D1, D2, D3, DB, DP, lo1, lo2, lo3, loB, loP, trivial, trivial, trivial, none, none, none⟩, ⟨rfl, rfl, rfl, (fun _ q => nomatch q), (fun _ q => nomatch q), (fun _ q => nomatch q), hS⟩, ?_, fun b hb => ?_⟩
  · rw [List.mem_singleton.mp hb]
    exact ⟨(List.nodup_cons.mp nda).1, nD.2.1, nD.2.2, _, nD.1, nD.1⟩
  · show 0 + 0 + 0 + kB.length ≤ 5
    omega
  · rcases List.mem_cons.mp hb with q | q
    · exact Nat.le_of_eq q
    · have hD := hd.below
      have : b = dP ∨ b ∈ [lg, l3, l2, l1, tr, c3, x3, d3, c2, x2, d2, c1, x1, d1, dB] := by
        simp only [adr, fx, st, cv, List.mem_cons, List.not_mem_nil, or_false] at q ⊢
        rcases q with h | h | h | h | h | h | h | h | h | h | h | h | h | h | h | h <;> simp [h]
      rcases this with rfl | q
      · exact Nat.le_of_lt (bel D (.head _))
      · exact Nat.le_of_lt (hD b q)
theorem news_tail {g h : Heap} {L : Addr} {p : Addr × Obj} {l : List (Addr × Obj)} (N : News g L h (p :: l)) : News g L h l := fun q hq => N q (.tail _ hq)
theorem Turn.fresh {HA : Heap → Prop} {w : World} {fx : Fx} {it lst : Addr} {n : Nat} {L : Addr} {i : Nat} {g h : Heap} (J : Turn HA w fx it lst n L i g h) : g.get? it = none := by
  obtain ⟨st, cv, hb, H, I, n1, n2, n3, n4, _⟩ := J
  exact n4
theorem iter_off {h : Heap} {it l : Addr} {i : Nat} (x : h.IsListIter it l i) : ∀ o, h.get? it = some o → o.cls ≠ .type "tuple" := fun o e => by
  obtain ⟨o', e', c, _⟩ := x
  rw [e] at e'
  rw [Option.some.inj e', c]
  decide
theorem Turn.zero {HP : Heap → Prop} {w : World} {fx : Fx} {it lst : Addr} {n : Nat} {L : Addr} {g h hb : Heap} {st : Mv} {cv : Cv} {l : Addr} {j : Nat} (I : InvAt w fx st cv [lst] hb g L h) (H : HP g) (n1 : it ∉ adr fx st cv) (n2 : it ≠ L) (n3 : it ≠ lst) (n4 : g.get? it = none) (G : Good st) (z : st.size ≤ n) (hi : h.IsListIter it l j) : Turn HP w fx it lst n L 0 g h := by
  refine InvAt.turn (hb := h) (I.start (its' := [it, lst]) fun b hb => ?_) H n3 G z (iter_off hi)
  rcases List.mem_cons.mp hb with q | q
  · obtain ⟨o, e, _⟩ := id hi
    exact .inr (q ▸ ⟨n1, n2, n4, o, e⟩)
  · exact .inl q
theorem AllLt.at {d : Nat} {l : List (Addr × Obj)} : AllLt d l → ∀ p ∈ l, p.1 < d := by
  induction l with
  | nil => intro _ p hp; cases hp
  | cons r l ih =>
    intro h p hp
    rcases List.mem_cons.mp hp with q | q
    · rw [q]; exact h.1
    · exact ih h.2 p q
theorem Wit.here2 {w : World} {fx : Fx} {st : Mv} {its : List Addr} {hb g h : Heap} {L : Addr} {own news : List (Addr × Obj)} {m : Str → Option Value} (W : Wit w fx st its hb g L own) (F : Fr g L h m) (N : News g L h news) (sub : ∀ p ∈ own, p ∈ news) : ∃ cv, InvAt w fx st cv its hb g L h ∧ ∀ b ∈ adr fx st cv, ∃ o, (b, o) ∈ own := by
  obtain ⟨cv, h0, m0, F0, e, I⟩ := W
  refine ⟨cv, I.up fun b o bL eb => rest_keep (W := []) F0.keep F N (e ▸ sub) b o bL (fun q => nomatch q) eb, fun b hb => ?_⟩
  obtain ⟨o, ho⟩ := I.live hb
  have n := I.N _ ho
  exact ⟨o, e ▸ mem_restOf.mpr ⟨fun q => (nomatch q), n.2.1, n.2.2, n.1⟩⟩
theorem Turn.begin {HP : Heap → Prop} {w : World} {fx : Fx} {st : Mv} {hb g h : Heap} {L it D : Addr} {own news : List (Addr × Obj)} {m : Str → Option Value} {n j : Nat} {oD : Obj} (W : Wit w fx st [] hb g L own) (F : Fr g L h m) (N : News g L h news) (sub : ∀ p ∈ own, p ∈ news) (hD : (D, oD) ∈ news) (l1 : ∀ p ∈ own, p.1 < D) (l2 : D < it) (H : HP g) (no : g.get? it = none) (ne : it ≠ L) (G : Good st) (z : st.size ≤ n) (hi : h.IsListIter it D j) : Turn HP w fx it D n L 0 g h := by
  obtain ⟨cv, I, hm⟩ := W.here2 F N sub
  have low : ∀ b ∈ adr fx st cv, b < D := fun b hb => let ⟨o, ho⟩ := hm b hb; l1 _ ho
  have nD := N _ hD
  refine Turn.zero (hb := h) (cv := cv) (I.start (its' := [D]) fun b hb => ?_) H (fun q => Nat.lt_irrefl _ (Nat.lt_trans (low it q) l2)) ne (Nat.ne_of_gt l2) no G z hi
  rw [List.mem_singleton.mp hb]
  exact .inr ⟨fun q => Nat.lt_irrefl _ (low D q), nD.2.1, nD.2.2, _, nD.1⟩
theorem Turn.over {HP : Heap → Prop} {w : World} {fx : Fx} {it lst : Addr} {n : Nat} {L : Addr} {i : Nat} {g h : Heap} {m : Str → Option Value} (J : Turn HP w fx it lst n L i g h) (F : Fr g L h m) : ∃ st, HP g ∧ Good st ∧ st.size ≤ n + i ∧ Wit w fx st [] h g L (restOf g L [] h) := by
  obtain ⟨st, cv, hb, H, I, _, _, _, _, _, _, _, G, z⟩ := J
  exact ⟨st, H, G, z, InvAt.wit (cv := cv) (I.start (its' := []) fun b hb => nomatch hb) F⟩
theorem three_items {a b c : Nat} {i : Nat} {v : Value} (h : (#[Value.int 2 a, Value.int 1 b, Value.int 3 c] : Array Value)[i]? = some v) : ∃ lv t, v = .int lv t ∧ 1 ≤ lv ∧ lv ≤ 3 := by
  rcases i with _ | _ | _ | i
  · exact ⟨2, a, (Option.some.inj h).symm, by decide, by decide⟩
  · exact ⟨1, b, (Option.some.inj h).symm, by decide, by decide⟩
  · exact ⟨3, c, (Option.some.inj h).symm, by decide, by decide⟩
  · simp at h
end
section
theorem InvAt.trans {w : World} {fx : Fx} {st : Mv} {cv cv' : Cv} {its its2 : List Addr} {hb h2 h : Heap} {g1 g : Heap} {L : Addr} (I1 : InvAt w fx st cv its hb g1 L h2) (I2 : InvAt w fx st cv' its2 h2 g L h) (sub : ∀ b ∈ its, b ∈ its2) : InvAt w fx st cv' its hb g L h := { I2 with
  ap := fun b hb' => by
    obtain ⟨_, _, _, o, e1, e2⟩ := I1.ap b hb'
    obtain ⟨a1, a2, a3, o', e3, e4⟩ := I2.ap b (sub b hb')
    rw [e2] at e3
    exact ⟨a1, a2, a3, o, e1, Option.some.inj e3 ▸ e4⟩ }
theorem InvAt.entered {w : World} {fx : Fx} {st : Mv} {cv : Cv} {its : List Addr} {hb h h' g g' : Heap} {L L' : Addr} {own : List (Addr × Obj)} {m' : Str → Option Value} (I : InvAt w fx st cv its hb g L h) (N' : News g' L' h' own) (F' : Fr g' L' h' m') (K : KeepBut [] h h') (sub : ∀ p ∈ restOf g L [] h, p ∈ own) : InvAt w fx st cv [] h' g' L' h' := by
  have r : ∀ {vs : List Value} {rs : List LRow}, RowsAre h vs rs → RowsAre h' vs rs := fun R => R.keep K (fun _ q => nomatch q)
  exact { I with
    N := fun p hp => N' p (sub p (mem_restOf.mpr ⟨fun q => (nomatch q), (I.N p hp).2.1, (I.N p hp).2.2, (I.N p hp).1⟩))
    ap := fun b q => nomatch q
    R1 := r I.R1
    R2 := r I.R2
    R3 := r I.R3
    O1 := off_ns F' (r I.R1)
    O2 := off_ns F' (r I.R2)
    O3 := off_ns F' (r I.R3) }
def isB : Value → Bool
  | .bytes _ _ => true
  | _ => false
/-- a reading def's witness: nothing at all has gone since `a` but the frames' slots -/
def WitT (w : World) (fx : Fx) (st : Mv) (cv : Cv) (its : List Addr) (hb : Heap) (fs : List Addr) (a g : Heap) (L : Addr) (own : List (Addr × Obj)) : Prop :=
  ∃ h0 m0, Fr g L h0 m0 ∧ own = restOf g L [] h0 ∧ InvAt w fx st cv its hb g L h0 ∧ Turned fs a h0 ∧ a.get? L = none
theorem Turned.up' {fs : List Addr} {a h h' : Heap} {L : Addr} (T : Turned fs a h) (eL : a.get? L = none) (up : ∀ b o, b ≠ L → h.get? b = some o → h'.get? b = some o) : Turned fs a h' := by
  have nL : ∀ b o, a.get? b = some o → b ≠ L := fun b o e q => by rw [q, eL] at e; cases e
  refine ⟨fun b o e n => up b o (nL b o e) (T.other b o e n), fun b o e => ?_⟩
  obtain ⟨sl, e2⟩ := T.up b o e
  exact ⟨sl, up b _ (nL b o e) e2⟩
section
variable {w : World} {fx : Fx} {st : Mv} {cv : Cv} {its : List Addr} {hb a₀ g h : Heap} {fs : List Addr} {L : Addr} {own news : List (Addr × Obj)} {m : Str → Option Value}
theorem WitT.here (W : WitT w fx st cv its hb fs a₀ g L own) (F : Fr g L h m) (N : News g L h news) (sub : ∀ p ∈ own, p ∈ news) : InvAt w fx st cv its hb g L h ∧ Turned fs a₀ h ∧ a₀.get? L = none := by
  obtain ⟨h0, m0, F0, e, I, T, eL⟩ := W
  have up : ∀ b o, b ≠ L → h0.get? b = some o → h.get? b = some o := fun b o bL eb => rest_keep (W := []) F0.keep F N (e ▸ sub) b o bL (fun q => nomatch q) eb
  exact ⟨I.up up, T.up' eL up, eL⟩
theorem WitT.wit (W : WitT w fx st cv its hb fs a₀ g L own) : Wit w fx st its hb g L own := by
  obtain ⟨h0, m0, F0, e, I, T, eL⟩ := W
  exact ⟨cv, h0, m0, F0, e, I⟩
end
section
variable {w : World} {mean : ExcName → Option Value} {mg mb : Str → Option Value} {A : Around} {cn : Str} {cs : Scope} {a : Addr} {ccd : Value} {outer : List Env} {A₀ : Around} {base h₀ a₀ : Heap} {L : Addr} {m : Str → Option Value}
    {s : Shared} {news own : List (Addr × Obj)} {fx : Fx} {st : Mv} {cv : Cv} {its : List Addr} {hb : Heap} {lv : Int} {kb : Array UInt8} {t tl : Nat} {Q : Value → Shared → Prop} {E : Value → Shared → Prop} {due : Value} {x y : Addr} {n : Nat} {fs : List Addr}
theorem toldRB (H : AtAll n w mean mg mb A cn cs a ccd outer A₀ base h₀ L) (F : Fr h₀ L s.heap m) (N : News h₀ L s.heap news) (W : WitT w fx st cv its hb fs a₀ h₀ L own) (sub : ∀ p ∈ own, p ∈ news) (e : x = fx.lg) (e' : y = fx.dP) (h1 : 1 ≤ lv) (h3 : lv ≤ 3) (G : Good st) (hz : st.size ≤ 1000) (hd : DueIs st lv kb.toList due)
    (k : ∀ h' tk own', Fr h₀ L h' m → News h₀ L h' own' → WitT w fx st cv its hb fs a₀ h₀ L own' → Q due { s with heap := h', toks := tk }) (hn : 30 ≤ n) :
    wpAny (model PySem.Challenge.rw_ad6016_01.row.prog w) A (call (.ref 91) [.ref x, .ref y, .int lv tl, .bytes kb t]) Q E s := by
  subst e e'
  obtain ⟨I, T, eL⟩ := W.here F N sub
  exact toldB (H.at F (Nat.le_trans (by decide) hn)) I h1 h3 G hz hd fun h' tk K => by
    have F' := fr_keep F K
    exact k h' tk _ F' rest_news' ⟨h', m, F', rfl, I.up fun b o _ e => K.all b o e, T.keep K, eL⟩
theorem toldR (H : AtAll n w mean mg mb A cn cs a ccd outer A₀ base h₀ L) (F : Fr h₀ L s.heap m) (N : News h₀ L s.heap news) (W : WitT w fx st cv its hb fs a₀ h₀ L own) (sub : ∀ p ∈ own, p ∈ news) (e : x = fx.lg) (e' : y = fx.dP) (h1 : 1 ≤ lv) (h3 : lv ≤ 3) (G : Good st) (hz : st.size ≤ 1000)
    (k0 : DueIs st lv kb.toList .none → ∀ h' tk own', Fr h₀ L h' m → News h₀ L h' own' → WitT w fx st cv its hb fs a₀ h₀ L own' → Q .none { s with heap := h', toks := tk })
    (k1 : ∀ b u, DueIs st lv kb.toList (.bytes b u) → ∀ h' tk own', Fr h₀ L h' m → News h₀ L h' own' → WitT w fx st cv its hb fs a₀ h₀ L own' → Q (.bytes b u) { s with heap := h', toks := tk }) (hn : 30 ≤ n := by decide) :
    wpAny (model PySem.Challenge.rw_ad6016_01.row.prog w) A (call (.ref 91) [.ref x, .ref y, .int lv tl, .bytes kb t]) Q E s := by
  rcases G.two lv kb.toList with q | ⟨b, u, q⟩
  · exact toldRB H F N W sub e e' h1 h3 G hz (.inl ⟨q, rfl⟩) (k0 (.inl ⟨q, rfl⟩)) hn
  · exact toldRB H F N W sub e e' h1 h3 G hz (.inr ⟨b, u, q, rfl⟩) (k1 b u (.inr ⟨b, u, q, rfl⟩)) hn
theorem DueIs.some (h : DueIs st lv kb.toList due) : (st.due lv kb.toList).isSome = isB due := by
  rcases h with ⟨e, rfl⟩ | ⟨b, u, e, rfl⟩
  · rw [e]; rfl
  · rw [e]; rfl
theorem inR (H : AtAll n w mean mg mb A cn cs a ccd outer A₀ base h₀ L) (F : Fr h₀ L s.heap m) (N : News h₀ L s.heap news) (W : WitT w fx st cv its hb fs a₀ h₀ L own) (sub : ∀ p ∈ own, p ∈ news) (e : x = fx.x lv) (h1 : 1 ≤ lv) (h3 : lv ≤ 3) (G : Good st) (hdue : DueIs st lv kb.toList due)
    (k : ∀ h' tk own', Fr h₀ L h' m → News h₀ L h' own' → WitT w fx st cv its hb fs a₀ h₀ L own' → Q (.bool (isB due)) { s with heap := h', toks := tk }) (hn : 30 ≤ n := by decide) :
    wpAny (model PySem.Challenge.rw_ad6016_01.row.prog w) A (compareOp .In (.bytes kb t) (.ref x)) Q E s := by
  subst e
  obtain ⟨I, T, eL⟩ := W.here F N sub
  exact inB (H.at F (Nat.le_trans (by decide) hn)) I h1 h3 G fun h' tk K => by
    have F' := fr_keep F K
    rw [hdue.some]
    exact k h' tk _ F' rest_news' ⟨h', m, F', rfl, I.up fun b o _ e => K.all b o e, T.keep K, eL⟩
theorem askedR (H : AtAll n w mean mg mb A cn cs a ccd outer A₀ base h₀ L) (F : Fr h₀ L s.heap m) (N : News h₀ L s.heap news) (W : WitT w fx st cv its hb (outer.filterMap (·.frame)) a₀ h₀ L own) (sub : ∀ p ∈ own, p ∈ news) (e : x = fx.x lv) (h1 : 1 ≤ lv) (h3 : lv ≤ 3) (G : Good st) (hdue : DueIs st lv kb.toList due)
    (k : ∀ g' h' tk own', Below A₀ base outer g' → Frag.In (hd.heap_39 w.params) g' → Top hd.view_39 (looseW hd.view_39 [Str.ofString "_law_keys"]) mean mg mb g' → KtsDicts (outer.filterMap (·.frame)) g' → AtAll n w mean mg mb A cn cs a ccd outer A₀ base g' L → KtsTurn (outer.filterMap (·.frame)) h₀ g' → Fr g' L h' m → News g' L h' own' → WitT w fx st cv its hb (outer.filterMap (·.frame)) a₀ g' L own' → Q (.bool true) { s with heap := h', toks := tk }) (hn : 30 ≤ n := by decide) :
    wpAny (model PySem.Challenge.rw_ad6016_01.row.prog w) A (call (.ref 105) [.ref x, .bytes kb t, due]) Q E s := by
  subst e
  obtain ⟨I, T, eL⟩ := W.here F N sub
  exact askedB (H.at F (Nat.le_trans (by decide) hn)) I h1 h3 G hdue fun h' tk T2 => by
    obtain ⟨g', T', B', X', TT', D', F', I'⟩ := I.turned (H.at F (k := n) (Nat.le_refl _)) T2
    exact k g' h' tk _ B' X' TT' D' ⟨B', X', TT', D', fun m' s' F9 => { (H.at F (k := n) (Nat.le_refl _)) with B := B', F := F9, X := X', T := TT', D := D' }⟩ T' F' rest_news' ⟨h', m, F', rfl, I', turned_trans T T2 eL, eL⟩
end
theorem with_atG {n : Nat} {w : World} {mean : ExcName → Option Value} {mg mb : Str → Option Value} {A : Around} {cn : Str} {cs : Scope} {a : Addr} {ccd : Value} {outer : List Env} {A₀ : Around} {base g : Heap} {L : Addr} {M : Model} {t : Sem Flow} {Q : Flow → Shared → Prop} {E : Value → Shared → Prop} {s : Shared}
    (H : AtAll n w mean mg mb (A.deeper (envOf cn cs L a ccd)) cn cs a ccd outer A₀ base g L) (k : AtAll n w mean mg mb (A.deeper (envOf cn cs L a ccd)) cn cs a ccd outer A₀ base g L → wpAny M (A.deeper (envOf cn cs L a ccd)) t Q E s) : wpAny M (A.deeper (envOf cn cs L a ccd)) t Q E s := k H
/-- between the turns of a reading loop -/
structure RT (HP : Heap → Prop) (w : World) (fx : Fx) (st : Mv) (cv : Cv) (its : List Addr) (hb : Heap) (zs : List Addr) (fs : List Addr) (a : Heap) (L : Addr) (g h : Heap) : Prop where
  H : HP g
  I : InvAt w fx st cv its hb g L h
  U : Turned fs a h
  Z : ∀ b ∈ zs, g.get? b = none
section
variable {HP : Heap → Prop} {w : World} {fx : Fx} {st : Mv} {cv : Cv} {its its2 : List Addr} {hb a g h h' : Heap} {zs fs : List Addr} {L it : Addr} {m m₀ : Str → Option Value} {own news : List (Addr × Obj)}
theorem RT.stable (J : RT HP w fx st cv its hb zs fs a L g h) (eL : a.get? L = none) (ei : a.get? it = none) (n1 : it ∉ adr fx st cv) (n2 : it ∉ its) (o1 : RowsOff [it] cv.v1) (o2 : RowsOff [it] cv.v2) (o3 : RowsOff [it] cv.v3) (up : ∀ b o, b ≠ L → b ∉ [it] → h.get? b = some o → h'.get? b = some o) : RT HP w fx st cv its hb zs fs a L g h' := by
  have two : ∀ {vs : List Value}, RowsOff [L] vs → RowsOff [it] vs → RowsOff [L, it] vs := fun x y a ha q => by
    rcases List.mem_cons.mp q with q | q
    · exact x a ha (q ▸ .head _)
    · exact y a ha q
  have k : ∀ b o, b ∉ [L, it] → h.get? b = some o → h'.get? b = some o := fun b o nb e => up b o (fun q => nb (q ▸ .head _)) (fun q => nb (.tail _ q)) e
  have ne : ∀ b o, a.get? b = some o → b ≠ L ∧ b ∉ [it] := by
    intro b o e
    refine ⟨fun q => ?_, fun q => ?_⟩
    · rw [q, eL] at e; cases e
    · rw [List.mem_singleton.mp q, ei] at e; cases e
  have I := J.I
  refine ⟨J.H, { I with
    N := fun p hp => ⟨up _ _ (I.N p hp).2.1 (fun q => n1 ?_) (I.N p hp).1, (I.N p hp).2⟩
    ap := fun b hb => let ⟨a1, a2, a3, o, a4, a5⟩ := I.ap b hb; ⟨a1, a2, a3, o, a4, up b o a2 (fun q => n2 (List.mem_singleton.mp q ▸ hb)) a5⟩
    R1 := RowsAre.stay k I.R1 (two I.O1 o1)
    R2 := RowsAre.stay k I.R2 (two I.O2 o2)
    R3 := RowsAre.stay k I.R3 (two I.O3 o3) }, ⟨fun b o e n => up b o (ne b o e).1 (ne b o e).2 (J.U.other b o e n), fun b o e => ?_⟩, J.Z⟩
  · rw [← List.mem_singleton.mp q, ← led_adr (w := w)]
    exact List.mem_map.mpr ⟨p, hp, rfl⟩
  · obtain ⟨sl, e2⟩ := J.U.up b o e
    exact ⟨sl, up b _ (ne b o e).1 (ne b o e).2 e2⟩
theorem RT.enter (J : RT HP w fx st cv its hb zs fs a L g h) (F : Fr g L h m) (eL : a.get? L = none) (hits : ∀ b ∈ its2, b ∈ its ∨ (b ∉ adr fx st cv ∧ b ≠ L ∧ g.get? b = none ∧ ∃ o, h.get? b = some o)) : WitT w fx st cv its2 h fs a g L (restOf g L [] h) :=
  ⟨h, m, F, rfl, J.I.start hits, J.U, eL⟩
theorem WitT.leave (W : WitT w fx st cv its2 h fs a g L own) {h2 g0 : Heap} (J : RT HP w fx st cv its hb zs fs a L g0 h) (F : Fr g L h2 m) (N : News g L h2 news) (sub : ∀ p ∈ own, p ∈ news) (H : HP g) (si : ∀ b ∈ its, b ∈ its2) (Z : ∀ b ∈ zs, g.get? b = none) : RT HP w fx st cv its hb zs fs a L g h2 := by
  obtain ⟨I, T, eL⟩ := W.here F N sub
  exact ⟨H, InvAt.trans J.I I si, T, Z⟩
theorem WitT.stays (W : WitT w fx st cv its2 hb fs a g L own) {h2 : Heap} (F : Fr g L h2 m) (N : News g L h2 news) (sub : ∀ p ∈ own, p ∈ news) {b : Addr} (hb' : b ∈ its2) : ∀ o, hb.get? b = some o → h2.get? b = some o := fun o e => by
  obtain ⟨_, _, _, o', a4, a5⟩ := (W.here F N sub).1.ap b hb'
  rw [e] at a4
  exact (Option.some.inj a4) ▸ a5
end
theorem one_items {a b c : Nat} {i : Nat} {v : Value} (h : (#[Value.int 1 a, Value.int 2 b, Value.int 3 c] : Array Value)[i]? = some v) : ∃ lv t, v = .int lv t ∧ 1 ≤ lv ∧ lv ≤ 3 := by
  rcases i with _ | _ | _ | i
  · exact ⟨1, a, (Option.some.inj h).symm, by decide, by decide⟩
  · exact ⟨2, b, (Option.some.inj h).symm, by decide, by decide⟩
  · exact ⟨3, c, (Option.some.inj h).symm, by decide, by decide⟩
  · simp at h
theorem rows_iter_off {h : Heap} {it l : Addr} {i : Nat} {vs : List Value} {rs : List LRow} (R : RowsAre h vs rs) (x : h.IsListIter it l i) : RowsOff [it] vs := R.off fun _ hb o e hc _ => iter_off x o (List.mem_singleton.mp hb ▸ e) hc
theorem WitT.mem {w : World} {fx : Fx} {st : Mv} {cv : Cv} {its : List Addr} {hb a g : Heap} {fs : List Addr} {L : Addr} {own : List (Addr × Obj)} (W : WitT w fx st cv its hb fs a g L own) : ∀ b ∈ adr fx st cv, ∃ o, (b, o) ∈ own := by
  obtain ⟨h0, m0, F0, e, I, T, eL⟩ := W
  intro b hb
  obtain ⟨o, ho⟩ := I.live hb
  have n := I.N _ ho
  exact ⟨o, e ▸ mem_restOf.mpr ⟨fun q => (nomatch q), n.2.1, n.2.2, n.1⟩⟩
theorem WitT.fresh {w : World} {fx : Fx} {st : Mv} {cv : Cv} {its : List Addr} {hb a g : Heap} {fs : List Addr} {L it : Addr} {own : List (Addr × Obj)} (W : WitT w fx st cv its hb fs a g L own) (no : g.get? it = none) (lt : ∀ p ∈ own, p.1 < it) : a.get? it = none := by
  obtain ⟨h0, m0, F0, e, I, T, eL⟩ := W
  exact fresh_it T eL F0 no lt (e ▸ fun p hp => hp)
theorem turn_anyQ {M : Model} {A : Around} {t : Sem Flow} {L : Addr} {str : List Str} {m₀ : Str → Option Value} {fp : List Addr} {J : Heap → Heap → Prop} {Qr : Value → Shared → Prop} {s : Shared} {h : Heap} {tk : Nat} {E : Value → Shared → Prop}
    (k : ∀ (Qr : Value → Shared → Prop), wpAny M A t (TurnEnd2 L str m₀ fp J Qr { s with heap := h, toks := tk }) E { s with heap := h, toks := tk }) :
    wpAny M A t (TurnEnd2 L str m₀ fp J Qr { s with heap := h, toks := tk }) E { s with heap := h, toks := tk } := k Qr
end
section
local macro_rules | `(tactic| k_ne) => `(tactic| first | assumption | exact ne_s (by assumption))
local macro_rules | `(tactic| ktr_enter) => `(tactic| (refine' enter ?k1 ?k2 ?k3 ?k4 ?k5 ?kD ?kA ?kK ?k6 ?k7 ?k8 ?k9 ?kB ?_ ?c2 ?c3 ?c4 ?c5; (case kA => exact rfl); (case kK => first | assumption | exact rfl); (case k1 => k_asm); (case k2 => k_asm); (case k3 => k_asm); (case k4 => k_asm); (case k5 => k_asm); (case kD => k_asm); (case k6 => k_is); (case k7 => k_is); (case k8 => ktr_room); (case k9 => first | exact BindsTo.of_eq rfl | exact binds_K (by k_in) rfl (by k_is) rfl rfl rfl); (case c5 => decide); (case kB => exact locs rfl); (case c2 => exact rfl); (case c3 => exact rfl); (case c4 => exact rfl); k_whole; intro g' L' h' hG' F' N' B' X' T' D'; (try dsimp only); (try k_fold)))
local macro_rules | `(tactic| tb_rel) => `(tactic| first | exact List.forall_mem_nil _ | (refine List.forall_mem_cons.mpr ⟨by first | exact Or.inr (by k_mem) | exact Or.inl (by k_mem), ?_⟩; tb_rel))
local macro_rules | `(tactic| walk_at "setItem ref bytes") => `(tactic| (k_here; k_dflt (refine' kda_set (knd := bytesKind _ _) ?F ?N ?U ?d (bk_is _ _ _) ?z ?_; (case F => k_asm); (case N => k_asm); (case U => k_updF); (case d => k_asm); (case z => assumption)); intro h' o' F' N' hd'; (try dsimp only at N')))
local macro_rules | `(tactic| walk_at "compareOp In bytes ref") => `(tactic| (k_here; k_dflt (refine kda_in (knd := bytesKind _ _) (by k_asm) (by k_mem) (by k_asm) (by k_asm) (bk_is _ _ _) _ (by first | exact some_is (by assumption) | exact none_is (by assumption)) ?_)))
local macro_rules | `(tactic| walk_at "subscriptTail") => `(tactic| (k_here; (with_reducible show wpAny _ _ (subscriptTail _ _ (Value.ref _) (Value.bytes _ _)) _ _ _); k_dflt (refine kda_item (knd := bytesKind _ _) (by k_asm) (by k_mem) (by k_asm) (bk_is _ _ _) (by assumption) ?_)))
local macro_rules | `(tactic| tb_start) => `(tactic| exact keep_of (by assumption) (by assumption) (by assumption) (by assumption) (by tb_rel))
local macro_rules | `(tactic| ktf_step) => `(tactic| (intro h' tk' hk'; have F' := fr_keep (by assumption) hk'; have N' := news_keep (by assumption) hk'))
local macro_rules | `(tactic| ktn_step) => `(tactic| (refine' At.mk ?B ?F ?X ?T ?XB ?TB ?D ?hh ?hA ?hck ?hd ?hu; (case B => k_asm); (case F => k_asm); (case X => k_asm); (case T => k_asm); (case XB => k_asm); (case TB => k_asm); (case D => k_asm); (case hh => exact rfl); (case hA => exact rfl); (case hck => first | assumption | exact rfl); (case hd => ktr_room); (case hu => ktr_units)))
local macro_rules | `(tactic| k_room) => `(tactic| ktr_room)
local macro_rules | `(tactic| k_units) => `(tactic| ktr_units)
local macro_rules | `(tactic| kwd_same0) => `(tactic| first | exact List.forall_mem_nil _ | (refine List.forall_mem_cons.mpr ⟨by first | exact dict_cls (by assumption) | (show Value.type "list" ≠ Value.type "tuple"; decide) | (show Value.ref _ ≠ Value.type "tuple"; exact fun x => nomatch x) | (show Value.type "dict" ≠ Value.type "tuple"; decide), ?_⟩; kwd_same0))
local macro_rules | `(tactic| walk_at "compareOp NotEq ref ref") => `(tactic| (k_here; k_dflt (first | (refine' ne_nil_snoc ?N ?a ?b ?u ?_; (case N => k_asm); (case a => k_mem); (case b => k_mem); (case u => ktr_units)) | (refine' ne_nil_nil ?N ?a ?b ?u ?_; (case N => k_asm); (case a => k_mem); (case b => k_mem); (case u => ktr_units)))))
local macro_rules | `(tactic| walk_at "subscriptTail") => `(tactic| (k_here; (with_reducible show wpAny _ _ (subscriptTail _ _ (Value.ref _) (Value.int _ _)) _ _ _); k_dflt (refine' item_tupleT (Fr.tup ?F ?T) ?lo ?hi ?j ?x ?_; (case T => with_reducible assumption); (case F => k_asm); (case lo => decide); (case hi => decide); (case j => rfl); (case x => rfl))))
local macro_rules | `(tactic| walk_at "subscriptTail") => `(tactic| (k_here; (with_reducible show wpAny _ _ (subscriptTail _ _ (Value.ref _) (Value.int (-1) _)) _ _ _); k_dflt (refine' last_item ?N ?a ?z ?_; (case N => k_asm); (case a => k_mem); (case z => assumption))))
local macro_rules | `(tactic| walk_at "call builtin:dict.get") => `(tactic| (k_here; k_dflt (refine kdg_get1 (knd := bytesKind _ _) (by k_asm) (by k_mem) (by k_asm) (by k_asm) (bk_is _ _ _) _ (by assumption) ?_; (try dsimp only [Option.getD]))))
local macro_rules | `(tactic| walk_at "getMethod ref") => `(tactic| (k_here; (with_reducible show wpAny _ _ (getMethod (Value.ref _) (Str.ofString "get") _) _ _ _); k_dflt (refine kdg_method (knd := bytesKind _ _) (by k_asm) (by k_mem) (by k_asm) ?_)))
local macro_rules | `(tactic| walk_at "getMethod ref") => `(tactic| (k_here; (with_reducible show wpAny _ _ (getMethod (Value.ref _) (Str.ofString "items") _) _ _ _); k_dflt (refine kdi_method (knd := bytesKind _ _) (by k_asm) (by k_mem) (by k_asm) ?_)))
local macro_rules | `(tactic| walk_at "getMethod ref") => `(tactic| (k_here; (with_reducible show wpAny _ _ (getMethod (Value.ref _) (Str.ofString "pop") _) _ _ _); k_dflt (refine kdp_method (knd := bytesKind _ _) (by k_asm) (by k_mem) (by k_asm) ?_)))
local macro_rules | `(tactic| walk_at "call builtin:dict.items") => `(tactic| (k_here; k_dflt (refine kdi_call (knd := bytesKind _ _) (by k_asm) (by k_asm) (by k_mem) (by k_asm) (by k_asm) ?_); intro v' h' F' N'))
local macro_rules | `(tactic| walk_at "pyIter ref") => `(tactic| (k_here; k_dflt (refine kdi_iter (knd := bytesKind _ _) (by k_asm) (by k_asm) (by k_mem) (by k_mem) (by k_asm) ?_); intro it' ep' h' lt' no' ne' F' N' hi' da'))
local macro_rules | `(tactic| walk_at "call builtin:dict.pop") => `(tactic| (k_here; k_dflt (refine kdp_any (knd := bytesKind _ _) (by k_asm) (by k_asm) (by k_updF) (by k_asm) (bk_is _ _ _) (by assumption) (by k_asm) (by rfl) ?_); intro v' h' o' F' N' hd'; (try dsimp only at N')))
local macro_rules | `(tactic| walk_at "setAttr ref") => `(tactic| (k_here; k_dflt (refine' set_dict ?k1 ?k2 ?k3 ?k4 ?k5 ?k6 ?k7 ?k8 ?k9 ?k10 put_cache ?k12 ?k13 ?_; (case k1 => k_asm); (case k2 => k_asm); (case k3 => k_asm); (case k4 => k_inst); (case k5 => exact rfl); (case k6 => k_is); (case k7 => k_is); (case k8 => k_is); (case k9 => k_is); (case k10 => k_get); (case k12 => k_upd); (case k13 => exact Nat.le_of_ble_eq_true rfl); k_whole; intro h' F' N'; (try k_sweep))))
local macro_rules | `(tactic| walk_at "pyIter ref") => `(tactic| (k_here; k_dflt (refine keys_iter (knd := bytesKind _ _) (by k_asm) (by k_asm) (by k_mem) (by k_asm) (by k_asm) ?_); intro it' ep' h' lt' no' ne' F' N' hi' da'))
local macro_rules | `(tactic| walk_at "pyIter ref") => `(tactic| (k_here; k_dflt (refine rows_iter rfl (by k_asm) (by k_asm) (by k_mem) (by assumption) ?_); intro it' h' fp' Pt' St' Mid' lt' no' ne' F' N' W' pt' st' fp9'))
local macro_rules | `(tactic| walk_at "call builtin:list.append") => `(tactic| (k_here; k_dflt (refine append_rows (by k_asm) (by k_asm) (by k_updF) (by assumption) ?_); intro h' F' N'; (try dsimp only at N')))
local macro_rules | `(tactic| kwk_ne) => `(tactic| (intro p9 hp9; repeat (first | exact hp9 | apply List.mem_cons_of_mem)))
local macro_rules | `(tactic| walk_at "newTuple") => `(tactic| (k_here; k_dflt (refine' kup_newTuple ?F ?N ?_ ?z; (case F => k_asm); (case N => k_asm); (case z => exact Nat.le_of_ble_eq_true rfl)); intro D' h' F' N' l1; (try k_lt l1); (try k_sweep)))
local macro_rules | `(tactic| walk_at "eval Dict nil nil") => `(tactic| (k_here; k_dflt (refine newDictB (bytesKind PySem.Challenge.rw_ad6016_01.row.prog _) (by k_asm) (by k_asm) (TopRead.nolimit (by k_asm)) ?_); intro d' h' o' F' N' l1 lo' hd' hk'; (try k_lt l1)))
local macro_rules | `(tactic| kwk_ne) => `(tactic| (intro p9 hp9; repeat (first | exact hp9 | apply List.mem_cons_of_mem)))
local macro_rules | `(tactic| walk_at "exec If") => `(tactic| (k_here; k_dflt (refine wpAny_If ?_)))
local macro_rules | `(tactic| walk_at "exec For") => `(tactic| (k_here; k_dflt (refine for_held ?_ ?hs; (case hs => intro _; rfl))))
local macro_rules | `(tactic| walk_at "exec For Name List") => `(tactic| (k_here; k_dflt (refine for_held ?_ ?hs; (case hs => intro _; rfl))))
local macro_rules | `(tactic| walk_at "exec For Name List cons nil") => `(tactic| (k_here; k_dflt (refine for_held ?_ ?hs; (case hs => intro _; rfl))))
local macro_rules | `(tactic| walk_at "exec For Name Name") => `(tactic| (k_here; k_dflt (refine for_held ?_ ?hs; (case hs => intro _; rfl))))
local macro_rules | `(tactic| walk_at "exec For Name Name cons nil") => `(tactic| (k_here; k_dflt (refine for_held ?_ ?hs; (case hs => intro _; rfl))))
local macro_rules | `(tactic| walk_at "pyIter ref") => `(tactic| (k_here; k_dflt (refine list_iterK (by k_asm) (by k_asm) (by first | exact ⟨_, News.get (by k_asm) (by k_mem), rfl, _, rfl⟩ | exact ⟨_, Fr.keep (by k_asm) _ _ (by assumption), rfl, _, rfl⟩) ?_); intro it' h' lt' no' ne' nl' F' N' hi' hl'))
local macro_rules | `(tactic| walk_at "subscriptTail") => `(tactic| (k_here; (with_reducible show wpAny _ _ (subscriptTail _ _ (Value.ref _) (Value.int _ _)) _ _ _); (with_reducible rename WitT _ _ _ _ _ _ _ _ _ _ _ => W9); (try dsimp only); k_dflt (refine tiersK (by k_asm) (by k_asm) (WitT.wit W9) (by kwk_ne) (by exact rfl) (by omega) (by omega) ?_)))
local macro_rules | `(tactic| walk_at "call ref") => `(tactic| (k_here; (with_reducible show wpAny _ _ (call (.ref 91) _ _) _ _ _); (with_reducible rename WitT _ _ _ _ _ _ _ _ _ _ _ => W9); k_dflt (refine toldR (by k_asm) (by k_asm) (by k_asm) W9 (by kwk_ne) (by exact rfl) (by exact rfl) (by omega) (by omega) (by assumption) (by assumption) ?_ ?_); all_goals (clear W9); (intro hd' h' tk' own' F' N' W'; (try dsimp only))))
local macro_rules | `(tactic| walk_at "call ref") => `(tactic| (k_here; (with_reducible show wpAny _ _ (call (.ref 105) _ _) _ _ _); (with_reducible rename WitT _ _ _ _ _ _ _ _ _ _ _ => W9); k_dflt (refine askedR (by k_asm) (by k_asm) (by k_asm) W9 (by kwk_ne) (by exact rfl) (by omega) (by omega) (by assumption) (by assumption) ?_); clear W9; intro g' h' tk' own' B' X' T' D' HA' KT' F' N' W'; (try dsimp only)))
local macro_rules | `(tactic| walk_at "compareOp In bytes ref") => `(tactic| (k_here; (with_reducible rename WitT _ _ _ _ _ _ _ _ _ _ _ => W9); k_dflt (refine inR (by k_asm) (by k_asm) (by k_asm) W9 (by kwk_ne) (by exact rfl) (by omega) (by omega) (by assumption) (by assumption) ?_); clear W9; intro h' tk' own' F' N' W'; (try dsimp only [isB])))
theorem allToldB {w : World} {mean : ExcName → Option Value} {mg mb : Str → Option Value} {A : Around} {cn : Str} {cs : Scope} {a : Addr} {ccd : Value} {outer : List Env} {A₀ : Around} {base h₀ : Heap} {L : Addr} {m : Str → Option Value}
    {s : Shared} {fx : Fx} {st : Mv} {cv : Cv} {its : List Addr} {hb : Heap} {Q : Value → Shared → Prop} {E : Value → Shared → Prop} :
    At hd.heap_39 w mean mg mb A cn cs a ccd outer A₀ base h₀ L m s 60 → InvAt w fx st cv its hb h₀ L s.heap → Good st → st.size ≤ 1000 →
    (∀ h' tk, Turned ((envOf cn cs L a ccd :: outer).filterMap (·.frame)) s.heap h' → Q (.bool true) { s with heap := h', toks := tk }) →
    wpAny (model PySem.Challenge.rw_ad6016_01.row.prog w) A (call (.ref 112) [.ref fx.tr, .ref fx.lg, .ref fx.dP]) Q E s := by
  k_fill
  intro H I G hz hret
  have N : News h₀ L s.heap (restOf h₀ L [] s.heap) := rest_news'
  obtain ⟨B, F, X, T, XB, TB, D, hh, hA, hck, hdp, hun⟩ := H
  obtain ⟨hdl, dp, fr, gd, un⟩ := A
  dsimp only at hh hA hdp hun
  subst hh hA
  refine wpAny_call ?_
  k_dflt (refine' enter (binds := [(Str.ofString "tiers", .ref fx.tr), (Str.ofString "logs", .ref fx.lg), (Str.ofString "plain", .ref fx.dP)]) ?k1 ?k2 ?k3 ?k4 ?k5 ?kD ?kA ?kK ?k6 ?k7 ?k8 ?k9 ?kB ?_ ?c2 ?c3 ?c4 ?c5; (case kA => exact rfl); (case kK => first | assumption | exact rfl); (case k1 => k_asm); (case k2 => k_asm); (case k3 => k_asm); (case k4 => k_asm); (case k5 => k_asm); (case kD => k_asm); (case k6 => k_is); (case k7 => k_is); (case k8 => ktr_room); (case k9 => exact BindsTo.of_eq rfl); (case c5 => decide); (case kB => exact locs rfl); (case c2 => exact rfl); (case c3 => exact rfl); (case c4 => exact rfl); k_whole; intro g' L' h' hG' F' N' B' X' T' D'; (try dsimp only); (try k_fold))
  have eL := fresh_L hG' F' N'
  have K0 := keep_of (S := []) N hG' F' N' (fun p hp => .inr hp)
  have I0 := I.entered N' F' K0 (fun p hp => hp)
  have tu0 : Turned ((envOf cn cs L a ccd :: outer).filterMap (·.frame)) s.heap h' := Turned.ofKeep K0
  have W0 : WitT w fx st cv [] h' ((envOf cn cs L a ccd :: outer).filterMap (·.frame)) s.heap g' L' (restOf g' L' [] h') := ⟨h', _, F', rfl, I0, tu0, eL⟩
  clear N N' F X T D hG' K0 I
  have N0 : News g' L' h' (restOf g' L' [] h') := rest_news'
  generalize restOf g' L' [] h' = own0 at N0 W0
  refine with_atG (n := 40) (A₀ := { depth := dp, frames := some (envOf cn cs L a ccd :: outer), guards := gd, units := un }) (outer := envOf cn cs L a ccd :: outer) (base := base) (g := g') ⟨by k_asm, by k_asm, by k_asm, by k_asm, fun m s F => (by ktn_step)⟩ fun HA => ?_
  obtain ⟨HP, hHP⟩ := at_pred HA
  obtain ⟨kits, nk, hk72, hksz, hks⟩ := keys_at w
  k_steps
  rename_i D1 hA FA NA l1 it1 h9 lt9 no9 ne9 nl9 F9 N9 hi9 hl9
  obtain ⟨I1, T1, -⟩ := W0.here F9 N9 (by kwk_ne)
  have low : ∀ b ∈ adr fx st cv, b < D1 := fun b hb => let ⟨o, ho⟩ := W0.mem b hb; l1 _ ho
  have lt1 : D1 < it1 := lt9 _ (.head _)
  have ei : s.heap.get? it1 = none := W0.fresh no9 (fun p hp => lt9 p (.tail _ hp))
  have nD := N9 (D1, _) (.tail _ (.head _))
  refine' names_held2 (g₀ := g') ?hE (Walks.list rfl it1 D1 nl9 _) [Str.ofString "level", Str.ofString "key", Str.ofString "due"] (fun _ g h => RT HP w fx st cv [D1] h9 [it1] ((envOf cn cs L a ccd :: outer).filterMap (·.frame)) s.heap L' g h) rfl rfl rfl ?hLf (fun i g h J b hb => J.Z b hb) (fun i g h h' J up => J.stable eL ei (fun q => Nat.lt_irrefl _ (Nat.lt_trans (low it1 q) lt1)) (fun q => nl9 (List.mem_singleton.mp q).symm) (rows_iter_off I1.R1 hi9) (rows_iter_off I1.R2 hi9) (rows_iter_off I1.R3 hi9) up) ⟨hi9, hl9⟩ F9 ⟨(hHP _).mpr HA, I1.start (its' := [D1]) (fun b hb => by rw [List.mem_singleton.mp hb]; exact .inr ⟨fun q => Nat.lt_irrefl _ (low D1 q), nD.2.1, nD.2.2, _, nD.1⟩), T1, fun b hb => by rw [List.mem_singleton.mp hb]; exact no9⟩ ?step ?hR
  case hE => first | passes_own | with_unfolding_all passes_own
  case hLf =>
    intro q
    rcases List.mem_cons.mp q with q | q
    · exact ne9 q.symm
    · exact nD.2.1 (List.mem_singleton.mp q).symm
  case step =>
    clear FA NA N9 F9 B' X' T' D' hi9 hl9 HA W0 I0 I1 tu0 T1 l1
    rintro i v u g h tk hi hv J st9 F5
    simp only [ctn_cons, ctn_nil] at F5
    replace F5 : Fr g L' h _ := F5
    refine turn_anyQ fun Qr => ?_
    obtain ⟨lv, tn, e9, h1, h3⟩ := one_items hv
    subst e9
    obtain ⟨⟨oI, eI, _⟩, _⟩ := id st9
    have W5 := J.enter (its2 := [it1, D1]) F5 eL (fun b hb => by
      rcases List.mem_cons.mp hb with q | q
      · exact .inr (q ▸ ⟨fun q => Nat.lt_irrefl _ (Nat.lt_trans (low it1 q) lt1), ne9, J.Z it1 (.head _), oI, eI⟩)
      · exact .inl q)
    have N5 : News g L' h (restOf g L' [] h) := rest_news'
    have hcov : ∀ b ∈ [it1, D1], ∃ o, (b, o) ∈ restOf g L' [] h := fun b hb => by
      obtain ⟨_, a2, a3, o, _, a5⟩ := (W5.here F5 N5 (fun p hp => hp)).1.ap b hb
      exact ⟨o, mem_restOf.mpr ⟨fun q => (nomatch q), a2, a3, a5⟩⟩
    generalize restOf g L' [] h = own at N5 W5 hcov
    have HA5 := (hHP g).mp J.H
    obtain ⟨B5, X5, T5, D5, -⟩ := id HA5
    have hk5 : g.get? 72 = some (listOf kits nk) := X5 72 _ hk72
    have n72 : (72 : Addr) ≠ L' := fun q => absurd (Heap.lt_size hk5) (Nat.not_lt.mpr (q ▸ F5.above))
    have low2 := W5.mem
    k_steps
    rename_i it2 h2 lt2 no2 ne2 nl2 F2 N2 hi2 hl2
    obtain ⟨I2, T2, -⟩ := W5.here F2 N2 (by kwk_ne)
    have ei2 : s.heap.get? it2 = none := W5.fresh no2 lt2
    have n2 : it2 ∉ adr fx st cv := fun q => let ⟨o, ho⟩ := low2 it2 q; Nat.lt_irrefl _ (lt2 _ ho)
    have n21 : it2 ∉ [it1, D1] := fun q => let ⟨o, ho⟩ := hcov it2 q; Nat.lt_irrefl _ (lt2 _ ho)
    refine' names_held2 (g₀ := g) ?hE2 (Walks.list rfl it2 72 nl2 kits) [Str.ofString "key", Str.ofString "due"] (fun _ g h' => RT HP w fx st cv [it1, D1] h [it2] ((envOf cn cs L a ccd :: outer).filterMap (·.frame)) s.heap L' g h') rfl rfl rfl ?hLf2 (fun i g h J b hb => J.Z b hb) (fun i g h h' J up => J.stable eL ei2 n2 n21 (rows_iter_off I2.R1 hi2) (rows_iter_off I2.R2 hi2) (rows_iter_off I2.R3 hi2) up) ⟨hi2, hl2⟩ F2 ⟨J.H, I2, T2, fun b hb => by rw [List.mem_singleton.mp hb]; exact no2⟩ ?step2 ?hR2
    case hE2 => first | passes_own | with_unfolding_all passes_own
    case hLf2 =>
      intro q
      rcases List.mem_cons.mp q with q | q
      · exact ne2 q.symm
      · exact n72 (List.mem_singleton.mp q).symm
    case step2 =>
      clear F2 N2 W5 N5 HA5 B5 X5 T5 D5 hi2 hl2 I2 T2 hk5 F5 hv
      rintro j v2 u2 g2 h2' tk2 hj hvj J2 st2 F6
      obtain ⟨kb, t, rfl⟩ := hks j v2 hvj
      simp only [ctn_cons, ctn_nil] at F6
      replace F6 : Fr g2 L' h2' _ := F6
      refine turn_any fun Qr Er s9 => ?_
      obtain ⟨⟨oI2, eI2, _⟩, _⟩ := id st2
      have W6 := J2.enter (its2 := [it2, it1, D1]) F6 eL (fun b hb => by
        rcases List.mem_cons.mp hb with q | q
        · exact .inr (q ▸ ⟨n2, ne2, J2.Z it2 (.head _), oI2, eI2⟩)
        · exact .inl q)
      have N6 : News g2 L' h2' (restOf g2 L' [] h2') := rest_news'
      generalize restOf g2 L' [] h2' = own6 at N6 W6
      have HA6 := (hHP g2).mp J2.H
      obtain ⟨B6, X6, T6, D6, -⟩ := id HA6
      have hk6 := F6.keep _ _ (X6 72 _ hk72)
      k_steps
      all_goals
        rename Fr _ _ _ _ => F8
        rename News _ _ _ _ => N8
        rename WitT _ _ _ _ _ _ _ _ _ _ _ => W8
        rename AtAll _ _ _ _ _ _ _ _ _ _ _ _ _ _ _ => HA8
        have hk8 := F8.keep _ _ (HA8.2.1 72 _ hk72)
        refine ⟨_, _, _, _, rfl, F8, ?_, ?_, W8.leave J2 F8 N8 (by kwk_ne) ((hHP _).mpr HA8) (fun b hb => .tail _ hb) (fun b hb => by rw [List.mem_singleton.mp hb]; exact ((W8.here F8 N8 (by kwk_ne)).1.ap it2 (.head _)).2.2.1)⟩
        · intro z hz
          have a1 : z ≠ Str.ofString "key" := fun e => by rw [e] at hz; exact absurd hz (by decide)
          have a2 : z ≠ Str.ofString "due" := fun e => by rw [e] at hz; exact absurd hz (by decide)
          simp only [if_neg a1, if_neg a2]
        · intro b hb o e
          rcases List.mem_cons.mp hb with q | q
          · subst q
            exact W8.stays F8 N8 (by kwk_ne) (.head _) o e
          · rw [List.mem_singleton.mp q] at e ⊢
            have e : h2'.get? 72 = some o := e
            rw [hk6] at e
            exact (Option.some.inj e) ▸ hk8
    case hR2 =>
      rintro g3 h3 tk3 u3 F7 J3
      simp only [ctn_cons, ctn_nil] at F7
      replace F7 : Fr g3 L' h3 _ := F7
      dsimp only
      obtain ⟨B5, X5, T5, D5, -⟩ := (hHP g3).mp J3.H
      k_steps
      refine ⟨g3, h3, _, _, rfl, F7, ?_, ?_, ⟨J3.H, InvAt.trans J.I J3.I (fun b hb => .tail _ hb), J3.U, fun b hb => by rw [List.mem_singleton.mp hb]; exact (J3.I.ap it1 (.head _)).2.2.1⟩⟩
      · intro z hz
        have a1 : z ≠ Str.ofString "key" := fun e => by rw [e] at hz; exact absurd hz (by decide)
        have a2 : z ≠ Str.ofString "due" := fun e => by rw [e] at hz; exact absurd hz (by decide)
        have a3 : z ≠ Str.ofString "level" := fun e => by rw [e] at hz; exact absurd hz (by decide)
        simp only [if_neg a1, if_neg a2, if_neg a3]
      · intro b hb o e
        obtain ⟨_, _, _, o', a4, a5⟩ := J3.I.ap b hb
        rw [show h.get? b = some o from e] at a4
        exact (Option.some.inj a4) ▸ a5
  case hR =>
    rintro g h4 tk u F5 J
    simp only [ctn_cons, ctn_nil] at F5
    replace F5 : Fr g L' h4 _ := F5
    obtain ⟨B5, X5, T5, D5, -⟩ := (hHP g).mp J.H
    have U7 := J.U
    clear FA NA N9 F9 B' X' T' D' hi9 hl9 HA W0 I0 I1 tu0 T1 l1 J
    dsimp only
    k_steps
    exact hret _ _ U7
theorem allToldK {w : World} {mean : ExcName → Option Value} {mg mb : Str → Option Value} {A : Around} {cn : Str} {cs : Scope} {a : Addr} {ccd : Value} {outer : List Env} {A₀ : Around} {base h₀ : Heap} {L : Addr} {m : Str → Option Value}
    {s : Shared} {news own : List (Addr × Obj)} {fx : Fx} {st : Mv} {hb : Heap} {Q : Value → Shared → Prop} {E : Value → Shared → Prop} {x y z : Addr} (H : AtAll 60 w mean mg mb A cn cs a ccd outer A₀ base h₀ L) (F : Fr h₀ L s.heap m) (N : News h₀ L s.heap news) (W : Wit w fx st [] hb h₀ L own) (sub : ∀ p ∈ own, p ∈ news) (e : x = fx.tr) (e' : y = fx.lg) (e'' : z = fx.dP) (G : Good st) (hz : st.size ≤ 1000)
    (k : ∀ g' h' tk own', KtsTurn (outer.filterMap (·.frame)) h₀ g' → Below A₀ base outer g' → Frag.In (hd.heap_39 w.params) g' → Top hd.view_39 (looseW hd.view_39 [Str.ofString "_law_keys"]) mean mg mb g' → KtsDicts (outer.filterMap (·.frame)) g' → AtAll 60 w mean mg mb A cn cs a ccd outer A₀ base g' L → Fr g' L h' m → News g' L h' own' → Wit w fx st [] hb g' L own' → Q (.bool true) { s with heap := h', toks := tk }) :
    wpAny (model PySem.Challenge.rw_ad6016_01.row.prog w) A (call (.ref 112) [.ref x, .ref y, .ref z]) Q E s := by
  subst e e' e''
  obtain ⟨cv, I⟩ := W.here F N sub
  exact allToldB (H.at F (Nat.le_refl _)) I G hz fun h' tk T => by
    obtain ⟨g', T', B', X', TT', D', F', I'⟩ := I.turned (H.at F (Nat.le_refl _)) T
    exact k g' h' tk _ T' B' X' TT' D' ⟨B', X', TT', D', fun m' s' F9 => { (H.at F (Nat.le_refl _)) with B := B', F := F9, X := X', T := TT', D := D' }⟩ F' rest_news' (I'.wit F')
end
section
local macro_rules | `(tactic| k_ne) => `(tactic| first | assumption | exact ne_s (by assumption))
local macro_rules | `(tactic| ktr_enter) => `(tactic| (refine' enter ?k1 ?k2 ?k3 ?k4 ?k5 ?kD ?kA ?kK ?k6 ?k7 ?k8 ?k9 ?kB ?_ ?c2 ?c3 ?c4 ?c5; (case kA => exact rfl); (case kK => first | assumption | exact rfl); (case k1 => k_asm); (case k2 => k_asm); (case k3 => k_asm); (case k4 => k_asm); (case k5 => k_asm); (case kD => k_asm); (case k6 => k_is); (case k7 => k_is); (case k8 => ktr_room); (case k9 => first | exact BindsTo.of_eq rfl | exact binds_K (by k_in) rfl (by k_is) rfl rfl rfl); (case c5 => decide); (case kB => exact locs rfl); (case c2 => exact rfl); (case c3 => exact rfl); (case c4 => exact rfl); k_whole; intro g' L' h' hG' F' N' B' X' T' D'; (try dsimp only); (try k_fold)))
local macro_rules | `(tactic| tb_rel) => `(tactic| first | exact List.forall_mem_nil _ | (refine List.forall_mem_cons.mpr ⟨by first | exact Or.inr (by k_mem) | exact Or.inl (by k_mem), ?_⟩; tb_rel))
local macro_rules | `(tactic| walk_at "setItem ref bytes") => `(tactic| (k_here; k_dflt (refine' kda_set (knd := bytesKind _ _) ?F ?N ?U ?d (bk_is _ _ _) ?z ?_; (case F => k_asm); (case N => k_asm); (case U => k_updF); (case d => k_asm); (case z => assumption)); intro h' o' F' N' hd'; (try dsimp only at N')))
local macro_rules | `(tactic| walk_at "compareOp In bytes ref") => `(tactic| (k_here; k_dflt (refine kda_in (knd := bytesKind _ _) (by k_asm) (by k_mem) (by k_asm) (by k_asm) (bk_is _ _ _) _ (by first | exact some_is (by assumption) | exact none_is (by assumption)) ?_)))
local macro_rules | `(tactic| walk_at "subscriptTail") => `(tactic| (k_here; (with_reducible show wpAny _ _ (subscriptTail _ _ (Value.ref _) (Value.bytes _ _)) _ _ _); k_dflt (refine kda_item (knd := bytesKind _ _) (by k_asm) (by k_mem) (by k_asm) (bk_is _ _ _) (by assumption) ?_)))
local macro_rules | `(tactic| tb_start) => `(tactic| exact keep_of (by assumption) (by assumption) (by assumption) (by assumption) (by tb_rel))
local macro_rules | `(tactic| ktf_step) => `(tactic| (intro h' tk' hk'; have F' := fr_keep (by assumption) hk'; have N' := news_keep (by assumption) hk'))
local macro_rules | `(tactic| ktn_step) => `(tactic| (refine' At.mk ?B ?F ?X ?T ?XB ?TB ?D ?hh ?hA ?hck ?hd ?hu; (case B => k_asm); (case F => k_asm); (case X => k_asm); (case T => k_asm); (case XB => k_asm); (case TB => k_asm); (case D => k_asm); (case hh => exact rfl); (case hA => exact rfl); (case hck => first | assumption | exact rfl); (case hd => ktr_room); (case hu => ktr_units)))
local macro_rules | `(tactic| k_room) => `(tactic| ktr_room)
local macro_rules | `(tactic| k_units) => `(tactic| ktr_units)
local macro_rules | `(tactic| kwd_same0) => `(tactic| first | exact List.forall_mem_nil _ | (refine List.forall_mem_cons.mpr ⟨by first | exact dict_cls (by assumption) | (show Value.type "list" ≠ Value.type "tuple"; decide) | (show Value.ref _ ≠ Value.type "tuple"; exact fun x => nomatch x) | (show Value.type "dict" ≠ Value.type "tuple"; decide), ?_⟩; kwd_same0))
local macro_rules | `(tactic| walk_at "compareOp NotEq ref ref") => `(tactic| (k_here; k_dflt (first | (refine' ne_nil_snoc ?N ?a ?b ?u ?_; (case N => k_asm); (case a => k_mem); (case b => k_mem); (case u => ktr_units)) | (refine' ne_nil_nil ?N ?a ?b ?u ?_; (case N => k_asm); (case a => k_mem); (case b => k_mem); (case u => ktr_units)))))
local macro_rules | `(tactic| walk_at "subscriptTail") => `(tactic| (k_here; (with_reducible show wpAny _ _ (subscriptTail _ _ (Value.ref _) (Value.int _ _)) _ _ _); k_dflt (refine' item_tupleT (Fr.tup ?F ?T) ?lo ?hi ?j ?x ?_; (case T => with_reducible assumption); (case F => k_asm); (case lo => decide); (case hi => decide); (case j => rfl); (case x => rfl))))
local macro_rules | `(tactic| walk_at "subscriptTail") => `(tactic| (k_here; (with_reducible show wpAny _ _ (subscriptTail _ _ (Value.ref _) (Value.int (-1) _)) _ _ _); k_dflt (refine' last_item ?N ?a ?z ?_; (case N => k_asm); (case a => k_mem); (case z => assumption))))
local macro_rules | `(tactic| walk_at "call builtin:dict.get") => `(tactic| (k_here; k_dflt (refine kdg_get1 (knd := bytesKind _ _) (by k_asm) (by k_mem) (by k_asm) (by k_asm) (bk_is _ _ _) _ (by assumption) ?_; (try dsimp only [Option.getD]))))
local macro_rules | `(tactic| walk_at "getMethod ref") => `(tactic| (k_here; (with_reducible show wpAny _ _ (getMethod (Value.ref _) (Str.ofString "get") _) _ _ _); k_dflt (refine kdg_method (knd := bytesKind _ _) (by k_asm) (by k_mem) (by k_asm) ?_)))
local macro_rules | `(tactic| walk_at "getMethod ref") => `(tactic| (k_here; (with_reducible show wpAny _ _ (getMethod (Value.ref _) (Str.ofString "items") _) _ _ _); k_dflt (refine kdi_method (knd := bytesKind _ _) (by k_asm) (by k_mem) (by k_asm) ?_)))
local macro_rules | `(tactic| walk_at "getMethod ref") => `(tactic| (k_here; (with_reducible show wpAny _ _ (getMethod (Value.ref _) (Str.ofString "pop") _) _ _ _); k_dflt (refine kdp_method (knd := bytesKind _ _) (by k_asm) (by k_mem) (by k_asm) ?_)))
local macro_rules | `(tactic| walk_at "call builtin:dict.items") => `(tactic| (k_here; k_dflt (refine kdi_call (knd := bytesKind _ _) (by k_asm) (by k_asm) (by k_mem) (by k_asm) (by k_asm) ?_); intro v' h' F' N'))
local macro_rules | `(tactic| walk_at "pyIter ref") => `(tactic| (k_here; k_dflt (refine kdi_iter (knd := bytesKind _ _) (by k_asm) (by k_asm) (by k_mem) (by k_mem) (by k_asm) ?_); intro it' ep' h' lt' no' ne' F' N' hi' da'))
local macro_rules | `(tactic| walk_at "call builtin:dict.pop") => `(tactic| (k_here; k_dflt (refine kdp_any (knd := bytesKind _ _) (by k_asm) (by k_asm) (by k_updF) (by k_asm) (bk_is _ _ _) (by assumption) (by k_asm) (by rfl) ?_); intro v' h' o' F' N' hd'; (try dsimp only at N')))
local macro_rules | `(tactic| walk_at "setAttr ref") => `(tactic| (k_here; k_dflt (refine' set_dict ?k1 ?k2 ?k3 ?k4 ?k5 ?k6 ?k7 ?k8 ?k9 ?k10 put_cache ?k12 ?k13 ?_; (case k1 => k_asm); (case k2 => k_asm); (case k3 => k_asm); (case k4 => k_inst); (case k5 => exact rfl); (case k6 => k_is); (case k7 => k_is); (case k8 => k_is); (case k9 => k_is); (case k10 => k_get); (case k12 => k_upd); (case k13 => exact Nat.le_of_ble_eq_true rfl); k_whole; intro h' F' N'; (try k_sweep))))
local macro_rules | `(tactic| walk_at "pyIter ref") => `(tactic| (k_here; k_dflt (refine keys_iter (knd := bytesKind _ _) (by k_asm) (by k_asm) (by k_mem) (by k_asm) (by k_asm) ?_); intro it' ep' h' lt' no' ne' F' N' hi' da'))
local macro_rules | `(tactic| walk_at "pyIter ref") => `(tactic| (k_here; k_dflt (refine rows_iter rfl (by k_asm) (by k_asm) (by k_mem) (by assumption) ?_); intro it' h' fp' Pt' St' Mid' lt' no' ne' F' N' W' pt' st' fp9'))
local macro_rules | `(tactic| walk_at "call builtin:list.append") => `(tactic| (k_here; k_dflt (refine append_rows (by k_asm) (by k_asm) (by k_updF) (by assumption) ?_); intro h' F' N'; (try dsimp only at N')))
local macro_rules | `(tactic| kwk_ne) => `(tactic| (intro p9 hp9; repeat (first | exact hp9 | apply List.mem_cons_of_mem)))
local macro_rules | `(tactic| walk_at "newTuple") => `(tactic| (k_here; k_dflt (refine' kup_newTuple ?F ?N ?_ ?z; (case F => k_asm); (case N => k_asm); (case z => exact Nat.le_of_ble_eq_true rfl)); intro D' h' F' N' l1; (try k_lt l1); (try k_sweep)))
local macro_rules | `(tactic| walk_at "eval Dict nil nil") => `(tactic| (k_here; k_dflt (refine newDictB (bytesKind PySem.Challenge.rw_ad6016_01.row.prog _) (by k_asm) (by k_asm) (TopRead.nolimit (by k_asm)) ?_); intro d' h' o' F' N' l1 lo' hd' hk'; (try k_lt l1)))
local macro_rules | `(tactic| kwk_ne) => `(tactic| (intro p9 hp9; repeat (first | exact hp9 | apply List.mem_cons_of_mem)))
local macro_rules | `(tactic| walk_at "eval IfExp") => `(tactic| (k_here; (fail_if_success (with_reducible show wpAny _ _ _ (IntPost _) _ _)); k_dflt (refine int_cut ?_ ?_); (try intro n9 t9 k9)))
local macro_rules | `(tactic| walk_at "exec For Name Call cons nil") => `(tactic| (k_here; k_dflt (refine for_held ?_ ?hs; (case hs => intro _; rfl))))
local macro_rules | `(tactic| walk_at "pyIter ref") => `(tactic| (k_here; k_dflt (refine list_iterK (by k_asm) (by k_asm) (by first | exact ⟨_, News.get (by k_asm) (by k_mem), rfl, _, rfl⟩ | assumption) ?_); intro it' h' lt' no' ne' nl' F' N' hi' hl'))
local macro_rules | `(tactic| walk_at "pyIter ref") => `(tactic| (k_here; k_dflt (refine range_iterK (by k_asm) (by k_asm) (by assumption) ?_); intro it' h' lt' no' ne' F' N' hi'))
local macro_rules | `(tactic| walk_at "exec For Name Subscript cons nil") => `(tactic| (k_here; k_dflt (refine for_held ?_ ?hs; (case hs => intro _; rfl))))
local macro_rules | `(tactic| walk_at "exec If") => `(tactic| (k_here; k_dflt (refine wpAny_If ?_)))
local macro_rules | `(tactic| walk_at "exec If") => `(tactic| (k_here; (with_reducible show wpAny _ _ (exec (.If (.Compare (.BinOp _ _ _ _) _ _ _) _ _ _) _) _ _ _); k_dflt (refine if_any ?_ ?_ ?_); rotate_left; all_goals (try (intro tk9; (try dsimp only)))))
local macro_rules | `(tactic| walk_at "subscriptTail") => `(tactic| (k_here; (with_reducible show wpAny _ _ (subscriptTail _ _ (Value.ref _) (Value.int _ _)) _ _ _); (try dsimp only); k_dflt (refine valuesK (by k_asm) (by k_mem) (by (try simp only [fm2, fm3, fm4, fm5, fm8]); omega) (by (try simp only [fm2, fm3, fm4, fm5, fm8]); omega) ?_)))
local macro_rules | `(tactic| walk_at "subscriptTail") => `(tactic| (k_here; (with_reducible show wpAny _ _ (subscriptTail _ _ (Value.ref 72) (Value.int _ _)) _ _ _); (try dsimp only); k_dflt (refine keysK (by k_asm) (by k_asm) (by assumption) (by assumption) (by assumption) (by (try simp only [fm2, fm3, fm4, fm5, fm8]); omega) (by (try simp only [fm2, fm3, fm4, fm5, fm8]); omega) ?_)))
local macro_rules | `(tactic| walk_at "call ref") => `(tactic| (k_here; (with_reducible show wpAny _ _ (call (.ref 79) _ _) _ _ _); k_dflt (refine valuesCallK (AtAll.at (by assumption) (by k_asm) (by decide)) (by k_asm) ?_); intro h' tk' l' t0' t1' t2' t3' n' F' N' l1'; (try dsimp only)))
local macro_rules | `(tactic| walk_at "setItem ref bytes") => `(tactic| (k_here; (with_reducible rename Wit2 _ _ _ _ _ _ _ _ _ _ => W9); k_dflt (first | refine setBK (by k_asm) (by k_asm) W9 (by kwk_ne) rfl (by assumption) ?_ | refine setPK (by k_asm) (by k_asm) W9 (by kwk_ne) rfl (by assumption) ?_); clear W9; intro h' tk' own' F' N' W'; (try dsimp only)))
local macro_rules | `(tactic| walk_at "subscriptTail") => `(tactic| (k_here; (with_reducible show wpAny _ _ (subscriptTail _ _ (Value.ref _) (Value.int _ _)) _ _ _); (with_reducible rename Wit _ _ _ _ _ _ _ _ => W9); (try dsimp only); k_dflt (first | refine tiersK (by k_asm) (by k_asm) W9 (by kwk_ne) (by exact rfl) (by (try simp only [fm2, fm3, fm4, fm5, fm8]); omega) (by (try simp only [fm2, fm3, fm4, fm5, fm8]); omega) ?_ | refine logsK (by k_asm) (by k_asm) W9 (by kwk_ne) (by exact rfl) (by (try simp only [fm2, fm3, fm4, fm5, fm8]); omega) (by (try simp only [fm2, fm3, fm4, fm5, fm8]); omega) ?_)))
local macro_rules | `(tactic| walk_at "setItem ref bytes") => `(tactic| (k_here; (with_reducible rename Wit _ _ _ _ _ _ _ _ => W9); k_dflt (refine setK (by k_asm) (by k_asm) (by k_asm) W9 (by kwk_ne) (by exact rfl) (by (try simp only [fm2, fm3, fm4, fm5, fm8]); omega) (by (try simp only [fm2, fm3, fm4, fm5, fm8]); omega) (by k_asm) (by assumption) ?_); clear W9; intro h' tk' own' F' N' W'; (try dsimp only)))
local macro_rules | `(tactic| walk_at "delItem ref bytes") => `(tactic| (k_here; (with_reducible rename Wit _ _ _ _ _ _ _ _ => W9); k_dflt (refine delK (by k_asm) (by k_asm) (by k_asm) W9 (by kwk_ne) (by exact rfl) (by (try simp only [fm2, fm3, fm4, fm5, fm8]); omega) (by (try simp only [fm2, fm3, fm4, fm5, fm8]); omega) (by k_asm) (by assumption) ?_); clear W9; intro h' tk' own' F' N' W'; (try dsimp only)))
local macro_rules | `(tactic| walk_at "getMethod ref") => `(tactic| (k_here; (with_reducible show wpAny _ _ (getMethod (Value.ref _) (Str.ofString "append") _) _ _ _); (with_reducible rename Wit _ _ _ _ _ _ _ _ => W9); k_dflt (refine appendMethK (by k_asm) (by k_asm) W9 (by kwk_ne) (by exact rfl) (by (try simp only [fm2, fm3, fm4, fm5, fm8]); omega) (by (try simp only [fm2, fm3, fm4, fm5, fm8]); omega) ?_)))
local macro_rules | `(tactic| walk_at "call builtin:list.append") => `(tactic| (k_here; (with_reducible rename Wit _ _ _ _ _ _ _ _ => W9); k_dflt (refine appendK (by k_asm) (by k_asm) W9 (by kwk_ne) (by exact rfl) (by k_mem) (by (try simp only [fm2, fm3, fm4, fm5, fm8]); omega) (by (try simp only [fm2, fm3, fm4, fm5, fm8]); omega) (by k_asm) (by assumption) (by first | exact .inr (.inr ⟨_, _, rfl⟩) | exact .inr (.inl rfl)) ?_); clear W9; intro st' h' own' G' z' F' N' W'; (try dsimp only)))
local macro_rules | `(tactic| walk_at "call ref") => `(tactic| (k_here; (with_reducible show wpAny _ _ (call (.ref 91) _ _) _ _ _); (with_reducible rename Wit _ _ _ _ _ _ _ _ => W9); k_dflt (refine toldSplitK (by k_asm) (by k_asm) (by k_asm) W9 (by kwk_ne) (by exact rfl) (by exact rfl) (by (try simp only [fm2, fm3, fm4, fm5, fm8]); omega) (by (try simp only [fm2, fm3, fm4, fm5, fm8]); omega) (by k_asm) (by assumption) ?_); clear W9; intro due' hdue' h' tk' own' F' N' W'; (try dsimp only)))
local macro_rules | `(tactic| walk_at "call ref") => `(tactic| (k_here; (with_reducible show wpAny _ _ (call (.ref 91) _ _) _ _ _); (with_reducible rename Wit _ _ _ _ _ _ _ _ => W9); k_dflt (refine toldK (by k_asm) (by k_asm) (by k_asm) W9 (by kwk_ne) (by exact rfl) (by exact rfl) (by (try simp only [fm2, fm3, fm4, fm5, fm8]); omega) (by (try simp only [fm2, fm3, fm4, fm5, fm8]); omega) (by k_asm) (by assumption) (by assumption) ?_); clear W9; intro h' tk' own' F' N' W'; (try dsimp only)))
local macro_rules | `(tactic| walk_at "call ref") => `(tactic| (k_here; (with_reducible show wpAny _ _ (call (.ref 105) _ _) _ _ _); (with_reducible rename Wit _ _ _ _ _ _ _ _ => W9); k_dflt (refine askedK (by k_asm) (by k_asm) (by k_asm) W9 (by kwk_ne) (by exact rfl) (by (try simp only [fm2, fm3, fm4, fm5, fm8]); omega) (by (try simp only [fm2, fm3, fm4, fm5, fm8]); omega) (by k_asm) (by assumption) ?_); clear W9; intro g' h' tk' own' KT' B' X' T' D' HA' F' N' W'; (try dsimp only)))
local macro_rules | `(tactic| walk_at "call ref") => `(tactic| (k_here; (with_reducible show wpAny _ _ (call (.ref 119) _ _) _ _ _); (with_reducible rename Wit _ _ _ _ _ _ _ _ => W9); k_dflt (refine committedK (by k_asm) (by k_asm) (by k_asm) W9 (by kwk_ne) (by exact rfl) (by exact rfl) (by exact rfl) (by (try simp only [fm2, fm3, fm4, fm5, fm8]); omega) (by (try simp only [fm2, fm3, fm4, fm5, fm8]); omega) (by k_asm) (by assumption) (by first | exact fun _ => rfl | (intro q9; rw [q9]; rfl) | exact fun _ => (by assumption) | (intro q9; simp [q9]; done) | (intro q9; exfalso; omega)) ?_); clear W9; intro st' h' tk' own' G' z' F' N' W'; (try dsimp only)))
local macro_rules | `(tactic| walk_at "call ref") => `(tactic| (k_here; (with_reducible show wpAny _ _ (call (.ref 112) _ _) _ _ _); (with_reducible rename Wit _ _ _ _ _ _ _ _ => W9); k_dflt (refine allToldK (by k_asm) (by k_asm) (by k_asm) W9 (by kwk_ne) (by exact rfl) (by exact rfl) (by exact rfl) (by k_asm) (by assumption) ?_); clear W9; intro g' h' tk' own' KT' B' X' T' D' HA' F' N' W'; (try dsimp only)))
local macro_rules | `(tactic| walk_at "exec For Name List cons nil") => `(tactic| (k_here; k_dflt (refine for_held ?_ ?hs; (case hs => intro _; rfl))))
local macro_rules | `(tactic| walk_at "compareOp In bytes ref") => `(tactic| (k_here; (with_reducible rename Wit _ _ _ _ _ _ _ _ => W9); k_dflt (refine inK (by k_asm) (by k_asm) (by k_asm) W9 (by kwk_ne) (by exact rfl) (by (try simp only [fm2, fm3, fm4, fm5, fm8]); omega) (by (try simp only [fm2, fm3, fm4, fm5, fm8]); omega) (by k_asm) ?_ ?_); clear W9; (first | (intro hd' h' tk' own' F' N' W'; (try dsimp only)) | skip)))
local macro_rules | `(tactic| walk_at "compareOp NotEq ref ref") => `(tactic| (k_here; (with_reducible rename Wit _ _ _ _ _ _ _ _ => W9); k_dflt (refine neK (by k_asm) (by k_asm) (by k_asm) W9 (by kwk_ne) (by exact rfl) (by exact rfl) (by k_asm) ?_)))
local macro_rules | `(tactic| walk_at "callWith ref") => `(tactic| (k_here; (with_reducible show wpAny _ _ (callWith _ (Value.ref _) _ (backTo _ (starEach [] _)) []) _ _ _); k_dflt (refine callWith_K0 (Frag.In.keeps (by k_asm) (Fr.keep (by k_asm))) (by k_is) ?_)))
theorem law_holds : PySem.Challenge.rw_ad6016_01.Holds := hd (by
  k_go0
  rename World => w
  (try (rename Heap.CodeRec _ _ _ => hcd9; clear hcd9))
  (try (rename Dflts _ _ _ _ _ _ => hD9; clear hD9))
  have D0 : KtsDicts (([] : List Env).filterMap (·.frame)) (Shared.heap (by with_reducible assumption)) := ktsDicts_nil
  refine with_at (n := 60) ⟨by k_asm, by k_asm, by k_asm, ktsDicts_nil, fun m s F => (by ktn_step)⟩ fun HA => ?_
  k_steps
  · unfold Hold
    k_steps
    all_goals exact ⟨_, _, _, rfl, rfl⟩
  rename_i n tkn kn _ dB _ oB loB hdB _ _ _ dP _ oP loP hdP _ ldP _ _ _ _ _ _ _ _ _ _ _ _ it h9 lt9 no9 ne9 F9 N9 hi9
  rename Shared => s1
  have idB : dB ≠ it := Nat.ne_of_lt (lt9 (dB, _) (by k_mem))
  have idP : dP ≠ it := Nat.ne_of_lt (lt9 (dP, _) (by k_mem))
  have nBP : dB ≠ dP := Nat.ne_of_lt ldP
  obtain ⟨kits, nk, hk72, hksz, hks⟩ := keys_at w
  refine' names_held (h₀ := s1.heap) ?hE (Walks.range rfl it 0 1 5) [Str.ofString "k"] (KT w dB dP it s1.heap s1.heap.objs.size) rfl rfl rfl (fun q => ne9 (List.mem_singleton.mp q).symm) (fun b hb => List.mem_singleton.mp hb ▸ no9) (fun i h h' J up => J.stable up) (by show IsRangeIter _ _ _ _ _; simpa using hi9) F9 ⟨[], [], .nil, Nat.le_refl _, oB, oP, (fun p hp => by rcases List.mem_cons.mp hp with rfl | hp; exact N9 _ (by k_mem); rw [List.mem_singleton.mp hp]; exact N9 _ (by k_mem)), hdB, hdP, nBP, ne9, Ne.symm idB, Ne.symm idP⟩ ?step ?hR
  case hE => first | passes_own | with_unfolding_all passes_own
  case step =>
    clear N9 F9 hi9 lt9
    rintro i v u h tk hi ⟨t9, hv⟩ J st F5
    subst hv
    rw [names1] at F5
    replace F5 : Fr s1.heap s1.heap.objs.size h _ := F5
    refine turn_any1 fun Qr Er s9 => ?_
    obtain ⟨kB, kP, hS, hl, W5⟩ := J.enter F5
    have N5 : News s1.heap s1.heap.objs.size h (restOf s1.heap s1.heap.objs.size [] h) := rest_news'
    generalize restOf s1.heap s1.heap.objs.size [] h = own at N5 W5
    clear J
    have hz : kB.length ≤ sizeLine := by rw [sizeLine_eq]; omega
    have hzP : kP.length ≤ sizeLine := by rw [← hS.length]; exact hz
    have e0 : (0 : Int) + ↑i * 1 = ↑i := by omega
    rw [e0] at F5
    k_steps
    · exact KT.leave (by k_asm) (by k_asm) (by k_asm) (by kwk_ne) (hS.stored _ _ _ _) (Nat.le_trans (stored_len _ _ _) (Nat.succ_le_succ hl)) stay1
    · exact KT.leave (by k_asm) (by k_asm) (by k_asm) (by kwk_ne) hS (Nat.le_succ_of_le hl) stay1
    · unfold Hold
      k_steps
      all_goals exact ⟨_, rfl⟩
  case hR =>
    clear N9 F9 hi9 lt9
    rintro h tk u F5 J
    rw [after1] at F5
    replace F5 : Fr s1.heap s1.heap.objs.size h _ := F5
    obtain ⟨kB, kP, hS, hl, oB5, oP5, N5, hB5, hP5, -⟩ := J
    dsimp only
    k_steps
    rename_i D ws _ _ _ hI _ _ _ it2 h9 lt9 no9 ne9 nl9 F9 N9 hi9 hl9
    replace N9 : News s1.heap s1.heap.objs.size h9 _ := N9
    replace F9 : Fr s1.heap s1.heap.objs.size h9 _ := F9
    have LS := law_start (news_tail N9) nBP (by simp only [Desc, and_true]; (repeat' (first | assumption | (refine And.intro (by omega) ?_) | omega))) (by omega) (by assumption) (by assumption) (by assumption) hB5 hP5 (by assumption) (by assumption) (by assumption) loB loP hS hl
    have lD := lt9 (D, _) (.head _)
    have nD := (N9 (D, _) (.tail _ (.head _))).2.1
    clear N9 lt9
    obtain ⟨fx, e1, e2, e3, e4, e5, st0, cv0, I0, G0, z0, le0⟩ := LS
    subst e1 e2 e3 e4 e5
    have hlen : ws.length ≤ 63 := by
      have h1 := hI.length
      omega
    obtain ⟨HP, hHP⟩ := at_pred HA
    refine' names_held2 (g₀ := s1.heap) ?hE2 (Walks.list rfl it2 D nl9 ws.toArray) [Str.ofString "number", Str.ofString "kind", Str.ofString "level", Str.ofString "key", Str.ofString "value", Str.ofString "scratch"] (Turn HP w fx it2 D 5 s1.heap.objs.size) rfl rfl rfl ?hLf2 (fun i g h J b hb => by rw [List.mem_singleton.mp hb]; exact J.fresh) (fun i g h h' J up => J.stable up) ⟨hi9, hl9⟩ F9 (Turn.zero I0 ((hHP _).mpr HA) (fun q => Nat.lt_irrefl _ (Nat.lt_of_le_of_lt (le0 _ (.tail _ q)) lD)) ne9 (Nat.ne_of_gt lD) no9 G0 z0 hi9) ?step2 ?hR2
    case hE2 => first | passes_own | with_unfolding_all passes_own
    case hLf2 =>
      intro q
      rcases List.mem_cons.mp q with q | q
      · exact ne9 q.symm
      · exact nD (List.mem_singleton.mp q).symm
    case step2 =>
      clear F9 hi9 hl9
      rintro i v u g h tk hi hv J st F5
      simp only [ctn_cons, ctn_nil] at F5
      replace F5 : Fr g s1.heap.objs.size h _ := F5
      refine turn_any fun Qr Er s9 => ?_
      obtain ⟨nn, tn, e9, -⟩ := hI.at i v (by simpa using hv)
      subst e9
      obtain ⟨⟨oI, eI, _⟩, _⟩ := id st
      obtain ⟨st1, HPg, G, z, W5⟩ := J.enter F5 ⟨oI, eI⟩
      have hoff := iter_off st.1
      have N5 : News g s1.heap.objs.size h (restOf g s1.heap.objs.size [] h) := rest_news'
      generalize restOf g s1.heap.objs.size [] h = own at N5 W5
      have HA5 := (hHP g).mp HPg
      obtain ⟨B5, X5, T5, D5, -⟩ := id HA5
      have hz : st1.size ≤ 1000 := by
        have : i < ws.length := by simpa using hi
        omega
      clear J HPg HA hv I0 G0 z0
      k_steps
      all_goals
        refine Turn.leave ((hHP _).mpr (by k_asm)) (by k_asm) (by k_asm) (by k_asm) (by kwk_ne) (Ne.symm nl9) (by k_asm) (by omega) hoff ?_
        intro z hz
        have a1 : z ≠ Str.ofString "number" := fun e => by rw [e] at hz; exact absurd hz (by decide)
        have a2 : z ≠ Str.ofString "kind" := fun e => by rw [e] at hz; exact absurd hz (by decide)
        have a3 : z ≠ Str.ofString "level" := fun e => by rw [e] at hz; exact absurd hz (by decide)
        have a4 : z ≠ Str.ofString "key" := fun e => by rw [e] at hz; exact absurd hz (by decide)
        have a5 : z ≠ Str.ofString "value" := fun e => by rw [e] at hz; exact absurd hz (by decide)
        have a6 : z ≠ Str.ofString "scratch" := fun e => by rw [e] at hz; exact absurd hz (by decide)
        simp only [if_neg a1, if_neg a2, if_neg a3, if_neg a4, if_neg a5, if_neg a6]
    case hR2 =>
      clear F9 hi9 hl9 I0 G0 z0 HA
      rintro g h tk u F5 J
      simp only [ctn_cons, ctn_nil] at F5
      replace F5 : Fr g s1.heap.objs.size h _ := F5
      obtain ⟨st1, HPg, G, z, W5⟩ := J.over F5
      have N5 : News g s1.heap.objs.size h (restOf g s1.heap.objs.size [] h) := rest_news'
      generalize restOf g s1.heap.objs.size [] h = own at N5 W5
      have HA5 := (hHP g).mp HPg
      obtain ⟨B5, X5, T5, D5, -⟩ := id HA5
      have hz : st1.size ≤ 1000 := by
        simp only [List.size_toArray] at z
        omega
      clear J
      dsimp only
      k_steps
      rename_i g7 h7 tk7 own7 _ B7 X7 T7 D7 HA7 W7 D3 h8 F8 N8 l1 it3 h10 lt3 no3 ne3 nl3 F10 N10 hi3 hl3
      refine' names_held2 (g₀ := g7) ?hE3 (Walks.list rfl it3 D3 nl3 _) [Str.ofString "level"] (Turn HP w fx it3 D3 100 s1.heap.objs.size) rfl rfl rfl ?hLf3 (fun i g h J b hb => by rw [List.mem_singleton.mp hb]; exact J.fresh) (fun i g h h' J up => J.stable up) ⟨hi3, hl3⟩ F10 (Turn.begin W7 F10 N10 (by kwk_ne) (by k_mem) l1 (lt3 _ (.head _)) ((hHP _).mpr HA7) no3 ne3 G (by simp only [List.size_toArray] at z; omega) hi3) ?step3 ?hR3
      case hE3 => first | passes_own | with_unfolding_all passes_own
      case hLf3 =>
        intro q
        rcases List.mem_cons.mp q with q | q
        · exact ne3 q.symm
        · exact (N10 (D3, _) (.tail _ (.head _))).2.1 (List.mem_singleton.mp q).symm
      case step3 =>
        clear F5 N5 HPg HA5 B5 X5 T5 D5 HA7 W7 B7 X7 T7 D7 F8 N8 F10 N10 hi3 hl3 l1 lt3 no3 G z hz
        rintro i v u g h tk hi hv J st F5
        rw [names1] at F5
        replace F5 : Fr g s1.heap.objs.size h _ := F5
        refine turn_any fun Qr Er s9 => ?_
        obtain ⟨lv, tn, e9, h1, h3⟩ := three_items hv
        subst e9
        obtain ⟨⟨oI, eI, _⟩, _⟩ := id st
        obtain ⟨st1, HPg, G, z, W5⟩ := J.enter F5 ⟨oI, eI⟩
        have hoff := iter_off st.1
        have N5 : News g s1.heap.objs.size h (restOf g s1.heap.objs.size [] h) := rest_news'
        generalize restOf g s1.heap.objs.size [] h = own at N5 W5
        have HA5 := (hHP g).mp HPg
        obtain ⟨B5, X5, T5, D5, -⟩ := id HA5
        have hi' : i < 3 := hi
        have hz : st1.size ≤ 1000 := by omega
        clear J HPg hv hi
        k_steps
        all_goals
          refine Turn.leave ((hHP _).mpr (by k_asm)) (by k_asm) (by k_asm) (by k_asm) (by kwk_ne) (Ne.symm nl3) (by k_asm) (by omega) hoff ?_
          intro z hz
          have a3 : z ≠ Str.ofString "level" := fun e => by rw [e] at hz; exact absurd hz (by decide)
          simp only [if_neg a3]
      case hR3 =>
        clear F5 N5 HPg HA5 B5 X5 T5 D5 HA7 W7 B7 X7 T7 D7 F8 N8 F10 N10 hi3 hl3 l1 lt3 no3 G z hz
        rintro g h tk u F5 J
        rw [after1] at F5
        replace F5 : Fr g s1.heap.objs.size h _ := F5
        obtain ⟨st1, HPg, G, z, W5⟩ := J.over F5
        have N5 : News g s1.heap.objs.size h (restOf g s1.heap.objs.size [] h) := rest_news'
        generalize restOf g s1.heap.objs.size [] h = own at N5 W5
        have HA5 := (hHP g).mp HPg
        obtain ⟨B5, X5, T5, D5, -⟩ := id HA5
        have hz : st1.size ≤ 1000 := by
          have z : st1.size ≤ 100 + 3 := z
          omega
        clear J
        dsimp only
        k_steps
        rename Below _ _ _ _ => B9
        rename Fr _ _ _ _ => F9
        have F8 : Fr s1.heap s1.heap.objs.size _ _ := ⟨F9.ns, fun b o e => F9.keep b o (B9.stays b o e), Nat.le_refl _⟩
        k_steps)
end
end Mine
theorem PySem.Challenge.cw_ad6016_01_holds : PySem.Challenge.rw_ad6016_01.Holds := by
  exact Mine.law_holds
