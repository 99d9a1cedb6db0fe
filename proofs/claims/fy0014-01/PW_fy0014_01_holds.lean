import PyProof.Rows.All
import Wide.All
import OpenK.AllK
import Wide.FinOn
import PySem.Challenge.RW_fy0014_01
open PySem PySem.W PyProof.Rows PySem.Calls PySem.Spec
set_option Elab.async false
set_option maxRecDepth 100000
set_option maxHeartbeats 8000000
set_option pp.maxSteps 4000
namespace Mine

section
section
local macro_rules | `(tactic| o_head $t:term) => `(tactic| (have := $t; assumption))
/-- only there to have the static heap written out as a constant: mkK.heap_1 -/
theorem mkK (h : PySem.Challenge.rw_fy0014_01.row.Holds) : True := by
  have h2 : PySem.Challenge.rw_fy0014_01.row.Holds := by k_head
  trivial
end
end
section
abbrev PG := PySem.Challenge.rw_fy0014_01.row.prog
def NeAll (c : Addr) (tl : List (Addr × Obj)) : Prop := ∀ p ∈ tl, p.1 ≠ c

def Keep (S : List Addr) (h h' : Heap) : Prop := ∀ a o, h.get? a = some o → a ∉ S → h'.get? a = some o
theorem Keep.refl (S : List Addr) (h : Heap) : Keep S h h := fun _ _ e _ => e
theorem Keep.trans {S : List Addr} {a b c : Heap} (x : Keep S a b) (y : Keep S b c) : Keep S a c := fun p o e n => y p o (x p o e n) n
theorem Keep.mono {S T : List Addr} {a b : Heap} (x : Keep S a b) (hs : ∀ q ∈ S, q ∈ T) : Keep T a b := fun p o e n => x p o e fun q => n (hs p q)

inductive Rd (w : World) (h : Heap) (S : List Addr) (dp un : Nat) : Around → Prop
  | mk {gd : Option (List Code)} {env : Env} {outer : List Env} {A₀ : Around} {base h₀ : Heap} {L : Addr} {m : Str → Option Value} {p : Program} {loose : List Str} {mean : ExcName → Option Value} {mg mb : Str → Option Value}
    (hf : env.frame = some L) (hk : env.scope.kind = .function) (B : Below A₀ base outer h₀) (F : Fr h₀ L h m) (X : (Mine.mkK.heap_1 w.params).In h₀) (T : Top p loose mean mg mb h₀) (hS : ∀ c ∈ S, h₀.get? c = none ∧ c ≠ L) :
    Rd w h S dp un ⟨none, dp, some (env :: outer), gd, un⟩

section
variable {prog : Program} {w : World} {A₀ A : Around} {s : Shared} {base h₀ : Heap} {outer : List Env} {L : Addr} {m : Str → Option Value} {env : Env} {news : List (Addr × Obj)} {K : Frag} {p : Program} {loose : List Str} {mean : ExcName → Option Value} {mg mb : Str → Option Value}
  {R : Result → Shared → Prop} {name qual : Str} {params : Arguments} {body : List Stmt} {scope : Scope} {dV kV doc pm cdv ct oc : Value} {an od : Option Addr} {osl : Array (Option Value)} {f : Addr} {args : Args} {binds : List (Str × Value)}

theorem below_wide {l : List Env} {g : Heap} (B : Below A base l g) : Below A (hideAll g (l.filterMap (·.frame))) l g :=
  ⟨B.stack, fun _ _ q => of_hideAll _ q, funFrames_hide B.frames fun env he _ hb => List.mem_filterMap.mpr ⟨env, he, hb⟩⟩
theorem code_c (B : Below A₀ base outer h₀) (F : Fr h₀ L s.heap m) (X₀ : K.In h₀) (N : News h₀ L s.heap news) (T : Top p loose mean mg mb h₀) (hA : A.frames = some (env :: outer)) (hf : env.frame = some L) (hke : env.scope.kind = .function)
    (ho : K.lookup f = some ⟨oc, od, .func (fnOf name qual params body scope dV kV doc pm an cdv ct), osl⟩) (hcd : codeIn K cdv qual = true) (hroom : A.depth < recursionLimit)
    (hbind : BindsTo s (fnOf name qual params body scope dV kV doc pm an cdv ct) args binds) (hloc : ∀ y ∈ binds, scope.names.lookup y.1 = some .local)
    (h : ∀ g L' h₁, (∀ a o, s.heap.get? a = some o → a ∉ news.map (·.1) → g.get? a = some o) → (∀ a o, s.heap.get? a = some o → h₁.get? a = some o) → Fr g L' h₁ (fun y => binds.reverse.lookup y) → News g L' h₁ news → Below A (hideAll g ((env :: outer).filterMap (·.frame))) (env :: outer) g → K.In g → Top p loose mean mg mb g → (∀ p ∈ news, p.1 < L') →
      wpAny (model prog w) (A.deeper (envOf qual scope L' f cdv)) (execs body (envOf qual scope L' f cdv))
        (fun fl s' => LeaveK h₀ L m g (fun r s' => g.StaysIn s'.heap → R r s') (match fl with | .ret v => v | _ => .none) s')
        (fun e s' => wpAny (model prog w) (A.deeper (envOf qual scope L' f cdv)) (leaving (envOf qual scope L' f cdv) e) (fun _ s'' => R (.error e) s'') (fun e' s'' => R (.error e') s'') s')
        { s with heap := h₁, toks := s.toks + binds.length })
    (hco : scope.isCoroutine = false) (hgen : scope.isGenerator = false) (hk : scope.kind = .function)
    (hcell : ∀ x ∈ scope.names, x.2 ≠ .cell) : codeAny (model prog w) A (.call (.ref f) args) R s := by
  obtain ⟨FG, BG, st, lv⟩ := groundX (R := fun r s' => (hideAll s.heap (news.map (·.1))).StaysIn s'.heap → R r s') B F N hA hf hke
  refine codeAny_call_def (fd := fnOf name qual params body scope dV kV doc pm an cdv ct) (body := body) (binds := binds) hroom ((X₀.keeps F.keep) _ _ ho) rfl (T.nolimit.keeps F.keep) (codeRec_of (X₀.keeps F.keep) hcd) rfl hbind hcell hloc (fun h₁ hns hk₁ => ?_) hco hgen hk
  refine wpAny_mono (h _ s.heap.objs.size h₁ (fun a o e n => hideAll_get _ e n) hk₁ ⟨hns, fun b o e => hk₁ b o (of_hideAll _ e), Nat.le_of_eq (hideAll_size _ _)⟩
    (fun p hp => ⟨hk₁ _ _ (N p hp).1, Nat.ne_of_lt (Heap.lt_size (N p hp).1), hideAll_none _ (List.mem_map_of_mem hp)⟩) (below_wide BG) (X₀.keeps st) (T.keeps st) (fun p hp => Heap.lt_size (N p hp).1)) (fun fl s' hl => ?_) fun _ _ y => y
  have hs : (hideAll s.heap (news.map (·.1))).StaysIn s'.heap := let ⟨_, _, _, F', _, _⟩ := hl; F'.keep
  exact lv _ _ hl hs
end

theorem Fr.after {h₀ h h' : Heap} {L : Addr} {m : Str → Option Value} {S : List Addr} (F : Fr h₀ L h m) (k : Keep S h h') (hS : ∀ c ∈ S, h₀.get? c = none ∧ c ≠ L) : Fr h₀ L h' m := by
  obtain ⟨oL, a1, a2, hL, a3⟩ := F.ns
  refine ⟨⟨oL, a1, a2, k L oL hL fun q => (hS L q).2 rfl, a3⟩, fun b o e => k b o (F.keep b o e) fun q => ?_, F.above⟩
  rw [(hS b q).1] at e; cases e
theorem news_hS {h₀ h : Heap} {L : Addr} {news : List (Addr × Obj)} (N : News h₀ L h news) : ∀ c ∈ news.map (·.1), h₀.get? c = none ∧ c ≠ L := fun c hc => by
  obtain ⟨p, hp, rfl⟩ := List.mem_map.mp hc
  exact ⟨(N p hp).2.2, (N p hp).2.1⟩
theorem News.one {h₀ h : Heap} {L : Addr} {news : List (Addr × Obj)} {c : Addr} {o : Obj} (N : News h₀ L h news) (hm : (c, o) ∈ news) : News h₀ L h [(c, o)] := fun p hp => by
  rw [List.mem_singleton.mp hp]; exact N _ hm
theorem News.none {h₀ h : Heap} {L : Addr} : News h₀ L h [] := fun _ hp => nomatch hp
/-- after a contract that keeps all but `c` -/
theorem News.after1 {h₀ h h' : Heap} {L : Addr} {news news' : List (Addr × Obj)} {c : Addr} {o o' : Obj} (N : News h₀ L h news) (k : Keep [c] h h') (U : Upd c o o' news news') (hc : h'.get? c = some o') : News h₀ L h' news' := by
  obtain ⟨pre, post, rfl, rfl, h1, h2⟩ := U.split
  intro q hq
  rcases List.mem_append.mp hq with hq | hq
  · have z := N q (List.mem_append_left _ hq)
    exact ⟨k _ _ z.1 (by simpa using h1 q hq), z.2⟩
  · rcases List.mem_cons.mp hq with rfl | hq
    · have z := N (c, o) (List.mem_append_right _ (.head _))
      exact ⟨hc, z.2⟩
    · have z := N q (List.mem_append_right _ (.tail _ hq))
      exact ⟨k _ _ z.1 (by simpa using h2 q hq), z.2⟩
theorem News.after0 {h₀ h h' : Heap} {L : Addr} {news : List (Addr × Obj)} (N : News h₀ L h news) (k : Keep [] h h') : News h₀ L h' news := fun q hq => ⟨k _ _ (N q hq).1 (by simp), (N q hq).2⟩

theorem keep_fin {S : List Addr} {g h h' : Heap} (hg : ∀ a o, h.get? a = some o → a ∉ S → g.get? a = some o) (k : g.StaysIn h') : Keep S h h' := fun a o e n => k a o (hg a o e n)

theorem raisedK_base {base base' : Heap} {l : List Env} {e t : Addr} {cls : Value} {vs : List Value} {news : List (Addr × Obj)} {h' : Heap} (k : base.StaysIn base') (R : RaisedK base' l e cls t vs news h') : RaisedK base l e cls t vs [] h' := by
  obtain ⟨⟨B, hB, _, hfl, hnew⟩, htup⟩ := R
  exact ⟨⟨B, fun b o q => hB b o (k b o q), fun _ h => (nomatch h), hfl, hnew⟩, htup⟩
/-- an exception of class `cls` has left the callee; all that was there before the call stands (frames up to their slots) -/
structure Flown (A : Around) (h : Heap) (e : Addr) (cls : Value) (h' : Heap) : Prop where
  out : ∃ l t vs, A.frames = some l ∧ RaisedK (hideAll h (l.filterMap (·.frame))) l e cls t vs [] h' ∧ h.UpToSlots h'
theorem flown_of {A : Around} {g h h' : Heap} {l : List Env} {e t : Addr} {cls : Value} {vs : List Value} {news : List (Addr × Obj)} (hg : ∀ a o, h.get? a = some o → a ∉ ([] : List Addr) → g.get? a = some o) (hA : A.frames = some l)
    (R : RaisedK (hideAll g (l.filterMap (·.frame))) l e cls t vs news h') (U : g.UpToSlots h') : Flown A h e cls h' := by
  refine ⟨l, t, vs, hA, raisedK_base (fun b o q => ?_) R, fun b o q => U b o (hg b o q (by simp))⟩
  refine hideAll_get _ (hg b o (of_hideAll _ q) (by simp)) fun hm => ?_
  rw [hideAll_none _ hm] at q; cases q
theorem flown_K {A : Around} {g h h' : Heap} {L : Addr} {m : Str → Option Value} {l : List Env} {env : Env} {A₀ : Around} {e : Addr} {cls : Value} (B : Below A₀ (hideAll g (l.filterMap (·.frame))) l g) (F : Fr g L h m) (hA : A.frames = some (env :: l)) (hf : env.frame = some L)
    (x : Flown A h e cls h') : ∃ t vs, RaisedK (hideAll g (l.filterMap (·.frame))) (env :: l) e cls t vs [] h' ∧ h.UpToSlots h' := by
  obtain ⟨l', t, vs, e1, R, U⟩ := x.out
  rw [hA] at e1
  cases e1
  refine ⟨t, vs, raisedK_base (fun b o q => ?_) R, U⟩
  have hb := of_hideAll _ q
  refine hideAll_get _ (F.keep b o hb) fun hm => ?_
  rw [List.filterMap_cons, hf] at hm
  rcases List.mem_cons.mp hm with rfl | hm
  · exact absurd (Heap.lt_size hb) (Nat.not_lt.mpr F.above)
  · rw [hideAll_none _ hm] at q; cases q
end
local macro_rules | `(tactic| k_room) => `(tactic| ktr_room)
local macro_rules | `(tactic| k_all) => `(tactic| (show NeAll _ _; assumption))
local macro_rules | `(tactic| cell_enter) => `(tactic| (refine' code_c ?k1 ?k2 ?k3 ?k4 ?k5 ?kA ?kF ?kK ?k6 ?k7 ?k8 ?k9 ?kB ?_ ?c2 ?c3 ?c4 ?c5; (case kA => exact rfl); (case kF => first | assumption | exact rfl); (case kK => first | assumption | exact rfl); (case k1 => k_asm); (case k2 => k_asm); (case k3 => k_asm); (case k4 => k_asm); (case k5 => k_asm); (case k6 => k_is); (case k7 => k_is); (case k8 => ktr_room); (case k9 => first | exact BindsTo.of_eq rfl | exact binds_K (by k_in) rfl (by k_is) rfl rfl rfl); (case c5 => decide); (case kB => exact locs rfl); (case c2 => exact rfl); (case c3 => exact rfl); (case c4 => exact rfl); k_whole))
local macro_rules | `(tactic| cell_ties) => `(tactic| first | exact rfl | assumption | ((with_reducible refine (if_neg (by decide)).trans ?_); cell_ties))
local macro_rules | `(tactic| walk_at "eval Name") => `(tactic| (k_here; k_dflt (refine' ld ?k1 ?k2 ?_; (case k1 => k_asm); (case k2 => cell_ties); k_whole)))
local macro_rules | `(tactic| is_list) => `(tactic| exact stays_list (Fr.keep (by k_asm)) (by assumption))
local macro_rules | `(tactic| walk_at "loadName") => `(tactic| (k_here; k_dflt (refine' ldn ?k1 ?k2 ?_; (case k1 => k_asm); (case k2 => cell_ties); k_whole)))
section
section
variable {prog : Program} {w : World} {A : Around} {E : Value → Shared → Prop}
variable {nm q : Str} {C N : Addr} {bs bm bmB : List Value} {hdct : Bool} {sn : List Str} {sub : List Value} {ab : Bool} {col : Option Bool} {dd : Option Addr} {k0 k1 k2 k3 k5 : Option Value} {B newId initId : String}
theorem issub_nested {h : Heap} {g : Array GenState} {d : Drawn} {t : Nat} {os : OsState} {Q : Fin → Shared → Prop}
    (hC : h.get? C = some (excClassObj nm q C N bs bm hdct sn sub ab col dd k0 k1 k2 k3 k5 newId)) (hq : Q (.done (.ret (.bool true))) ⟨h, g, d, t, os⟩) :
    wpAny (model prog w) A (Builtin.«issubclass.nested» ⟨[.ref C, .ref C, rawInt 0], []⟩) Q E ⟨h, g, d, t, os⟩ := by
  have hcC : (Value.ref C :: bm).contains (.ref C) = true := by simp
  have hT : (⟨h, g, d, t, os⟩ : Shared).TypeIs (.ref C) "type" := ⟨_, hC, rfl⟩
  repeat (any_goals (first | assumption | with_reducible refine wpAny_loadPart_at hC ?_ | (with_reducible refine wpAny_isSubtype_exc hC ?_; rw [hcC]) | wp_step))
theorem issub_call {h : Heap} {g : Array GenState} {d : Drawn} {t : Nat} {os : OsState} {Q : Value → Shared → Prop}
    (hC : h.get? C = some (excClassObj nm q C N bs bm hdct sn sub ab col dd k0 k1 k2 k3 k5 newId)) (hq : Q (.bool true) ⟨h, g, d, t, os⟩) :
    wpAny (model prog w) A (call (.builtin "issubclass") [.ref C, .ref C]) Q E ⟨h, g, d, t, os⟩ := by
  refine call_issubclass (S := fun _ R s => R (.ok (.ret (.bool true))) s ∧ s = ⟨h, g, d, t, os⟩) ?_ ⟨hq, rfl⟩
  rintro p w A s R ⟨hs, rfl⟩
  exact issubclass_outer (issub_nested hC hs)
end
section
variable {prog : Program} {w : World} {A : Around} {E : Value → Shared → Prop} {s : Shared} {h₀ : Heap} {L a : Addr} {m mg : Str → Option Value} {name : Str} {scope : Scope} {cd : Value}
  {x : Str} {C : Addr} {bmB : List Value} {newId B initId : String} {np pos : Pos} {Q : Flow → Shared → Prop}
theorem raise_bare (F : Fr h₀ L s.heap m) (hg : h₀.Ns mainGlobals mg) (O : OwnCls x C bmB newId mg h₀) (FB : ExcBaseFacts B newId initId bmB) (hh : A.handled = none)
    (h : ∀ h' e, Heap.MadeExcOf s.heap h' e (.ref C) [] → E (.ref e) { s with heap := h' })
    (hk : scope.kind = .function) (hx : (envOf name scope L a cd).kindOf x = some .globalImplicit) (hd : (x == ("__debug__" : Str)) = false) :
    wpAny (model prog w) A (exec (.Raise (some (.Name x np)) none pos) (envOf name scope L a cd)) Q E s := by
  obtain ⟨tl, N, nm, q, bs, hdct, sn, sub, ab, col, dd, k0, k1, k2, k3, k5, mN, hC, hN, hni, T⟩ := O.obj
  have hbase : tl.contains (.type "BaseException") = true := T.hasType FB.hasBase
  have hcB : (Value.ref C :: tl).contains (.type "BaseException") = true := by rw [List.contains_cons, hbase, Bool.or_true]
  have hC' := F.keep _ _ hC
  have hN' := hN.keeps F.keep
  have T' := T.keeps F.keep
  show wpAny (model prog w) A (do standAt pos; raiseStmt _ (some (do let v ← eval (.Name x np) (envOf name scope L a cd); standAt pos; pure v)) none) Q E s
  refine wpAny_bind (wpAny_standAt ?_)
  unfold raiseStmt
  dsimp only
  refine wpAny_bind (wpAny_bind (ld_own F hg O (wpAny_bind (wpAny_standAt (wpAny_pure ?_))) hk hx hd))
  refine wpAny_bind (wpAny_pure ?_)
  dsimp only
  refine wpAny_bind (wpAny_holding ?_)
  obtain ⟨hp, g, d, tk, os⟩ := s
  have L1 : Looks (model prog w) hp (isType (.ref C)) true := (Looks.ld hC').andThen .now
  have L2 : Looks (model prog w) hp (isSubtype (.ref C) (.type "BaseException")) true := fun A Q E s k q => by
    obtain ⟨h1, g1, d1, t1, o1⟩ := s
    exact wpAny_isSubtype_exc (k _ _ hC') (by rw [hcB]; exact q)
  refine wpAny_bind ?_
  unfold isExcClass
  refine wpAny_bind (L1.here ?_)
  simp only [if_true]
  refine L2.here ?_
  simp only [if_true]
  refine wpAny_bind (wpAny_call_exc_subT (rest := []) (hrest := Nat.zero_le _) FB T' hC' hN' hni fun h' e hm => ?_)
  obtain ⟨t, ht, _, _⟩ := hm.there
  have hC'' := hm.keeps _ _ hC'
  have L4 : Looks (model prog w) h' (typeOf (.ref e)) (.ref C) := (Looks.ld ht).andThen .now
  have L5 : Looks (model prog w) h' (isInstance (.ref e) (.type "BaseException")) true := L4.andThen (L2.keeps hm.keeps)
  refine wpAny_bind (L5.here ?_)
  simp only [Bool.not_true, Bool.false_eq_true, if_false]
  refine wpAny_pure (wpAny_bind ((L1.keeps hm.keeps).here ?_))
  simp only [if_true]
  refine wpAny_bind (wpAny_holding ?_)
  unfold raisedFor
  simp only [Bool.false_eq_true, if_false]
  refine wpAny_bind (L4.here ?_)
  refine wpAny_bind (issub_call hC'' ?_)
  refine wpAny_bind (wpAny_truthy_bool ?_)
  simp only [if_true]
  refine wpAny_pure ?_
  unfold setFlight
  refine wpAny_bind (wpAny_bind (wpAny_field (i := 1) (x := Value.none) ht rfl rfl ?_))
  rw [if_neg (by decide)]
  exact wpAny_pure (wpAny_raiseNew_none hh (h h' e hm))
end
end
local macro_rules | `(tactic| walk_at "exec Raise some none") => `(tactic| (k_here; (with_reducible show wpAny _ _ (exec (Stmt.Raise (some (Expr.Name _ _)) none _) _) _ _ _); k_dflt (refine' raise_bare ?F ?g ?O PySem.F.excBase_Exception ?h ?_ ?c ?d ?e; (case F => k_asm); (case g => exact TopRead.g (by k_asm)); (case O => exact own_of_in (by k_asm) (by k_asm) (by k_is) (by k_exc)); (case h => first | rfl | assumption); (case c => rfl); (case d => rfl); (case e => decide); k_whole); intro h9 e9 m9))
section
/-- an update of objects that leaves place 2 of a record as it was -/
def Keep2 (f : Obj → Obj) : Prop := ∀ o vs, o.data = .fields vs → ∃ vs', (f o).data = .fields vs' ∧ vs'[2]? = vs[2]?
/-- a tree without calls, whose updates leave place 2 of every record -/
def Flat2 {α : Type} : Sem α → Prop
  | .pure _ => True
  | .raise _ => True
  | .unsupported _ => True
  | .finish _ => True
  | .rule _ k => Flat2 (k ())
  | .at _ k => Flat2 (k ())
  | .load _ _ k => ∀ o, Flat2 (k o)
  | .update _ _ f k => Keep2 f ∧ Flat2 (k ())
  | .alloc _ k => ∀ a, Flat2 (k a)
  | .loadIfAlive _ k => ∀ o, Flat2 (k o)
  | .point _ k => Flat2 (k ())
  | .register _ _ => True
  | .fresh k => ∀ t, Flat2 (k t)
  | .ask k => ∀ x, Flat2 (k x)
  | .choose _ _ k => ∀ n, Flat2 (k n)
  | .os _ _ k => ∀ r, Flat2 (k r)
  | .call .. => False
  | .handled _ k => ∀ v, Flat2 (k v)
  | .newGen _ k => ∀ n, Flat2 (k n)
  | .genState _ k => ∀ x, Flat2 (k x)
  | .resume .. => False
  | .yield .. => True
  | .stack k => ∀ l, Flat2 (k l)
  | .fork .. => True
  | .thread k => ∀ n, Flat2 (k n)
  | .await .. => True
theorem Flat2.bind {α β : Type} {t : Sem α} {f : α → Sem β} (ht : Flat2 t) (hf : ∀ a, Flat2 (f a)) : Flat2 (t >>= f) := by
  show Flat2 (Sem.bind t f)
  induction t with
  | pure a => exact hf a
  | raise | unsupported | finish | register | yield | fork | await => exact trivial
  | rule _ k ih | «at» _ k ih | point _ k ih => exact ih () ht
  | load _ _ k ih | alloc _ k ih | loadIfAlive _ k ih | fresh k ih | ask k ih | choose _ _ k ih | os _ _ k ih | handled _ k ih | newGen _ k ih | genState _ k ih | stack k ih | thread k ih => exact fun x => ih x (ht x)
  | update _ _ f k ih => exact ⟨ht.1, ih () ht.2⟩
  | call | resume => exact ht.elim
/-- an exception whose context is none -/
def Ctx0 (h : Heap) (e : Addr) : Prop := ∃ o vs, h.get? e = some o ∧ o.data = .fields vs ∧ vs[2]? = some .none
theorem ctx0_update {h : Heap} {e a : Addr} {f : Obj → Obj} (c : Ctx0 h e) (k : Keep2 f) : Ctx0 (h.update a f) e := by
  obtain ⟨o, vs, e1, e2, e3⟩ := c
  by_cases q : a = e
  · subst q
    obtain ⟨vs', d1, d2⟩ := k o vs e2
    exact ⟨_, vs', Heap.get?_update_self _ e1 (Obj.isFreed_of_fields d1), d1, d2.trans e3⟩
  · exact ⟨o, vs, (Heap.get?_update_other _ _ q).trans e1, e2, e3⟩
theorem flat2_wp {α : Type} {M : Model} {Γ : PySem.Ctx} {e : Addr} {Q : α → Pos → Shared → Prop} {E : Value → Pos → Shared → Prop} (t : Sem α) (ht : Flat2 t) (p : Pos) (s : Shared) (c : Ctx0 s.heap e) :
    Sem.wp M Γ t Q E p s → Sem.wp M Γ t (fun a p s => Q a p s ∧ Ctx0 s.heap e) E p s := by
  induction t generalizing p s with
  | pure a => exact fun h => ⟨h, c⟩
  | raise | unsupported | finish | register | yield | fork | await => exact id
  | rule _ k ih | «at» _ k ih | point _ k ih => exact ih () ht _ _ c
  | load _ _ k ih => exact fun ⟨o, ho, h⟩ => ⟨o, ho, ih o (ht o) _ _ c h⟩
  | genState _ k ih => exact fun ⟨o, ho, h⟩ => ⟨o, ho, ih _ (ht _) _ _ c h⟩
  | alloc o k ih =>
    obtain ⟨oe, vs, e1, e2, e3⟩ := c
    exact ih _ (ht _) _ _ ⟨oe, vs, Heap.get?_push_of_some _ e1, e2, e3⟩
  | loadIfAlive _ k ih | fresh k ih | ask k ih | os _ _ k ih | handled _ k ih | newGen _ k ih => exact ih _ (ht _) _ _ c
  | choose _ _ k ih => exact fun ⟨hn, h⟩ => ⟨hn, ih _ (ht _) _ _ c h⟩
  | update a _ f k ih => exact fun ⟨ha, h⟩ => ⟨ha, ih () ht.2 _ _ (ctx0_update c ht.1) h⟩
  | stack k ih => exact ih _ (ht _) _ _ c
  | thread k ih => exact ih _ (ht _) _ _ c
  | call | resume => exact ht.elim
theorem flat2_any {α : Type} {M : Model} {A : Around} {e : Addr} {Q : α → Shared → Prop} {E : Value → Shared → Prop} {t : Sem α} (ht : Flat2 t) {s : Shared} (c : Ctx0 s.heap e) (h : wpAny M A t Q E s) : wpAny M A t (fun a s => Q a s ∧ Ctx0 s.heap e) E s :=
  fun Γ p hΓ => flat2_wp t ht p s c (h Γ p hΓ)
theorem keep2_set {i : Nat} {v : Value} (h : i ≠ 2) : Keep2 (Obj.mapFields (·.setIfInBounds i v)) := fun o vs e => ⟨_, Obj.data_mapFields e _, by rw [Array.getElem?_setIfInBounds_ne h]⟩
theorem flat2_fieldsOf (v : Value) : Flat2 (fieldsOf v) := by
  cases v with
  | ref a =>
    show ∀ o, Flat2 _
    intro o
    show Flat2 (match o.data with | .fields vs => pure vs | _ => _)
    split <;> trivial
  | _ => trivial
theorem flat2_field (v : Value) (i : Nat) : Flat2 (field v i) := by
  unfold field
  refine Flat2.bind (flat2_fieldsOf v) fun vs => ?_
  split <;> trivial
theorem flat2_setField (v : Value) {i : Nat} (x : Value) (h : i ≠ 2) : Flat2 (setField v i x) := by
  unfold setField
  split
  · unfold updateField
    refine Flat2.bind (t := load _) (fun _ => trivial) fun o => ?_
    split
    · split
      · exact ⟨keep2_set h, trivial⟩
      · trivial
    · trivial
  · trivial
theorem flat2_setFlight (e : Value) (f : Option Addr) : Flat2 (setFlight e f) := by
  unfold setFlight
  refine Flat2.bind (flat2_field _ _) fun tb => ?_
  split
  · exact flat2_setField _ _ (by decide)
  · trivial
theorem flat2_keptBack (env : Env) (b : Bool) (l : List Env) : Flat2 (keptBack env b l) := by
  unfold keptBack
  split
  · split
    · trivial
    · exact Flat2.bind (Flat2.bind (t := stack) (fun _ => trivial) fun _ => trivial) fun _ => trivial
  · trivial
theorem flat2_behind (env : Env) (l : List Env) : Flat2 (behindIsImport env l) := by
  unfold behindIsImport
  split
  · trivial
  · split
    · trivial
    · exact Flat2.bind (flat2_field _ _) fun _ => trivial
theorem keep2_slots {g : Obj → Array (Option Value)} : Keep2 (fun o => { o with slots := g o }) := fun o vs e => ⟨vs, e, rfl⟩
theorem flat2_readyFrames : ∀ l : List Env, Flat2 (readyFrames l)
  | [] => trivial
  | env :: outer => by
    unfold readyFrames
    split
    · refine Flat2.bind (t := load _) (fun _ => trivial) fun o => ?_
      split
      · trivial
      · refine Flat2.bind (flat2_behind _ _) fun b => Flat2.bind (flat2_keptBack _ _ _) fun v => ?_
        exact Flat2.bind (t := update _ _) ⟨keep2_slots, trivial⟩ fun _ => flat2_readyFrames outer
    · trivial
theorem flat2_frameOf (env : Env) : Flat2 (PySem.frameOf env) := by
  unfold PySem.frameOf
  refine Flat2.bind (Flat2.bind (t := stack) (fun _ => trivial) fun _ => trivial) fun l => Flat2.bind (t := frameObject _) ?_ fun o => ?_
  · unfold frameObject
    split
    · trivial
    · exact Flat2.bind (flat2_readyFrames _) fun _ => trivial
  · split <;> trivial
theorem flat2_place (f : Addr) (b : Bool) : Flat2 (entryPlaceOf f b) := by
  unfold entryPlaceOf
  refine Flat2.bind (t := stack) (fun _ => trivial) fun l => ?_
  split <;> trivial
theorem flat2_newEntry (a b c d e : Value) (l : List Value) : Flat2 (EntryCells.newEntry a b c d e l) := by
  have key : ∀ ll : List Value, Flat2 (newFields "traceback" ll) := fun ll => by
    unfold newFields newObj
    dsimp only
    split
    · exact Flat2.bind (t := unsupported _) trivial fun _ => fun _ => trivial
    · exact fun _ => trivial
  unfold EntryCells.newEntry
  exact key _
theorem flat2_noteFrame (e : Value) (env : Env) : Flat2 (noteFrame e env) := by
  unfold noteFrame
  split
  · refine Flat2.bind (flat2_field _ _) fun head => ?_
    split
    · refine Flat2.bind (flat2_field _ _) fun x => ?_
      split
      · trivial
      · exact Flat2.bind (flat2_setField _ _ (by decide)) fun _ => Flat2.bind (flat2_frameOf _) fun _ => Flat2.bind (flat2_place _ _) fun _ => Flat2.bind (flat2_newEntry ..) fun _ => flat2_setField _ _ (by decide)
    · exact Flat2.bind (flat2_frameOf _) fun _ => Flat2.bind (flat2_place _ _) fun _ => Flat2.bind (flat2_newEntry ..) fun _ => flat2_setField _ _ (by decide)
  · trivial
theorem flat2_leaving (env : Env) (e : Value) : Flat2 (leaving env e) := by
  unfold leaving
  exact Flat2.bind (flat2_noteFrame _ _) fun _ => flat2_setFlight _ _
section
variable {M : Model} {A : Around} {E : Value → Shared → Prop} {s' : Shared} {base g g₂ h : Heap} {outer : List Env} {L a e t : Addr} {m : Str → Option Value} {name : Str} {scope : Scope} {cd : Value} {Q : Unit → Shared → Prop} {news : List (Addr × Obj)}
theorem ctx0_made {h h' : Heap} {cls : Value} {vs : List Value} (hx : Heap.MadeExcOf h h' e cls vs) : Ctx0 h' e := by
  obtain ⟨t, he, _, _⟩ := hx.there
  exact ⟨_, _, he, rfl, rfl⟩
theorem leave_raiseC {cls : Value} {vs : List Value} (K : Below A base outer g) (hx : Heap.MadeExcOf h s'.heap e cls vs) (F : Fr g L h m) (N : News g L h news)
    (hQ : ∀ h' t, RaisedK base outer e cls t vs news h' → g.UpToSlots h' → Ctx0 h' e → Q () { s' with heap := h' }) (hk : scope.kind = .function := by rfl) :
    wpAny M (A.deeper (envOf name scope L a cd)) (leaving (envOf name scope L a cd) (.ref e)) Q E s' := by
  refine wpAny_mono (flat2_any (flat2_leaving _ _) (ctx0_made hx) (leave_raiseK (Q := fun _ s'' => ∃ h' t, s'' = { s' with heap := h' } ∧ RaisedK base outer e cls t vs news h' ∧ g.UpToSlots h') K hx F N (fun h' t R U => ⟨h', t, rfl, R, U⟩) hk)) (fun _ s'' z => ?_) fun _ _ z => z
  obtain ⟨⟨h', t, rfl, R, U⟩, c⟩ := z
  exact hQ h' t R U c
theorem leave_onC {cls : Value} {vs : List Value} (K : Below A base outer g) (F : Fr g L g₂ m) (R : RaisedK base (envOf name scope L a cd :: outer) e cls t vs news s'.heap) (hsm : g₂.UpToSlots s'.heap) (c : Ctx0 s'.heap e)
    (hQ : ∀ h', RaisedK base outer e cls t vs news h' → g.UpToSlots h' → Ctx0 h' e → Q () { s' with heap := h' }) :
    wpAny M (A.deeper (envOf name scope L a cd)) (leaving (envOf name scope L a cd) (.ref e)) Q E s' := by
  refine wpAny_mono (flat2_any (flat2_leaving _ _) c (leave_onK (Q := fun _ s'' => ∃ h', s'' = { s' with heap := h' } ∧ RaisedK base outer e cls t vs news h' ∧ g.UpToSlots h') K F R hsm (fun h' R U => ⟨h', rfl, R, U⟩))) (fun _ s'' z => ?_) fun _ _ z => z
  obtain ⟨⟨h', rfl, R, U⟩, c⟩ := z
  exact hQ h' R U c
end
end
local macro_rules | `(tactic| walk_at "leaving ref") => `(tactic| (k_here; k_dflt ((refine' leave_onC ?k1 ?k2 ?k3 ?k4 ?c ?_; (case k3 => assumption); (case k2 => assumption); (case k1 => assumption); (case k4 => assumption); (case c => assumption); k_whole); intro h' R' U' C'; (try dsimp only at R' U' C' ⊢))))
local macro_rules | `(tactic| walk_at "leaving ref") => `(tactic| (k_here; k_dflt ((refine' leave_raiseC ?k1 ?k0 ?k2 ?k3 ?_; (case k0 => assumption); (case k2 => assumption); (case k1 => assumption); (case k3 => k_asm); k_whole); intro h' t' R' U' C'; (try dsimp only at R' U' C' ⊢))))
section
abbrev cObj (sc : Addr) (i v : Int) (ti tv : Tok) (ep : Nat) : Obj := W.listOf #[.ref sc, .int i ti, .int v tv] ep
theorem dig {x k : Int} (hx : 0 ≤ x) (hx1 : x < 999983) (hk : 2 ≤ k) : 0 ≤ x.fmod k ∧ x.fmod k < k ∧ 0 ≤ x.fdiv k ∧ x.fdiv k < 999983 := by
  have hk0 : 0 ≤ k := by omega
  rw [Int.fmod_eq_emod_of_nonneg _ hk0, Int.fdiv_eq_ediv_of_nonneg _ hk0]
  refine ⟨Int.emod_nonneg _ (by omega), Int.emod_lt_of_pos _ (by omega), Int.ediv_nonneg hx hk0, ?_⟩
  exact Int.lt_of_le_of_lt (Int.ediv_le_self k hx) hx1
theorem big (x : Int) : 0 ≤ x.fmod 999983 ∧ x.fmod 999983 < 999983 := by
  rw [Int.fmod_eq_emod_of_nonneg _ (by decide)]
  exact ⟨Int.emod_nonneg _ (by decide), Int.emod_lt_of_pos _ (by decide)⟩
theorem take_c {w : World} {A : Around} {s : Shared} {Q E : Value → Shared → Prop} {dp un : Nat} {c sc : Addr} {vs : List Value} {ns : List Int} {i v k : Int} {ti tv tk : Tok} {ep : Nat}
  (R : Rd w s.heap [c] dp un A) (hc : s.heap.get? c = some (cObj sc i v ti tv ep)) (hl : s.heap.IsList sc vs.toArray) (hsc : sc ≠ c) (hi : IntsAre vs ns) (hn : ns.length ≤ 63) (h0 : 0 ≤ i) (h1 : i ≤ 100000) (hv0 : 0 ≤ v) (hv1 : v < 999983) (hk0 : 2 ≤ k) (hk1 : k ≤ 11)
  (hd : dp + 1 < recursionLimit) (hu : un + 8 < cLine)
  (hret : ∀ (d i' v' : Int) (t ti' tv' : Tok) (ep' : Nat) (h' : Heap) (tk' : Nat), 0 ≤ d → d < k → 0 ≤ i' → i' ≤ i + 1 → 0 ≤ v' → v' < 999983 →
    Keep [c] s.heap h' → h'.get? c = some (cObj sc i' v' ti' tv' ep') → Q (.int d t) { s with heap := h', toks := tk' }) :
  wpAny (model PG w) A (call (.ref 512) [.ref c, .int k tk]) Q E s := by
  cases R with
  | mk hf hkk B F X T hS =>
  have N : News _ _ s.heap [(c, cObj sc i v ti tv ep)] := fun p hp => by
    rw [List.mem_singleton.mp hp]; exact ⟨hc, (hS c (by simp)).2, (hS c (by simp)).1⟩
  refine wpAny_call ?_
  k_dflt cell_enter
  intro g L' h' hg hh F' N' B' X' T' lt'
  (try dsimp only)
  k_fold
  have hl' : g.IsList sc vs.toArray := let ⟨o, ho, r⟩ := hl; ⟨o, hg _ _ ho (by simpa using hsc), r⟩
  clear hc
  k_steps
  all_goals (with_reducible rename Heap.StaysIn _ _ => kG)
  all_goals (with_reducible rename News _ _ _ _ => kN9)
  all_goals have kc := (kN9 _ (List.mem_singleton.mpr rfl)).1
  all_goals have kk := keep_fin (S := [c]) hg kG
  · have b := big (ns.getD i.toNat 0)
    have d := dig b.1 b.2 hk0
    exact hret _ _ _ _ _ _ _ _ _ d.1 d.2.1 (by omega) (by omega) d.2.2.1 d.2.2.2 kk kc
  · have d := dig (x := 0) (by decide) (by decide) hk0
    exact hret _ _ _ _ _ _ _ _ _ d.1 d.2.1 (by omega) (by omega) d.2.2.1 d.2.2.2 kk kc
  · have d := dig hv0 hv1 hk0
    exact hret _ _ _ _ _ _ _ _ _ d.1 d.2.1 (by omega) (by omega) d.2.2.1 d.2.2.2 kk kc
end
section
abbrev tagObj (dx : Addr) (v1 v2 : Value) : Obj := ⟨.ref 113, some dx, .plain, #[some v1, some v2]⟩
theorem fresh_of {S : List Addr} {g h : Heap} {x : Addr} (hg : ∀ a o, h.get? a = some o → a ∉ S → g.get? a = some o) (hx : g.get? x = none) (hn : x ∉ S) : h.get? x = none := by
  cases q : h.get? x with
  | none => rfl
  | some o => rw [hg _ _ q hn] at hx; cases hx
theorem dxf_c {w : World} {A : Around} {s : Shared} {Q E : Value → Shared → Prop} {dp un : Nat} {v1 v2 : Value}
  (R : Rd w s.heap [] dp un A) (hd : dp + 2 < recursionLimit) (hu : un + 16 < cLine)
  (hret : ∀ (x dx : Addr) (h' : Heap) (tk' : Nat), Keep [] s.heap h' → s.heap.get? x = none → s.heap.get? dx = none → h'.get? x = some (tagObj dx v1 v2) → h'.get? dx = some (dictOf [] 0) → Q (.ref x) { s with heap := h', toks := tk' }) :
  wpAny (model PG w) A (call (.ref 124) [v1, v2]) Q E s := by
  cases R with
  | mk hf hkk B F X T hS =>
  rename_i h₀ L m p loose mean mg mb
  have N : News h₀ L s.heap [] := News.none
  refine wpAny_call ?_
  k_dflt cell_enter
  intro g L' h' hg hh F' N' B' X' T' lt'
  (try dsimp only)
  k_fold
  k_steps
  (with_reducible rename Heap.StaysIn g _ => kG)
  (with_reducible rename News g L' _ _ => kN)
  exact hret _ _ _ _ (keep_fin (S := []) hg kG) (fresh_of hg (kN _ (.head _)).2.2 (by simp)) (fresh_of hg (kN _ (.tail _ (.head _))).2.2 (by simp)) (kN _ (.head _)).1 (kN _ (.tail _ (.head _))).1
end
section
structure TagAt (h : Heap) (x : Addr) (v1 v2 : Value) : Prop where
  at_ : ∃ dx od, h.get? x = some (tagObj dx v1 v2) ∧ h.get? dx = some od
theorem TagAt.keeps {h h' : Heap} {x : Addr} {v1 v2 : Value} (t : TagAt h x v1 v2) (k : ∀ b o, h.get? b = some o → h'.get? b = some o) : TagAt h' x v1 v2 :=
  let ⟨dx, od, a, b⟩ := t.at_; ⟨dx, od, k _ _ a, k _ _ b⟩
theorem inst_tag {h₀ h : Heap} {L x dx : Addr} {m : Str → Option Value} {v1 v2 : Value} {od : Obj} (F : Fr h₀ L h m) (a : h₀.get? x = some (tagObj dx v1 v2)) (b : h₀.get? dx = some od) :
    InstAt h x (tagObj dx v1 v2) 113 (some od) := ⟨F.keep _ _ a, rfl, rfl, F.keep _ _ b⟩
theorem get_propC {prog : Program} {w : World} {A : Around} {E : Value → Shared → Prop} {s : Shared} {K : Frag} {x C L : Addr} {h₀ : Heap} {m : Str → Option Value} {ox od : Obj} {name : Str}
    {expr : Bool} {Q : Value → Shared → Prop} {p fget : Addr} {rest : List Value} (F : Fr h₀ L s.heap m) (X₀ : K.In h₀) (I : InstAt s.heap x ox C (some od)) (hg : plainGet K C name = true) (hc : isClsIn K C = true)
    (ha : findIn K (.ref C) name = some (some (.ref p))) (hn : specialIn K (.ref p) "__get__" = some (some (.builtin "property.__get__"))) (ht : takesIn K (.ref p) = some true) (hp : recIn K p "property" = some (.ref fget :: rest))
    (h : codeAny (model prog w) A.in1 (.call (.ref fget) ⟨[.ref x], []⟩) (fun r s' => match r with | .ok (.ret v) => wpAny (model prog w) A (handedOut v) Q E s' | .ok _ => False | .error e => wpAny (model prog w) A (noteIf true (.ref x) (.str name s.toks) e) (fun _ s'' => E e s'') E s') { s with toks := s.toks + 1 }) :
    wpAny (model prog w) A (getAttr (.ref x) name expr) Q E s := by
  have X := X₀.keeps F.keep
  have g := plainGet_of hg
  refine get_bind X I g.1 (findObj_data hc ha hn ht) g.2 (wpAny_call ?_)
  exact prop_get (s := { s with toks := s.toks + 1 }) X hp h
local macro_rules | `(tactic| k_handed) => `(tactic| assumption)
local macro_rules | `(tactic| k_inst) => `(tactic| exact inst_tag (by k_asm) (by assumption) (by assumption))
local macro_rules | `(tactic| walk_at "getAttr ref") => `(tactic| (k_here; k_dflt ((refine' get_propC ?k1 ?k2 ?k3 ?k4 ?k5 ?k6 ?k7 ?k8 ?k9 ?_; (case k1 => k_asm); (case k2 => k_asm); (case k3 => k_inst); (case k4 => k_is); (case k5 => k_is); (case k6 => k_is); (case k7 => k_is); (case k8 => k_is); (case k9 => k_is); k_whole; k_enter))))
theorem tag_code {w : World} {A : Around} {s : Shared} {Q E : Value → Shared → Prop} {dp un : Nat} {v1 v2 : Value} {x : Addr} {ex : Bool}
  (R : Rd w s.heap [] dp un A) (t : TagAt s.heap x v1 v2) (hv : handedIn v1 = true) (hd : dp + 2 < recursionLimit) (hu : un + 16 < cLine)
  (hret : ∀ (h' : Heap) (tk' : Nat), Keep [] s.heap h' → Q v1 { s with heap := h', toks := tk' }) :
  wpAny (model PG w) A (getAttr (.ref x) (Str.ofString "code") ex) Q E s := by
  cases R with
  | mk hf hkk B F X T hS =>
  rename_i h₀ L m p loose mean mg mb
  have N : News h₀ L s.heap [] := News.none
  obtain ⟨dx, od, ht, hdx⟩ := t.at_
  have I : InstAt s.heap x (tagObj dx v1 v2) 113 (some od) := ⟨ht, rfl, rfl, hdx⟩
  k_dflt (refine' get_propC F X I ?k4 ?k5 ?k6 ?k7 ?k8 ?k9 ?_; (case k4 => k_is); (case k5 => k_is); (case k6 => k_is); (case k7 => k_is); (case k8 => k_is); (case k9 => k_is); k_whole)
  k_dflt cell_enter
  intro g L' h' hg hh F' N' B' X' T' lt'
  (try dsimp only)
  k_fold
  have ht' := hg _ _ ht (by simp)
  have hdx' := hg _ _ hdx (by simp)
  k_steps
  (with_reducible rename Heap.StaysIn g _ => kG)
  exact handed_on hv (hret _ _ (keep_fin (S := []) hg kG))
theorem tag_value {w : World} {A : Around} {s : Shared} {Q E : Value → Shared → Prop} {dp un : Nat} {v1 v2 : Value} {x : Addr} {ex : Bool}
  (R : Rd w s.heap [] dp un A) (t : TagAt s.heap x v1 v2) (hv : handedIn v2 = true) (hd : dp + 2 < recursionLimit) (hu : un + 16 < cLine)
  (hret : ∀ (h' : Heap) (tk' : Nat), Keep [] s.heap h' → Q v2 { s with heap := h', toks := tk' }) :
  wpAny (model PG w) A (getAttr (.ref x) (Str.ofString "value") ex) Q E s := by
  cases R with
  | mk hf hkk B F X T hS =>
  rename_i h₀ L m p loose mean mg mb
  have N : News h₀ L s.heap [] := News.none
  obtain ⟨dx, od, ht, hdx⟩ := t.at_
  have I : InstAt s.heap x (tagObj dx v1 v2) 113 (some od) := ⟨ht, rfl, rfl, hdx⟩
  k_dflt (refine' get_propC F X I ?k4 ?k5 ?k6 ?k7 ?k8 ?k9 ?_; (case k4 => k_is); (case k5 => k_is); (case k6 => k_is); (case k7 => k_is); (case k8 => k_is); (case k9 => k_is); k_whole)
  k_dflt cell_enter
  intro g L' h' hg hh F' N' B' X' T' lt'
  (try dsimp only)
  k_fold
  have ht' := hg _ _ ht (by simp)
  have hdx' := hg _ _ hdx (by simp)
  k_steps
  (with_reducible rename Heap.StaysIn g _ => kG)
  exact handed_on hv (hret _ _ (keep_fin (S := []) hg kG))
end
section
local macro_rules | `(tactic| k_handed) => `(tactic| assumption)
local macro_rules | `(tactic| k_inst) => `(tactic| exact inst_tag (by k_asm) (by assumption) (by assumption))
def TupAt (h : Heap) (y : Addr) (v1 v2 : Value) : Prop := IsTup h y #[v1, v2]
theorem TupAt.keeps {h h' : Heap} {x : Addr} {v1 v2 : Value} (t : TupAt h x v1 v2) (k : ∀ b o, h.get? b = some o → h'.get? b = some o) : TupAt h' x v1 v2 := IsTup.keeps t k
abbrev Row := Int × Str
def rowD (r : Row) : PyData := .tuple [.int r.1, .str r.2]
theorem TupAt.reads {h : Heap} {y : Addr} {k : Int} {n : Str} {t1 t2 : Tok} (u : TupAt h y (.int k t1) (.str n t2)) : Reads h (.ref y) (rowD (k, n)) [] := by
  obtain ⟨o, ho, hc, m, hd⟩ := u
  exact .tuple ho hc hd (.cons (as := []) (bs := []) (.int _ _) (.cons (as := []) (bs := []) (.str _ _) .nil))
theorem rowD_eqv (r q : Row) : PyData.eqv (rowD r) (rowD q) = (r.1 == q.1 && r.2 == q.2) := by
  simp [rowD, PyData.eqv, PyData.eqvAll]
theorem rowD_shaped (r : Row) (h : PyData.strOk r.2 = true) : SeqAt.shaped (rowD r) = true := by
  simp [rowD, SeqAt.shaped, PyData.canLay0, PyData.canLayAll0, PyData.depth, PyData.depthAll, h]
section
variable {prog : Program} {w : World} {A : Around} {E : Value → Shared → Prop} {s : Shared} {Q : Value → Shared → Prop} {x y : Addr} {k k' : Int} {n n' : Str} {t1 t2 t3 t4 : Tok}
theorem eq_tt (u : TupAt s.heap x (.int k t1) (.str n t2)) (v : TupAt s.heap y (.int k' t3) (.str n' t4)) (hn : PyData.strOk n = true) (hn' : PyData.strOk n' = true) (hu : A.units + 64 < cLine) (h : Q (.bool (k == k' && n == n')) s) :
    wpAny (model prog w) A (compareOp .Eq (.ref x) (.ref y)) Q E s :=
  eq_dataH u.reads v.reads (rowD_shaped _ hn) (rowD_shaped _ hn') hu (by rw [rowD_eqv]; exact h)
end
theorem tupAt_of {h₀ h : Heap} {L y : Addr} {news : List (Addr × Obj)} {v1 v2 : Value} {d : Option Addr} {n : Nat} {sl : Array (Option Value)} (N : News h₀ L h news) (hm : (y, (⟨.type "tuple", d, .seq #[v1, v2] n, sl⟩ : Obj)) ∈ news) : TupAt h y v1 v2 :=
  ⟨_, (N _ hm).1, rfl, _, rfl⟩
local macro_rules | `(tactic| walk_at "getAttr ref") => `(tactic| (k_here; k_dflt (first
  | ((with_reducible show wpAny _ _ (getAttr (Value.ref _) (Str.ofString "value") _) _ _ _); refine' tag_value (Rd.mk rfl rfl ?B ?F ?X ?T (fun _ h => nomatch h)) ?t ?hv ?hd ?hu ?_; (case F => k_asm); (case t => exact TagAt.keeps (by assumption) (Fr.keep (by k_asm))); (case B => k_asm); (case X => k_asm); (case T => k_asm); (case hv => k_handed); (case hd => ktr_room); (case hu => ktr_units); k_whole; intro h9 tk9 kp9; (have F9 := Fr.after (by k_asm) kp9 (fun _ h => nomatch h)); (have N9 := News.after0 (by k_asm) kp9); clear kp9; (try dsimp only); (try k_sweep))
  | ((with_reducible show wpAny _ _ (getAttr (Value.ref _) (Str.ofString "code") _) _ _ _); refine' tag_code (Rd.mk rfl rfl ?B ?F ?X ?T (fun _ h => nomatch h)) ?t ?hv ?hd ?hu ?_; (case F => k_asm); (case t => exact TagAt.keeps (by assumption) (Fr.keep (by k_asm))); (case B => k_asm); (case X => k_asm); (case T => k_asm); (case hv => k_handed); (case hd => ktr_room); (case hu => ktr_units); k_whole; intro h9 tk9 kp9; (have F9 := Fr.after (by k_asm) kp9 (fun _ h => nomatch h)); (have N9 := News.after0 (by k_asm) kp9); clear kp9; (try dsimp only); (try k_sweep)))))
local macro_rules | `(tactic| walk_at "compareOp Eq ref") => `(tactic| (k_here; k_dflt (refine' eq_tt ?u ?v ?n1 ?n2 ?hu ?_; (case u => first | exact tupAt_of (by k_asm) (by k_mem) | exact TupAt.keeps (by assumption) (Fr.keep (by k_asm))); (case v => first | exact tupAt_of (by k_asm) (by k_mem) | exact TupAt.keeps (by assumption) (Fr.keep (by k_asm))); (case n1 => assumption); (case n2 => assumption); (case hu => ktr_units); k_whole)))
theorem tag_eq {w : World} {A : Around} {s : Shared} {Q E : Value → Shared → Prop} {dp un : Nat} {k k' : Int} {n n' : Str} {t1 t2 t3 t4 : Tok} {x y : Addr}
  (R : Rd w s.heap [] dp un A) (t : TagAt s.heap x (.int k t1) (.str n t2)) (u : TupAt s.heap y (.int k' t3) (.str n' t4)) (hn : PyData.strOk n = true) (hn' : PyData.strOk n' = true) (hd : dp + 3 < recursionLimit) (hu : un + 100 < cLine)
  (hret : ∀ (h' : Heap) (tk' : Nat), Keep [] s.heap h' → Q (.bool (k == k' && n == n')) { s with heap := h', toks := tk' }) :
  wpAny (model PG w) A (compareOp .Eq (.ref x) (.ref y)) Q E s := by
  cases R with
  | mk hf hkk B F X T hS =>
  rename_i h₀ L m p loose mean mg mb
  have N : News h₀ L s.heap [] := News.none
  obtain ⟨dx, od, ht, hdx⟩ := t.at_
  have I : InstAt s.heap x (tagObj dx (.int k t1) (.str n t2)) 113 (some od) := ⟨ht, rfl, rfl, hdx⟩
  have hty : Looks (model PG w) s.heap (typeOf (.ref y)) (.type "tuple") := by
    obtain ⟨o, ho, hc, _⟩ := u
    exact hc ▸ (Looks.ld ho).andThen .now
  refine cmp_ofEq ?_
  k_dflt (refine' cmp_K ?k1 F X I hty ?k6 ?k7 ?k8 ?_; (case k1 => ktr_units); (case k6 => k_is); (case k7 => k_is); (case k8 => k_is); k_whole)
  refine wpAny_call ?_
  k_dflt cell_enter
  intro g L' h' hg hh F' N' B' X' T' lt'
  (try dsimp only)
  k_fold
  have ht' := hg _ _ ht (by simp)
  have hdx' := hg _ _ hdx (by simp)
  have tg : TagAt g x (.int k t1) (.str n t2) := ⟨dx, od, ht', hdx'⟩
  have u' : TupAt g y (.int k' t3) (.str n' t4) := TupAt.keeps u fun b o e => hg b o e (by simp)
  k_steps
  (with_reducible rename Heap.StaysIn g _ => kG)
  exact hret _ _ (keep_fin (S := []) hg kG)
end
local macro_rules | `(tactic| walk_at "getAttr ref") => `(tactic| (k_here; k_dflt (first
  | ((with_reducible show wpAny _ _ (getAttr (Value.ref _) (Str.ofString "value") _) _ _ _); refine' tag_value (Rd.mk rfl rfl ?B ?F ?X ?T (fun _ h => nomatch h)) ?t ?hv ?hd ?hu ?_; (case F => k_asm); (case t => exact TagAt.keeps (by assumption) (Fr.keep (by k_asm))); (case B => k_asm); (case X => k_asm); (case T => k_asm); (case hv => k_handed); (case hd => ktr_room); (case hu => ktr_units); k_whole; intro h9 tk9 kp9; (have F9 := Fr.after (by k_asm) kp9 (fun _ h => nomatch h)); (have N9 := News.after0 (by k_asm) kp9); clear kp9; (try dsimp only); (try k_sweep))
  | ((with_reducible show wpAny _ _ (getAttr (Value.ref _) (Str.ofString "code") _) _ _ _); refine' tag_code (Rd.mk rfl rfl ?B ?F ?X ?T (fun _ h => nomatch h)) ?t ?hv ?hd ?hu ?_; (case F => k_asm); (case t => exact TagAt.keeps (by assumption) (Fr.keep (by k_asm))); (case B => k_asm); (case X => k_asm); (case T => k_asm); (case hv => k_handed); (case hd => ktr_room); (case hu => ktr_units); k_whole; intro h9 tk9 kp9; (have F9 := Fr.after (by k_asm) kp9 (fun _ h => nomatch h)); (have N9 := News.after0 (by k_asm) kp9); clear kp9; (try dsimp only); (try k_sweep)))))
local macro_rules | `(tactic| k_handed) => `(tactic| assumption)
local macro_rules | `(tactic| walk_at "compareOp Eq ref") => `(tactic| (k_here; k_dflt (refine' eq_tt ?u ?v ?n1 ?n2 ?hu ?_; (case u => first | exact tupAt_of (by k_asm) (by k_mem) | exact TupAt.keeps (by assumption) (Fr.keep (by k_asm))); (case v => first | exact tupAt_of (by k_asm) (by k_mem) | exact TupAt.keeps (by assumption) (Fr.keep (by k_asm))); (case n1 => first | assumption | decide +kernel); (case n2 => first | assumption | decide +kernel); (case hu => ktr_units); k_whole)))
local macro_rules | `(tactic| k_inst) => `(tactic| exact inst_tag (by k_asm) (by assumption) (by assumption))
section
def GExt (s₀ s : Shared) : Prop := ∃ h tk, s = { s₀ with heap := h, toks := tk } ∧ ∀ b o, s₀.heap.get? b = some o → h.get? b = some o
def tagY (v1 v2 : Value) : Protocol := fun m s₀ v s kap => v = (if m = 1 then v1 else v2) ∧ GExt s₀ s ∧ ∀ s'' : Shared, (∀ b o, s.heap.get? b = some o → s''.heap.get? b = some o) → kap (.send .none) s''
abbrev iterScope : Scope := { kind := .function, names := [(Str.ofString "self", .local)], isGenerator := true, isCoroutine := false }
abbrev iterE1 (p1 p2 : Pos) : Expr := .Attribute (.Name (Str.ofString "self") p1) (Str.ofString "_code") p2
abbrev iterE2 (p1 p2 : Pos) : Expr := .Attribute (.Name (Str.ofString "self") p1) (Str.ofString "value") p2
abbrev iterBody (p1 p2 p3 p4 q1 q2 q3 q4 : Pos) : List Stmt := [.Expr (.Yield (some (iterE1 p1 p2)) p3) p4, .Expr (.Yield (some (iterE2 q1 q2)) q3) q4]
section
variable {w : World} {dp un : Nat} {l : List Env} {gd : Option (List Code)} {A₀ : Around} {base h₀ : Heap} {C f x : Addr} {qual : Str} {cdv v1 v2 : Value} {p : Program} {loose : List Str} {mean : ExcName → Option Value} {mg mb : Str → Option Value} {m : Str → Option Value}
  {p1 p2 p3 p4 q1 q2 q3 q4 : Pos} {E : Value → Shared → Prop} {s : Shared} {Q : Value → Shared → Prop} {body : List Stmt}
theorem iter_e1 (X : (Mine.mkK.heap_1 w.params).In h₀) (T : Top p loose mean mg mb h₀) (t : TagAt h₀ x v1 v2) (h1 : handedIn v1 = true) (F : Fr h₀ C s.heap m) (hm : m (Str.ofString "self") = some (.ref x)) {A : Around}
  (h : ∀ h' tk', Fr h₀ C h' m → (∀ b o, s.heap.get? b = some o → h'.get? b = some o) → Q v1 { s with heap := h', toks := tk' }) : wpAny (model PG w) A (eval (iterE1 p1 p2) (envOf qual iterScope C f cdv)) Q E s := by
  obtain ⟨dx, od, ht, hdx⟩ := id t.at_
  have N : News h₀ C s.heap [] := News.none
  k_steps
  exact h _ _ F fun _ _ e => e
theorem iter_e2 (B : Below A₀ base l h₀) (X : (Mine.mkK.heap_1 w.params).In h₀) (T : Top p loose mean mg mb h₀) (t : TagAt h₀ x v1 v2) (h2 : handedIn v2 = true) (hd : dp + 6 < recursionLimit) (hu : un + 50 < cLine) (F : Fr h₀ C s.heap m) (hm : m (Str.ofString "self") = some (.ref x))
  (h : ∀ h' tk', Fr h₀ C h' m → (∀ b o, s.heap.get? b = some o → h'.get? b = some o) → Q v2 { s with heap := h', toks := tk' }) : wpAny (model PG w) (Around.over (Around.in1 ⟨none, dp, some l, gd, un⟩) (.func body (envOf qual iterScope C f cdv)) []) (eval (iterE2 p1 p2) (envOf qual iterScope C f cdv)) Q E s := by
  obtain ⟨dx, od, ht, hdx⟩ := id t.at_
  have N : News h₀ C s.heap [] := News.none
  k_steps
  refine tag_value (dp := dp + 1) (un := _) (Rd.mk rfl rfl B F X T (fun _ h => nomatch h)) (t.keeps F.keep) h2 (by omega) ?_ ?_
  · simp only [Around.in1, unitsOf, List.map_nil, List.sum_nil, Code.cUnits, Code.frames]
    split <;> omega
  · intro h9 tk9 kp9
    exact h _ _ (Fr.after F kp9 fun _ h => nomatch h) fun b o e => kp9 b o e (by simp)
theorem tag_seg (B : Below A₀ base l h₀) (X : (Mine.mkK.heap_1 w.params).In h₀) (T : Top p loose mean mg mb h₀) (t : TagAt h₀ x v1 v2) (h1 : handedIn v1 = true) (h2 : handedIn v2 = true) (hd : dp + 6 < recursionLimit) (hu : un + 50 < cLine)
  (F : Fr h₀ C s.heap m) (hm : m (Str.ofString "self") = some (.ref x)) :
  Seg (model PG w) (Around.in1 ⟨none, dp, some l, gd, un⟩) (fun n s₀ r s₁ => r = .ok (.ret .none) ∧ (n = 0 ∧ GExt s₀ s₁)) (tagY v1 v2) 2 s
    (.func (iterBody p1 p2 p3 p4 q1 q2 q3 q4) (envOf qual iterScope C f cdv)) ((model PG w).den (.func (iterBody p1 p2 p3 p4 q1 q2 q3 q4) (envOf qual iterScope C f cdv))) [] s := by
  refine seg_func (seg_execs_cons (seg_Expr_Yield rfl rfl rfl (iter_e1 X T t h1 F hm fun h' tk' F' k' => ?_)))
  intro kap hk
  refine ⟨rfl, ⟨h', tk', rfl, k'⟩, fun s'' hs'' => hk .none s'' ?_⟩
  have F'' : Fr h₀ C s''.heap m := F'.keeps hs''
  refine seg_execs_cons (seg_Expr_Yield rfl rfl rfl (iter_e2 B X T t h2 hd hu F'' hm fun h2' tk2' F2' k2' => ?_))
  intro kap2 hk2
  refine ⟨rfl, ⟨h2', tk2', rfl, k2'⟩, fun s3 hs3 => hk2 .none s3 ?_⟩
  refine seg_execs_nil ?_
  exact seg_end (.ok (.ret .none)) ⟨rfl, rfl, s3.heap, s3.toks, rfl, fun _ _ e => e⟩
end
theorem push_set (g : Array GenState) (a b : GenState) : (g.push a).setIfInBounds g.size b = g.push b := by
  obtain ⟨l⟩ := g
  simp
theorem unpack_tag {w : World} {A : Around} {s : Shared} {Q : List Value → Shared → Prop} {E : Value → Shared → Prop} {dp un : Nat} {x : Addr} {v1 v2 : Value}
  (R : Rd w s.heap [] dp un A) (t : TagAt s.heap x v1 v2) (h1 : handedIn v1 = true) (h2 : handedIn v2 = true) (hd : dp + 8 < recursionLimit) (hu : un + 80 < cLine)
  (h : ∀ h' tk', Keep [] s.heap h' → Q [v1, v2] { s with heap := h', toks := tk', gens := s.gens.push .finished }) : wpAny (model PG w) A (unpackItems (.ref x) 2 none) Q E s := by
  cases R with
  | mk hf hkk B F X T hS =>
  rename_i h₀ L m p loose mean mg mb
  obtain ⟨dx, od, ht, hdx⟩ := id t.at_
  have I : InstAt s.heap x (tagObj dx v1 v2) 113 (some od) := ⟨ht, rfl, rfl, hdx⟩
  have Xs := X.keeps F.keep
  have Ts := T.keeps F.keep
  have Lit : Looks (model PG w) s.heap (specialOf (.ref x) "__iter__") (some (.ref 81)) := I.type.andThen (looks_findIn Xs (by k_is))
  unfold unpackItems notIterableAtAll
  refine wpAny_bind (wpAny_bind (Lit.here ?_))
  simp only [Option.isSome_some, if_true]
  refine wpAny_pure ?_
  simp only [Bool.false_eq_true, if_false]
  refine wpAny_bind (wpAny_holding ?_)
  unfold pyIter
  refine wpAny_bind (Lit.here ?_)
  dsimp only
  have bf := bind_fn (M := model PG w) Xs (.ref x) (f := 81) (by k_is)
  have fin : ∀ {A' : Around} {E' : Value → Shared → Prop} {Q' : Option (Value × List Value) → Shared → Prop}, Q' (some (.ref 81, [.ref x])) s → wpAny (model PG w) A' (bindSpecialIfBound? (.ref x) "__iter__") Q' E' s := by
    intro A' E' Q' hq
    simp only [bindSpecialIfBound?]
    refine wpAny_bind (Lit.here ?_)
    refine wpAny_bind (wpAny_askSetting (wpAny_ite ?_))
    split
    · exact wpAny_bind (bf.here (wpAny_pure hq))
    · exact wpAny_tryCatch (wpAny_bind (bf.here (wpAny_pure hq)))
  refine wpAny_bind ?_
  simp only [callSpecialIfBoundUnlessNone?]
  refine wpAny_holding (wpAny_bind (fin ?_))
  dsimp only
  rw [if_neg (by decide)]
  refine wpAny_bind (wpAny_call (codeAny_call_generator (show dp < recursionLimit by omega) (Xs _ _ (by k_is)) rfl rfl rfl rfl (codeRec_of Xs (by k_is)) ?_))
  refine wpAny_of_eq (a := [(Str.ofString "self", .ref x)]) rfl ?_
  refine wpAny_newFunctionEnv (by decide) (locs rfl) (fun h₁ hns hsb => ⟨Ts.nolimit.fresh _ hsb, ?_⟩) rfl
  refine wpAny_pure ?_
  dsimp only
  have k01 : ∀ b o, s.heap.get? b = some o → h₁.get? b = some o := fun b o e => hsb.extBut b o (Nat.ne_of_lt (Heap.lt_size e)) (Heap.get?_push_of_some _ e)
  have F1 : Fr s.heap s.heap.objs.size h₁ (fun y => [(Str.ofString "self", Value.ref x)].reverse.lookup y) := ⟨hns, k01, Nat.le_refl _⟩
  have B1 := pushX B F hf hkk
  generalize hgo : ({ cls := Value.type "generator", data := Data.fields #[Value.int (↑s.gens.size) 0, Value.str (Str.ofString "__iter__") (s.toks + [(Str.ofString "self", Value.ref x)].length), Value.str (Str.ofString "DXFTag.__iter__") (s.toks + [(Str.ofString "self", Value.ref x)].length + 1)] } : Obj) = go
  have F2 := F1.push go
  have hgen : (h₁.push go).IsGen h₁.objs.size s.gens.size := by
    subst hgo
    exact ⟨_, _, _, Heap.get?_push_size _ rfl, rfl, rfl, rfl⟩
  have hl2 : (h₁.push go).NoLimit := Ts.nolimit.keeps F2.keep
  generalize h₁.push go = h₂ at hgen F2 hl2
  generalize h₁.objs.size = G at hgen
  refine wpAny_bind (wpAny_specialOf hgen.typeIs slot_gen_next.lookup (wpAny_pure ?_))
  unfold draw
  refine wpAny_bind (wpAny_holding (wpAny_bind ?_))
  refine wpAny_pyNext_gen (n := 2) (P := fun n s₀ s₁ => n = 0 ∧ GExt s₀ s₁) (Y := tagY v1 v2) rfl hl2 (show dp < recursionLimit by omega) hgen (Array.getElem?_push_size ..)
    ⟨rfl, tag_seg B1 Xs Ts t h1 h2 (by omega) (by omega) F2 rfl⟩ (fun v s₁ gs' hv => ?_) (fun s₁ hp => by cases hp.1)
  obtain ⟨hv, ⟨h3, tk3, rfl, k3⟩, hk⟩ := hv
  obtain rfl : v = v1 := hv
  dsimp only
  unfold draw
  refine wpAny_bind (wpAny_holding (wpAny_bind ?_))
  have g1 := hgen.keeps k3
  refine wpAny_pyNext_gen (n := 1) (P := fun n s₀ s₁ => n = 0 ∧ GExt s₀ s₁) (Y := tagY v v2) rfl (hl2.keeps k3) (show dp < recursionLimit by omega) g1 (setGen_self (setGen_self (gs := .fresh _) (Array.getElem?_push_size ..)))
    (hk _ fun _ _ e => e) (fun u s₁ gs2 hv => ?_) (fun s₁ hp => by cases hp.1)
  obtain ⟨hv, ⟨h4, tk4, rfl, k4⟩, hk2⟩ := hv
  obtain rfl : u = v2 := hv
  dsimp only
  unfold draw
  refine wpAny_bind (wpAny_holding (wpAny_pure (wpAny_pure (wpAny_pure ?_))))
  simp only [List.length_cons, List.length_nil, Nat.zero_add, Nat.reduceAdd, Nat.lt_irrefl, if_false]
  refine wpAny_bind (wpAny_holding ?_)
  have g2 := g1.keeps k4
  refine wpAny_pyNext_gen (n := 0) (P := fun n s₀ s₁ => n = 0 ∧ GExt s₀ s₁) (Y := tagY v u) rfl ((hl2.keeps k3).keeps k4) (show dp < recursionLimit by omega) g2 (setGen_self (setGen_self (setGen_self (setGen_self (gs := .fresh _) (Array.getElem?_push_size ..)))))
    (hk2 _ fun _ _ e => e) (fun u s₁ gs2 hv => False.elim (hv.2.2 s₁ fun _ _ e => e)) (fun s₁ hp h' k' => ?_)
  obtain ⟨_, h5, tk5, rfl, k5⟩ := hp
  simp only [Option.isSome_none, Bool.false_eq_true, if_false]
  refine wpAny_pure ?_
  have e := h h' tk5 (fun a o e _ => k' a o (k5 a o (k4 a o (k3 a o (F2.keep a o e)))))
  simpa only [Shared.setGen, push_set] using e
end
section
def GN (a b : Array GenState) : Prop := a.size ≤ b.size ∧ (∀ k : Nat, k < a.size → b[k]? = a[k]?) ∧ ∀ (k : Nat) (x : GenState), a.size ≤ k → b[k]? = some x → x.bare = true
theorem GN.refl (a : Array GenState) : GN a a := ⟨Nat.le_refl _, fun _ _ => rfl, fun k x h e => by rw [Array.getElem?_eq_none h] at e; cases e⟩
theorem GN.trans {a b c : Array GenState} (x : GN a b) (y : GN b c) : GN a c := by
  refine ⟨Nat.le_trans x.1 y.1, fun k h => (y.2.1 k (Nat.lt_of_lt_of_le h x.1)).trans (x.2.1 k h), fun k z h e => ?_⟩
  by_cases q : k < b.size
  · rw [y.2.1 k q] at e; exact x.2.2 k z h e
  · exact y.2.2 k z (Nat.le_of_not_lt q) e
theorem GN.pushB (a : Array GenState) (z : GenState) (hz : z.bare = true) : GN a (a.push z) := by
  refine ⟨by simp, fun k h => ?_, fun k x h e => ?_⟩
  · rw [Array.getElem?_push]; simp [Nat.ne_of_lt h]
  · rw [Array.getElem?_push] at e
    split at e
    · rw [← Option.some.inj e]; exact hz
    · rw [Array.getElem?_eq_none h] at e; cases e
theorem GN.push (a : Array GenState) : GN a (a.push .finished) := GN.pushB a _ rfl
theorem GN.bare {a b : Array GenState} (x : GN a b) (h : AllBare a) : AllBare b := by
  intro y hy
  obtain ⟨k, hk, e⟩ := Array.mem_iff_getElem.mp hy
  have e2 : b[k]? = some y := by rw [← e]; exact Array.getElem?_eq_getElem hk
  by_cases q : k < a.size
  · rw [x.2.1 k q] at e2
    exact h y (Array.mem_of_getElem? e2)
  · exact x.2.2 k y (Nat.le_of_not_lt q) e2
inductive RowIn (h : Heap) (a : Addr) (v1 v2 : Value) : Prop
  | tup (t : TupAt h a v1 v2) : RowIn h a v1 v2
  | tag (t : TagAt h a v1 v2) : RowIn h a v1 v2
theorem RowIn.keeps {h h' : Heap} {x : Addr} {v1 v2 : Value} (t : RowIn h x v1 v2) (k : ∀ b o, h.get? b = some o → h'.get? b = some o) : RowIn h' x v1 v2 := by
  cases t with
  | tup t => exact .tup (TupAt.keeps t k)
  | tag t => exact .tag (t.keeps k)
theorem assign_row {w : World} {A : Around} {s : Shared} {E : Value → Shared → Prop} {Q : Unit → Shared → Prop} {dp un : Nat} {a : Addr} {v1 v2 : Value} {x y : Str} {pa pb pt : Pos} {kt : Nat} {env : Env} {h₀ : Heap} {m : Str → Option Value}
  (R : Rd w s.heap [] dp un A) (F : Fr h₀ env.locals s.heap m) (t : RowIn s.heap a v1 v2) (h1 : handedIn v1 = true) (h2 : handedIn v2 = true) (hd : dp + 8 < recursionLimit) (hu : un + 80 < cLine) (hx : env.kindOf x = some .local) (hy : env.kindOf y = some .local)
  (hp : (env.scope.kind == .class || (env.scope.kind == .module && env.locals != env.globals)) = false)
  (h : ∀ h' tk' gs', Fr h₀ env.locals h' (fun z => if z = y then some v2 else if z = x then some v1 else m z) → Keep [env.locals] s.heap h' → GN s.gens gs' → Q () { s with heap := h', toks := tk', gens := gs' }) :
  wpAny (model PG w) A (assign (.Tuple [.Name x pa, .Name y pb] kt pt) env (.ref a)) Q E s := by
  have fin : ∀ (A' : Around) h1 tk1 gs1, Keep [] s.heap h1 → GN s.gens gs1 → wpAny (model PG w) A' (assignInOrder ((assignEach [.Name x pa, .Name y pb] env).map (·.2)) [v1, v2]) Q E { s with heap := h1, toks := tk1, gens := gs1 } := by
    intro A' h1 tk1 gs1 k1 g1
    have F1 : Fr h₀ env.locals h1 m := F.keeps fun b o e => k1 b o e (by simp)
    show wpAny _ _ (do holding [v2] (assign (.Name x pa) env v1); do holding [] (assign (.Name y pb) env v2); pure ()) _ _ _
    refine wpAny_bind (wpAny_holding (wpAny_assign_Name (wpAny_storeName_local hx F1.ns (fun h2 hn2 hs2 => ?_) hp)))
    have F2 := F1.set hn2 hs2
    refine wpAny_bind (wpAny_holding (wpAny_assign_Name (wpAny_storeName_local hy F2.ns (fun h3 hn3 hs3 => wpAny_pure ?_) hp)))
    have F3 := F2.set hn3 hs3
    refine h _ _ _ F3 (fun b o e n => ?_) g1
    have nb : b ≠ env.locals := by simpa using n
    exact hs3.extBut b o nb (hs2.extBut b o nb (k1 b o e (by simp)))
  cases t with
  | tup t =>
    have hh : A.handled = none := by cases R; rfl
    refine wpAny_assign_Tuple hh t rfl rfl fun h1 hx1 => ?_
    exact fin A h1 _ _ (fun b o e _ => hx1 b o (Nat.ne_of_lt (Heap.lt_size e)) e) (GN.refl _)
  | tag t =>
    rw [arm_assign_Tuple]
    refine wpAny_bind (wpAny_standAt ?_)
    unfold unpack
    refine wpAny_bind (wpAny_holding ?_)
    refine unpack_tag R t h1 h2 hd hu fun h' tk' k' => ?_
    exact fin A h' tk' _ k' (GN.push _)
end
section
theorem Fr.ext {h₀ h : Heap} {L : Addr} {m m' : Str → Option Value} (F : Fr h₀ L h m) (e : ∀ y, m y = m' y) : Fr h₀ L h m' := (funext e : m = m') ▸ F
theorem NeAll.of_news {h₀ h : Heap} {L : Addr} {news : List (Addr × Obj)} (N : News h₀ L h news) : NeAll h.objs.size news := fun p hp e => absurd (e ▸ Heap.lt_size (N p hp).1) (Nat.lt_irrefl _)
/-- how a turn of a loop may end -/
def TurnG (Q : Flow → Shared → Prop) (next : Shared → Prop) (f : Flow) (s₃ : Shared) : Prop := match f with
  | .ret v => Q (.ret v) s₃
  | .brk => Q .next s₃
  | _ => next s₃
def EndG (s : Shared) (g : Heap) (L I : Addr) (St : Heap → Prop) (J : (Str → Option Value) → List (Addr × Obj) → Array GenState → Prop) (s₃ : Shared) : Prop :=
  ∃ h tk gs m' news', s₃ = { s with heap := h, toks := tk, gens := gs } ∧ St h ∧ Fr g L h m' ∧ News g L h news' ∧ NeAll I news' ∧ J m' news' gs
theorem EndG.intro {s : Shared} {g : Heap} {L I : Addr} {St : Heap → Prop} {J : (Str → Option Value) → List (Addr × Obj) → Array GenState → Prop} {h : Heap} {tk : Nat} {gs : Array GenState} {m' : Str → Option Value} {nx news' : List (Addr × Obj)}
    (st : St h) (F : Fr g L h m') (N : News g L h nx) (sub : ∀ p ∈ news', p ∈ nx) (ne : NeAll I news') (j : J m' news' gs) : EndG s g L I St J { s with heap := h, toks := tk, gens := gs } :=
  ⟨h, tk, gs, m', news', rfl, st, F, fun p hp => N p (sub p hp), ne, j⟩
section
variable {prog : Program} {w : World} {A : Around} {E : Value → Shared → Prop} {s : Shared} {env : Env} {g : Heap} {x : Str} {body : List Stmt} {Q : Flow → Shared → Prop}
theorem loop_G {px : Pos} {I : Addr} {fp : List Addr} {n : Nat} {P : Nat → Value → Prop} {St : Nat → Heap → Prop} {m : Str → Option Value} {news : List (Addr × Obj)}
    (J : Nat → (Str → Option Value) → List (Addr × Obj) → Array GenState → Prop)
    (hE : PassesOwn (model prog w) A env E) (W : Walks prog w A I fp [I] n P St) (hx : env.kindOf x = some .local)
    (hp : (env.scope.kind == .class || (env.scope.kind == .module && env.locals != env.globals)) = false)
    (hLf : env.locals ∉ fp) (hI : g.get? I = none) (st : St 0 s.heap) (F : Fr g env.locals s.heap m) (N : News g env.locals s.heap news) (ne : NeAll I news) (j : J 0 m news s.gens)
    (turn : ∀ i v m₁ news₁ h tk gs, i < n → P i v → St (i + 1) h → NeAll I news₁ → J i m₁ news₁ gs → Fr g env.locals h (fun y => if y = x then some v else m₁ y) → News g env.locals h news₁ →
      wpAny (model prog w) A (execs body env) (TurnG Q (EndG s g env.locals I (St (i + 1)) (J (i + 1)))) E { s with heap := h, toks := tk, gens := gs })
    (done : ∀ m₁ news₁ h tk gs, J n m₁ news₁ gs → Fr g env.locals h m₁ → News g env.locals h news₁ → Q .next { s with heap := h, toks := tk, gens := gs }) :
    codeAny (model prog w) A (.forLoop (.Name x px) (.ref I) body [] env) (fun r s' => match r with | .ok f => Q f s' | .error e => cameBackBy (model prog w) A env E e s') s := by
  have hLI : env.locals ≠ I := fun q => by have := W.sub I (by simp); exact hLf (q ▸ this)
  refine codeAny_forLoop_any (fun k s' => ∃ i, i ≤ n ∧ k = n + 1 - i ∧ EndG s g env.locals I (St i) (J i) s') ?_ (n + 1) ⟨0, Nat.zero_le _, rfl, s.heap, s.toks, s.gens, m, news, rfl, st, F, N, ne, j⟩
  rintro k s' ⟨i, hi, rfl, h, tk, gs, m', news', rfl, st', F', N', ne', j'⟩
  have next : ∀ h₁ : Heap, (∀ b o, b ∉ [I] → h.get? b = some o → h₁.get? b = some o) → Fr g env.locals h₁ m' ∧ News g env.locals h₁ news' := fun h₁ hk₁ =>
    ⟨⟨F'.ns.at' fun o e => hk₁ _ o (by simpa using hLI) e, fun b o e => hk₁ b o (by simp only [List.mem_singleton]; rintro rfl; rw [hI] at e; cases e) (F'.keep b o e), F'.above⟩,
      fun p hp => ⟨hk₁ _ _ (by simpa using ne' p hp) (N' p hp).1, (N' p hp).2⟩⟩
  by_cases hlt : i < n
  · refine W.item i _ _ _ hlt st' fun v h₁ tk₁ hP hst₁ hk₁ => ?_
    obtain ⟨F₁, N₁⟩ := next h₁ hk₁
    refine wpAny_of_eq (rfl : letOwnedTupleGo (.Name x px) (.ref I) v = pure ()) ?_
    refine wpAny_assign_Name (wpAny_storeName_local hx F₁.ns (fun h₂ hn₂ hs₂ => ?_) hp)
    have F₂ := F₁.set hn₂ hs₂
    have N₂ := N₁.set hs₂
    have hst₂ : St (i + 1) h₂ := W.frame _ _ _ hst₁ fun b hb o e => (hs₂.2 b fun q => hLf (q ▸ hb)).trans e
    refine wpAny_mono (wpAny_passesOwn hE (turn i v m' news' h₂ _ gs hlt hP hst₂ ne' j' F₂ N₂)) (fun f s₃ h₃ => ?_) fun _ _ e => e
    cases f with
    | ret v => exact h₃
    | brk => exact h₃
    | cont =>
      obtain ⟨h', tk', gs', m₂, news₂, rfl, r⟩ := h₃
      exact ⟨n + 1 - (i + 1), by omega, i + 1, hlt, rfl, h', tk', gs', m₂, news₂, rfl, r⟩
    | next =>
      obtain ⟨h', tk', gs', m₂, news₂, rfl, r⟩ := h₃
      exact ⟨n + 1 - (i + 1), by omega, i + 1, hlt, rfl, h', tk', gs', m₂, news₂, rfl, r⟩
  · have hin : i = n := by omega
    subst hin
    refine W.done _ _ _ st' fun h₁ tk₁ hk₁ => wpAny_execs_nil ?_
    obtain ⟨F₁, N₁⟩ := next h₁ hk₁
    exact done m' news' h₁ tk₁ gs j' F₁ N₁
end
structure Stop (p : Prop) : Prop where
  out : p
abbrev rIter (x n : Int) : Obj := { cls := .type "range_iterator", dict := none, data := .fields #[rawInt x, rawInt n, rawInt 1], slots := #[] }
structure EndC (s₁ : Shared) (g : Heap) (L I : Addr) (oI : Obj) (J : (Str → Option Value) → List (Addr × Obj) → Array GenState → Prop) (s₃ : Shared) : Prop where
  out : ∃ h tk gs m' nx news', s₃ = { s₁ with heap := h, toks := tk, gens := gs } ∧ Fr g L h m' ∧ News g L h nx ∧ (I, oI) ∈ nx ∧ (∀ p ∈ news', p ∈ nx) ∧ NeAll I news' ∧ J m' news' gs
theorem EndC.put {s₁ : Shared} {g : Heap} {L I : Addr} {oI : Obj} {J : (Str → Option Value) → List (Addr × Obj) → Array GenState → Prop} {h : Heap} {tk : Nat} {gs : Array GenState} {m' : Str → Option Value} {nx : List (Addr × Obj)} (news' : List (Addr × Obj))
    (F : Fr g L h m') (N : News g L h nx) (hI : (I, oI) ∈ nx) (sub : ∀ p ∈ news', p ∈ nx) (ne : NeAll I news') (j : J m' news' gs) : EndC s₁ g L I oI J { s₁ with heap := h, toks := tk, gens := gs } :=
  ⟨h, tk, gs, m', nx, news', rfl, F, N, hI, sub, ne, j⟩
theorem rsize (a b : Int) (n : Nat) (h : (n : Int) = b - a ∨ (n = 0 ∧ b ≤ a)) : Builtin.Range.rangeSize a b 1 = (n : Int) := by
  rw [rangeSize_one]
  split <;> omega
section
variable {prog : Program} {w : World} {A : Around} {E : Value → Shared → Prop} {s : Shared} {env : Env} {g : Heap} {x : Str} {body : List Stmt} {L : Addr} {m : Str → Option Value}
theorem range1_c {Q : Value → Shared → Prop} {n : Int} {t : Tok} {news : List (Addr × Obj)} (F : Fr g L s.heap m) (N : News g L s.heap news)
    (h : ∀ r h' tk t₁ u₁ v₁, IsRange h' r 0 n 1 t₁ u₁ v₁ → Fr g L h' m → News g L h' news → Q (.ref r) { s with heap := h', toks := tk }) :
    wpAny (model prog w) A (call (.type "range") [.int n t]) Q E s :=
  range1_rows F N fun h' tk a b c R F' N' _ => h _ h' tk a b c R F' N'
theorem range2_c {Q : Value → Shared → Prop} {a b : Int} {t u : Tok} {news : List (Addr × Obj)} (F : Fr g L s.heap m) (N : News g L s.heap news)
    (h : ∀ r h' tk t₁ u₁ v₁, IsRange h' r a b 1 t₁ u₁ v₁ → Fr g L h' m → News g L h' news → Q (.ref r) { s with heap := h', toks := tk }) :
    wpAny (model prog w) A (call (.type "range") [.int a t, .int b u]) Q E s :=
  range2_rows F N fun h' tk a b c R F' N' _ => h _ h' tk a b c R F' N'
structure RangeGoal (prog : Program) (w : World) (A : Around) (E : Value → Shared → Prop) (env : Env) (g : Heap) (x : Str) (body : List Stmt) (Q : Flow → Shared → Prop) (xv : Value) (s₁ : Shared) : Prop where
  out : ∃ (r : Addr) (a b : Int) (t₀ u₀ v₀ : Tok) (n : Nat) (m : Str → Option Value) (news : List (Addr × Obj)) (J : Nat → (Str → Option Value) → List (Addr × Obj) → Array GenState → Prop),
      xv = .ref r ∧ IsRange s₁.heap r a b 1 t₀ u₀ v₀ ∧ Builtin.Range.small a b 1 = true ∧ Builtin.Range.rangeSize a b 1 = (n : Int) ∧ Fr g env.locals s₁.heap m ∧ News g env.locals s₁.heap news ∧ J 0 m news s₁.gens ∧
      (∀ (I : Addr) (i : Nat) t m₁ news₁ h tk gs, i < n → NeAll I news₁ → J i m₁ news₁ gs → Fr g env.locals h (fun y => if y = x then some (.int (a + (i : Int)) t) else m₁ y) →
        News g env.locals h ((I, rIter (a + ((i : Int) + 1)) ((n : Int) - ((i : Int) + 1))) :: news₁) →
        wpAny (model prog w) A (execs body env) (TurnG Q (EndC s₁ g env.locals I (rIter (a + ((i : Int) + 1)) ((n : Int) - ((i : Int) + 1))) (J (i + 1)))) E { s₁ with heap := h, toks := tk, gens := gs }) ∧
      (∀ m₁ news₁ h tk gs, J n m₁ news₁ gs → Fr g env.locals h m₁ → News g env.locals h news₁ → Q .next { s₁ with heap := h, toks := tk, gens := gs })
/-- a loop over a range object -/
theorem for_rangeF {Q : Flow → Shared → Prop} {m₀ : Str → Option Value} (F₀ : Fr g env.locals s.heap m₀) {px pos : Pos} {iter : Expr} (hE : PassesOwn (model prog w) A env E) (hx : env.kindOf x = some .local)
    (hp : (env.scope.kind == .class || (env.scope.kind == .module && env.locals != env.globals)) = false) (hh : A.handled = none)
    (h : wpAny (model prog w) A (eval iter env) (RangeGoal prog w A E env g x body Q) E s)
    (hs : ∀ x, foldedSetIterable iter env x = pure x) :
    wpAny (model prog w) A (exec (.For (.Name x px) iter body [] pos) env) Q E s := by
  let _ := F₀
  refine wpAny_For (wpAny_mono h (fun xv s₁ h₁ => ?_) fun _ _ e => e) hs
  obtain ⟨r, a, b, t₀, u₀, v₀, n, m, news, J, rfl, hr, hsm, hn, F, N, j, turn, done⟩ := h₁
  refine wpAny_pyIter_range hr hsm ?_
  have hst : IsRangeIter (s₁.heap.push { cls := .type "range_iterator", data := .fields #[rawInt a, rawInt (Builtin.Range.rangeSize a b 1), rawInt 1] }) s₁.heap.objs.size (a + ((0 : Nat) : Int) * 1) ((n : Int) - ((0 : Nat) : Int)) 1 := by
    show _ = _
    rw [hn]; simpa using Heap.get?_push_size _ rfl
  have hI : g.get? s₁.heap.objs.size = none := by
    cases q : g.get? s₁.heap.objs.size with
    | none => rfl
    | some o => exact absurd (Heap.lt_size (F.keep _ _ q)) (Nat.lt_irrefl _)
  have hLI : env.locals ≠ s₁.heap.objs.size := fun q => absurd F.ns.lt (q ▸ Nat.lt_irrefl _)
  refine loop_G (St := fun i h => IsRangeIter h s₁.heap.objs.size (a + (i : Nat) * 1) ((n : Int) - (i : Nat)) 1) J hE (Walks.range hh _ a 1 n) hx hp (by simpa using hLI) hI hst (F.push _) (fun p hp => ⟨Heap.get?_push_of_some _ (N p hp).1, (N p hp).2⟩) (NeAll.of_news N) j ?_ ?_
  · rintro i v m₁ news₁ h tk gs hi ⟨t, rfl⟩ st ne j F₁ N₁
    have e1 : a + ((i + 1 : Nat) : Int) * 1 = a + ((i : Int) + 1) := by push_cast; omega
    have e2 : (n : Int) - ((i + 1 : Nat) : Int) = (n : Int) - ((i : Int) + 1) := by push_cast; omega
    have st' : IsRangeIter h s₁.heap.objs.size (a + ((i : Int) + 1)) ((n : Int) - ((i : Int) + 1)) 1 := by rw [← e1, ← e2]; exact st
    rw [show a + (i : Int) * 1 = a + (i : Int) by omega] at F₁
    refine wpAny_mono (turn s₁.heap.objs.size i t m₁ news₁ h tk gs hi ne j F₁ (fun p hp => ?_)) (fun f s₃ h₃ => ?_) fun _ _ e => e
    · rcases List.mem_cons.mp hp with rfl | hp
      · exact ⟨st', hLI.symm, hI⟩
      · exact N₁ p hp
    · have fin : EndC s₁ g env.locals s₁.heap.objs.size (rIter (a + ((i : Int) + 1)) ((n : Int) - ((i : Int) + 1))) (J (i + 1)) s₃ →
          EndG { s₁ with heap := s₁.heap.push { cls := .type "range_iterator", data := .fields #[rawInt a, rawInt (Builtin.Range.rangeSize a b 1), rawInt 1] } } g env.locals s₁.heap.objs.size (fun h => IsRangeIter h s₁.heap.objs.size (a + ((i + 1 : Nat) : Int) * 1) ((n : Int) - ((i + 1 : Nat) : Int)) 1) (J (i + 1)) s₃ := by
        rintro ⟨h, tk, gs, m', nx, news', rfl, F', N', hm, sub, ne', j'⟩
        exact ⟨h, tk, gs, m', news', rfl, by rw [e1, e2]; exact (N' _ hm).1, F', fun p hp => N' p (sub p hp), ne', j'⟩
      cases f with
      | ret v => exact h₃
      | brk => exact h₃
      | next => exact fin h₃
      | cont => exact fin h₃
  · intro m₁ news₁ h tk gs j F₁ N₁
    exact done m₁ news₁ h tk gs j F₁ N₁
end
end
local macro_rules | `(tactic| walk_at "call type:range") => `(tactic| (k_here; k_dflt (first | (refine' range1_c ?F ?N ?_; (case F => k_asm); (case N => k_asm); k_whole) | (refine' range2_c ?F ?N ?_; (case F => k_asm); (case N => k_asm); k_whole)); intro r9 h9 tk9 t9 u9 v9 R9 F9 N9; (try dsimp only); (try k_sweep)))
local macro_rules | `(tactic| walk_at "TurnG") => `(tactic| (dsimp only [TurnG]))
local macro_rules | `(tactic| walk_at "exec For") => `(tactic| (k_here; k_dflt (refine' for_rangeF ?F ?hE ?hx ?hp ?hh ?_ ?hs; (case F => k_asm); (case hE => passes_own); (case hx => rfl); (case hp => rfl); (case hh => rfl); (case hs => (intro _; rfl)); k_whole)))
local macro_rules | `(tactic| walk_at "exec For Name Call cons nil") => `(tactic| (k_here; k_dflt (refine' for_rangeF ?F ?hE ?hx ?hp ?hh ?_ ?hs; (case F => k_asm); (case hE => passes_own); (case hx => rfl); (case hp => rfl); (case hh => rfl); (case hs => (intro _; rfl)); k_whole)))
section
def obr : Row := (1002, Str.ofString "{")
def cbr : Row := (1002, Str.ofString "}")
def lvl (r : Row) : Int := (if r == obr then 1 else 0) - (if r == cbr then 1 else 0)
def closeFrom : List Row → Int → Nat → Option Nat
  | [], _, _ => none
  | r :: rs, lv, k => if lv + lvl r = 0 then some k else closeFrom rs (lv + lvl r) (k + 1)
def spanFrom (nm : Str) : List Row → Nat → Option (Nat × Nat)
  | r :: r' :: rs, k => if r == (1000, nm) && r' == obr then
      match closeFrom (r' :: rs) 0 (k + 1) with
      | some e => some (k, e + 1)
      | none => spanFrom nm (r' :: rs) (k + 1)
    else spanFrom nm (r' :: rs) (k + 1)
  | _, _ => none
theorem row_eta (r : Row) (a : Int) (b : Str) : (r == (a, b)) = (r.1 == a && r.2 == b) := rfl
theorem drop_at {rows : List Row} {i : Nat} {r : Row} (h : rows[i]? = some r) : rows.drop i = r :: rows.drop (i + 1) := by
  obtain ⟨hi, e⟩ := List.getElem?_eq_some_iff.mp h
  rw [List.drop_eq_getElem_cons hi, e]
theorem drop_out {rows : List Row} {i : Nat} (h : rows.length ≤ i) : rows.drop i = [] := List.drop_of_length_le h
theorem span_step {nm : Str} {rows : List Row} {i : Nat} {r r' : Row} (h1 : rows[i]? = some r) (h2 : rows[i + 1]? = some r') :
    spanFrom nm (rows.drop i) i = if (r.1 == 1000 && r.2 == nm) && (r'.1 == 1002 && r'.2 == Str.ofString "{") then
      match closeFrom (rows.drop (i + 1)) 0 (i + 1) with
      | some e => some (i, e + 1)
      | none => spanFrom nm (rows.drop (i + 1)) (i + 1)
    else spanFrom nm (rows.drop (i + 1)) (i + 1) := by
  rw [drop_at h1, drop_at h2]
  rfl
theorem span_end {nm : Str} {rows : List Row} {i : Nat} (h : rows.length - 1 ≤ i) : spanFrom nm (rows.drop i) i = none := by
  have : (rows.drop i).length ≤ 1 := by simp; omega
  match q : rows.drop i, this with
  | [], _ => rfl
  | [_], _ => rfl
  | _ :: _ :: _, h => simp at h
theorem close_step {rows : List Row} {k : Nat} {lv : Int} {r : Row} (h : rows[k]? = some r) : closeFrom (rows.drop k) lv k = if lv + lvl r = 0 then some k else closeFrom (rows.drop (k + 1)) (lv + lvl r) (k + 1) := by
  rw [drop_at h]; rfl
theorem close_end {rows : List Row} {k : Nat} {lv : Int} (h : rows.length ≤ k) : closeFrom (rows.drop k) lv k = none := by
  rw [drop_out h]; rfl
def rowAt (rows : List Row) (k : Int) : Row := rows.getD k.toNat (0, Str.ofString "")
theorem rowAt_some {rows : List Row} {k : Int} {i : Nat} (e : k.toNat = i) (h : i < rows.length) : rows[i]? = some (rowAt rows k) := by
  subst e
  simp [rowAt, List.getD_eq_getElem?_getD, List.getElem?_eq_getElem h]
theorem lvl_add (lv : Int) (r : Row) : (lv + if (r.1 == 1002 && r.2 == Str.ofString "{") = true then 1 else 0) - (if (r.1 == 1002 && r.2 == Str.ofString "}") = true then 1 else 0) = lv + lvl r := by
  show _ = lv + ((if (r.1 == 1002 && r.2 == Str.ofString "{") = true then 1 else 0) - (if (r.1 == 1002 && r.2 == Str.ofString "}") = true then 1 else 0))
  omega
theorem span_found {nm : Str} {rows : List Row} {i k : Nat} {lv : Int} (hk : i + 1 + k < rows.length) (inv : spanFrom nm rows 0 = spanFrom nm (rows.drop i) i)
    (c1 : ((rowAt rows i).1 == 1000 && (rowAt rows i).2 == nm) = true) (c2 : ((rowAt rows ((i : Int) + 1)).1 == 1002 && (rowAt rows ((i : Int) + 1)).2 == Str.ofString "{") = true)
    (inv' : closeFrom (rows.drop (i + 1)) 0 (i + 1) = closeFrom (rows.drop (i + 1 + k)) lv (i + 1 + k)) (cz : lv + lvl (rowAt rows ((i : Int) + 1 + k)) = 0) : spanFrom nm rows 0 = some (i, i + 1 + k + 1) := by
  rw [inv, span_step (rowAt_some (k := (i : Int)) (by omega) (by omega)) (rowAt_some (k := (i : Int) + 1) (by omega) (by omega)), c1, c2, inv', close_step (rowAt_some (k := (i : Int) + 1 + k) (by omega) hk), if_pos cz]
  rfl
theorem span_next1 {nm : Str} {rows : List Row} {i : Nat} (hi : i < rows.length - 1) (inv : spanFrom nm rows 0 = spanFrom nm (rows.drop i) i)
    (c : ((rowAt rows i).1 == 1000 && (rowAt rows i).2 == nm) = false ∨ ((rowAt rows ((i : Int) + 1)).1 == 1002 && (rowAt rows ((i : Int) + 1)).2 == Str.ofString "{") = false) : spanFrom nm rows 0 = spanFrom nm (rows.drop (i + 1)) (i + 1) := by
  rw [inv, span_step (rowAt_some (k := (i : Int)) (by omega) (by omega)) (rowAt_some (k := (i : Int) + 1) (by omega) (by omega))]
  rcases c with c | c <;> rw [c] <;> simp
theorem span_next2 {nm : Str} {rows : List Row} {i k : Nat} {lv : Int} (hi : i < rows.length - 1) (hk : rows.length ≤ i + 1 + k) (inv : spanFrom nm rows 0 = spanFrom nm (rows.drop i) i)
    (c1 : ((rowAt rows i).1 == 1000 && (rowAt rows i).2 == nm) = true) (c2 : ((rowAt rows ((i : Int) + 1)).1 == 1002 && (rowAt rows ((i : Int) + 1)).2 == Str.ofString "{") = true)
    (inv' : closeFrom (rows.drop (i + 1)) 0 (i + 1) = closeFrom (rows.drop (i + 1 + k)) lv (i + 1 + k)) : spanFrom nm rows 0 = spanFrom nm (rows.drop (i + 1)) (i + 1) := by
  rw [inv, span_step (rowAt_some (k := (i : Int)) (by omega) (by omega)) (rowAt_some (k := (i : Int) + 1) (by omega) (by omega)), c1, c2, inv', close_end hk]
  rfl
theorem close_next {rows : List Row} {i k : Nat} {lv : Int} (hk : i + 1 + k < rows.length) (inv' : closeFrom (rows.drop (i + 1)) 0 (i + 1) = closeFrom (rows.drop (i + 1 + k)) lv (i + 1 + k)) (cz : ¬ lv + lvl (rowAt rows ((i : Int) + 1 + k)) = 0) :
    closeFrom (rows.drop (i + 1)) 0 (i + 1) = closeFrom (rows.drop (i + 1 + (k + 1))) (lv + lvl (rowAt rows ((i : Int) + 1 + k))) (i + 1 + (k + 1)) := by
  rw [inv', close_step (rowAt_some (k := (i : Int) + 1 + k) (by omega) hk), if_neg cz]
  rfl
structure TupRow (h : Heap) (v : Value) (r : Row) : Prop where
  at_ : ∃ a t1 t2, v = .ref a ∧ TupAt h a (.int r.1 t1) (.str r.2 t2)
def TupRows (h : Heap) (vs : List Value) (rows : List Row) : Prop := vs.length = rows.length ∧ ∀ (i : Nat) v r, vs[i]? = some v → rows[i]? = some r → TupRow h v r
def RowsOk (rows : List Row) : Prop := ∀ r ∈ rows, PyData.strOk r.2 = true
section
variable {prog : Program} {w : World} {A : Around} {E : Value → Shared → Prop} {s : Shared} {env : Env} {g : Heap} {x : Str} {body : List Stmt} {L : Addr} {m : Str → Option Value}
theorem len_c {Q : Value → Shared → Prop} {a : Addr} {vs : List Value} {n : Nat} (hl : s.heap.IsList a vs.toArray) (e : vs.length = n) (hn : n ≤ 100000) (h : Q (.int (n : Int) (s.toks + 1)) { s with toks := s.toks + 1 + 1 }) :
    wpAny (model prog w) A (call (.builtin "len") [.ref a]) Q E s := by
  subst e
  refine len_list hl (by simp; omega) ?_
  simpa using h
theorem sub_rows {value slice : Expr} {Q : Value → Shared → Prop} {q : Addr} {vs : List Value} {rows : List Row} {k : Int} {u : Tok} (F : Fr g L s.heap m) (hl : g.IsList q vs.toArray) (hr : TupRows g vs rows) (ho : RowsOk rows) (hn : rows.length ≤ 100000) (h0 : 0 ≤ k) (h1 : k < (rows.length : Int))
    (h : ∀ a t1 t2, PyData.strOk (rowAt rows k).2 = true → TupAt g a (.int (rowAt rows k).1 t1) (.str (rowAt rows k).2 t2) → Q (.ref a) s)
    (hs : subscripted slice false (.ref q) (.int k u) = operate [.ref q, .int k u] (getItem (.ref q) (.int k u)) := by with_unfolding_all rfl) :
    wpAny (model prog w) A (subscriptTail value slice (.ref q) (.int k u)) Q E s := by
  have hk : k.toNat < rows.length := by omega
  have hk' : k.toNat < vs.length := by rw [hr.1]; exact hk
  have hrow := rowAt_some (k := k) rfl hk
  obtain ⟨a, t1, t2, e, T⟩ := (hr.2 k.toNat vs[k.toNat] _ (by simp [hk']) hrow).at_
  have hL := stays_list (base := g) F.keep hl
  exact tail_any hL.typeIs slot_list_getitem.lookup (wpAny_getItem_list hL h0 (by omega) (by simp [hk']; exact e) (h a t1 t2 (ho _ (List.mem_of_getElem? hrow)) T)) hs
end
local macro_rules | `(tactic| walk_at "call builtin:len") => `(tactic| (k_here; k_dflt (refine' len_c ?l ?e ?n ?_; (case l => is_list); (case e => assumption); (case n => omega); k_whole)))
local macro_rules | `(tactic| walk_at "subscriptTail") => `(tactic| (k_here; k_dflt (refine' sub_rows ?F ?hl ?hr ?ho ?hn ?h0 ?h1 ?_ ?hs; (case F => k_asm); (case hl => assumption); (case hr => assumption); (case ho => assumption); (case hn => omega); (case h0 => omega); (case h1 => omega); (case hs => with_unfolding_all rfl); k_whole)))
theorem span_c {w : World} {A : Around} {s : Shared} {Q E : Value → Shared → Prop} {dp un : Nat} {q : Addr} {vs : List Value} {rows : List Row} {nm : Str} {tn : Tok}
  (R : Rd w s.heap [] dp un A) (hq : s.heap.IsList q vs.toArray) (hr : TupRows s.heap vs rows) (ho : RowsOk rows) (hn : PyData.strOk nm = true) (hlen : rows.length ≤ 300) (hd : dp + 3 < recursionLimit) (hu : un + 100 < cLine)
  (hret : ∀ (v : Value) (h' : Heap) (tk' : Nat), Keep [] s.heap h' → (match spanFrom nm rows 0 with | none => v = .none | some (a, b) => ∃ y t1 t2, v = .ref y ∧ s.heap.get? y = none ∧ TupAt h' y (.int a t1) (.int b t2)) → Q v { s with heap := h', toks := tk' }) :
  wpAny (model PG w) A (call (.ref 526) [.ref q, .str nm tn]) Q E s := by
  cases R with
  | mk hf hkk B F X T hS =>
  rename_i h₀ L m p loose mean mg mb
  have N : News h₀ L s.heap [] := News.none
  refine wpAny_call ?_
  k_dflt cell_enter
  intro g L' h' hg hh F' N' B' X' T' lt'
  (try dsimp only)
  k_fold
  have hq' : g.IsList q vs.toArray := let ⟨o, ho, r⟩ := hq; ⟨o, hg _ _ ho (by simp), r⟩
  have hvl : vs.length = rows.length := hr.1
  have hr' : TupRows g vs rows := ⟨hr.1, fun i v r a b => let ⟨a', t1, t2, e, T⟩ := (hr.2 i v r a b).at_; ⟨a', t1, t2, e, T.keeps fun b o e => hg b o e (by simp)⟩⟩
  k_steps
  (with_reducible rename IsRange _ _ _ _ _ _ _ _ => kR)
  (with_reducible rename News g L' _ _ => kN)
  (with_reducible rename Fr g L' _ _ => kF)
  refine ⟨⟨_, _, _, _, _, _, rows.length - 1, _, [], fun i m news gs => news = [] ∧ gs = s.gens ∧ m (Str.ofString "rows") = some (.ref q) ∧ m (Str.ofString "name") = some (.str nm tn) ∧ spanFrom nm rows 0 = spanFrom nm (rows.drop i) i, rfl, kR, small_one (by omega) (by omega) (by omega) (by omega), rsize _ _ _ (by omega), kF, News.none, ⟨rfl, rfl, rfl, rfl, rfl⟩, ?_, ?_⟩⟩
  · rintro I i t m₁ news₁ h tk gs hi ne ⟨rfl, rfl, m1, m2, inv⟩ F₁ N₁
    have hi0 : 0 + (i : Int) = i := by omega
    rw [hi0] at F₁
    k_steps
    · (with_reducible rename IsRange _ _ _ _ _ _ _ _ => kR2)
      (with_reducible rename News g L' _ _ => kN2)
      (with_reducible rename Fr g L' _ _ => kF2)
      refine ⟨⟨_, _, _, _, _, _, rows.length - (i + 1), _, [(I, rIter (0 + ((i : Int) + 1)) (((rows.length - 1 : Nat) : Int) - ((i : Int) + 1)))], fun k m news gs => news = [(I, rIter (0 + ((i : Int) + 1)) (((rows.length - 1 : Nat) : Int) - ((i : Int) + 1)))] ∧ gs = s.gens ∧ m (Str.ofString "rows") = some (.ref q) ∧ m (Str.ofString "name") = some (.str nm tn) ∧ m (Str.ofString "place") = some (.int i t) ∧
        ∃ lv tl, m (Str.ofString "level") = some (.int lv tl) ∧ closeFrom (rows.drop (i + 1)) 0 (i + 1) = closeFrom (rows.drop (i + 1 + k)) lv (i + 1 + k), rfl, kR2, small_one (by omega) (by omega) (by omega) (by omega), rsize _ _ _ (by omega), kF2, fun p hp => kN2 p (by simp at hp; simp [hp]), ⟨rfl, rfl, by cell_ties, by cell_ties, by cell_ties, 0, _, by cell_ties, rfl⟩, ?_, ?_⟩⟩
      · rintro I' k t' m₂ news₂ h tk gs hk ne' ⟨rfl, rfl, m1, m2, m3, lv, tl, m4, inv'⟩ F₁ N₁
        k_steps
        · (with_reducible rename Heap.StaysIn g _ => kG)
          (with_reducible rename News g L' _ _ => kN3)
          (with_reducible rename (_ : Int) = 0 => cz)
          (with_reducible rename ((_ == (1000 : Int)) && _) = true => c1)
          have c2 : ((rowAt rows ((i : Int) + 1)).1 == 1002 && (rowAt rows ((i : Int) + 1)).2 == Str.ofString "{") = true := by assumption
          rw [lvl_add] at cz
          have e := span_found (by omega) inv c1 c2 inv' cz
          refine hret _ _ _ (keep_fin (S := []) hg kG) ?_
          rw [e]
          have T3 := tupAt_of kN3 (.head _)
          rw [← show ((i + 1 + k + 1 : Nat) : Int) = (i : Int) + 1 + k + 1 by omega] at T3
          exact ⟨_, _, _, rfl, fresh_of hg (kN3 _ (.head _)).2.2 (by simp), T3⟩
        · (with_reducible rename News g _ _ _ => kN3)
          (with_reducible rename Fr g _ _ _ => kF3)
          (with_reducible rename ¬ (_ : Int) = 0 => cz)
          rw [lvl_add] at cz
          refine EndC.put [(I, rIter (0 + ((i : Int) + 1)) (((rows.length - 1 : Nat) : Int) - ((i : Int) + 1)))] kF3 kN3 (by k_mem) (by simp) ne' ⟨rfl, rfl, by cell_ties, by cell_ties, by cell_ties, _, _, by cell_ties, ?_⟩
          rw [lvl_add]
          exact close_next (by omega) inv' cz
      · rintro m₂ news₂ h tk gs ⟨rfl, rfl, m1, m2, m3, lv, tl, m4, inv'⟩ F₁ N₁
        k_steps
        (with_reducible rename ((_ == (1000 : Int)) && _) = true => c1)
        have c2 : ((rowAt rows ((i : Int) + 1)).1 == 1002 && (rowAt rows ((i : Int) + 1)).2 == Str.ofString "{") = true := by assumption
        exact EndC.put [] F₁ N₁ (by k_mem) (by simp) (fun _ h => nomatch h) ⟨rfl, rfl, m1, m2, span_next2 hi (by omega) inv c1 c2 inv'⟩
    · (with_reducible rename News g _ _ _ => kN3)
      (with_reducible rename Fr g _ _ _ => kF3)
      have c2 : ((rowAt rows ((i : Int) + 1)).1 == 1002 && (rowAt rows ((i : Int) + 1)).2 == Str.ofString "{") = false := by assumption
      exact EndC.put [] kF3 kN3 (by k_mem) (by simp) (fun _ h => nomatch h) ⟨rfl, rfl, by cell_ties, by cell_ties, span_next1 hi inv (.inr c2)⟩
    · (with_reducible rename News g _ _ _ => kN3)
      (with_reducible rename Fr g _ _ _ => kF3)
      (with_reducible rename ((_ == (1000 : Int)) && _) = false => c1)
      exact EndC.put [] kF3 kN3 (by k_mem) (by simp) (fun _ h => nomatch h) ⟨rfl, rfl, by cell_ties, by cell_ties, span_next1 hi inv (.inl c1)⟩
  · rintro m₁ news₁ h tk gs ⟨rfl, rfl, m1, m2, inv⟩ F₁ N₁
    k_steps
    (with_reducible rename Heap.StaysIn g _ => kG)
    refine hret _ _ _ (keep_fin (S := []) hg kG) ?_
    rw [inv, span_end (Nat.le_refl _)]
end
local macro_rules | `(tactic| walk_at "call builtin:len") => `(tactic| (k_here; k_dflt (refine' len_c ?l ?e ?n ?_; (case l => is_list); (case e => assumption); (case n => omega); k_whole)))
local macro_rules | `(tactic| walk_at "subscriptTail") => `(tactic| (k_here; (with_reducible show wpAny _ _ (subscriptTail _ _ (Value.ref _) (Value.int _ _)) _ _ _); k_dflt (refine' sub_rows ?F ?hl ?hr ?ho ?hn ?h0 ?h1 ?_ ?hs; (case F => k_asm); (case hl => assumption); (case hr => assumption); (case ho => assumption); (case hn => omega); (case h0 => omega); (case h1 => omega); (case hs => with_unfolding_all rfl); k_whole)))
section
abbrev tagsObj (dd : Option Addr) (vs : List Value) (n : Nat) (sl : Array (Option Value)) : Obj := ⟨.ref 335, dd, .seq vs.toArray n, sl⟩
structure TagsAt (h : Heap) (x : Addr) (vs : List Value) : Prop where
  at_ : ∃ dd n sl, h.get? x = some (tagsObj dd vs n sl)
theorem TagsAt.keeps {h h' : Heap} {x : Addr} {vs : List Value} (t : TagsAt h x vs) (k : ∀ b o, h.get? b = some o → h'.get? b = some o) : TagsAt h' x vs := let ⟨a, b, c, e⟩ := t.at_; ⟨a, b, c, k _ _ e⟩
theorem TagsAt.type {M : Model} {h : Heap} {x : Addr} {vs : List Value} (t : TagsAt h x vs) : Looks M h (typeOf (.ref x)) (.ref 335) := let ⟨_, _, _, e⟩ := t.at_; (Looks.ld e).andThen .now
theorem tags_mro (w : World) : mroIn (Mine.mkK.heap_1 w.params) 335 (.type "list") = some true := by k_is
theorem tags_len (w : World) : findIn (Mine.mkK.heap_1 w.params) (.ref 335) "__len__" = some (some (.builtin "list.__len__")) := by k_is
theorem tags_getitem (w : World) : findIn (Mine.mkK.heap_1 w.params) (.ref 335) "__getitem__" = some (some (.builtin "list.__getitem__")) := by k_is
theorem tags_delitem (w : World) : findIn (Mine.mkK.heap_1 w.params) (.ref 335) "__delitem__" = some (some (.builtin "list.__delitem__")) := by k_is
theorem tags_iter (w : World) : findIn (Mine.mkK.heap_1 w.params) (.ref 335) "__iter__" = some (some (.builtin "list.__iter__")) := by k_is
theorem tags_noSeq (w : World) : noSeq (Mine.mkK.heap_1 w.params) 335 = true := by k_is
theorem check_meth {M : Model} {A : Around} {E : Value → Shared → Prop} {s : Shared} {i owner n : String} {self : Value} {rest : List Value} {kw : List (Str × Value)} {Q : Unit → Shared → Prop}
    (hk : builtinKind i = some .slot ∨ builtinKind i = some .method) (hs : splitId i = some (owner, n)) (hi : Looks M s.heap (isInstance self (.type owner)) true) (ha : argsOk i ⟨self :: rest, kw⟩) (q : Q () s) :
    wpAny M A (checkBuiltinCall i ⟨self :: rest, kw⟩) Q E s := by
  rcases hk with hk | hk
  · exact check_slot hk hs hi ha q
  · simp only [checkBuiltinCall, hk, hs]
    refine wpAny_bind (hi.here ?_)
    simp only [Bool.not_true, Bool.false_eq_true, if_false]
    cases hsig : Manifest.signature? i with
    | none => exact wpAny_pure q
    | some sig =>
      simp only [argsOk, hsig] at ha
      have h2 : Bind.checkArgs i sig ⟨self :: rest, kw⟩ = pure () := ha
      show wpAny M A (Bind.checkArgs i sig ⟨self :: rest, kw⟩) Q E s
      rw [h2]; exact wpAny_pure q
section
variable {prog : Program} {w : World} {A : Around} {E : Value → Shared → Prop} {s : Shared} {x : Addr} {vs : List Value}
theorem ts_isList {M : Model} {h : Heap} (X : (Mine.mkK.heap_1 w.params).In h) (t : TagsAt h x vs) : Looks M h (isInstance (.ref x) (.type "list")) true := t.type.andThen (looks_mroIn X (tags_mro w))
theorem ts_call {id n : String} {b : Builtin} {rest : List Value} {Q : Value → Shared → Prop} (X : (Mine.mkK.heap_1 w.params).In s.heap) (t : TagsAt s.heap x vs) (hk : builtinKind id = some .slot ∨ builtinKind id = some .method) (sp : splitId id = some ("list", n)) (pl : plainId id = true)
    (hb : entryFor table id = some b) (ha : argsOk id ⟨.ref x :: rest, []⟩) (hc : wpAny (model prog w) A.in1 (b ⟨.ref x :: rest, []⟩) (fun fin s' => ∃ v, fin = .done (.ret v) ∧ Q v s') E s) :
    wpAny (model prog w) A (call (.builtin id) (.ref x :: rest)) Q E s := by
  refine wpAny_call (codeAny_call_builtin pl hb (check_meth hk sp (ts_isList X t) ha (wpAny_mono hc (fun fin s' h' => ?_) fun _ _ h' => h')))
  obtain ⟨v, rfl, hv⟩ := h'; exact hv
theorem ts_special {M : Model} {name : Str} {id : String} {args : List Value} {Q : Option Value → Shared → Prop} (X : (Mine.mkK.heap_1 w.params).In s.heap) (t : TagsAt s.heap x vs) (hf : findIn (Mine.mkK.heap_1 w.params) (.ref 335) name = some (some (.builtin id)))
    (hb : ∀ self, bindSpecial (.builtin id) self = pure (.builtin id, [self])) (hc : wpAny M A (call (.builtin id) (.ref x :: args)) (fun v => Q (some v)) E s) : wpAny M A (callSpecial? (.ref x) name args) Q E s := by
  simp only [callSpecial?, specialOf]
  refine wpAny_bind (wpAny_bind (t.type.here ((looks_findIn X hf).here (wpAny_holding ?_))))
  simp only [hb]
  exact wpAny_bind (wpAny_pure (wpAny_bind (wpAny_mono hc (fun v s' h' => wpAny_pure h') fun _ _ h' => h')))
theorem ts_len {Q : Value → Shared → Prop} (X : (Mine.mkK.heap_1 w.params).In s.heap) (t : TagsAt s.heap x vs) (n : Nat) (e : vs.length = n) (hn : n ≤ 100000) (h : Q (.int (n : Int) (s.toks + 1)) { s with toks := s.toks + 1 + 1 }) :
    wpAny (model prog w) A (call (.builtin "len") [.ref x]) Q E s := by
  subst e
  obtain ⟨dd, k, sl, ho⟩ := t.at_
  refine call_function_entry kind_len plain_len entry_len (args_len1 _) ?_
  unfold Builtin.«len»
  refine wpAny_bind (m := oneArg "len" _) (wpAny_pure ?_)
  refine wpAny_bind (m := callSpecial? (.ref x) (Str.ofString "__len__")) (ts_special X t (tags_len w) slot_list_len.bind (ts_call (n := "__len__") X t (.inl (by decide +kernel)) (by decide +kernel) slot_list_len.plain entry_list_len (args_list_len _) ?_))
  show wpAny _ _ (do retInt (← seqSize x)) _ _ s
  unfold seqSize
  refine wpAny_bind (wpAny_bind (wpAny_load ho (wpAny_pure (wpAny_bind (wpAny_mkInt (wpAny_pure ⟨_, rfl, ?_⟩))))))
  refine wpAny_bind (wpAny_holding (wpAny_pure (wpAny_bind (wpAny_letGo ?_))))
  show wpAny _ _ (if ((vs.toArray.size : Nat) : Int) < 0 then _ else _) _ _ _
  rw [if_neg (by omega)]
  show wpAny _ _ (if ((vs.toArray.size : Nat) : Int) ≥ 2 ^ 63 then _ else _) _ _ _
  rw [if_neg (by simp; omega)]
  refine wpAny_bind (wpAny_mkInt (wpAny_pure ⟨_, rfl, ?_⟩))
  simpa using h
theorem ts_key {M : Model} {k : Value} {name : Str} {Q : Value → Shared → Prop} (X : (Mine.mkK.heap_1 w.params).In s.heap) (t : TagsAt s.heap x vs) (h : Q k s) : wpAny M A (sequenceKey (.ref x) k name) Q E s := by
  unfold sequenceKey
  refine wpAny_bind (t.type.here ?_)
  have e := tags_noSeq w
  unfold noSeq at e
  simp only [seqItemTypes, List.all_cons, List.all_nil, Bool.and_true, beq_iff_eq] at e
  simp only [seqItemTypes, List.anyM]
  refine wpAny_bind (wpAny_bind ((looks_subIn X e).here ?_))
  exact wpAny_pure (wpAny_pure h)
theorem ts_getitem {Q : Value → Shared → Prop} {k : Int} {u : Tok} {v : Value} (X : (Mine.mkK.heap_1 w.params).In s.heap) (t : TagsAt s.heap x vs) (h0 : 0 ≤ k) (hk : k < 100000) (hv : vs[k.toNat]? = some v) (h : Q v s) :
    wpAny (model prog w) A (getItem (.ref x) (.int k u)) Q E s := by
  obtain ⟨dd, nn, sl, ho⟩ := t.at_
  unfold getItem
  refine wpAny_holding (wpAny_bind (ts_key X t (wpAny_bind ?_)))
  refine ts_special X t (tags_getitem w) slot_list_getitem.bind (ts_call (n := "__getitem__") X t (.inr (by decide +kernel)) (by decide +kernel) slot_list_getitem.plain entry_list_getitem (args_list_getitem _ _) ?_)
  show wpAny _ _ (Builtin.List.listSubscript? (.int k u) >>= _) _ _ s
  refine wpAny_bind (wpAny_listSubscript_int (fitsIndex_of h0 (by omega)) ?_)
  obtain ⟨j, rfl⟩ := Int.eq_ofNat_of_zero_le h0
  have hx' : vs.toArray[j]? = some v := by simpa using hv
  show wpAny _ _ ((seqItemAt x j >>= fun r => pure (r.map (j, ·))) >>= _) _ _ s
  refine wpAny_bind (wpAny_bind (wpAny_seqItemAt ho rfl (wpAny_pure ?_)))
  rw [hx']
  exact wpAny_pure ⟨v, rfl, wpAny_pure h⟩
end
section
variable {prog : Program} {w : World} {A : Around} {E : Value → Shared → Prop} {s : Shared} {x : Addr} {vs : List Value}
theorem ts_tail {value slice : Expr} {i : Value} {ops : List Value} {Q : Value → Shared → Prop} (X : (Mine.mkK.heap_1 w.params).In s.heap) (t : TagsAt s.heap x vs) (hg : wpAny (model prog w) A (getItem (.ref x) i) Q E s)
    (hs : subscripted slice false (.ref x) i = operate ops (getItem (.ref x) i)) : wpAny (model prog w) A (subscriptTail value slice (.ref x) i) Q E s := by
  unfold subscriptTail getitemInPython specialOf
  refine wpAny_bind (wpAny_bind (wpAny_bind (t.type.here ((looks_findIn X (tags_getitem w)).here ?_))))
  refine wpAny_pure ?_
  rw [hs]
  exact wpAny_bind (wpAny_operating (wpAny_mono hg (fun r s₃ h₃ => wpAny_bind (wpAny_letTemporaryGo (wpAny_pure h₃))) fun _ _ x => x))
end
structure TagRow (h : Heap) (v : Value) (r : Row) : Prop where
  at_ : ∃ a t1 t2, v = .ref a ∧ TagAt h a (.int r.1 t1) (.str r.2 t2)
def TagRows (h : Heap) (vs : List Value) (rows : List Row) : Prop := vs.length = rows.length ∧ ∀ (i : Nat) v r, vs[i]? = some v → rows[i]? = some r → TagRow h v r
theorem TagRows.keeps {h h' : Heap} {vs : List Value} {rows : List Row} (t : TagRows h vs rows) (k : ∀ b o, h.get? b = some o → h'.get? b = some o) : TagRows h' vs rows :=
  ⟨t.1, fun i v r a b => let ⟨c, t1, t2, e, T⟩ := (t.2 i v r a b).at_; ⟨c, t1, t2, e, T.keeps k⟩⟩
theorem TupRows.keeps {h h' : Heap} {vs : List Value} {rows : List Row} (t : TupRows h vs rows) (k : ∀ b o, h.get? b = some o → h'.get? b = some o) : TupRows h' vs rows :=
  ⟨t.1, fun i v r a b => let ⟨c, t1, t2, e, T⟩ := (t.2 i v r a b).at_; ⟨c, t1, t2, e, TupAt.keeps T k⟩⟩
section
variable {prog : Program} {w : World} {A : Around} {E : Value → Shared → Prop} {s : Shared} {g : Heap} {L : Addr} {m : Str → Option Value}
theorem sub_tags {value slice : Expr} {Q : Value → Shared → Prop} {q : Addr} {vs : List Value} {rows : List Row} {k : Int} {u : Tok} (F : Fr g L s.heap m) (X : (Mine.mkK.heap_1 w.params).In g) (hl : TagsAt g q vs) (hr : TagRows g vs rows) (ho : RowsOk rows) (hn : rows.length ≤ 1000) (h0 : 0 ≤ k) (h1 : k < (rows.length : Int))
    (h : ∀ a t1 t2, PyData.strOk (rowAt rows k).2 = true → TagAt g a (.int (rowAt rows k).1 t1) (.str (rowAt rows k).2 t2) → Q (.ref a) s)
    (hs : subscripted slice false (.ref q) (.int k u) = operate [.ref q, .int k u] (getItem (.ref q) (.int k u)) := by with_unfolding_all rfl) :
    wpAny (model prog w) A (subscriptTail value slice (.ref q) (.int k u)) Q E s := by
  have hk : k.toNat < rows.length := by omega
  have hk' : k.toNat < vs.length := by rw [hr.1]; exact hk
  have hrow := rowAt_some (k := k) rfl hk
  obtain ⟨a, t1, t2, e, T⟩ := (hr.2 k.toNat vs[k.toNat] _ (by simp [hk']) hrow).at_
  exact ts_tail (X.keeps F.keep) (hl.keeps F.keep) (ts_getitem (X.keeps F.keep) (hl.keeps F.keep) h0 (by omega) (by simp [hk']; exact e) (h a t1 t2 (ho _ (List.mem_of_getElem? hrow)) T)) hs
end
end
local macro_rules | `(tactic| walk_at "call builtin:len") => `(tactic| (k_here; k_dflt (refine' ts_len ?X ?t _ ?e ?n ?_; (case X => exact Frag.In.keeps (by k_asm) (Fr.keep (by k_asm))); (case t => exact TagsAt.keeps (by assumption) (Fr.keep (by k_asm))); (case e => assumption); (case n => omega); k_whole)))
local macro_rules | `(tactic| walk_at "subscriptTail") => `(tactic| (k_here; (with_reducible show wpAny _ _ (subscriptTail _ _ (Value.ref _) (Value.int _ _)) _ _ _); k_dflt (refine' sub_tags ?F ?X ?hl ?hr ?ho ?hn ?h0 ?h1 ?_ ?hs; (case F => k_asm); (case X => k_asm); (case hl => assumption); (case hr => assumption); (case ho => assumption); (case hn => omega); (case h0 => omega); (case h1 => omega); (case hs => with_unfolding_all rfl); k_whole)))
local macro_rules | `(tactic| walk_at "compareOp Eq ref") => `(tactic| (k_here; k_dflt (refine' tag_eq (Rd.mk rfl rfl ?B ?F ?X ?T (fun _ h => nomatch h)) ?t ?u ?n1 ?n2 ?hd ?hu ?_; (case F => k_asm); (case t => exact TagAt.keeps (by assumption) (Fr.keep (by k_asm))); (case u => first | exact tupAt_of (by k_asm) (by k_mem) | exact TupAt.keeps (by assumption) (Fr.keep (by k_asm))); (case n1 => first | assumption | decide +kernel); (case n2 => first | assumption | decide +kernel); (case B => k_asm); (case X => k_asm); (case T => k_asm); (case hd => ktr_room); (case hu => ktr_units); k_whole; intro h9 tk9 kp9; (have F9 := Fr.after (by k_asm) kp9 (fun _ h => nomatch h)); (have N9 := News.after0 (by k_asm) kp9); clear kp9; (try dsimp only); (try k_sweep))))
section
/-- an object whose data is the sequence `vs` (a list, or an instance of a class over list) -/
structure SeqAt (h : Heap) (q : Addr) (vs : List Value) : Prop where
  at_ : ∃ o n, h.get? q = some o ∧ o.data = .seq vs.toArray n
theorem SeqAt.keeps {h h' : Heap} {q : Addr} {vs : List Value} (t : SeqAt h q vs) (k : ∀ b o, h.get? b = some o → h'.get? b = some o) : SeqAt h' q vs := let ⟨o, n, a, b⟩ := t.at_; ⟨o, n, k _ _ a, b⟩
theorem SeqAt.of_list {h : Heap} {q : Addr} {vs : List Value} (t : h.IsList q vs.toArray) : SeqAt h q vs := let ⟨o, a, _, n, b⟩ := t; ⟨o, n, a, b⟩
theorem SeqAt.of_tags {h : Heap} {q : Addr} {vs : List Value} (t : TagsAt h q vs) : SeqAt h q vs := let ⟨_, n, _, a⟩ := t.at_; ⟨_, n, a, rfl⟩
section
variable {prog : Program} {w : World} {A : Around} {E : Value → Shared → Prop} {s : Shared} {it l : Addr} {i : Nat} {vs : List Value}
theorem next_item {x : Value} {Q : Option Value → Shared → Prop} (hit : s.heap.IsListIter it l i) (hl : SeqAt s.heap l vs) (hx : vs[i]? = some x)
    (hQ : ∀ h', h'.IsListIter it l (i + 1) → Heap.SameBut it s.heap h' → Q (some x) { s with heap := h' }) : wpAny (model prog w) A (pyNext (.ref it)) Q E s := by
  obtain ⟨oi, hoi, ci, di⟩ := id hit
  obtain ⟨ol, n, hol, dl⟩ := hl.at_
  have step : ∀ E', wpAny (model prog w) A.in1 (Builtin.«list_iterator.__next__» ⟨[.ref it], []⟩) (fun fin s' => ∃ v, fin = .done (.ret v) ∧ (v = x ∧ ∃ h', h'.IsListIter it l (i + 1) ∧ Heap.SameBut it s.heap h' ∧ s' = { s with heap := h' })) E' s := by
    intro E'
    show wpAny _ _ (field (.ref it) 0 >>= _) _ _ s
    refine wpAny_bind (wpAny_field hoi di (x := .ref l) rfl ?_)
    show wpAny _ _ (if (Value.ref l == Value.none) = true then _ else _) _ _ s
    rw [if_neg (show ¬ ((Value.ref l == Value.none) = true) from Bool.false_ne_true)]
    show wpAny _ _ (field (.ref it) 1 >>= _) _ _ s
    refine wpAny_bind (wpAny_field hoi di (x := .int i 0) rfl ?_)
    show wpAny _ _ (seqItems? (.ref l) >>= _) _ _ s
    refine wpAny_bind (wpAny_seqItems hol dl ?_)
    have hx' : vs.toArray[i]? = some x := by simpa using hx
    simp only [Int.toNat_natCast, hx']
    refine wpAny_bind (wpAny_setField hoi di (by simp) (wpAny_pure ⟨x, rfl, rfl, _, ⟨_, Heap.get?_update_self _ hoi (Obj.isFreed_of_fields (Obj.data_mapFields di _)), (Obj.cls_mapFields ..).trans ci, ?_⟩, Heap.SameBut.update .., rfl⟩))
    rw [Obj.data_mapFields di]; simp [rawInt]
  unfold pyNext
  refine wpAny_bind (wpAny_attempt (wpAny_callSpecial?_slot (name := Str.ofString "__next__") hit.typeIs slot_listiter_next (wpAny_call_entry slot_listiter_next hit.typeIs entry_listiter_next (wpAny_mono (step _) (fun fin s' hf => ?_) fun _ _ e => e) (args_listiter_next _))))
  obtain ⟨v, rfl, rfl, h', a, b, rfl⟩ := hf
  exact ⟨v, rfl, wpAny_pure (hQ h' a b)⟩
theorem next_end {Q : Option Value → Shared → Prop} (hh : A.handled = none) (hit : s.heap.IsListIter it l i) (hl : SeqAt s.heap l vs) (hx : vs[i]? = none)
    (hQ : ∀ h', Heap.ExtBut it s.heap h' → Q none { s with heap := h' }) : wpAny (model prog w) A (pyNext (.ref it)) Q E s := by
  obtain ⟨oi, hoi, ci, di⟩ := id hit
  obtain ⟨ol, n, hol, dl⟩ := hl.at_
  unfold pyNext
  refine wpAny_bind (wpAny_attempt (wpAny_callSpecial?_slot (name := Str.ofString "__next__") hit.typeIs slot_listiter_next (wpAny_call_entry slot_listiter_next hit.typeIs entry_listiter_next ?_ (args_listiter_next _))))
  show wpAny _ _ (field (.ref it) 0 >>= _) _ _ s
  refine wpAny_bind (wpAny_field hoi di (x := .ref l) rfl ?_)
  show wpAny _ _ (if (Value.ref l == Value.none) = true then _ else _) _ _ s
  rw [if_neg (show ¬ ((Value.ref l == Value.none) = true) from Bool.false_ne_true)]
  show wpAny _ _ (field (.ref it) 1 >>= _) _ _ s
  refine wpAny_bind (wpAny_field hoi di (x := .int i 0) rfl ?_)
  show wpAny _ _ (seqItems? (.ref l) >>= _) _ _ s
  refine wpAny_bind (wpAny_seqItems hol dl ?_)
  have hx' : vs.toArray[i]? = none := by simpa using hx
  simp only [Int.toNat_natCast, hx']
  refine wpAny_bind (wpAny_rule (wpAny_bind (wpAny_setField hoi di (by simp) ?_)))
  show wpAny _ _ (newExc (.type "StopIteration") [] >>= _) _ _ _
  refine wpAny_bind ?_
  simp only [newExc, newTuple]
  refine wpAny_bind (wpAny_newObj_type ?_ (by size_fits))
  refine wpAny_bind (m := firstArgMember _ _) (wpAny_of_eq (a := Value.none) (by first | rfl | (simp only [firstArgMember]; rfl)) ?_)
  refine wpAny_newObj_type ?_ (by size_fits)
  simp only [raiseNew]
  refine wpAny_bind (wpAny_handled ?_)
  rw [show A.in1.handled = none from hh]
  refine wpAny_bind (wpAny_pure (wpAny_throw ?_))
  refine wpAny_bind (wpAny_isInstance (T := "StopIteration") (b := true) ⟨_, Heap.get?_push_size _ rfl, rfl⟩ isSubtype_stop ?_)
  exact wpAny_pure (hQ _ (((Heap.SameBut.update ..).extBut.push _).push _))
theorem ts_iter {Q : Value → Shared → Prop} (X : (Mine.mkK.heap_1 w.params).In s.heap) (t : TagsAt s.heap it vs)
    (hQ : Q (.ref s.heap.objs.size) { s with heap := s.heap.push { cls := .type "list_iterator", data := .fields #[.ref it, .int 0 0] } }) : wpAny (model prog w) A (pyIter (.ref it)) Q E s := by
  have Lit : Looks (model prog w) s.heap (specialOf (.ref it) "__iter__") (some (.builtin "list.__iter__")) := t.type.andThen (looks_findIn X (tags_iter w))
  have go : ∀ {A' : Around} {E' : Value → Shared → Prop} {Q' : Value → Shared → Prop}, Q' (.ref s.heap.objs.size) { s with heap := s.heap.push { cls := .type "list_iterator", data := .fields #[.ref it, .int 0 0] } } → wpAny (model prog w) A' (call (.builtin "list.__iter__") [.ref it]) Q' E' s := by
    intro A' E' Q' h
    refine ts_call (n := "__iter__") X t (.inl (by decide +kernel)) (by decide +kernel) slot_list_iter.plain entry_list_iter (args_list_iter _) ?_
    show wpAny _ _ (do ret (← newFields "list_iterator" [.ref it, rawInt 0])) _ _ s
    exact wpAny_bind (wpAny_newObj_type (wpAny_pure ⟨_, rfl, h⟩))
  unfold pyIter
  refine wpAny_bind (Lit.here ?_)
  dsimp only
  refine wpAny_bind ?_
  simp only [callSpecialIfBoundUnlessNone?]
  refine wpAny_holding (wpAny_bind ?_)
  have fin : ∀ {A' : Around} {E' : Value → Shared → Prop} {Q' : Option (Value × List Value) → Shared → Prop}, Q' (some (.builtin "list.__iter__", [.ref it])) s → wpAny (model prog w) A' (bindSpecialIfBound? (.ref it) "__iter__") Q' E' s := by
    intro A' E' Q' hq
    simp only [bindSpecialIfBound?]
    refine wpAny_bind (Lit.here ?_)
    refine wpAny_bind (wpAny_askSetting (wpAny_ite ?_))
    rw [slot_list_iter.bind]
    split
    · exact wpAny_bind (wpAny_pure (wpAny_pure hq))
    · exact wpAny_tryCatch (wpAny_bind (wpAny_pure (wpAny_pure hq)))
  refine fin ?_
  dsimp only
  rw [if_neg (by decide)]
  refine wpAny_bind (go (wpAny_pure ?_))
  dsimp only
  exact wpAny_bind (wpAny_specialOf (T := "list_iterator") ⟨_, Heap.get?_push_size _ rfl, rfl⟩ slot_listiter_next.lookup (wpAny_pure hQ))
end
end
section
def gxY (n : Nat) (Mid : Nat → Value → Shared → Shared → Prop) (ext : Shared → Shared → Prop) : Protocol := fun m s₀ v s kap => Mid (n - 1 - m) v s₀ s ∧ ∀ s'' : Shared, ext s s'' → kap (.send .none) s''
abbrev gxE (elt target iter : Expr) (scope : Scope) (pos : Pos) : Expr := .GeneratorExp elt [⟨target, iter, [], 0⟩] scope pos
section
variable {prog : Program} {w : World} {A : Around} {elt target iter : Expr} {scope : Scope} {pos : Pos} {cenv : Env} {I : Addr} {n : Nat} {Inv : Nat → Shared → Prop} {Mid : Nat → Value → Shared → Shared → Prop} {Fin : Shared → Shared → Prop} {ext : Shared → Shared → Prop}
/-- what one turn of the generator must do -/
structure GxTurns (prog : Program) (w : World) (A' : Around) (elt target : Expr) (cenv : Env) (I : Addr) (n : Nat) (Inv : Nat → Shared → Prop) (Mid : Nat → Value → Shared → Shared → Prop) (Fin : Shared → Shared → Prop) (ext : Shared → Shared → Prop) : Prop where
  turn : ∀ i s E, i < n → Inv i s → wpAny (model prog w) A' (pyNext (.ref I)) (fun r s1 => ∃ v, r = some v ∧ wpAny (model prog w) A' (letOwnedTupleGo target (.ref I) v) (fun _ s2 => wpAny (model prog w) A' (assign target cenv v) (fun _ s3 => wpAny (model prog w) A' (eval elt cenv) (fun y s4 => Mid i y s s4) E s3) E s2) E s1) E s
  next : ∀ i y s s4 s'', Mid i y s s4 → ext s4 s'' → Inv (i + 1) s''
  done : ∀ s E, Inv n s → wpAny (model prog w) A' (pyNext (.ref I)) (fun r s1 => r = none ∧ Fin s s1) E s
theorem seg_gx (hco : cenv.scope.isCoroutine = false) (T : GxTurns prog w (A.over (.compLoop (gxE elt target iter scope pos) 0 (.ref I) .none cenv) []) elt target cenv I n Inv Mid Fin ext) :
    ∀ (k i : Nat) (s : Shared), n - i = k → i ≤ n → Inv i s →
      Seg (model prog w) A (fun m s₀ r s₁ => r = .ok .next ∧ (m = 0 ∧ Fin s₀ s₁)) (gxY n Mid ext) (n - i) s (.compLoop (gxE elt target iter scope pos) 0 (.ref I) .none cenv) ((model prog w).den (.compLoop (gxE elt target iter scope pos) 0 (.ref I) .none cenv)) [] s := by
  intro k
  induction k with
  | zero =>
    intro i s hk hi inv
    have hin : i = n := by omega
    subst hin
    show Seg _ A _ _ _ s _ ((compTurn (gxE elt target iter scope pos) 0 (.ref I) .none cenv).onRaise (leaving cenv)) [] s
    rw [compTurn_gen, Sem.onRaise_eq_wrap]
    refine seg_bind_wrap (wpAny_standAt (seg_bind_wrap (wpAny_mono (T.done s _ inv) (fun r s1 h => ?_) fun _ _ e => e)))
    obtain ⟨rfl, hf⟩ := h
    exact seg_end (.ok .next) ⟨rfl, by omega, hf⟩
  | succ k ih =>
    intro i s hk hi inv
    have hlt : i < n := by omega
    show Seg _ A _ _ _ s _ ((compTurn (gxE elt target iter scope pos) 0 (.ref I) .none cenv).onRaise (leaving cenv)) [] s
    rw [compTurn_gen, Sem.onRaise_eq_wrap]
    refine seg_bind_wrap (wpAny_standAt (seg_bind_wrap (wpAny_mono (T.turn i s _ hlt inv) (fun r s1 h => ?_) fun _ _ e => e)))
    obtain ⟨v, rfl, h⟩ := h
    refine seg_bind_wrap (wpAny_mono h (fun _ s2 h2 => ?_) fun _ _ e => e)
    refine seg_bind_wrap (wpAny_mono h2 (fun _ s3 h3 => ?_) fun _ _ e => e)
    refine seg_bind_wrap (wpAny_of_eq (a := true) rfl ?_)
    simp only [if_true]
    have hy : ∀ v, yieldOut cenv v = yieldValue v := fun v => by simp only [yieldOut, hco, Bool.false_eq_true, if_false]
    simp only [hy]
    rw [Sem.bind_eq_wrap', Sem.bind_eq_wrap', Sem.wrap_wrap, Sem.wrap_wrap]
    refine seg_wrap (wpAny_mono h3 (fun y s4 h4 => ?_) fun _ _ e => e)
    obtain ⟨m, hm⟩ : ∃ m, n - i = m + 1 := ⟨n - i - 1, by omega⟩
    have hm2 : n - (i + 1) = m := by omega
    rw [hm]
    refine seg_at (seg_yield rfl rfl rfl ⟨?_, fun s'' hx => ?_⟩)
    · have e : n - 1 - m = i := by omega
      show Mid (n - 1 - (m + 1 - 1)) y s s4
      rw [Nat.add_sub_cancel, e]; exact h4
    · have := ih (i + 1) s'' (by omega) hlt (T.next i y s s4 s'' h4 hx)
      rw [hm2] at this
      exact seg_again rfl this
theorem seg_gx0 (hco : cenv.scope.isCoroutine = false) (T : GxTurns prog w (A.over (.compLoop (gxE elt target iter scope pos) 0 (.ref I) .none cenv) []) elt target cenv I n Inv Mid Fin ext) (s : Shared) (inv : Inv 0 s) {q : Addr} {j : Nat} (hI : s.heap.IsListIter I q j) :
      Seg (model prog w) A (fun m s₀ r s₁ => r = .ok .next ∧ (m = 0 ∧ Fin s₀ s₁)) (gxY n Mid ext) n s (.compStart (gxE elt target iter scope pos) 0 (.ref I) .none cenv) ((model prog w).den (.compStart (gxE elt target iter scope pos) 0 (.ref I) .none cenv)) [] s := by
  have loop := seg_gx (pos := pos) (iter := iter) (scope := scope) hco T n 0 s (Nat.sub_zero _) (Nat.zero_le _) inv
  rw [Nat.sub_zero] at loop
  show Seg _ A _ _ _ s _ ((compStart (gxE elt target iter scope pos) 0 (.ref I) .none cenv).onRaise (leaving cenv)) [] s
  unfold compStart
  rw [Sem.onRaise_eq_wrap]
  show Seg _ A _ _ _ s _ ((ask >>= _).wrap _ _ _ _) [] s
  refine seg_bind_wrap (wpAny_askSetting ?_)
  split
  · exact seg_again rfl loop
  · first
      | exact seg_bind_wrap (wpAny_rule (seg_bind_wrap (wpAny_standAt (seg_bind_wrap (wpAny_pyIter_listiter hI (seg_again rfl loop))))))
      | (refine seg_bind_wrap (wpAny_rule ?_); show Seg _ A _ _ _ s _ ((standAt iter.pos >>= _).wrap _ _ _ _) [] s; exact seg_bind_wrap (wpAny_standAt (seg_bind_wrap (wpAny_pyIter_listiter hI (seg_again rfl loop)))))
/-- a generator expression's generator object, at position i -/
structure GxAt (prog : Program) (w : World) (A : Around) (G g n : Nat) (Mid : Nat → Value → Shared → Shared → Prop) (Fin : Shared → Shared → Prop) (ext : Shared → Shared → Prop) (i : Nat) (s : Shared) : Prop where
  gen : s.heap.IsGen G g
  lim : s.heap.NoLimit
  go : ∃ gs, s.gens[g]? = some gs ∧ ∀ s'' : Shared, ext s s'' → gs.Goes (model prog w) A.in1 (fun m s₀ r s₁ => r = .ok .next ∧ (m = 0 ∧ Fin s₀ s₁)) (gxY n Mid ext) (n - i) (.send .none) s''
theorem gx_item {s : Shared} {E : Value → Shared → Prop} {Q : Option Value → Shared → Prop} {G g i : Nat} (hh : A.handled = none) (hroom : A.depth < recursionLimit) (W : GxAt prog w A G g n Mid Fin ext i s) (hi : i < n) (hx : ext s (s.setGen g .running))
    (hQ : ∀ v s₁ gs', gs'.bare = true → Mid i v (s.setGen g .running) s₁ → (∀ s'' : Shared, ext s₁ s'' → gs'.Goes (model prog w) A.in1 (fun m s₀ r s₁ => r = .ok .next ∧ (m = 0 ∧ Fin s₀ s₁)) (gxY n Mid ext) (n - (i + 1)) (.send .none) s'') → Q (some v) (s₁.setGen g gs')) :
    wpAny (model prog w) A (pyNext (.ref G)) Q E s := by
  obtain ⟨hg, hl, gs, hgs, hgo⟩ := W
  obtain ⟨m, hm⟩ : ∃ m, n - i = m + 1 := ⟨n - i - 1, by omega⟩
  have hm2 : n - (i + 1) = m := by omega
  rw [hm] at hgo
  rw [hm2] at hQ
  refine wpAny_pyNext_genexpQ (P := fun m s₀ s₁ => m = 0 ∧ Fin s₀ s₁) hh hl hroom hg hgs (hgo _ hx) (fun v s₁ gs' hb hv => ?_) (fun s₁ hp h' hk => absurd hp.1 (Nat.succ_ne_zero m))
  obtain ⟨h1, h2⟩ := hv
  have e : n - 1 - m = i := by omega
  rw [Nat.add_sub_cancel, e] at h1
  exact hQ v s₁ gs' hb h1 h2
theorem gx_done (hr : ∀ s, ext s s) {s : Shared} {E : Value → Shared → Prop} {Q : Option Value → Shared → Prop} {G g : Nat} (hh : A.handled = none) (hroom : A.depth < recursionLimit) (W : GxAt prog w A G g n Mid Fin ext n s) (hx : ext s (s.setGen g .running))
    (hQ : ∀ s₁, Fin (s.setGen g .running) s₁ → ∀ h', (∀ b o, s₁.heap.get? b = some o → h'.get? b = some o) → Q none { s₁.setGen g .finished with heap := h' }) :
    wpAny (model prog w) A (pyNext (.ref G)) Q E s := by
  obtain ⟨hg, hl, gs, hgs, hgo⟩ := W
  rw [Nat.sub_self] at hgo
  refine wpAny_pyNext_genexp (P := fun m s₀ s₁ => m = 0 ∧ Fin s₀ s₁) hh hl hroom hg hgs (hgo _ hx) (fun v s₁ gs' hv => ?_) (fun s₁ hp h' hk => hQ s₁ hp.2 h' hk)
  exact False.elim (hv.2 s₁ (hr s₁))
end
end
section
section
variable {w : World} {A : Around} {s : Shared} {E : Value → Shared → Prop} {Q : Value → Shared → Prop} {dp un : Nat} {p : Program} {loose : List Str} {mean : ExcName → Option Value} {mg mb : Str → Option Value} {h₀ : Heap} {m : Str → Option Value}
  {scope sc : Scope} {C L a bi : Addr} {code cd : Value} {nm : Str} {p1 p2 p3 p4 : Pos} {v1 v2 : Value}
abbrev gScope : Scope := { kind := .function, names := [(Str.ofString ".0", .local), (Str.ofString "code", .local), (Str.ofString "value", .local), (Str.ofString "dxftag", .globalImplicit)], isGenerator := true, isCoroutine := false }
theorem elt_dxf (hsc : scope.kind = .function) (hc1 : scope.names.lookup (Str.ofString "code") = some .local) (hc2 : scope.names.lookup (Str.ofString "value") = some .local) (hc3 : scope.names.lookup (Str.ofString "dxftag") = some .globalImplicit)
  (R : Rd w s.heap [] dp un A) (F : Fr h₀ C s.heap m) (X : (Mine.mkK.heap_1 w.params).In h₀) (T : Top p loose mean mg mb h₀) (m1 : m (Str.ofString "code") = some v1) (m2 : m (Str.ofString "value") = some v2) (hd : dp + 2 < recursionLimit) (hu : un + 16 < cLine)
  (h : ∀ (x dx : Addr) (h' : Heap) (tk' : Nat), Keep [] s.heap h' → s.heap.get? x = none → s.heap.get? dx = none → h'.get? x = some (tagObj dx v1 v2) → h'.get? dx = some (dictOf [] 0) → Q (.ref x) { s with heap := h', toks := tk' }) :
  wpAny (model PG w) A (eval (.Call (.Name (Str.ofString "dxftag") p1) [.Name (Str.ofString "code") p2, .Name (Str.ofString "value") p3] [] p4) (genEnv scope [] C code bi (envOf nm sc L a cd))) Q E s := by
  refine Call_ ?_
  refine Name_function_global hsc hc3 (loadGlobal_global (env := genEnv scope [] C code bi (envOf nm sc L a cd)) (T.g.keeps F.keep) (mg_of X T.g (v := .ref 124) (by k_is)) ?_) (by decide)
  refine callWith_K (h₀ := h₀) X (by k_is) ?_
  refine spliced_more (wpAny_Name (wpAny_loadName_local hsc hc1 F.ns m1 ?_) (by decide))
  refine spliced_more (wpAny_Name (wpAny_loadName_local hsc hc2 F.ns m2 ?_) (by decide))
  refine spliced_none ⟨X.keeps F.keep, ?_⟩
  exact dxf_c R hd hu h
end
def GE (wr : List Addr) (s₀ s : Shared) : Prop := ∃ h tk gs, s = { s₀ with heap := h, toks := tk, gens := gs } ∧ GN s₀.gens gs ∧ Keep wr s₀.heap h
theorem GE.refl (wr : List Addr) (s : Shared) : GE wr s s := ⟨s.heap, s.toks, s.gens, rfl, GN.refl _, Keep.refl _ _⟩
theorem GE.trans {wr : List Addr} {a b c : Shared} (x : GE wr a b) (y : GE wr b c) : GE wr a c := by
  obtain ⟨h, tk, gs, rfl, g1, k1⟩ := x
  obtain ⟨h', tk', gs', rfl, g2, k2⟩ := y
  exact ⟨h', tk', gs', rfl, g1.trans g2, k1.trans k2⟩
/-- the generator's own ground: what it needs unchanged between two turns -/
def gxExt (h₀ : Heap) (C I : Addr) (s s'' : Shared) : Prop := ∀ b o, (h₀.get? b = none → b = C ∨ b = I) → s.heap.get? b = some o → s''.heap.get? b = some o
def gxInv (h₀ : Heap) (C I q : Addr) (i : Nat) (s : Shared) : Prop := (∃ m, Fr h₀ C s.heap m) ∧ s.heap.IsListIter I q i
theorem gxInv.ext {h₀ : Heap} {C I q : Addr} {i : Nat} {s s'' : Shared} (x : gxInv h₀ C I q i s) (e : gxExt h₀ C I s s'') : gxInv h₀ C I q i s'' := by
  obtain ⟨⟨m, F⟩, it⟩ := x
  refine ⟨⟨m, F.ns.at' fun o h => e _ o (fun _ => .inl rfl) h, fun b o h => e b o (fun n => by rw [h] at n; cases n) (F.keep b o h), F.above⟩, it.at fun o h => e _ o (fun _ => .inr rfl) h⟩
def gxTag (rows : List (Value × Value)) (h₀ : Heap) (C I q : Addr) (i : Nat) (y : Value) (s₀ s : Shared) : Prop :=
  GE [C, I] s₀ s ∧ gxInv h₀ C I q (i + 1) s ∧ ∃ x dx r, y = .ref x ∧ rows[i]? = some r ∧ s₀.heap.get? x = none ∧ s₀.heap.get? dx = none ∧ s.heap.get? x = some (tagObj dx r.1 r.2) ∧ s.heap.get? dx = some (dictOf [] 0)
section
variable {w : World} {dp un : Nat} {l : List Env} {gd : Option (List Code)} {A₀ : Around} {base h₀ : Heap} {p : Program} {loose : List Str} {mean : ExcName → Option Value} {mg mb : Str → Option Value}
  {scope sc : Scope} {C I q L a bi : Addr} {code cd : Value} {nm : Str} {p1 p2 p3 p4 pa pb pt pos : Pos} {kt : Nat} {iter : Expr} {vs : List Value} {rows : List (Value × Value)}
theorem gx_dxf (hsc : scope.kind = .function) (hc1 : scope.names.lookup (Str.ofString "code") = some .local) (hc2 : scope.names.lookup (Str.ofString "value") = some .local) (hc3 : scope.names.lookup (Str.ofString "dxftag") = some .globalImplicit)
  (B : Below A₀ base l h₀) (X : (Mine.mkK.heap_1 w.params).In h₀) (T : Top p loose mean mg mb h₀) (hq : SeqAt h₀ q vs) (hl : vs.length = rows.length) (hr : ∀ (i : Nat) v r, vs[i]? = some v → rows[i]? = some r → handedIn r.1 = true ∧ handedIn r.2 = true ∧ ∃ a, v = .ref a ∧ RowIn h₀ a r.1 r.2)
  (hI : h₀.get? I = none) (hCI : C ≠ I) (hd : dp + 20 < recursionLimit) (hu : un + 120 < cLine) :
  GxTurns PG w ((Around.in1 ⟨none, dp, some l, gd, un⟩).over (.compLoop (gxE (.Call (.Name (Str.ofString "dxftag") p1) [.Name (Str.ofString "code") p2, .Name (Str.ofString "value") p3] [] p4) (.Tuple [.Name (Str.ofString "code") pa, .Name (Str.ofString "value") pb] kt pt) iter scope pos) 0 (.ref I) .none (genEnv scope [] C code bi (envOf nm sc L a cd))) [])
    (.Call (.Name (Str.ofString "dxftag") p1) [.Name (Str.ofString "code") p2, .Name (Str.ofString "value") p3] [] p4) (.Tuple [.Name (Str.ofString "code") pa, .Name (Str.ofString "value") pb] kt pt) (genEnv scope [] C code bi (envOf nm sc L a cd)) I vs.length
    (gxInv h₀ C I q) (gxTag rows h₀ C I q) (GE [C, I]) (gxExt h₀ C I) where
  next := fun i y s s4 s'' hm he => hm.2.1.ext he
  done := fun s E inv => by
    obtain ⟨⟨m, F⟩, it⟩ := inv
    refine next_end rfl it (hq.keeps F.keep) (by simp) fun h' he => ⟨rfl, h', s.toks, s.gens, rfl, GN.refl _, fun b o e n => he b o (by simp at n; exact n.2) e⟩
  turn := fun i s E hi inv => by
    obtain ⟨⟨m, F⟩, it⟩ := inv
    have hi' : i < rows.length := hl ▸ hi
    have hv : vs[i]? = some vs[i] := by simp [hi]
    have hrw : rows[i]? = some rows[i] := by simp [hi']
    obtain ⟨d1, d2, aa, e, rin⟩ := hr i _ _ hv hrw
    refine next_item it (hq.keeps F.keep) hv fun h1 it1 sb1 => ⟨_, rfl, ?_⟩
    have LC : h₀.get? C = none := by
      cases z : h₀.get? C with
      | none => rfl
      | some o => exact absurd (Heap.lt_size z) (Nat.not_lt.mpr F.above)
    have F1 : Fr h₀ C h1 m := ⟨F.ns.at' fun o h => (sb1.2 _ hCI).trans h, fun b o h => (sb1.2 b (fun z => by rw [z, hI] at h; cases h)).trans (F.keep b o h), F.above⟩
    rw [e]
    refine wpAny_letOwnedTupleGo_listiter it1 ?_
    have hu9 : ∀ c : Nat, c ≤ 3 → (un + 1) + 0 + c + 80 < cLine := fun c h => by omega
    have R1 : ∀ h1 m1 (_ : Fr h₀ C h1 m1), Rd w h1 [] (dp + 1) ((Around.in1 ⟨none, dp, some l, gd, un⟩).units + unitsOf ([] : List (Code × Pos)) + (Code.compLoop (gxE (.Call (.Name (Str.ofString "dxftag") p1) [.Name (Str.ofString "code") p2, .Name (Str.ofString "value") p3] [] p4) (.Tuple [.Name (Str.ofString "code") pa, .Name (Str.ofString "value") pb] kt pt) iter scope pos) 0 (.ref I) .none (genEnv scope [] C code bi (envOf nm sc L a cd))).cUnits)
        ((Around.in1 ⟨none, dp, some l, gd, un⟩).over (.compLoop (gxE (.Call (.Name (Str.ofString "dxftag") p1) [.Name (Str.ofString "code") p2, .Name (Str.ofString "value") p3] [] p4) (.Tuple [.Name (Str.ofString "code") pa, .Name (Str.ofString "value") pb] kt pt) iter scope pos) 0 (.ref I) .none (genEnv scope [] C code bi (envOf nm sc L a cd))) []) :=
      fun h1 m1 F => Rd.mk (env := genEnv scope [] C code bi (envOf nm sc L a cd)) rfl hsc B F X T (fun _ h => nomatch h)
    have hcu : (Code.compLoop (gxE (.Call (.Name (Str.ofString "dxftag") p1) [.Name (Str.ofString "code") p2, .Name (Str.ofString "value") p3] [] p4) (.Tuple [.Name (Str.ofString "code") pa, .Name (Str.ofString "value") pb] kt pt) iter scope pos) 0 (.ref I) .none (genEnv scope [] C code bi (envOf nm sc L a cd))).cUnits ≤ 3 := by
      simp only [Code.cUnits, Code.frames]; split <;> omega
    refine assign_row (h₀ := h₀) (R1 _ _ F1) F1 (rin.keeps F1.keep) d1 d2 (by omega) (hu9 _ hcu) hc1 hc2 (by simp [genEnv, hsc]) fun h2 tk2 gs2 F2 k2 g2 => ?_
    refine elt_dxf hsc hc1 hc2 hc3 (R1 _ _ F2) F2 X T (by rw [if_neg (by decide), if_pos rfl]) (if_pos rfl) (by omega) (by have := hu9 _ hcu; show (un + 1) + 0 + _ + 16 < cLine; omega) fun x dx h3 tk3 k3 fx fdx hx hdx => ?_
    change Keep [C] h1 h2 at k2
    change Keep [] h2 h3 at k3
    change h2.get? x = none at fx
    have k13 : Keep [C, I] s.heap h3 := fun b o e n => by
      simp at n
      exact k3 b o (k2 b o ((sb1.2 b n.2).trans e) (by simpa using n.1)) (by simp)
    have old : ∀ z, h2.get? z = none → s.heap.get? z = none := fun z fz => by
      cases q1 : s.heap.get? z with
      | none => rfl
      | some o =>
        by_cases z1 : z = I
        · obtain ⟨o1, ho1, _⟩ := it1
          rw [z1, k2 _ _ ho1 (by simpa using Ne.symm hCI)] at fz; cases fz
        · by_cases z2 : z = C
          · obtain ⟨o1, _, _, ho1, _⟩ := F2.ns
            rw [z2] at fz
            change h2.get? C = some o1 at ho1
            rw [ho1] at fz; cases fz
          · have := k2 z o ((sb1.2 _ z1).trans q1) (by simpa using z2)
            rw [fz] at this
            cases this
    refine ⟨⟨h3, tk3, gs2, rfl, g2, k13⟩, ⟨⟨_, Mine.Fr.after F2 k3 (fun _ h => nomatch h)⟩, ?_⟩, x, dx, _, rfl, hrw, old x fx, old dx fdx, hx, hdx⟩
    exact (it1.at fun o e => k2 _ o e (by simpa using Ne.symm hCI)).at fun o e => k3 _ o e (by simp)
end
end
section
/-- a code object and the table of the code objects that it has made, as the model lays it -/
structure IsCT (h : Heap) (c P : Addr) (ps : Array Value) : Prop where
  code : h.IsCode c P ps
  tab : h.TableAt c P ps
theorem IsCT.move {h h' : Heap} {c P : Addr} {ps : Array Value} (x : IsCT h c P ps) (hc : ∀ o, h.get? c = some o → h'.get? c = some o) (hP : ∀ o, h.get? P = some o → h'.get? P = some o) : IsCT h' c P ps := by
  refine ⟨?_, x.tab.at2 hc hP⟩
  obtain ⟨o, ws, file, tf, fl, tg, inF, text, tt, op2, a1, a2, a3, a4, a5, a6, a7, a8, a9, a10, a11⟩ := x.code
  exact ⟨o, ws, file, tf, fl, tg, inF, text, tt, op2, hc _ a1, a2, a3, a4, a5, a6, a7, hP _ a8, a9, a10, a11⟩
theorem IsCT.keeps {h h' : Heap} {c P : Addr} {ps : Array Value} (x : IsCT h c P ps) (k : ∀ b o, h.get? b = some o → h'.get? b = some o) : IsCT h' c P ps := x.move (k c) (k P)
theorem IsCT.push {h : Heap} {c P : Addr} {ps : Array Value} (x : IsCT h c P ps) (o : Obj) : IsCT (h.push o) c P ps := x.keeps fun _ _ e => Heap.get?_push_of_some o e
theorem IsCT.get {h : Heap} {c P : Addr} {ps : Array Value} (x : IsCT h c P ps) : h.get? P = some { cls := .none, data := .fields ps } := x.tab.2
theorem IsCT.at_ {h : Heap} {c P : Addr} {ps : Array Value} (x : IsCT h c P ps) : ∃ o vs, h.get? c = some o ∧ o.data = .fields vs ∧ c ≠ P := by
  obtain ⟨o, ws, file, tf, fl, tg, inF, text, tt, op2, a1, a2, a3, a4, a5, a6, a7, a8, a9, a10, a11⟩ := x.code
  exact ⟨o, ws, a1, a2, a11⟩
section
variable {M : Model} {A : Around} {E : Value → Shared → Prop} {s : Shared}
theorem genexprCodeT {env : Env} {c P : Addr} {ps : Array Value} {pos : Pos} {qualname : Str} {scope : Scope} {Q : Value → Shared → Prop} (hc : env.code = .ref c) (x : IsCT s.heap c P ps)
    (hQ : ∀ code h' tk ps', Heap.ExtBut P s.heap h' → IsCT h' c P ps' → Q code { s with heap := h', toks := tk }) :
    wpAny M A (genexprCode env pos qualname scope) Q E s := by
  cases hnf : codeAmong pos ps.toList with
  | some cv => exact wpAny_genexprCode_hit hc x.code hnf (hQ cv s.heap s.toks ps (Heap.ExtBut.refl _ _) x)
  | none => exact wpAny_genexprCodeX hc x.code x.tab hnf fun c' h' tk ex _ _ hcode _ htab _ => hQ _ h' tk _ ex ⟨hcode, htab⟩
end
end
section
section
variable {w : World} {s : Shared} {E : Value → Shared → Prop} {Q : Value → Shared → Prop} {dp un : Nat} {outer : List Env} {gd : Option (List Code)} {A₀ : Around} {base h₀ : Heap} {p : Program} {loose : List Str} {mean : ExcName → Option Value} {mg mb : Str → Option Value} {m : Str → Option Value}
  {scope sc : Scope} {L a q c P : Addr} {nm y : Str} {ps : Array Value} {elt target : Expr} {py pos : Pos}
/-- a generator expression over a local name: what stands after it is made -/
structure GxMade (s : Shared) (P c q : Addr) (elt target iter : Expr) (scope : Scope) (pos : Pos) (env : Env) (G : Addr) (s' : Shared) : Prop where
  out : ∃ C I code bi h' tk' ps', s' = { s with heap := h', toks := tk', gens := s.gens.push (.fresh (.compStart (gxE elt target iter scope pos) 0 (.ref I) .none (genEnv scope [] C code bi env))) } ∧
    Keep [P] s.heap h' ∧ IsCT h' c P ps' ∧ h'.IsGen G s.gens.size ∧ s.heap.get? G = none ∧ s.heap.get? C = none ∧ s.heap.get? I = none ∧ C ≠ I ∧ G ≠ C ∧ G ≠ I ∧ (∃ m', Fr (hideAll s.heap [P]) C h' m') ∧ h'.IsListIter I q 0
theorem gx_make (F : Fr h₀ L s.heap m) (T : Top p loose mean mg mb h₀) (hk : sc.kind = .function) (hy : (envOf nm sc L a (.ref c)).kindOf y = some .local) (hyd : (y == ("__debug__" : Str)) = false) (hm : m y = some (.ref q))
  (hpy : ∀ (A : Around) (E : Value → Shared → Prop) (Q : Value → Shared → Prop), Q (.ref s.heap.objs.size) { s with heap := s.heap.push { cls := .type "list_iterator", data := .fields #[.ref q, .int 0 0] } } → wpAny (model PG w) A (pyIter (.ref q)) Q E s)
  (hcode : IsCT s.heap c P ps) (hPn : h₀.get? P = none) (hco : scope.isCoroutine = false) (hclos : closureFor scope (envOf nm sc L a (.ref c)) = pure []) (hcell : ∀ z ∈ scope.names, z.2 ≠ .cell) (h0 : scope.names.lookup (".0" : Str) = some NameKind.local) (hkind : scope.kind = .function) (hroom : dp < recursionLimit)
  (h : ∀ G s', GxMade s P c q elt target (.Name y py) scope pos (envOf nm sc L a (.ref c)) G s' → Q (.ref G) s') :
  wpAny (model PG w) ⟨none, dp, some (envOf nm sc L a (.ref c) :: outer), gd, un⟩ (eval (gxE elt target (.Name y py) scope pos) (envOf nm sc L a (.ref c))) Q E s := by
  refine wpAny_GeneratorExp_make hco hclos hcell h0 hkind hroom ?_ (fun _ => rfl)
  refine ld F hm ?_ hk hy hyd
  refine hpy _ _ _ ⟨?_, ?_⟩
  · exact (T.nolimit.keeps F.keep).keeps fun b o e => Heap.get?_push_of_some _ e
  have hc2 : IsCT (s.heap.push { cls := .type "list_iterator", data := .fields #[.ref q, .int 0 0] }) c P ps := hcode.push _
  refine genexprCodeT rfl hc2 fun code h2 tk2 ps' ex hc' => ?_
  have k02 : Keep [P] s.heap h2 := fun b o e n => ex b o (by simpa using n) (Heap.get?_push_of_some _ e)
  have g2 : ∀ b o, h₀.get? b = some o → h2.get? b = some o := fun b o e => k02 b o (F.keep b o e) (by simp; rintro rfl; rw [hPn] at e; cases e)
  obtain ⟨bm, ob, b1, b2, b3, b4, b5, b6⟩ := T.bmain
  refine wpAny_builtinsFor (T.g.keeps g2) b1 b2 (g2 _ _ b3) b4 b5 b6 ?_
  intro h3 hn3 hs3
  have hI : h2.get? s.heap.objs.size = some { cls := .type "list_iterator", data := .fields #[.ref q, .int 0 0] } := ex _ _ (by
    have hop := hcode.get
    exact fun z => absurd (Heap.lt_size hop) (z ▸ Nat.lt_irrefl _)) (Heap.get?_push_size _ rfl)
  have hIlt := Heap.lt_size hI
  have k23 : ∀ b o, h2.get? b = some o → h3.get? b = some o := fun b o e => hs3.extBut b o (Nat.ne_of_lt (Heap.lt_size e)) (Heap.get?_push_of_some _ e)
  have hsz : h3.objs.size = h2.objs.size + 1 := by rw [hs3.1, Heap.size_push]
  have le2 : s.heap.objs.size < h2.objs.size := hIlt
  have fr : ∀ b, s.heap.objs.size ≤ b → s.heap.get? b = none := fun b hb => by
    cases z : s.heap.get? b with
    | none => rfl
    | some o => exact absurd (Heap.lt_size z) (Nat.not_lt.mpr hb)
  refine h _ _ ⟨h2.objs.size, s.heap.objs.size, code, _, _, _, ps', rfl, ?_, ?_, ?_, fr _ (by rw [hsz]; omega), fr _ (Nat.le_of_lt le2), fr _ (Nat.le_refl _), Nat.ne_of_gt le2, by rw [hsz]; exact Nat.succ_ne_self _, by rw [hsz]; exact Nat.ne_of_gt (Nat.lt_succ_of_lt le2), ?_, ?_⟩
  · exact fun b o e n => Heap.get?_push_of_some _ (k23 b o (k02 b o e n))
  · exact hc'.keeps fun b o e => Heap.get?_push_of_some _ (k23 b o e)
  · exact ⟨_, _, _, Heap.get?_push_size _ rfl, rfl, rfl, rfl⟩
  · refine ⟨_, Fr.push (Fr.mk hn3 (fun b o e => k23 b o (k02 b o (of_hideAll _ e) ?_)) ?_) _⟩
    · intro hm
      rw [hideAll_none _ hm] at e; cases e
    · rw [hideAll_size]; exact Nat.le_of_lt le2
  · exact ⟨_, Heap.get?_push_of_some _ (k23 _ _ hI), rfl, rfl⟩
end
end
section
structure TagsCls (M : Model) (h : Heap) : Prop where
  obj : ∃ oc od cd sl, h.get? 335 = some ⟨oc, od, .cls cd, sl⟩ ∧ cd.abstract = false ∧ cd.hasDel = false ∧ cd.mro.isEmpty = false
  made : Looks M h (Bind.madeBy (.ref 335)) (some "list.__new__")
  base : Looks M h (Bind.staticBase (.ref 335)) (.ref 335)
  sub : Looks M h (isSubtype (.ref 335) (.type "list")) true
  self : Looks M h (isSubtype (.ref 335) (.ref 335)) true
  call : Looks M h (specialOf (.ref 335) "__call__") (some (.builtin "type.__call__"))
  typ : Looks M h (isInstance (.ref 335) (.type "type")) true
  init : Looks M h (typeLookup (.ref 335) "__init__") (some (.builtin "list.__init__"))
theorem tags_cls {w : World} {M : Model} {h : Heap} (X : (Mine.mkK.heap_1 w.params).In h) : TagsCls M h := by
  have hm : Looks M h (mroOf (.ref 335)) [.ref 335, .type "list", .type "object"] := (looks_clsIn X (C := 335) (by k_is)).andThen .now
  have made : Looks M h (Bind.madeBy (.ref 335)) (some "list.__new__") := by
    intro A Q E s k q
    unfold Bind.madeBy
    refine wpAny_bind (hm A _ E s k ?_)
    rw [List.forIn_cons]
    have ho := X 335 _ (by k_is)
    refine wpAny_bind (wpAny_bind (wpAny_bind (wpAny_bind (wpAny_loadPart (k _ _ ho) (wpAny_pure ?_)))))
    exact wpAny_pure (wpAny_pure (wpAny_pure q))
  refine ⟨⟨_, _, _, _, X 335 _ (by k_is), rfl, rfl, rfl⟩, made, ?_, looks_mroIn X (by k_is), looks_mroIn X (by k_is), looks_specialIn X (by k_is), looks_instIn X (by k_is), looks_findIn X (by k_is)⟩
  intro A Q E s k q
  unfold Bind.staticBase
  refine wpAny_bind (hm A _ E s k ?_)
  rw [List.forIn_cons]
  exact wpAny_bind (wpAny_bind (wpAny_bind (made A _ E s k (wpAny_pure (wpAny_pure (wpAny_pure q))))))
theorem ln_kind : builtinKind "list.__new__" = some .builtinFn := by decide +kernel
theorem ln_split : splitId "list.__new__" = some ("list", "__new__") := by decide +kernel
theorem ln_args0 : argsOk "list.__new__" ⟨[.ref 335], []⟩ := by unfold argsOk; kernel_rfl
theorem ln_args1 (a : Value) : argsOk "list.__new__" ⟨[.ref 335, a], []⟩ := by unfold argsOk; kernel_rfl
section
variable {prog : Program} {w : World} {A : Around} {E : Value → Shared → Prop} {s : Shared}
theorem ln_check {rest : List Value} {Q : Unit → Shared → Prop} (Y : TagsCls (model prog w) s.heap) (ha : argsOk "list.__new__" ⟨.ref 335 :: rest, []⟩) (q : Q () s) : wpAny (model prog w) A (checkBuiltinCall "list.__new__" ⟨.ref 335 :: rest, []⟩) Q E s := by
  obtain ⟨⟨oc, od, cd, sl, hC, e1, e2, e4⟩, made, base, sub, self, call, typ, init⟩ := Y
  have ty : Looks (model prog w) s.heap (isType (.ref 335)) true := (Looks.ld hC).andThen .now
  simp only [checkBuiltinCall, ln_kind, ln_split]
  have fin : wpAny (model prog w) A (match Manifest.signature? "list.__new__" with | some sig => Bind.checkArgs "list.__new__" sig ⟨.ref 335 :: rest, []⟩ | none => pure ()) Q E s := by
    cases hsig : Manifest.signature? "list.__new__" with
    | none => exact wpAny_pure q
    | some sig =>
      simp only [argsOk, hsig] at ha
      have h2 : Bind.checkArgs "list.__new__" sig ⟨.ref 335 :: rest, []⟩ = pure () := ha
      show wpAny _ A (Bind.checkArgs "list.__new__" sig ⟨.ref 335 :: rest, []⟩) Q E s
      rw [h2]; exact wpAny_pure q
  repeat (first | simp only [Bool.not_true, Bool.false_eq_true, if_false, bne_self_eq_false] | exact fin | lk)
end
abbrev tagsNew (d : Addr) : Obj := { cls := .ref 335, dict := some d, data := .seq #[] }
section
variable {prog : Program} {w : World} {A : Around} {E : Value → Shared → Prop} {R : Result → Shared → Prop} {h : Heap} {g : Array GenState} {d : Drawn} {t : Nat} {os : OsState}
theorem ln_code {rest : List Value} (Y : TagsCls (model prog w) h) (ha : argsOk "list.__new__" ⟨.ref 335 :: rest, []⟩)
    (hq : R (.ok (.ret (.ref (h.objs.size + 1)))) ⟨(h.push emptyDict).push (tagsNew h.objs.size), g, d, t, os⟩) :
    codeAny (model prog w) A (.call (.builtin "list.__new__") ⟨.ref 335 :: rest, []⟩) R ⟨h, g, d, t, os⟩ := by
  refine codeAny_call_builtin_code (plainId_quiet F.plain_list_new _) (ln_check Y ha (codeAny_builtin_stack F.entry_list_new rfl fun p st => ?_))
  rw [Around.under_plainId F.plain_list_new _]
  obtain ⟨⟨oc, od, cd, sl, hC, e1, e2, e4⟩, made, base, sub, self, call, typ, init⟩ := Y
  have ty : Looks (model prog w) h (isType (.ref 335)) true := (Looks.ld hC).andThen .now
  have hown := owner_list_new
  simp only [hown]
  repeat (first | simp only [Bool.not_true, Bool.false_eq_true, if_false] | lk)
  refine nd_load (Heap.get?_push_of_some _ (Heap.get?_push_of_some _ hC)) ?_
  refine wpAny_pure ?_
  dsimp only
  rw [e2]
  refine wpAny_pure (wpAny_pure (wpAny_pure ?_))
  show R _ _
  rw [Heap.size_push]
  exact hq
theorem make_tags {rest : List Value} (Y : TagsCls (model prog w) h) (ha : argsOk "list.__new__" ⟨.ref 335 :: rest, []⟩)
    (hq : codeAny (model prog w) (A.under (.builtin "type.__call__" ⟨.ref 335 :: rest, []⟩)) (.call (.builtin "list.__init__") ⟨.ref (h.objs.size + 1) :: rest, []⟩) (InitBack (h.objs.size + 1) R) ⟨(h.push emptyDict).push (tagsNew h.objs.size), g, d, t, os⟩) :
    codeAny (model prog w) A (.call (.ref 335) ⟨rest, []⟩) R ⟨h, g, d, t, os⟩ := by
  have Y' := Y
  obtain ⟨⟨oc, od, cd, sl, hC, e1, e2, e4⟩, made, base, sub, self, call, typ, init⟩ := Y
  refine codeAny_of_tree ?_
  show wpAny _ _ (callAny (.ref 335) _) _ _ _
  refine nd_load hC ?_
  show wpAny _ _ (callAny.viaDunder (.ref 335) _) _ _ _
  unfold callAny.viaDunder
  refine wpAny_bind (call.at ?_)
  dsimp only
  rw [tc_bind]
  refine wpAny_bind (wpAny_pure (wpAny_bind (wpAny_pure ?_)))
  refine wpAny_pure (a := Fin.again (.call (.builtin "type.__call__") ⟨.ref 335 :: rest, []⟩)) (And.intro rfl ?_)
  refine codeAny_call_builtin_at (Code.quiet_builtin _ (by decide +kernel)) entry_typeCall (check_slot tc_kind tc_split typ (tc_args _ _ _) ?_)
  unfold Builtin.«type.__call__»
  have hm : Looks (model prog w) h (mroOf (.ref 335)) cd.mro := ((Looks.ld (part := none) hC).andThen .now).andThen .now
  repeat (first | simp only [e4, Bool.false_eq_true, if_false] | with_reducible refine wpAny_call ?_ | lk)
  refine ln_code Y' ha ?_
  have k : ∀ b o, h.get? b = some o → ((h.push emptyDict).push (tagsNew h.objs.size)).get? b = some o := fun b o e => Heap.get?_push_of_some _ (Heap.get?_push_of_some _ e)
  have hx : ((h.push emptyDict).push (tagsNew h.objs.size)).get? (h.objs.size + 1) = some (tagsNew h.objs.size) := by heap_get
  have t1 : Looks (model prog w) ((h.push emptyDict).push (tagsNew h.objs.size)) (typeOf (.ref (h.objs.size + 1))) (.ref 335) := (Looks.ld hx).andThen .now
  have s1 := self.keeps k
  have i1 := init.keeps k
  have b1 : Looks (model prog w) ((h.push emptyDict).push (tagsNew h.objs.size)) (bindSpecial (.builtin "list.__init__") (.ref (h.objs.size + 1))) (.builtin "list.__init__", [.ref (h.objs.size + 1)]) := Looks.of_pure (F.slot_list_init.bind _)
  unfold isInstance callSpecial? specialOf
  repeat (first | with_reducible refine wpAny_call ?_ | lk)
  refine codeAny_mono hq fun r s' z => ?_
  rcases r with e | (v | _ | _ | _) <;> first | exact z | exact z.elim | skip
  obtain ⟨rfl, z⟩ := z
  exact wpAny_pure (wpAny_pure z)
end
end
section
def withSeq (o : Obj) (vs : List Value) (c : Nat) : Obj := { o with data := .seq vs.toArray c }
structure Feed (prog : Program) (w : World) (A : Around) (I S : Addr) (n : Nat) (Inv : Nat → List Value → Shared → Prop) (End : List Value → Shared → Prop) : Prop where
  item : ∀ i acc s Q E, i < n → Inv i acc s → (∀ v s', Inv (i + 1) (acc ++ [v]) s' → s'.heap.get? S = s.heap.get? S → Q (some v) s') → wpAny (model prog w) A.in1 (pyNext (.ref I)) Q E s
  done : ∀ acc s Q E, Inv n acc s → (∀ s', End acc s' → s'.heap.get? S = s.heap.get? S → Q none s') → wpAny (model prog w) A.in1 (pyNext (.ref I)) Q E s
  upd : ∀ i acc s f, Inv i acc s → Inv i acc { s with heap := s.heap.update S (Obj.mapSeq f) }
section
variable {prog : Program} {w : World} {A : Around} {R : Result → Shared → Prop} {I S : Addr} {n : Nat} {Inv : Nat → List Value → Shared → Prop} {End : List Value → Shared → Prop} {o : Obj} {pre : List Value}
theorem seq_upd {h : Heap} {f : Array Value → Array Value} {vs vs' : List Value} {c : Nat} (hS : h.get? S = some (withSeq o vs c)) (e : f vs.toArray = vs'.toArray) : ∃ c', (h.update S (Obj.mapSeq f)).get? S = some (withSeq o vs' c') := by
  have z := Heap.get?_update_self (Obj.mapSeq f) hS (by obtain ⟨_, _, _, _⟩ := o; rfl)
  obtain ⟨a, b, d, sl⟩ := o
  simp only [withSeq, Obj.mapSeq, e] at z
  exact ⟨_, z⟩
theorem feed_loop (W : Feed prog w A I S n Inv End) (res : Value) (hz : pre.length + n ≤ 1000) :
    ∀ (k i : Nat) (s : Shared) (acc : List Value) (c : Nat), n - i = k → i ≤ n → acc.length = i → Inv i acc s → s.heap.get? S = some (withSeq o (pre ++ acc) c) →
    (∀ s' acc' c', End acc' s' → acc'.length = n → s'.heap.get? S = some (withSeq o (pre ++ acc') c') → R (.ok (.ret res)) s') →
    codeAny (model prog w) A (.builtin "list.extend.loop" ⟨[.ref S, .ref I, res], []⟩) R s := by
  intro k
  induction k with
  | zero =>
    intro i s acc c hk hi hl inv hS hR
    have hin : i = n := by omega
    subst hin
    refine codeAny_builtin F.entry_extend_loop ?_
    rw [Around.under_plainId F.plain_extend_loop _]
    show wpAny _ A.in1 (pyNext (.ref I) >>= _) _ _ s
    refine wpAny_bind (W.done acc s _ _ inv fun s' he hs => ?_)
    exact wpAny_pure (hR s' acc c he hl (hs.trans hS))
  | succ k ih =>
    intro i s acc c hk hi hl inv hS hR
    have hlt : i < n := by omega
    refine codeAny_builtin F.entry_extend_loop ?_
    rw [Around.under_plainId F.plain_extend_loop _]
    show wpAny _ A.in1 (pyNext (.ref I) >>= _) _ _ s
    refine wpAny_bind (W.item i acc s _ _ hlt inv fun v s' inv' hs => ?_)
    have hS' := hs.trans hS
    show wpAny _ A.in1 (updateSeq S (·.push v) >>= _) _ _ _
    refine wpAny_bind (wpAny_updateSeq hS' rfl (wpAny_pure ⟨plainId_quiet F.plain_extend_loop _, ?_⟩) ?_ ?_)
    · obtain ⟨c', hS2⟩ := seq_upd (f := (·.push v)) (vs' := pre ++ (acc ++ [v])) hS' (by simp)
      exact ih (i + 1) _ (acc ++ [v]) c' (by omega) hlt (by simp [hl]) (W.upd _ _ _ _ inv') hS2 hR
    · have := sizeLine_eq; simp [withSeq]; omega
    · have := sizeLine_eq; simp [withSeq]; omega
end
section
variable {prog : Program} {w : World} {A : Around} {R : Result → Shared → Prop} {I S J : Addr} {n g : Nat} {Inv : Nat → List Value → Shared → Prop} {End : List Value → Shared → Prop} {o : Obj} {pre : List Value} {s : Shared}
theorem touch_feed (W : Feed prog w A I S n Inv End) (res : Value) (hz : pre.length + n ≤ 1000) {c : Nat} (inv : Inv 0 [] s) (hS : s.heap.get? S = some (withSeq o pre c))
    (hR : ∀ s' acc' c', End acc' s' → acc'.length = n → s'.heap.get? S = some (withSeq o (pre ++ acc') c') → R (.ok (.ret res)) s') :
    wpAny (model prog w) A.in1 (do Builtin.List.listTouch (.ref S); again (.builtin "list.extend.loop" ⟨[.ref S, .ref I, res], []⟩))
      (fun fin s' => match fin with | .done f => R (.ok f) s' | .again c' => c'.quiet = true ∧ codeAny (model prog w) A c' R s') (fun e s' => R (.error e) s') s := by
  refine wpAny_bind ?_
  show wpAny _ A.in1 (updateSeq S (·.push .none) >>= fun _ => updateSeq S (·.pop)) _ _ _
  have hl := sizeLine_eq
  refine wpAny_bind (wpAny_updateSeq hS rfl ?_ (by simp [withSeq]; omega) (by simp [withSeq]; omega))
  obtain ⟨c1, h1⟩ := seq_upd (f := (·.push Value.none)) (vs' := pre ++ [.none]) hS (by simp)
  refine wpAny_updateSeq h1 rfl (wpAny_pure ⟨plainId_quiet F.plain_extend_loop _, ?_⟩) (by simp [withSeq]; omega) (by simp [withSeq]; omega)
  obtain ⟨c2, h2⟩ := seq_upd (f := (·.pop)) (vs' := pre) h1 (by simp)
  exact feed_loop W res hz n 0 _ [] c2 (Nat.sub_zero _) (Nat.zero_le _) rfl (W.upd 0 [] ({ s with heap := s.heap.update S (Obj.mapSeq (·.push Value.none)) } : Shared) _ (W.upd 0 [] s _ inv)) (by simpa using h2) hR
theorem lew_gen (hg : s.heap.IsGen J g) (hSJ : S ≠ J) (W : Feed prog w A J S n Inv End) (res : Value) (hz : pre.length + n ≤ 1000) {c : Nat} (inv : Inv 0 [] s) (hS : s.heap.get? S = some (withSeq o pre c))
    (hR : ∀ s' acc' c', End acc' s' → acc'.length = n → s'.heap.get? S = some (withSeq o (pre ++ acc') c') → R (.ok (.ret res)) s') :
    wpAny (model prog w) A.in1 (Builtin.List.listExtendWith (.ref S) (.ref J) res)
      (fun fin s' => match fin with | .done f => R (.ok f) s' | .again c' => c'.quiet = true ∧ codeAny (model prog w) A c' R s') (fun e s' => R (.error e) s') s := by
  unfold Builtin.List.listExtendWith
  refine wpAny_bind (wpAny_typeOf hg.typeIs ?_)
  have h1 : Builtin.List.listSameRef (.ref S) (.ref J) = false := by simp [Builtin.List.listSameRef, hSJ]
  have h2 : (Value.type "generator" == Value.type "list") = false := by decide
  have h3 : (Value.type "generator" == Value.type "tuple") = false := by decide
  simp only [h1, h2, h3, Bool.or_false, Bool.false_eq_true, if_false]
  refine wpAny_bind (wpAny_pyIter_gen hg ?_)
  refine wpAny_bind (wpAny_holding ?_)
  unfold Builtin.List.listLengthHint
  refine wpAny_bind (wpAny_specialOf hg.typeIs F.gen_no_len ?_)
  show wpAny _ A.in1 (specialOf (Value.ref J) (Str.ofString "__length_hint__") >>= _) _ _ _
  refine wpAny_bind (wpAny_specialOf hg.typeIs F.gen_no_hint (wpAny_pure ?_))
  show wpAny _ A.in1 (rule "list.extend.makes-room" >>= fun _ => Builtin.List.listTouch (.ref S) >>= fun _ => again (.builtin "list.extend.loop" ⟨[.ref S, .ref J, res], []⟩)) _ _ _
  exact wpAny_bind (wpAny_rule (touch_feed W res hz inv hS hR))
/-- list.__init__ on a fresh Tags, from a generator -/
theorem init_gen (X : (Mine.mkK.heap_1 w.params).In s.heap) {d : Addr} (hS : s.heap.get? S = some (tagsNew d)) (hg : s.heap.IsGen J g) (hSJ : S ≠ J) (W : Feed prog w A J S n Inv End) (hz : n ≤ 1000) (inv : Inv 0 [] s)
    (hR : ∀ s' acc' c', End acc' s' → acc'.length = n → s'.heap.get? S = some (withSeq (tagsNew d) acc' c') → R (.ok (.ret .none)) s') :
    codeAny (model prog w) A (.call (.builtin "list.__init__") ⟨[.ref S, .ref J], []⟩) R s := by
  have t : TagsAt s.heap S [] := ⟨some d, _, _, hS⟩
  refine codeAny_call_builtin F.slot_list_init.plain F.entry_list_init (check_meth (n := "__init__") (.inl (by decide +kernel)) (by decide +kernel) (ts_isList X t) (F.args_list_init_2 _ _) ?_)
  show wpAny _ A.in1 (Builtin.List.listItems (.ref S) >>= _) _ _ s
  refine wpAny_bind (wpAny_bind (wpAny_seqItems hS rfl (wpAny_pure ?_)))
  refine wpAny_bind (wpAny_updateSeq (f := fun _ => #[]) hS rfl ?_)
  obtain ⟨c1, h1⟩ := seq_upd (o := tagsNew d) (f := fun _ => #[]) (vs := []) (vs' := []) hS rfl
  refine wpAny_bind (wpAny_letGo ?_)
  have hg' : ({ s with heap := s.heap.update S (Obj.mapSeq fun _ => #[]) } : Shared).heap.IsGen J g := by
    obtain ⟨og, n1, n2, ho, r⟩ := hg
    exact ⟨og, n1, n2, (Heap.get?_update_other _ _ hSJ).trans ho, r⟩
  exact lew_gen hg' hSJ W .none (pre := []) (by simpa using hz) (W.upd 0 [] s _ inv) h1 hR
end
end
section
def GR (g : Nat) (a b : Array GenState) : Prop := g = a.size ∧ g < b.size ∧ (∀ k : Nat, k < g → b[k]? = a[k]?) ∧ ∀ (k : Nat) (x : GenState), g < k → b[k]? = some x → x.bare = true
theorem GR.push (a : Array GenState) (x : GenState) : GR a.size a (a.push x) := by
  refine ⟨rfl, by simp, fun k h => ?_, fun k y h e => ?_⟩
  · rw [Array.getElem?_push]; simp [Nat.ne_of_lt h]
  · rw [Array.getElem?_eq_none (by simp; omega)] at e; cases e
theorem GR.set {g : Nat} {a b : Array GenState} (x : GR g a b) (z : GenState) : GR g a (b.setIfInBounds g z) := by
  obtain ⟨e, h1, h2, h3⟩ := x
  refine ⟨e, by simpa using h1, fun k h => ?_, fun k y h q => ?_⟩
  · rw [Array.getElem?_setIfInBounds_ne (by omega)]; exact h2 k h
  · rw [Array.getElem?_setIfInBounds_ne (by omega)] at q; exact h3 k y h q
theorem GR.grow {g : Nat} {a b c : Array GenState} (x : GR g a b) (y : GN b c) : GR g a c := by
  obtain ⟨e, h1, h2, h3⟩ := x
  refine ⟨e, Nat.lt_of_lt_of_le h1 y.1, fun k h => (y.2.1 k (by omega)).trans (h2 k h), fun k z h q => ?_⟩
  by_cases hb : k < b.size
  · rw [y.2.1 k hb] at q; exact h3 k z h q
  · exact y.2.2 k z (by omega) q
theorem GR.doneB {g : Nat} {a b : Array GenState} (x : GR g a b) {z : GenState} (hz : z.bare = true) : GN a (b.setIfInBounds g z) := by
  obtain ⟨e, h1, h2, h3⟩ := x
  subst e
  refine ⟨by simp; omega, fun k h => ?_, fun k y h q => ?_⟩
  · rw [Array.getElem?_setIfInBounds_ne (by omega)]; exact h2 k h
  · by_cases hk : k = a.size
    · subst hk
      rw [Array.getElem?_setIfInBounds_self_of_lt h1] at q
      rw [← Option.some.inj q]; exact hz
    · rw [Array.getElem?_setIfInBounds_ne (fun z => hk z.symm)] at q
      exact h3 k y (by omega) q
theorem GR.done {g : Nat} {a b : Array GenState} (x : GR g a b) : GN a (b.setIfInBounds g .finished) := x.doneB rfl
def NewTags (Z : List Addr) (h0 h : Heap) (acc : List Value) (rows : List (Value × Value)) : Prop := ∀ (i : Nat) (v : Value), acc[i]? = some v →
  ∃ x dx r, v = .ref x ∧ rows[i]? = some r ∧ h0.get? x = none ∧ h0.get? dx = none ∧ x ∉ Z ∧ dx ∉ Z ∧ h.get? x = some (tagObj dx r.1 r.2) ∧ h.get? dx = some (dictOf [] 0)
theorem NewTags.keep {Z W : List Addr} {h0 h h' : Heap} {acc : List Value} {rows : List (Value × Value)} (t : NewTags Z h0 h acc rows) (k : Keep W h h') (hs : ∀ z ∈ W, z ∈ Z) : NewTags Z h0 h' acc rows := fun i v e => by
  obtain ⟨x, dx, r, a, b, c, d, n1, n2, e1, e2⟩ := t i v e
  exact ⟨x, dx, r, a, b, c, d, n1, n2, k _ _ e1 fun q => n1 (hs _ q), k _ _ e2 fun q => n2 (hs _ q)⟩
theorem NewTags.snoc {Z : List Addr} {h0 h : Heap} {acc : List Value} {rows : List (Value × Value)} {x dx : Addr} {r : Value × Value} (t : NewTags Z h0 h acc rows) (b : rows[acc.length]? = some r) (c : h0.get? x = none) (d : h0.get? dx = none) (n1 : x ∉ Z) (n2 : dx ∉ Z)
    (e1 : h.get? x = some (tagObj dx r.1 r.2)) (e2 : h.get? dx = some (dictOf [] 0)) : NewTags Z h0 h (acc ++ [.ref x]) rows := fun i v e => by
  by_cases hi : i < acc.length
  · rw [List.getElem?_append_left hi] at e; exact t i v e
  · rw [List.getElem?_append_right (by omega)] at e
    have hi' : i = acc.length := by
      obtain ⟨q, _⟩ := List.getElem?_eq_some_iff.mp e
      simp at q; omega
    subst hi'
    simp at e
    exact ⟨x, dx, r, e.symm, b, c, d, n1, n2, e1, e2⟩
section
variable {w : World} {dp un : Nat} {l : List Env} {gd : Option (List Code)} {A₀ : Around} {base : Heap} {p : Program} {loose : List Str} {mean : ExcName → Option Value} {mg mb : Str → Option Value}
  {scope sc : Scope} {C I q L a bi P S G D : Addr} {code cd : Value} {nm : Str} {p1 p2 p3 p4 pa pb pt pos : Pos} {kt : Nat} {iter : Expr} {vs : List Value} {rows : List (Value × Value)} {s0 : Shared}
def dxInv (w : World) (A : Around) (rows : List (Value × Value)) (P C I q G S D n : Nat) (oP : Obj) (s0 : Shared) (i : Nat) (acc : List Value) (s : Shared) : Prop :=
  (∃ h tk gs, s = { s0 with heap := h, toks := tk, gens := gs }) ∧ (∃ gs, s.gens[s0.gens.size]? = some gs ∧ ∀ s'' : Shared, gxExt (hideAll s0.heap [P]) C I s s'' → gs.Goes (model PG w) A.in1 (fun m s₀ r s₁ => r = .ok .next ∧ (m = 0 ∧ GE [C, I] s₀ s₁)) (gxY n (gxTag rows (hideAll s0.heap [P]) C I q) (gxExt (hideAll s0.heap [P]) C I)) (n - i) (.send .none) s'') ∧
  s.heap.IsGen G s0.gens.size ∧ Keep [P] s0.heap s.heap ∧ s.heap.get? P = some oP ∧ GR s0.gens.size s0.gens s.gens ∧ NewTags [C, I, S] s0.heap s.heap acc rows ∧ acc.length = i ∧ gxInv (hideAll s0.heap [P]) C I q i s ∧ (∃ oS, s.heap.get? S = some oS) ∧ s.heap.get? D = some emptyDict
def dxEnd (rows : List (Value × Value)) (P C I S D : Nat) (oP : Obj) (s0 : Shared) (acc : List Value) (s : Shared) : Prop :=
  (∃ h tk gs, s = { s0 with heap := h, toks := tk, gens := gs }) ∧ Keep [P] s0.heap s.heap ∧ GN s0.gens s.gens ∧ NewTags [C, I, S] s0.heap s.heap acc rows ∧ s.heap.get? P = some oP ∧ s.heap.get? D = some emptyDict
/-- feeding a fresh Tags instance from the generator expression of XData.add -/
theorem feed_dxf (T : Top p loose mean mg mb (hideAll s0.heap [P])) (hI : s0.heap.get? I = none) (hC : s0.heap.get? C = none) (hG : s0.heap.get? G = none) (hS : s0.heap.get? S = none) (hP : ∃ oP, s0.heap.get? P = some oP) (hCI : C ≠ I) (hGC : G ≠ C) (hGI : G ≠ I) (hSC : S ≠ C) (hSI : S ≠ I) (hSG : S ≠ G) (hDS : D ≠ S) (hDC : D ≠ C) (hDI : D ≠ I) (hd : dp + 20 < recursionLimit) (n : Nat) (oP : Obj) :
  Feed PG w ⟨none, dp, some l, gd, un⟩ G S n (dxInv w (Around.in1 ⟨none, dp, some l, gd, un⟩) rows P C I q G S D n oP s0) (dxEnd rows P C I S D oP s0) where
  upd := fun i acc s f inv => by
    obtain ⟨⟨h, tk, gs0, rfl⟩, ⟨gs, e1, e2⟩, e3, e4, e5, e6, e7, e8, e9, ⟨oS, e10⟩, e11⟩ := inv
    have oth : ∀ b, b ≠ S → (h.update S (Obj.mapSeq f)).get? b = h.get? b := fun b nb => Heap.get?_update_other _ _ (Ne.symm nb)
    have hSP : P ≠ S := fun z => by obtain ⟨o, ho⟩ := hP; rw [z, hS] at ho; cases ho
    have hh0 : ∀ b o, (hideAll s0.heap [P]).get? b = some o → b ≠ S := fun b o e z => by have := of_hideAll _ e; rw [z, hS] at this; cases this
    refine ⟨⟨_, _, _, rfl⟩, ⟨gs, e1, fun s'' hx => e2 s'' fun b o hb e => hx b o hb ?_⟩, ?_, fun a o e n => ?_, (oth P hSP).trans e5, e6, ?_, e8, ?_, ?_⟩
    · refine (oth b fun z => ?_).trans e
      rcases hb (by
        cases q1 : (hideAll s0.heap [P]).get? b with
        | none => rfl
        | some o1 => exact absurd z (hh0 b o1 q1)) with z1 | z1
      · exact hSC (z.symm.trans z1)
      · exact hSI (z.symm.trans z1)
    · obtain ⟨og, n1, n2, ho, r⟩ := e3
      exact ⟨og, n1, n2, (oth G (Ne.symm hSG)).trans ho, r⟩
    · exact (oth a fun z => by rw [z, hS] at e; cases e).trans (e4 a o e n)
    · intro j v ej
      obtain ⟨x, dx, r, a1, a2, a3, a4, n1, n2, x1, x2⟩ := e7 j v ej
      exact ⟨x, dx, r, a1, a2, a3, a4, n1, n2, (oth x (by simp at n1; exact n1.2.2)).trans x1, (oth dx (by simp at n2; exact n2.2.2)).trans x2⟩
    · refine e9.ext fun b o hb e => ?_
      refine (oth b fun z => ?_).trans e
      rcases hb (by
        cases q1 : (hideAll s0.heap [P]).get? b with
        | none => rfl
        | some o1 => exact absurd z (hh0 b o1 q1)) with z1 | z1
      · exact hSC (z.symm.trans z1)
      · exact hSI (z.symm.trans z1)
    · have hf : (Obj.mapSeq f oS).isFreed = false := by
        have := (Heap.get?_some_iff.mp e10).2
        obtain ⟨c, d, dt, sl⟩ := oS
        cases dt <;> first | rfl | (simp [Obj.isFreed] at this) | exact this
      exact ⟨⟨_, Heap.get?_update_self _ e10 hf⟩, (oth D hDS).trans e11⟩
  item := fun i acc s Q E hi inv hQ => by
    obtain ⟨⟨h, tk, gs0, rfl⟩, ⟨gs, e1, e2⟩, e3, e4, e5, e6, e7, e8, e9, ⟨oS, e10⟩, e11⟩ := inv
    have hl : h.NoLimit := T.nolimit.keeps fun b o e => e4 b o (of_hideAll _ e) fun hm => by rw [hideAll_none _ hm] at e; cases e
    have W : GxAt PG w (Around.in1 ⟨none, dp, some l, gd, un⟩) G s0.gens.size n (gxTag rows (hideAll s0.heap [P]) C I q) (GE [C, I]) (gxExt (hideAll s0.heap [P]) C I) i ({ s0 with heap := h, toks := tk, gens := gs0 } : Shared) := ⟨e3, hl, gs, e1, e2⟩
    have nP : ∀ z, s0.heap.get? z = none → P ≠ z := fun z fz q1 => by obtain ⟨o, ho⟩ := hP; rw [q1, fz] at ho; cases ho
    refine gx_item rfl (by show dp < recursionLimit; omega) W hi (fun _ _ _ e => e) fun v s₁ gs' hb hm hgo => ?_
    obtain ⟨⟨h1, tk1, gs1, rfl, g1, k1⟩, inv1, x, dx, r, rfl, hrow, fx, fdx, hx, hdx⟩ := hm
    change Keep [C, I] h h1 at k1
    change h.get? x = none at fx
    change h.get? dx = none at fdx
    have frC : ∀ z, h.get? z = none → z ∉ ([C, I, S] : List Addr) ∧ s0.heap.get? z = none := fun z fz => by
      obtain ⟨⟨m9, F9⟩, it9⟩ := e9
      obtain ⟨oC, _, _, hoC, _⟩ := F9.ns
      obtain ⟨oI, hoI, _⟩ := it9
      refine ⟨fun hm => ?_, ?_⟩
      · simp at hm
        rcases hm with z1 | z1 | z1
        · rw [z1] at fz; change h.get? C = some oC at hoC; rw [hoC] at fz; cases fz
        · rw [z1] at fz; change h.get? I = some oI at hoI; rw [hoI] at fz; cases fz
        · rw [z1] at fz; change h.get? S = some oS at e10; rw [e10] at fz; cases fz
      · cases q1 : s0.heap.get? z with
        | none => rfl
        | some o =>
          by_cases zP : z = P
          · rw [zP] at fz; change h.get? P = some oP at e5; rw [e5] at fz; cases fz
          · have := e4 z o q1 (by simpa using zP)
            change h.get? z = some o at this
            rw [fz] at this; cases this
    have gsz : s0.gens.size < gs1.size := Nat.lt_of_lt_of_le (by simp [Shared.setGen]; exact e6.2.1) g1.1
    refine hQ _ _ ⟨⟨_, _, _, rfl⟩, ⟨gs', Array.getElem?_setIfInBounds_self_of_lt gsz, hgo⟩, ?_, ?_, k1 _ _ e5 (by simp; exact ⟨nP _ hC, nP _ hI⟩), ?_, ?_, by simp [e8], inv1, ⟨oS, k1 _ _ e10 (by simp; exact ⟨hSC, hSI⟩)⟩, k1 _ _ e11 (by simp; exact ⟨hDC, hDI⟩)⟩ ?_
    · obtain ⟨og, n1, n2, ho, rr⟩ := e3
      exact ⟨og, n1, n2, k1 _ _ ho (by simp; exact ⟨hGC, hGI⟩), rr⟩
    · exact fun a o e nn => k1 a o (e4 a o e nn) (by simp; exact ⟨(fun z => by rw [z, hC] at e; cases e), (fun z => by rw [z, hI] at e; cases e)⟩)
    · exact ((e6.set .running).grow g1).set gs'
    · have k2 : NewTags [C, I, S] s0.heap h1 acc rows := e7.keep k1 (by simp)
      exact k2.snoc (by rw [e8]; exact hrow) (frC x fx).2 (frC dx fdx).2 (frC x fx).1 (frC dx fdx).1 hx hdx
    · exact (k1 _ _ e10 (by simp; exact ⟨hSC, hSI⟩)).trans e10.symm
  done := fun acc s Q E inv hQ => by
    obtain ⟨⟨h, tk, gs0, rfl⟩, ⟨gs, e1, e2⟩, e3, e4, e5, e6, e7, e8, e9, ⟨oS, e10⟩, e11⟩ := inv
    have hl : h.NoLimit := T.nolimit.keeps fun b o e => e4 b o (of_hideAll _ e) fun hm => by rw [hideAll_none _ hm] at e; cases e
    have W : GxAt PG w (Around.in1 ⟨none, dp, some l, gd, un⟩) G s0.gens.size n (gxTag rows (hideAll s0.heap [P]) C I q) (GE [C, I]) (gxExt (hideAll s0.heap [P]) C I) n ({ s0 with heap := h, toks := tk, gens := gs0 } : Shared) := ⟨e3, hl, gs, e1, e2⟩
    have nP : ∀ z, s0.heap.get? z = none → P ≠ z := fun z fz q1 => by obtain ⟨o, ho⟩ := hP; rw [q1, fz] at ho; cases ho
    refine gx_done (fun s b o _ e => e) rfl (by show dp < recursionLimit; omega) W (fun _ _ _ e => e) fun s₁ hf h' k' => ?_
    obtain ⟨h1, tk1, gs1, rfl, g1, k1⟩ := hf
    change Keep [C, I] h h1 at k1
    have k2 : Keep [C, I] h h' := fun a o e nn => k' a o (k1 a o e nn)
    refine hQ _ ⟨⟨_, _, _, rfl⟩, fun a o e nn => k2 a o (e4 a o e nn) (by simp; exact ⟨(fun z => by rw [z, hC] at e; cases e), (fun z => by rw [z, hI] at e; cases e)⟩), ((e6.set .running).grow g1).done, e7.keep k2 (by simp), k2 _ _ e5 (by simp; exact ⟨nP _ hC, nP _ hI⟩), k2 _ _ e11 (by simp; exact ⟨hDC, hDI⟩)⟩ ?_
    exact (k2 _ _ e10 (by simp; exact ⟨hSC, hSI⟩)).trans e10.symm
end
end
section
section
variable {w : World} {dp un : Nat} {outer : List Env} {gd : Option (List Code)} {A₀ : Around} {base h₀ : Heap} {p : Program} {loose : List Str} {mean : ExcName → Option Value} {mg mb : Str → Option Value} {m : Str → Option Value} {E Q : Value → Shared → Prop}
  {scope sc : Scope} {q L a P G c : Addr} {nm : Str} {p1 p2 p3 p4 pa pb pt pos : Pos} {kt : Nat} {iter : Expr} {vs : List Value} {rows : List (Value × Value)} {s0 s1 : Shared} {ps : Array Value}
theorem call_units (G : Addr) : (Code.builtin "type.__call__" ⟨[.ref 335, .ref G], []⟩).cUnits ≤ 8 := by
  simp [Code.cUnits, Code.frames, Code.isFrame]
/-- Tags(genexpr) of XData.add, from the made generator -/
theorem tags_dxf (hsc : scope.kind = .function) (hc1 : scope.names.lookup (Str.ofString "code") = some .local) (hc2 : scope.names.lookup (Str.ofString "value") = some .local) (hc3 : scope.names.lookup (Str.ofString "dxftag") = some .globalImplicit) (hco : scope.isCoroutine = false)
  (B : Below A₀ base outer h₀) (F : Fr h₀ L s0.heap m) (X : (Mine.mkK.heap_1 w.params).In h₀) (T : Top p loose mean mg mb h₀) (hk : sc.kind = .function) (hPn : h₀.get? P = none) (hPL : P ≠ L) (hcode : IsCT s0.heap c P ps)
  (hq : SeqAt s0.heap q vs) (hqP : q ≠ P) (hl : vs.length = rows.length) (hlen : rows.length ≤ 1000)
  (hr : ∀ (i : Nat) v r, vs[i]? = some v → rows[i]? = some r → handedIn r.1 = true ∧ handedIn r.2 = true ∧ ∃ b, v = .ref b ∧ RowIn (hideAll s0.heap [P]) b r.1 r.2) (hd : dp + 30 < recursionLimit) (hu : un + 150 < cLine)
  (W : GxMade s0 P c q (.Call (.Name (Str.ofString "dxftag") p1) [.Name (Str.ofString "code") p2, .Name (Str.ofString "value") p3] [] p4) (.Tuple [.Name (Str.ofString "code") pa, .Name (Str.ofString "value") pb] kt pt) iter scope pos (envOf nm sc L a (.ref c)) G s1)
  (hret : ∀ S d acc cc h' tk' gs' ps', Keep [P] s0.heap h' → IsCT h' c P ps' → GN s0.gens gs' → s0.heap.get? S = none → s0.heap.get? d = none → h'.get? S = some (withSeq (tagsNew d) acc cc) → h'.get? d = some emptyDict → acc.length = rows.length → NewTags [] s0.heap h' acc rows → Q (.ref S) { s0 with heap := h', toks := tk', gens := gs' }) :
  wpAny (model PG w) ⟨none, dp, some (envOf nm sc L a (.ref c) :: outer), gd, un⟩ (call (.ref 335) [.ref G]) Q E s1 := by
  obtain ⟨C, I, code, bi, h1, tk1, ps1, rfl, k1, hcode1, hgen, hG, hC, hI, hCI, hGC, hGI, ⟨m', F'⟩, hit⟩ := W
  obtain ⟨op, hop⟩ : ∃ op, s0.heap.get? P = some op := ⟨_, hcode.get⟩
  obtain ⟨op1, hop1⟩ : ∃ op, h1.get? P = some op := ⟨_, hcode1.get⟩
  have NP : News h₀ L s0.heap [(P, op)] := fun z hz => by rw [List.mem_singleton.mp hz]; exact ⟨hop, hPL, hPn⟩
  obtain ⟨_, B2, st, _⟩ := groundX (A := ⟨none, dp, some (envOf nm sc L a (.ref c) :: outer), gd, un⟩) (R := fun _ _ => True) B F NP rfl rfl hk
  have X2 := X.keeps st
  have T2 := T.keeps st
  have Y : TagsCls (model PG w) h1 := tags_cls (X2.keeps F'.keep)
  refine wpAny_call (make_tags Y (ln_args1 _) ?_)
  have kp : ∀ b o, h1.get? b = some o → ((h1.push emptyDict).push (tagsNew h1.objs.size)).get? b = some o := fun b o e => Heap.get?_push_of_some _ (Heap.get?_push_of_some _ e)
  have hS : ((h1.push emptyDict).push (tagsNew h1.objs.size)).get? (h1.objs.size + 1) = some (tagsNew h1.objs.size) := by heap_get
  have fr : ∀ z, h1.objs.size ≤ z → s0.heap.get? z = none := fun z hz => by
    cases q1 : s0.heap.get? z with
    | none => rfl
    | some o =>
      by_cases zP : z = P
      · rw [zP] at hz; exact absurd (Heap.lt_size hop1) (Nat.not_lt.mpr hz)
      · exact absurd (Heap.lt_size (k1 z o q1 (by simpa using zP))) (Nat.not_lt.mpr hz)
  have lt1 : ∀ z o, h1.get? z = some o → h1.objs.size + 1 ≠ z := fun z o e q1 => by
    have q2 := Heap.lt_size e
    rw [← q1] at q2
    exact absurd (Nat.lt_of_succ_lt q2) (Nat.lt_irrefl _)
  have lt0 : ∀ z o, h1.get? z = some o → h1.objs.size ≠ z := fun z o e q1 => Nat.lt_irrefl _ (q1 ▸ Heap.lt_size e)
  obtain ⟨oC, _, _, hoC, _⟩ := id F'.ns
  obtain ⟨oI, hoI, _⟩ := id hit
  obtain ⟨oG, _, _, hoG, _⟩ := id hgen
  have hn : vs.length ≤ 1000 := by omega
  have inv2 : gxInv (hideAll s0.heap [P]) C I q 0 ({ s0 with heap := (h1.push emptyDict).push (tagsNew h1.objs.size), toks := tk1, gens := s0.gens.push (.fresh (.compStart (gxE (.Call (.Name (Str.ofString "dxftag") p1) [.Name (Str.ofString "code") p2, .Name (Str.ofString "value") p3] [] p4) (.Tuple [.Name (Str.ofString "code") pa, .Name (Str.ofString "value") pb] kt pt) iter scope pos) 0 (.ref I) .none (genEnv scope [] C code bi (envOf nm sc L a (.ref c))))) } : Shared) :=
    ⟨⟨m', (F'.push _).push _⟩, hit.at fun o e => kp _ o e⟩
  have hq2 : SeqAt (hideAll s0.heap [P]) q vs := let ⟨o, n, e1, e2⟩ := hq.at_; ⟨o, n, hideAll_get _ e1 (by simpa using hqP), e2⟩
  have nI : (hideAll s0.heap [P]).get? I = none := by
    cases q1 : (hideAll s0.heap [P]).get? I with
    | none => rfl
    | some o => have := of_hideAll _ q1; rw [hI] at this; cases this
  refine init_gen (n := vs.length) (Inv := dxInv w _ rows P C I q G (h1.objs.size + 1) h1.objs.size vs.length op1 s0) (End := dxEnd rows P C I (h1.objs.size + 1) h1.objs.size op1 s0) (X2.keeps inv2.1.choose_spec.keep) hS (Heap.IsGen.keeps hgen kp) (lt1 G oG hoG)
    (feed_dxf (l := envOf nm sc L a (.ref c) :: outer) T2 hI hC hG (fr _ (by omega)) ⟨op, hop⟩ hCI hGC hGI (lt1 C oC hoC) (lt1 I oI hoI) (lt1 G oG hoG) (Nat.ne_of_lt (Nat.lt_succ_self h1.objs.size)) (lt0 C oC hoC) (lt0 I oI hoI) ?_ vs.length op1) hn ?_ ?_
  · show dp + 1 + 20 < recursionLimit
    omega
  · refine ⟨⟨_, _, _, rfl⟩, ⟨.fresh _, Array.getElem?_push_size .., fun s'' hx => ⟨rfl, seg_gx0 hco (gx_dxf hsc hc1 hc2 hc3 B2 X2 T2 hq2 hl hr nI hCI ?_ ?_) s'' (inv2.ext hx) (inv2.ext hx).2⟩⟩, Heap.IsGen.keeps hgen kp, fun a o e n => kp a o (k1 a o e n), kp _ _ hop1, GR.push _ _, fun i v e => by simp at e, rfl, inv2, ⟨_, hS⟩, by heap_get⟩
    · show dp + 1 + 20 < recursionLimit
      omega
    · show (un + (Code.builtin "type.__call__" ⟨[.ref 335, .ref G], []⟩).cUnits) + 1 + 120 < cLine
      have := call_units G
      omega
  · rintro s' acc cc ⟨⟨h3, tk3, gs3, rfl⟩, k3, g3, n3, hP3, hD3⟩ hacc hS3
    refine ⟨rfl, hret _ h1.objs.size acc cc h3 tk3 gs3 ps1 k3 ?_ g3 (fr _ (by omega)) (fr _ (Nat.le_refl _)) hS3 hD3 (hacc.trans hl) fun i v e => ?_⟩
    · obtain ⟨o', _, b1, _, a11⟩ := hcode.at_
      refine hcode1.move (fun o e => ?_) fun o e => ?_
      · rw [k1 c o' b1 (by simpa using a11)] at e
        cases e
        exact k3 c _ b1 (by simpa using a11)
      · rw [hop1] at e
        cases e
        exact hP3
    · obtain ⟨x, dx, r, z1, z2, z3, z4, _, _, z5, z6⟩ := n3 i v e
      exact ⟨x, dx, r, z1, z2, z3, z4, by simp, by simp, z5, z6⟩
end
end
section
/-- an instance of Tags with its (empty) dict -/
structure TagsD (h : Heap) (x d : Addr) (vs : List Value) : Prop where
  at_ : ∃ n, h.get? x = some (withSeq (tagsNew d) vs n) ∧ h.get? d = some emptyDict
theorem TagsD.keeps {h h' : Heap} {x d : Addr} {vs : List Value} (t : TagsD h x d vs) (k : ∀ b o, h.get? b = some o → h'.get? b = some o) : TagsD h' x d vs := let ⟨n, a, b⟩ := t.at_; ⟨n, k _ _ a, k _ _ b⟩
theorem TagsD.tags {h : Heap} {x d : Addr} {vs : List Value} (t : TagsD h x d vs) : TagsAt h x vs := let ⟨n, a, _⟩ := t.at_; ⟨some d, n, _, a⟩
theorem TagsD.upd {h : Heap} {x d : Addr} {vs vs' : List Value} {f : Array Value → Array Value} (t : TagsD h x d vs) (e : f vs.toArray = vs'.toArray) : TagsD (h.update x (Obj.mapSeq f)) x d vs' := by
  obtain ⟨n, a, b⟩ := t.at_
  obtain ⟨c', hc⟩ := seq_upd a e
  refine ⟨c', hc, (Heap.get?_update_other _ _ fun z => ?_).trans b⟩
  rw [← z, a] at b; cases b
theorem keep_upd {h : Heap} {x : Addr} {g : Obj → Obj} : Keep [x] h (h.update x g) := fun b o e n => (Heap.get?_update_other _ _ (fun z => n (by simp [z]))).trans e
section
variable {prog : Program} {w : World} {A : Around} {E : Value → Shared → Prop} {s : Shared} {x d : Addr} {vs : List Value}
theorem ts_method {name : Str} {id : String} {pl : Sem Bool} {Q : Value × List Value → Shared → Prop} (X : (Mine.mkK.heap_1 w.params).In s.heap) (t : TagsD s.heap x d vs) (hf : findIn (Mine.mkK.heap_1 w.params) (.ref 335) name = some (some (.builtin id)))
    (ht : ∀ M, Looks M s.heap (typeOf (.builtin id)) (.type "method_descriptor")) (h : Q (.builtin id, [.ref x]) s) : wpAny (model prog w) A (getMethod (.ref x) name pl) Q E s := by
  have ty : Looks (model prog w) s.heap (typeOf (.ref x)) (.ref 335) := t.tags.type
  have hga : findIn (Mine.mkK.heap_1 w.params) (.ref 335) "__getattribute__" = some (some (.builtin "list.__getattribute__")) := by k_is
  have hk : findIn (Mine.mkK.heap_1 w.params) (.ref 335) "__getattr__" = some none := by k_is
  obtain ⟨n, a, b⟩ := t.at_
  have hcan := canon_list_getattribute
  unfold getMethod specialOf
  refine wpAny_bind (wpAny_bind (ty.here ((looks_findIn X hga).here ?_)))
  dsimp only
  rw [hcan, if_neg (by decide)]
  refine wpAny_bind (wpAny_bind (ty.here ((looks_findIn X hk).here ?_)))
  refine wpAny_bind (wpAny_bind (ty.here ((looks_findIn X hf).here (wpAny_bind ((ht _).here ?_)))))
  rw [if_neg (by decide +kernel)]
  refine wpAny_bind (wpAny_loadPart a ?_)
  refine wpAny_bind (wpAny_bind (wpAny_loadPart b ?_))
  rw [nsLook_of (show lookIn name emptyDict = some none from rfl)]
  refine wpAny_pure ?_
  exact wpAny_bind (wpAny_rule (wpAny_pure h))
theorem ts_append {v : Value} {Q : Value → Shared → Prop} (X : (Mine.mkK.heap_1 w.params).In s.heap) (t : TagsD s.heap x d vs) (hz : vs.length ≤ 1000) (h : ∀ h', Keep [x] s.heap h' → TagsD h' x d (vs ++ [v]) → Q .none { s with heap := h' }) :
    wpAny (model prog w) A (call (.builtin "list.append") [.ref x, v]) Q E s := by
  refine ts_call (n := "append") X t.tags (.inr (by decide +kernel)) (by decide +kernel) slot_list_append.plain entry_list_append (args_list_append _ _) ?_
  obtain ⟨n, a, b⟩ := t.at_
  show wpAny _ _ (updateSeq x (·.push v) >>= _) _ _ s
  have hl := sizeLine_eq
  exact wpAny_bind (wpAny_updateSeq a rfl (wpAny_pure ⟨_, rfl, h _ keep_upd (t.upd (by simp))⟩) (by simp [withSeq]; omega) (by simp [withSeq]; omega))
theorem ts_insert0 {v : Value} {u : Tok} {Q : Value → Shared → Prop} (X : (Mine.mkK.heap_1 w.params).In s.heap) (t : TagsD s.heap x d vs) (hz : vs.length ≤ 1000) (h : ∀ h', Keep [x] s.heap h' → TagsD h' x d (v :: vs) → Q .none { s with heap := h' }) :
    wpAny (model prog w) A (call (.builtin "list.insert") [.ref x, .int 0 u, v]) Q E s := by
  refine ts_call (n := "insert") X t.tags (.inr (by decide +kernel)) (by decide +kernel) F.slot_list_insert.plain F.entry_list_insert (F.args_list_insert_3 _ _ _) ?_
  obtain ⟨n, a, b⟩ := t.at_
  have hl := sizeLine_eq
  have hz1 : vs.toArray.size ≤ sizeLine := by simp; omega
  have hz' : ((fun xs : Array Value => have k := if (0 : Int) < 0 then ((0 : Int) + (xs.size : Int)).toNat else min (0 : Int).toNat xs.size; (xs.extract 0 k).push v ++ xs.extract k) vs.toArray).size ≤ sizeLine + 1 := by simp; omega
  have hc0 : ¬(!Builtin.List.listFitsIndex 0) = true := by decide
  wp_walk using (wpAny_updateSeq a rfl (hz := hz1) (_hz' := hz'))
  exact ⟨_, rfl, h _ keep_upd (t.upd (by simp))⟩
theorem ts_extend {q : Addr} {us : List Value} {Q : Value → Shared → Prop} (X : (Mine.mkK.heap_1 w.params).In s.heap) (t : TagsD s.heap x d vs) (hq : s.heap.IsList q us.toArray) (hz : vs.length + us.length ≤ 1000) (h : ∀ h', Keep [x] s.heap h' → TagsD h' x d (vs ++ us) → Q .none { s with heap := h' }) :
    wpAny (model prog w) A (call (.builtin "list.extend") [.ref x, .ref q]) Q E s := by
  refine ts_call (n := "extend") X t.tags (.inr (by decide +kernel)) (by decide +kernel) F.slot_list_extend.plain F.entry_list_extend (F.args_list_extend_2 _ _) ?_
  obtain ⟨n, a, b⟩ := t.at_
  obtain ⟨oq, hoq, hcq, nq, hdq⟩ := id hq
  have hl := sizeLine_eq
  show wpAny _ _ (Builtin.List.listExtendWith (.ref x) (.ref q) .none) _ _ s
  unfold Builtin.List.listExtendWith
  refine wpAny_bind (wpAny_typeOf hq.typeIs ?_)
  rw [if_pos (by simp)]
  refine wpAny_bind (wpAny_bind (wpAny_seqItems hoq hdq (wpAny_pure ?_)))
  refine wpAny_bind (wpAny_bind (wpAny_seqItems a rfl (wpAny_pure ?_)))
  rw [if_neg (by simp [Builtin.List.listTooLong]; omega)]
  exact wpAny_bind (wpAny_updateSeq a rfl (wpAny_bind (wpAny_pure (wpAny_pure ⟨_, rfl, h _ keep_upd (t.upd (by simp))⟩))) (by simp; omega) (by simp; omega))
end
end
section
theorem del_run {α : Type} (sel : Nat → Bool) {a b : Nat} (hab : a ≤ b) (hs : ∀ k, sel k = decide (a ≤ k ∧ k < b)) : ∀ (xs : List α) (m : Nat), (xs.zipIdx m).filterMap (fun p => if sel p.2 then none else some p.1) = xs.take (a - m) ++ xs.drop (b - m)
  | [], m => by simp
  | x :: xs, m => by
    have ih := del_run sel hab hs xs (m + 1)
    rw [List.zipIdx_cons, List.filterMap_cons]
    dsimp only
    rw [hs m, ih]
    by_cases h1 : m < a
    · have e1 : a - m = (a - (m + 1)) + 1 := by omega
      have e2 : b - m = (b - (m + 1)) + 1 := by omega
      rw [if_neg (by simp; omega), e1, e2]
      simp
    · by_cases h2 : m < b
      · have e1 : a - m = 0 := by omega
        have e3 : a - (m + 1) = 0 := by omega
        have e2 : b - m = (b - (m + 1)) + 1 := by omega
        rw [if_pos (by simp; omega), e1, e2, e3]
        simp
      · have e1 : a - m = 0 := by omega
        have e3 : a - (m + 1) = 0 := by omega
        have e2 : b - m = 0 := by omega
        have e4 : b - (m + 1) = 0 := by omega
        rw [if_neg (by simp; omega), e1, e2, e3, e4]
        simp
section
variable {M : Model} {A : Around} {E : Value → Shared → Prop} {s : Shared} {sl : Addr} {vl vu : Value} {lo hi : Option Int}
theorem sl_head {Q : Option Int → Shared → Prop} (hs : s.heap.IsSliceOf sl vl vu .none) (h : Q none s) : wpAny M A (Builtin.List.listSubscript? (.ref sl)) Q E s := by
  obtain ⟨os, hos, hcs, hds⟩ := id hs
  have hTs : s.TypeIs (.ref sl) "slice" := ⟨os, hos, hcs⟩
  unfold Builtin.List.listSubscript?
  refine wpAny_bind (wpAny_specialOf hTs slice_no_index ?_)
  simp only [Option.isNone_none, if_true]
  exact wpAny_pure h
theorem sl_parts {Q : Value × Value × Value → Shared → Prop} (hs : s.heap.IsSliceOf sl vl vu .none) (pl : IsPart vl lo) (pu : IsPart vu hi) (h : Q (rawPart lo, rawPart hi, rawPart none) s) : wpAny M A (Builtin.List.listSliceParts (.ref sl)) Q E s := by
  obtain ⟨os, hos, hcs, hds⟩ := id hs
  rw [listSliceParts_eq]
  refine wpAny_bind (wpAny_field hos hds (x := .none) rfl (wpAny_bind (wpAny_listPart .none ?_)))
  rw [if_neg (show ¬ ((rawPart none == rawInt 0) = true) from Bool.false_ne_true)]
  refine wpAny_bind (wpAny_field hos hds (x := vl) rfl (wpAny_bind (wpAny_listPart pl ?_)))
  exact wpAny_bind (wpAny_field hos hds (x := vu) rfl (wpAny_bind (wpAny_listPart pu (wpAny_pure h))))
end
theorem sl_type {s : Shared} {sl : Addr} {vl vu vs : Value} (hs : s.heap.IsSliceOf sl vl vu vs) : s.TypeIs (.ref sl) "slice" := let ⟨os, hos, hcs, _⟩ := hs; ⟨os, hos, hcs⟩
theorem bounds_run {a b n : Nat} (ha : a ≤ b) (hb : b ≤ n) : sliceBounds (some (a : Int)) (some (b : Int)) none n = ((a : Int), (b : Int), 1) := by
  simp only [sliceBounds, Option.getD_none, show (1 : Int) > 0 by decide, if_true, if_neg (show ¬ ((a : Int) < 0) by omega), if_neg (show ¬ ((b : Int) < 0) by omega)]
  congr 1
  · omega
  · congr 1
    omega
section
variable {prog : Program} {w : World} {A : Around} {E : Value → Shared → Prop} {s : Shared} {x d sl : Addr} {vs : List Value} {a b : Nat} {ta tb : Tok}
theorem ts_getslice {Q : Value → Shared → Prop} (X : (Mine.mkK.heap_1 w.params).In s.heap) (t : TagsAt s.heap x vs) (hs : s.heap.IsSliceOf sl (.int a ta) (.int b tb) .none) (ha : a ≤ b) (hb : b ≤ vs.length) (hz : vs.length ≤ 1000)
    (h : Q (.ref s.heap.objs.size) { s with heap := s.heap.push { cls := .type "list", data := .seq ((vs.drop a).take (b - a)).toArray } }) :
    wpAny (model prog w) A (getItem (.ref x) (.ref sl)) Q E s := by
  obtain ⟨dd, nn, sll, ho⟩ := t.at_
  have hl := sizeLine_eq
  unfold getItem
  refine wpAny_holding (wpAny_bind (ts_key X t (wpAny_bind ?_)))
  refine ts_special X t (tags_getitem w) slot_list_getitem.bind (ts_call (n := "__getitem__") X t (.inr (by decide +kernel)) (by decide +kernel) slot_list_getitem.plain entry_list_getitem (args_list_getitem _ _) ?_)
  show wpAny _ _ (Builtin.List.listSubscript? (.ref sl) >>= _) _ _ s
  refine wpAny_bind (sl_head hs ?_)
  show wpAny _ _ (typeOf (.ref sl) >>= _) _ _ s
  refine wpAny_bind (wpAny_typeOf (sl_type hs) ?_)
  rw [if_neg (by decide)]
  refine wpAny_bind (sl_parts hs (.int _ _) (.int _ _) ?_)
  refine wpAny_bind (m := Builtin.List.listItems (.ref x)) ?_
  unfold Builtin.List.listItems
  refine wpAny_bind (wpAny_seqItems ho rfl (wpAny_pure ?_))
  refine wpAny_bind (wpAny_of_eq (sliceIndices_raw _ _ _ vs.toArray.size (by simp)) ?_)
  rw [bounds_run ha (by simpa using hb)]
  dsimp only
  rw [sliceRange_one, pick_run]
  refine wpAny_bind (wpAny_newObj_type (wpAny_pure ⟨_, rfl, wpAny_pure h⟩) ?_)
  have h5 : ((vs.drop a).take (b - a)).toArray.size ≤ vs.length := by simp; omega
  exact Nat.le_trans h5 (by omega)
theorem ts_delslice {Q : Unit → Shared → Prop} (X : (Mine.mkK.heap_1 w.params).In s.heap) (t : TagsD s.heap x d vs) (hs : s.heap.IsSliceOf sl (.int a ta) (.int b tb) .none) (ha : a ≤ b) (hb : b ≤ vs.length) (hz : vs.length ≤ 1000)
    (h : ∀ h', Keep [x] s.heap h' → TagsD h' x d (vs.take a ++ vs.drop b) → Q () { s with heap := h' }) :
    wpAny (model prog w) A (delItem (.ref x) (.ref sl)) Q E s := by
  obtain ⟨nn, ho, hd⟩ := id t.at_
  have hl := sizeLine_eq
  unfold delItem
  refine wpAny_holding (wpAny_bind (ts_key X t.tags (wpAny_bind ?_)))
  refine ts_special X t.tags (tags_delitem w) F.slot_list_delitem.bind (ts_call (n := "__delitem__") X t.tags (.inl (by decide +kernel)) (by decide +kernel) F.slot_list_delitem.plain F.entry_list_delitem (F.args_list_delitem_2 _ _) ?_)
  show wpAny _ _ (Builtin.List.listSubscript? (.ref sl) >>= _) _ _ s
  refine wpAny_bind (sl_head hs ?_)
  show wpAny _ _ (typeOf (.ref sl) >>= _) _ _ s
  refine wpAny_bind (wpAny_typeOf (sl_type hs) ?_)
  rw [if_neg (by decide)]
  refine wpAny_bind (sl_parts hs (.int _ _) (.int _ _) ?_)
  refine wpAny_bind (m := Builtin.List.listItems (.ref x)) ?_
  unfold Builtin.List.listItems
  refine wpAny_bind (wpAny_seqItems ho rfl (wpAny_pure ?_))
  refine wpAny_bind (wpAny_of_eq (sliceIndices_raw _ _ _ vs.toArray.size (by simp)) ?_)
  rw [bounds_run ha (by simpa using hb)]
  dsimp only
  refine wpAny_bind (wpAny_rule ?_)
  refine wpAny_bind (wpAny_updateSeq ho rfl ?_ (by simp; omega) ?_)
  · refine wpAny_bind (wpAny_letGo (wpAny_pure ⟨_, rfl, wpAny_pure ?_⟩))
    refine h _ keep_upd (t.upd ?_)
    dsimp only
    rw [← Nat.sub_zero a, ← Nat.sub_zero b, ← del_run _ ha ?_ vs 0]
    intro k
    show (if (1 : Int) > 0 then decide (((a - 0 : Nat) : Int) ≤ (k : Int)) && decide ((k : Int) < ((b - 0 : Nat) : Int)) && (((k : Int) - ((a - 0 : Nat) : Int)) % 1 == 0) else _) = _
    rw [if_pos (by decide), Int.emod_one, Nat.sub_zero, Nat.sub_zero]
    simp only [Int.ofNat_le, Int.ofNat_lt, beq_self_eq_true, Bool.and_true]
    simp only [Bool.decide_and]
  · refine Nat.le_trans (m := vs.length) ?_ (by omega)
    rw [List.size_toArray]
    exact Nat.le_trans (List.length_filterMap_le _ _) (by simp)
end
end
section
section
variable {prog : Program} {w : World} {A : Around} {E : Value → Shared → Prop} {R : Result → Shared → Prop} {I S q : Addr} {o : Obj} {pre vs : List Value} {s : Shared} {c : Nat}
def itInv (S I q : Addr) (vs : List Value) (s0 : Shared) (i : Nat) (acc : List Value) (s : Shared) : Prop :=
  (∃ h tk, s = { s0 with heap := h, toks := tk }) ∧ Keep [S] s0.heap s.heap ∧ s.heap.IsListIter I q i ∧ acc = vs.take i ∧ ∃ oS, s.heap.get? S = some oS
def itEnd (S : Addr) (vs : List Value) (s0 : Shared) (acc : List Value) (s : Shared) : Prop :=
  (∃ h tk, s = { s0 with heap := h, toks := tk }) ∧ Keep [S] s0.heap s.heap ∧ acc = vs
theorem feed_it (hh : A.handled = none) {s0 : Shared} (hq : SeqAt s0.heap q vs) (hqS : q ≠ S) (hI : s0.heap.get? I = none) (hIS : I ≠ S) :
    Feed prog w A I S vs.length (itInv S I q vs s0) (itEnd S vs s0) where
  upd := fun i acc s f inv => by
    obtain ⟨⟨h, tk, rfl⟩, k, it, e, oS, e10⟩ := inv
    have oth : ∀ b, b ≠ S → (h.update S (Obj.mapSeq f)).get? b = h.get? b := fun b nb => Heap.get?_update_other _ _ (Ne.symm nb)
    refine ⟨⟨_, _, rfl⟩, fun a o e n => (oth a (by simpa using n)).trans (k a o e n), ?_, e, ?_⟩
    · obtain ⟨oi, hoi, r⟩ := it
      exact ⟨oi, (oth I hIS).trans hoi, r⟩
    · have hf : (Obj.mapSeq f oS).isFreed = false := by
        have := (Heap.get?_some_iff.mp e10).2
        obtain ⟨c, d, dt, sl⟩ := oS
        cases dt <;> first | rfl | (simp [Obj.isFreed] at this) | exact this
      exact ⟨_, Heap.get?_update_self _ e10 hf⟩
  item := fun i acc s Q E hi inv hQ => by
    obtain ⟨⟨h, tk, rfl⟩, k, it, e, oS, e10⟩ := inv
    have hq' : SeqAt h q vs := let ⟨o, n, a, b⟩ := hq.at_; ⟨o, n, k _ _ a (by simpa using hqS), b⟩
    obtain ⟨x, hx⟩ : ∃ x, vs[i]? = some x := ⟨vs[i], by simp [hi]⟩
    refine next_item it hq' hx fun h' it' sb => ?_
    refine hQ _ _ ⟨⟨_, _, rfl⟩, fun a o e n => (sb.2 a fun z => by rw [z, hI] at e; cases e).trans (k a o e n), it', ?_, oS, (sb.2 S (Ne.symm hIS)).trans e10⟩ (sb.2 S (Ne.symm hIS))
    rw [e, List.take_add_one, hx]; rfl
  done := fun acc s Q E inv hQ => by
    obtain ⟨⟨h, tk, rfl⟩, k, it, e, oS, e10⟩ := inv
    have hq' : SeqAt h q vs := let ⟨o, n, a, b⟩ := hq.at_; ⟨o, n, k _ _ a (by simpa using hqS), b⟩
    refine next_end hh it hq' (by simp) fun h' eb => ?_
    refine hQ _ ⟨⟨_, _, rfl⟩, fun a o e n => eb a o (fun z => by rw [z, hI] at e; cases e) (k a o e n), by rw [e, List.take_length]⟩ ?_
    exact (eb S oS (Ne.symm hIS) e10).trans e10.symm
theorem lew_tags (hh : A.handled = none) (X : (Mine.mkK.heap_1 w.params).In s.heap) (t : TagsAt s.heap q vs) (h0 : 0 < vs.length) (hqS : q ≠ S) (hS : s.heap.get? S = some (withSeq o pre c)) (hz : pre.length + vs.length ≤ 1000) (res : Value)
    (hR : ∀ h' tk' c', Keep [S] s.heap h' → h'.get? S = some (withSeq o (pre ++ vs) c') → R (.ok (.ret res)) { s with heap := h', toks := tk' }) :
    wpAny (model prog w) A.in1 (Builtin.List.listExtendWith (.ref S) (.ref q) res)
      (fun fin s' => match fin with | .done f => R (.ok f) s' | .again c' => c'.quiet = true ∧ codeAny (model prog w) A c' R s') (fun e s' => R (.error e) s') s := by
  unfold Builtin.List.listExtendWith
  refine wpAny_bind (t.type.here ?_)
  have h1 : Builtin.List.listSameRef (.ref S) (.ref q) = false := by simp [Builtin.List.listSameRef, Ne.symm hqS]
  have h2 : (Value.ref 335 == Value.type "list") = false := by decide
  have h3 : (Value.ref 335 == Value.type "tuple") = false := by decide
  simp only [h1, h2, h3, Bool.or_false, Bool.false_eq_true, if_false]
  refine wpAny_bind (ts_iter X t ?_)
  have kp : ∀ b o, s.heap.get? b = some o → (s.heap.push { cls := .type "list_iterator", data := .fields #[.ref q, .int 0 0] }).get? b = some o := fun b o e => Heap.get?_push_of_some _ e
  have X1 := X.keeps kp
  have t1 := t.keeps kp
  refine wpAny_bind (wpAny_holding ?_)
  unfold Builtin.List.listLengthHint
  have Ll : Looks (model prog w) (s.heap.push { cls := .type "list_iterator", data := .fields #[.ref q, .int 0 0] }) (specialOf (.ref q) "__len__") (some (.builtin "list.__len__")) := t1.type.andThen (looks_findIn X1 (tags_len w))
  refine wpAny_bind (Ll.here ?_)
  have hsp : splitId "list.__len__" = some ("list", "__len__") := by decide +kernel
  simp only [hsp]
  refine wpAny_bind ((ts_isList X1 t1).here ?_)
  simp only [Bool.not_true, Bool.false_eq_true, if_false]
  rw [if_pos (by decide +kernel)]
  refine wpAny_bind (t1.type.here ?_)
  refine wpAny_bind (ts_len X1 t1 vs.length rfl (by omega) ?_)
  refine wpAny_bind (wpAny_of_eq (a := some (vs.length : Int)) rfl ?_)
  refine wpAny_pure ?_
  have hv : ((vs.length : Int) != 0) = true := by simp; intro z; rw [z] at h0; simp at h0
  simp only [hv, Bool.true_or, if_true]
  refine wpAny_bind (wpAny_rule ?_)
  have hS1 := kp _ _ hS
  have hI : s.heap.get? s.heap.objs.size = none := by
    cases q1 : s.heap.get? s.heap.objs.size with
    | none => rfl
    | some o => exact absurd (Heap.lt_size q1) (Nat.lt_irrefl _)
  have hIS : s.heap.objs.size ≠ S := fun z => by rw [← z, hI] at hS; cases hS
  refine touch_feed (n := vs.length) (Inv := itInv S s.heap.objs.size q vs s) (End := itEnd S vs s) (feed_it hh (.of_tags t) hqS hI hIS) res hz ?_ hS1 ?_
  · exact ⟨⟨_, _, rfl⟩, fun b o e _ => kp b o e, ⟨_, Heap.get?_push_size _ rfl, rfl, rfl⟩, by simp, _, hS1⟩
  · rintro s' acc' c' ⟨⟨h, tk, rfl⟩, k, rfl⟩ _ hS'
    exact hR h tk c' k hS'
/-- list.__init__ on a fresh Tags: the head -/
theorem init_head {d : Addr} {rest : List Value} (X : (Mine.mkK.heap_1 w.params).In s.heap) (hS : s.heap.get? S = some (tagsNew d)) (ha : argsOk "list.__init__" ⟨.ref S :: rest, []⟩) (hlen : ¬ rest.length > 1)
    (hc : ∀ c, Keep [S] s.heap (s.heap.update S (Obj.mapSeq fun _ => #[])) → (s.heap.update S (Obj.mapSeq fun _ => #[])).get? S = some (withSeq (tagsNew d) [] c) →
      wpAny (model prog w) A.in1 (match rest with | [it] => Builtin.List.listExtendWith (.ref S) it .none | _ => ret .none)
      (fun fin s' => match fin with | .done f => R (.ok f) s' | .again c' => c'.quiet = true ∧ codeAny (model prog w) A c' R s') (fun e s' => R (.error e) s') { s with heap := s.heap.update S (Obj.mapSeq fun _ => #[]) }) :
    codeAny (model prog w) A (.call (.builtin "list.__init__") ⟨.ref S :: rest, []⟩) R s := by
  have t : TagsAt s.heap S [] := ⟨some d, _, _, hS⟩
  refine codeAny_call_builtin F.slot_list_init.plain F.entry_list_init (check_meth (n := "__init__") (.inl (by decide +kernel)) (by decide +kernel) (ts_isList X t) ha ?_)
  unfold Builtin.«list.__init__»
  dsimp only
  rw [if_neg (by simp), if_neg hlen]
  show wpAny _ A.in1 (Builtin.List.listItems (.ref S) >>= _) _ _ s
  refine wpAny_bind (wpAny_bind (wpAny_seqItems hS rfl (wpAny_pure ?_)))
  refine wpAny_bind (wpAny_updateSeq (f := fun _ => #[]) hS rfl ?_)
  obtain ⟨c1, h1⟩ := seq_upd (o := tagsNew d) (f := fun _ => #[]) (vs := []) (vs' := []) hS rfl
  exact wpAny_bind (wpAny_letGo (hc c1 keep_upd h1))
end
section
variable {prog : Program} {w : World} {A : Around} {E : Value → Shared → Prop} {Q : Value → Shared → Prop} {q : Addr} {vs : List Value} {s : Shared}
abbrev tg (d : Addr) (vs : List Value) (n : Nat) : Obj := withSeq (tagsNew d) vs n
/-- a fresh Tags with its fresh dict -/
def TagsF (h h' : Heap) (S : Addr) (vs : List Value) : Prop := ∃ d n, (h.objs.size ≤ d ∧ d < S) ∧ h.get? S = none ∧ h.get? d = none ∧ h'.get? S = some (tg d vs n) ∧ h'.get? d = some emptyDict
theorem TagsF.d {h h' : Heap} {S : Addr} {vs : List Value} (t : TagsF h h' S vs) : ∃ d, TagsD h' S d vs := let ⟨d, _, _, _, _, a, b⟩ := t; ⟨d, _, a, b⟩
theorem new_tags {s : Shared} {S : Addr} {h' : Heap} {c : Nat} (k : Keep [S] ((s.heap.push emptyDict).push (tagsNew s.heap.objs.size)) h') (e : S = s.heap.objs.size + 1) (hS : h'.get? S = some (withSeq (tagsNew s.heap.objs.size) vs c)) :
    Keep [] s.heap h' ∧ TagsF s.heap h' S vs := by
  subst e
  refine ⟨fun b o e _ => k b o (Heap.get?_push_of_some _ (Heap.get?_push_of_some _ e)) ?_, ⟨_, _, ⟨Nat.le_refl _, Nat.lt_succ_self _⟩, ?_, ?_, hS, k _ _ (by heap_get) (by simp)⟩⟩
  · have := Heap.lt_size e
    intro z
    rw [List.mem_singleton] at z
    subst z
    exact absurd (Nat.lt_of_succ_lt this) (Nat.lt_irrefl _)
  · cases q1 : s.heap.get? (s.heap.objs.size + 1) with
    | none => rfl
    | some o => exact absurd (Nat.lt_of_succ_lt (Heap.lt_size q1)) (Nat.lt_irrefl _)
  · cases q1 : s.heap.get? s.heap.objs.size with
    | none => rfl
    | some o => exact absurd (Heap.lt_size q1) (Nat.lt_irrefl _)
theorem tags_empty (X : (Mine.mkK.heap_1 w.params).In s.heap) (h : ∀ S h', Keep [] s.heap h' → TagsF s.heap h' S [] → Q (.ref S) { s with heap := h' }) :
    wpAny (model prog w) A (call (.ref 335) []) Q E s := by
  refine wpAny_call (make_tags (tags_cls X) ln_args0 ?_)
  have kp : ∀ b o, s.heap.get? b = some o → ((s.heap.push emptyDict).push (tagsNew s.heap.objs.size)).get? b = some o := fun b o e => Heap.get?_push_of_some _ (Heap.get?_push_of_some _ e)
  have hS : ((s.heap.push emptyDict).push (tagsNew s.heap.objs.size)).get? (s.heap.objs.size + 1) = some (tagsNew s.heap.objs.size) := by heap_get
  refine init_head (X.keeps kp) hS (F.args_list_init_1 _) (by simp) fun c k h1 => ?_
  obtain ⟨a, d⟩ := new_tags (vs := []) k rfl h1
  exact wpAny_pure ⟨rfl, h _ _ a d⟩
theorem tags_list (X : (Mine.mkK.heap_1 w.params).In s.heap) (hq : s.heap.IsList q vs.toArray) (hz : vs.length ≤ 1000) (h : ∀ S h', Keep [] s.heap h' → TagsF s.heap h' S vs → Q (.ref S) { s with heap := h' }) :
    wpAny (model prog w) A (call (.ref 335) [.ref q]) Q E s := by
  refine wpAny_call (make_tags (tags_cls X) (ln_args1 _) ?_)
  have kp : ∀ b o, s.heap.get? b = some o → ((s.heap.push emptyDict).push (tagsNew s.heap.objs.size)).get? b = some o := fun b o e => Heap.get?_push_of_some _ (Heap.get?_push_of_some _ e)
  have hS : ((s.heap.push emptyDict).push (tagsNew s.heap.objs.size)).get? (s.heap.objs.size + 1) = some (tagsNew s.heap.objs.size) := by heap_get
  refine init_head (X.keeps kp) hS (F.args_list_init_2 _ _) (by simp) fun c k h1 => ?_
  have hl := sizeLine_eq
  have hqS : q ≠ s.heap.objs.size + 1 := fun z => by
    obtain ⟨o, ho, _⟩ := hq
    rw [z] at ho
    exact absurd (Nat.lt_of_succ_lt (Heap.lt_size ho)) (Nat.lt_irrefl _)
  obtain ⟨oq, hoq, hcq, nq, hdq⟩ := id hq
  have hoq' := k _ _ (kp _ _ hoq) (by simpa using hqS)
  dsimp only
  unfold Builtin.List.listExtendWith
  refine wpAny_bind (wpAny_typeOf (T := "list") ⟨_, hoq', hcq⟩ ?_)
  rw [if_pos (by simp)]
  refine wpAny_bind (wpAny_bind (wpAny_seqItems hoq' hdq (wpAny_pure ?_)))
  refine wpAny_bind (wpAny_bind (wpAny_seqItems h1 rfl (wpAny_pure ?_)))
  rw [if_neg (by simp [Builtin.List.listTooLong])]
  obtain ⟨c', h2⟩ := seq_upd (f := (· ++ vs.toArray)) (vs' := vs) h1 (by simp)
  refine wpAny_bind (wpAny_updateSeq h1 rfl (wpAny_bind (wpAny_pure (wpAny_pure ⟨rfl, ?_⟩))) (by simp) (by simp; omega))
  obtain ⟨a, d⟩ := new_tags (fun b o e n => keep_upd b o (k b o e n) n) rfl h2
  exact h _ _ a d
theorem tags_tags (hh : A.handled = none) (X : (Mine.mkK.heap_1 w.params).In s.heap) (t : TagsAt s.heap q vs) (h0 : 0 < vs.length) (hz : vs.length ≤ 1000) (h : ∀ S h' tk', Keep [] s.heap h' → TagsF s.heap h' S vs → Q (.ref S) { s with heap := h', toks := tk' }) :
    wpAny (model prog w) A (call (.ref 335) [.ref q]) Q E s := by
  refine wpAny_call (make_tags (tags_cls X) (ln_args1 _) ?_)
  have kp : ∀ b o, s.heap.get? b = some o → ((s.heap.push emptyDict).push (tagsNew s.heap.objs.size)).get? b = some o := fun b o e => Heap.get?_push_of_some _ (Heap.get?_push_of_some _ e)
  have hS : ((s.heap.push emptyDict).push (tagsNew s.heap.objs.size)).get? (s.heap.objs.size + 1) = some (tagsNew s.heap.objs.size) := by heap_get
  refine init_head (X.keeps kp) hS (F.args_list_init_2 _ _) (by simp) fun c k h1 => ?_
  have hqS : q ≠ s.heap.objs.size + 1 := fun z => by
    obtain ⟨_, _, _, ho⟩ := t.at_
    rw [z] at ho
    exact absurd (Nat.lt_of_succ_lt (Heap.lt_size ho)) (Nat.lt_irrefl _)
  have k2 : ∀ b o, s.heap.get? b = some o → (Heap.update ((s.heap.push emptyDict).push (tagsNew s.heap.objs.size)) (s.heap.objs.size + 1) (Obj.mapSeq fun _ => #[])).get? b = some o := fun b o e => k b o (kp b o e) fun z => by
    rw [List.mem_singleton] at z
    subst z
    exact absurd (Nat.lt_of_succ_lt (Heap.lt_size e)) (Nat.lt_irrefl _)
  refine lew_tags (pre := []) (by exact hh) (X.keeps k2) (t.keeps k2) h0 hqS h1 (by simpa using hz) .none fun h' tk' c' k' hS' => ⟨rfl, ?_⟩
  obtain ⟨a, d⟩ := new_tags (fun b o e n => k' b o (k b o e n) n) rfl hS'
  exact h _ _ _ a d
theorem extend_code {R : Result → Shared → Prop} {x : Addr} {us pre : List Value} {o : Obj} {c : Nat} (hc : wpAny (model prog w) A.in1 (checkBuiltinCall "list.extend" ⟨[.ref x, .ref q], []⟩) (fun _ s' => s' = s) (fun _ _ => False) s) (hh : A.handled = none) (X : (Mine.mkK.heap_1 w.params).In s.heap) (hS : s.heap.get? x = some (withSeq o pre c)) (hq : TagsAt s.heap q us) (h0 : 0 < us.length) (hqx : q ≠ x) (hz : pre.length + us.length ≤ 1000)
    (h : ∀ h' tk' c', Keep [x] s.heap h' → h'.get? x = some (withSeq o (pre ++ us) c') → R (.ok (.ret .none)) { s with heap := h', toks := tk' }) :
    codeAny (model prog w) A (.call (.builtin "list.extend") ⟨[.ref x, .ref q], []⟩) R s := by
  refine codeAny_call_builtin F.slot_list_extend.plain F.entry_list_extend (wpAny_mono hc (fun _ s' e => ?_) fun _ _ e => e.elim)
  subst e
  show wpAny _ _ (Builtin.List.listExtendWith (.ref x) (.ref q) .none) _ _ _
  exact lew_tags hh X hq h0 hqx hS hz .none h
theorem ts_extend_tags {x d : Addr} {us : List Value} (hh : A.handled = none) (X : (Mine.mkK.heap_1 w.params).In s.heap) (t : TagsD s.heap x d vs) (hq : TagsAt s.heap q us) (h0 : 0 < us.length) (hqx : q ≠ x) (hz : vs.length + us.length ≤ 1000) (h : ∀ h' tk', Keep [x] s.heap h' → TagsD h' x d (vs ++ us) → Q .none { s with heap := h', toks := tk' }) :
    wpAny (model prog w) A (call (.builtin "list.extend") [.ref x, .ref q]) Q E s := by
  obtain ⟨n, a, b⟩ := t.at_
  refine wpAny_call (extend_code (check_meth (n := "extend") (.inr (by decide +kernel)) (by decide +kernel) (ts_isList X t.tags) (F.args_list_extend_2 _ _) rfl) hh X a hq h0 hqx hz fun h' tk' c' k' hS' => ?_)
  refine h _ _ k' ⟨c', hS', k' _ _ b ?_⟩
  intro z
  rw [List.mem_singleton] at z
  subst z
  rw [a] at b; cases b
theorem ls_extend_tags {us : List Value} {x : Addr} {c : Nat} (hh : A.handled = none) (X : (Mine.mkK.heap_1 w.params).In s.heap) (t : s.heap.get? x = some (listOf vs.toArray c)) (hq : TagsAt s.heap q us) (h0 : 0 < us.length) (hz : vs.length + us.length ≤ 1000) (h : ∀ h' tk' c', Keep [x] s.heap h' → h'.get? x = some (listOf (vs ++ us).toArray c') → Q .none { s with heap := h', toks := tk' }) :
    wpAny (model prog w) A (call (.builtin "list.extend") [.ref x, .ref q]) Q E s := by
  have hqx : q ≠ x := fun z => by
    obtain ⟨_, _, _, ho⟩ := hq.at_
    rw [z, t] at ho; cases ho
  have ty : Looks (model prog w) s.heap (isInstance (.ref x) (.type "list")) true := ((Looks.ld t).andThen .now : Looks (model prog w) s.heap (typeOf (.ref x)) (.type "list")).andThen (Looks.of_pure (by first | rfl | kernel_rfl))
  refine wpAny_call (extend_code (o := listOf #[] 0) (check_meth (n := "extend") (.inr (by decide +kernel)) (by decide +kernel) ty (F.args_list_extend_2 _ _) rfl) hh X t hq h0 hqx hz fun h' tk' c' k' hS' => ?_)
  exact h _ _ _ k' hS'
end
end
section
theorem span_found2 {nm : Str} {rows : List Row} {i k : Nat} {lv lv' : Int} (hk : k < rows.length) (hi1 : i + 1 < rows.length) (inv : spanFrom nm rows 0 = spanFrom nm (rows.drop i) i)
    (c1 : ((rowAt rows i).1 == 1000 && (rowAt rows i).2 == nm) = true) (c2 : ((rowAt rows ((i : Int) + 1)).1 == 1002 && (rowAt rows ((i : Int) + 1)).2 == Str.ofString "{") = true)
    (inv' : closeFrom (rows.drop (i + 1)) 0 (i + 1) = closeFrom (rows.drop k) lv k) (e : lv' = lv + lvl (rowAt rows k)) (cz : lv' = 0) : spanFrom nm rows 0 = some (i, k + 1) := by
  rw [inv, span_step (rowAt_some (k := (i : Int)) (by omega) (by omega)) (rowAt_some (k := (i : Int) + 1) (by omega) (by omega)), c1, c2, inv', close_step (rowAt_some (k := (k : Int)) (by omega) hk), if_pos (e.symm.trans cz)]
  rfl
theorem close_next2 {rows : List Row} {i k : Nat} {lv lv' : Int} (hk : k < rows.length) (inv' : closeFrom (rows.drop (i + 1)) 0 (i + 1) = closeFrom (rows.drop k) lv k) (e : lv' = lv + lvl (rowAt rows k)) (cz : lv' ≠ 0) :
    closeFrom (rows.drop (i + 1)) 0 (i + 1) = closeFrom (rows.drop (k + 1)) lv' (k + 1) := by
  rw [inv', close_step (rowAt_some (k := (k : Int)) (by omega) hk), if_neg (fun h => cz (e.trans h)), e]
theorem span_next0 {nm : Str} {rows : List Row} {i : Nat} (hi : i < rows.length) (inv : spanFrom nm rows 0 = spanFrom nm (rows.drop i) i) (c : ((rowAt rows i).1 == 1000 && (rowAt rows i).2 == nm) = false) : spanFrom nm rows 0 = spanFrom nm (rows.drop (i + 1)) (i + 1) := by
  by_cases h : i < rows.length - 1
  · exact span_next1 h inv (.inl c)
  · rw [inv, span_end (by omega), span_end (by omega)]
theorem lvl_open {r : Row} (h : (r.1 == 1002 && r.2 == Str.ofString "{") = true) : lvl r = 1 := by
  have e := lvl_add 0 r
  simp only [Bool.and_eq_true, beq_iff_eq] at h
  obtain ⟨h1, h2⟩ := h
  rw [h1, h2] at e
  have : (Str.ofString "{" == Str.ofString "}") = false := by decide
  simp [this] at e
  omega
theorem lvl_close {r : Row} (h : (r.1 == 1002 && r.2 == Str.ofString "{") = false) (h' : (r.1 == 1002 && r.2 == Str.ofString "}") = true) : lvl r = -1 := by
  have e := lvl_add 0 r
  rw [h, h'] at e
  simp at e
  omega
theorem lvl_none {r : Row} (h : (r.1 == 1002 && r.2 == Str.ofString "{") = false) (h' : (r.1 == 1002 && r.2 == Str.ofString "}") = false) : lvl r = 0 := by
  have e := lvl_add 0 r
  rw [h, h'] at e
  simp at e
  omega
theorem open_at {w : World} {h : Heap} (X : (Mine.mkK.heap_1 w.params).In h) : ∃ t1 t2, TupAt h 340 (.int 1002 t1) (.str (Str.ofString "{") t2) := by
  refine ⟨_, _, _, X _ _ (by k_is), rfl, _, rfl⟩
theorem close_at {w : World} {h : Heap} (X : (Mine.mkK.heap_1 w.params).In h) : ∃ t1 t2, TupAt h 341 (.int 1002 t1) (.str (Str.ofString "}") t2) := by
  refine ⟨_, _, _, X _ _ (by k_is), rfl, _, rfl⟩
theorem gse_c {w : World} {A : Around} {s : Shared} {Q E : Value → Shared → Prop} {dp un : Nat} {q : Addr} {vs : List Value} {rows : List Row} {nm : Str} {tn : Tok}
  (R : Rd w s.heap [] dp un A) (hq : TagsAt s.heap q vs) (hr : TagRows s.heap vs rows) (ho : RowsOk rows) (hn : PyData.strOk nm = true) (hlen : rows.length ≤ 300) (hd : dp + 5 < recursionLimit) (hu : un + 150 < cLine)
  (hlast : ∀ i : Nat, i < rows.length → ((rowAt rows i).1 == 1000 && (rowAt rows i).2 == nm) = true → i + 1 < rows.length)
  (hclos : ∀ i : Nat, i + 1 < rows.length → ((rowAt rows i).1 == 1000 && (rowAt rows i).2 == nm) = true → ((rowAt rows ((i : Int) + 1)).1 == 1002 && (rowAt rows ((i : Int) + 1)).2 == Str.ofString "{") = true → closeFrom (rows.drop (i + 1)) 0 (i + 1) ≠ none)
  (hraise : ∀ (e : Addr) (h' : Heap) (tk' : Nat), Flown A s.heap e (.ref 372) h' → Ctx0 h' e → spanFrom nm rows 0 = none → E (.ref e) { s with heap := h', toks := tk' })
  (hret : ∀ (a b : Nat) (y : Addr) (t1 t2 : Tok) (h' : Heap) (tk' : Nat), Keep [] s.heap h' → spanFrom nm rows 0 = some (a, b) → s.heap.get? y = none → TupAt h' y (.int a t1) (.int b t2) → Q (.ref y) { s with heap := h', toks := tk' }) :
  wpAny (model PG w) A (call (.ref 382) [.str nm tn, .ref q]) Q E s := by
  cases R with
  | mk hf hkk B F X T hS =>
  rename_i h₀ L m p loose mean mg mb
  have N : News h₀ L s.heap [] := News.none
  refine wpAny_call ?_
  k_dflt cell_enter
  intro g L' h' hg hh F' N' B' X' T' lt'
  (try dsimp only)
  k_fold
  have hq' : TagsAt g q vs := hq.keeps fun b o e => hg b o e (by simp)
  have hr' : TagRows g vs rows := hr.keeps fun b o e => hg b o e (by simp)
  have hvl : vs.length = rows.length := hr.1
  k_steps
  obtain ⟨o1, o2, hO⟩ := open_at X'
  obtain ⟨e1, e2, hC⟩ := close_at X'
  (with_reducible rename IsRange _ _ _ _ _ _ _ _ => kR)
  (with_reducible rename News g L' _ _ => kN)
  (with_reducible rename Fr g L' _ _ => kF)
  refine ⟨⟨_, _, _, _, _, _, rows.length, _, [], fun k m news gs => news = [] ∧ gs = s.gens ∧ m (Str.ofString "name") = some (.str nm tn) ∧ m (Str.ofString "tags") = some (.ref q) ∧ m (Str.ofString "end") = some .none ∧
    ((m (Str.ofString "start") = some .none ∧ (∃ t, m (Str.ofString "level") = some (.int 0 t)) ∧ spanFrom nm rows 0 = spanFrom nm (rows.drop k) k) ∨
     ∃ (i : Nat) (tS : Tok) (lv : Int) (tl : Tok), m (Str.ofString "start") = some (.int i tS) ∧ m (Str.ofString "level") = some (.int lv tl) ∧ i < k ∧ i + 1 < rows.length ∧ ((rowAt rows i).1 == 1000 && (rowAt rows i).2 == nm) = true ∧
       ((rowAt rows ((i : Int) + 1)).1 == 1002 && (rowAt rows ((i : Int) + 1)).2 == Str.ofString "{") = true ∧ spanFrom nm rows 0 = spanFrom nm (rows.drop i) i ∧ closeFrom (rows.drop (i + 1)) 0 (i + 1) = closeFrom (rows.drop k) lv k),
    rfl, kR, small_one (by omega) (by omega) (by omega) (by omega), rsize _ _ _ (by omega), kF, News.none, ⟨rfl, rfl, by cell_ties, by cell_ties, by cell_ties, .inl ⟨by cell_ties, ⟨_, by cell_ties⟩, rfl⟩⟩, ?_, ?_⟩⟩
  · rintro I k t m₁ news₁ h tk gs hi ne ⟨rfl, rfl, m1, m2, m3, ⟨m4, ⟨tl, m5⟩, inv⟩ | ⟨i, tS, lv, tl, m4, m5, hik, hi1, c1, c2, inv, inv'⟩⟩ F₁ N₁
    · have hi0 : 0 + (k : Int) = k := by omega
      rw [hi0] at F₁
      k_steps
      · (with_reducible rename ((_ == (1000 : Int)) && _) = true => c1)
        have hk1 := hlast k hi c1
        k_steps
        · (with_reducible rename News g _ _ _ => kN3)
          (with_reducible rename Fr g _ _ _ => kF3)
          have c2 : ((rowAt rows ((k : Int) + 1)).1 == 1002 && (rowAt rows ((k : Int) + 1)).2 == Str.ofString "{") = true := by assumption
          exact EndC.put [] kF3 kN3 (by k_mem) (by simp) (fun _ h => nomatch h) ⟨rfl, rfl, by cell_ties, by cell_ties, by cell_ties, .inr ⟨k, _, 0, _, by cell_ties, by cell_ties, by omega, hk1, c1, c2, inv, rfl⟩⟩
        · (with_reducible rename News g _ _ _ => kN3)
          (with_reducible rename Fr g _ _ _ => kF3)
          have c2 : ((rowAt rows ((k : Int) + 1)).1 == 1002 && (rowAt rows ((k : Int) + 1)).2 == Str.ofString "{") = false := by assumption
          exact EndC.put [] kF3 kN3 (by k_mem) (by simp) (fun _ h => nomatch h) ⟨rfl, rfl, by cell_ties, by cell_ties, by cell_ties, .inl ⟨by cell_ties, ⟨_, by cell_ties⟩, span_next1 (by omega) inv (.inr c2)⟩⟩
      · (with_reducible rename News g _ _ _ => kN3)
        (with_reducible rename Fr g _ _ _ => kF3)
        (with_reducible rename ((_ == (1000 : Int)) && _) = false => c1)
        exact EndC.put [] kF3 kN3 (by k_mem) (by simp) (fun _ h => nomatch h) ⟨rfl, rfl, by cell_ties, by cell_ties, by cell_ties, .inl ⟨by cell_ties, ⟨_, by cell_ties⟩, span_next0 hi inv c1⟩⟩
    · have hi0 : 0 + (k : Int) = k := by omega
      rw [hi0] at F₁
      k_steps
      · (with_reducible rename Heap.StaysIn g _ => kG)
        (with_reducible rename News g L' _ _ => kN3)
        have e : lv + 1 = lv + lvl (rowAt rows k) := by rw [lvl_open ‹((rowAt rows k).1 == 1002 && (rowAt rows k).2 == Str.ofString "{") = true›]
        have e3 := span_found2 hi hi1 inv c1 c2 inv' e (by assumption)
        have T3 := tupAt_of kN3 (.head _)
        exact hret _ _ _ _ _ _ _ (keep_fin (S := []) hg kG) e3 (fresh_of hg (kN3 _ (.head _)).2.2 (by simp)) T3
      · (with_reducible rename News g _ _ _ => kN3)
        (with_reducible rename Fr g _ _ _ => kF3)
        have e : lv + 1 = lv + lvl (rowAt rows k) := by rw [lvl_open ‹((rowAt rows k).1 == 1002 && (rowAt rows k).2 == Str.ofString "{") = true›]
        exact EndC.put [] kF3 kN3 (by k_mem) (by simp) (fun _ h => nomatch h) ⟨rfl, rfl, by cell_ties, by cell_ties, by cell_ties, .inr ⟨i, _, _, _, by cell_ties, by cell_ties, by omega, hi1, c1, c2, inv, close_next2 hi inv' e (by assumption)⟩⟩
      · (with_reducible rename Heap.StaysIn g _ => kG)
        (with_reducible rename News g L' _ _ => kN3)
        have e : lv - 1 = lv + lvl (rowAt rows k) := by rw [lvl_close ‹((rowAt rows k).1 == 1002 && (rowAt rows k).2 == Str.ofString "{") = false› ‹((rowAt rows k).1 == 1002 && (rowAt rows k).2 == Str.ofString "}") = true›]; omega
        have e3 := span_found2 hi hi1 inv c1 c2 inv' e (by assumption)
        have T3 := tupAt_of kN3 (.head _)
        exact hret _ _ _ _ _ _ _ (keep_fin (S := []) hg kG) e3 (fresh_of hg (kN3 _ (.head _)).2.2 (by simp)) T3
      · (with_reducible rename News g _ _ _ => kN3)
        (with_reducible rename Fr g _ _ _ => kF3)
        have e : lv - 1 = lv + lvl (rowAt rows k) := by rw [lvl_close ‹((rowAt rows k).1 == 1002 && (rowAt rows k).2 == Str.ofString "{") = false› ‹((rowAt rows k).1 == 1002 && (rowAt rows k).2 == Str.ofString "}") = true›]; omega
        exact EndC.put [] kF3 kN3 (by k_mem) (by simp) (fun _ h => nomatch h) ⟨rfl, rfl, by cell_ties, by cell_ties, by cell_ties, .inr ⟨i, _, _, _, by cell_ties, by cell_ties, by omega, hi1, c1, c2, inv, close_next2 hi inv' e (by assumption)⟩⟩
      · (with_reducible rename Heap.StaysIn g _ => kG)
        (with_reducible rename News g L' _ _ => kN3)
        have e : lv = lv + lvl (rowAt rows k) := by rw [lvl_none ‹((rowAt rows k).1 == 1002 && (rowAt rows k).2 == Str.ofString "{") = false› ‹((rowAt rows k).1 == 1002 && (rowAt rows k).2 == Str.ofString "}") = false›]; omega
        have e3 := span_found2 hi hi1 inv c1 c2 inv' e (by assumption)
        have T3 := tupAt_of kN3 (.head _)
        exact hret _ _ _ _ _ _ _ (keep_fin (S := []) hg kG) e3 (fresh_of hg (kN3 _ (.head _)).2.2 (by simp)) T3
      · (with_reducible rename News g _ _ _ => kN3)
        (with_reducible rename Fr g _ _ _ => kF3)
        have e : lv = lv + lvl (rowAt rows k) := by rw [lvl_none ‹((rowAt rows k).1 == 1002 && (rowAt rows k).2 == Str.ofString "{") = false› ‹((rowAt rows k).1 == 1002 && (rowAt rows k).2 == Str.ofString "}") = false›]; omega
        exact EndC.put [] kF3 kN3 (by k_mem) (by simp) (fun _ h => nomatch h) ⟨rfl, rfl, by cell_ties, by cell_ties, by cell_ties, .inr ⟨i, _, _, _, by cell_ties, by cell_ties, by omega, hi1, c1, c2, inv, close_next2 hi inv' e (by assumption)⟩⟩
  · rintro m₁ news₁ h tk gs ⟨rfl, rfl, m1, m2, m3, ⟨m4, ⟨tl, m5⟩, inv⟩ | ⟨i, tS, lv, tl, m4, m5, hik, hi1, c1, c2, inv, inv'⟩⟩ F₁ N₁
    · k_steps
      (with_reducible rename RaisedK _ _ _ _ _ _ _ _ => kR9)
      (with_reducible rename Heap.UpToSlots g _ => kU9)
      exact hraise _ _ _ (flown_of hg rfl kR9 kU9) (by assumption) (inv.trans (span_end (by omega)))
    · exact absurd (inv'.trans (close_end (Nat.le_refl _))) (hclos i hi1 c1 c2)
end
section
theorem dict_free {S x d : Addr} {h : Heap} {vs : List Value} {n : Nat} (a : h.get? x = some (tg d vs n)) (b : h.get? d = some emptyDict) : d ∉ [x] := fun z => by
  rw [List.mem_singleton] at z
  subst z
  rw [a] at b; cases b
theorem tg_hd1 {h₀ h : Heap} {L d : Addr} {news : List (Addr × Obj)} {o : Obj} (N : News h₀ L h news) (hm : (d, o) ∈ news) : h.get? d = some o := (N _ hm).1
section
variable {prog : Program} {w : World} {A : Around} {E : Value → Shared → Prop} {s : Shared} {h₀ : Heap} {L x d : Addr} {m : Str → Option Value} {news : List (Addr × Obj)} {gN : Obj → List (Addr × Obj)} {vs : List Value} {n : Nat}
theorem news_updF {h h' : Heap} {o : Obj} (N : News h₀ L h news) (k : Keep [x] h h') (U : UpdF x o news gN) {o' : Obj} (hc : h'.get? x = some o') : News h₀ L h' (gN o') := by
  obtain ⟨pre, post, rfl, e2, h1, h2⟩ := U.split
  rw [e2]
  intro q hq
  rcases List.mem_append.mp hq with hq | hq
  · have z := N q (List.mem_append_left _ hq)
    exact ⟨k _ _ z.1 (by simpa using h1 q hq), z.2⟩
  · rcases List.mem_cons.mp hq with rfl | hq
    · have z := N (x, o) (List.mem_append_right _ (.head _))
      exact ⟨hc, z.2⟩
    · have z := N q (List.mem_append_right _ (.tail _ hq))
      exact ⟨k _ _ z.1 (by simpa using h2 q hq), z.2⟩
theorem updF_mem {o : Obj} (U : UpdF x o news gN) : (x, o) ∈ news := by
  obtain ⟨pre, post, rfl, _, _, _⟩ := U.split
  exact List.mem_append_right _ (.head _)
theorem updF_in {o : Obj} (N : News h₀ L s.heap news) (U : UpdF x o news gN) : s.heap.get? x = some o ∧ ∀ c ∈ [x], h₀.get? c = none ∧ c ≠ L := by
  have z := N _ (updF_mem U)
  exact ⟨z.1, fun c hc => by rw [List.mem_singleton] at hc; subst hc; exact ⟨z.2.2, z.2.1⟩⟩
theorem tg_new {Q : Value → Shared → Prop} (F : Fr h₀ L s.heap m) (N : News h₀ L s.heap news) (X : (Mine.mkK.heap_1 w.params).In h₀)
    (h : ∀ S d n h', Fr h₀ L h' m → News h₀ L h' ((S, tg d [] n) :: (d, emptyDict) :: news) → s.heap.get? S = none → @LT.lt Nat instLTNat d S → (∀ p ∈ news, p.1 < d) → Q (.ref S) { s with heap := h' }) : wpAny (model prog w) A (call (.ref 335) []) Q E s := by
  refine tags_empty (X.keeps F.keep) fun S h' k t => ?_
  obtain ⟨d, n, l, f1, f2, a, b⟩ := t
  have fr : ∀ z o, s.heap.get? z = none → h'.get? z = some o → z ≠ L ∧ h₀.get? z = none := fun z o e _ => by
    refine ⟨fun q => ?_, ?_⟩
    · obtain ⟨oL, _, _, hL, _⟩ := F.ns
      rw [q, hL] at e; cases e
    · cases q : h₀.get? z with
      | none => rfl
      | some o => rw [F.keep _ _ q] at e; cases e
  refine h S d n h' (Mine.Fr.after F k (fun _ q => nomatch q)) (fun p hp => ?_) f1 l.2 (fun p hp => Nat.lt_of_lt_of_le (Heap.lt_size (N p hp).1) l.1)
  rcases List.mem_cons.mp hp with rfl | hp
  · exact ⟨a, fr _ _ f1 a⟩
  · rcases List.mem_cons.mp hp with rfl | hp
    · exact ⟨b, fr _ _ f2 b⟩
    · exact News.after0 N k p hp
theorem tg_method {name : Str} {id : String} {pl : Sem Bool} {Q : Value × List Value → Shared → Prop} (F : Fr h₀ L s.heap m) (N : News h₀ L s.heap news) (X : (Mine.mkK.heap_1 w.params).In h₀) (hx : (x, tg d vs n) ∈ news) (hd : s.heap.get? d = some emptyDict)
    (hf : findIn (Mine.mkK.heap_1 w.params) (.ref 335) name = some (some (.builtin id))) (ht : ∀ M, Looks M s.heap (typeOf (.builtin id)) (.type "method_descriptor")) (h : Q (.builtin id, [.ref x]) s) : wpAny (model prog w) A (getMethod (.ref x) name pl) Q E s :=
  ts_method (X.keeps F.keep) ⟨n, (N _ hx).1, hd⟩ hf ht h
theorem tg_append {v : Value} {Q : Value → Shared → Prop} (F : Fr h₀ L s.heap m) (N : News h₀ L s.heap news) (X : (Mine.mkK.heap_1 w.params).In h₀) (U : UpdF x (tg d vs n) news gN) (hd : s.heap.get? d = some emptyDict) (hz : vs.length ≤ 1000)
    (h : ∀ h' n', Fr h₀ L h' m → News h₀ L h' (gN (tg d (vs ++ [v]) n')) → Q .none { s with heap := h' }) : wpAny (model prog w) A (call (.builtin "list.append") [.ref x, v]) Q E s := by
  obtain ⟨hx, hS⟩ := updF_in N U
  refine ts_append (X.keeps F.keep) ⟨n, hx, hd⟩ hz fun h' k t => ?_
  obtain ⟨n', a, b⟩ := t.at_
  exact h h' n' (Mine.Fr.after F k hS) (news_updF N k U a)
theorem tg_insert0 {v : Value} {u : Tok} {Q : Value → Shared → Prop} (F : Fr h₀ L s.heap m) (N : News h₀ L s.heap news) (X : (Mine.mkK.heap_1 w.params).In h₀) (U : UpdF x (tg d vs n) news gN) (hd : s.heap.get? d = some emptyDict) (hz : vs.length ≤ 1000)
    (h : ∀ h' n', Fr h₀ L h' m → News h₀ L h' (gN (tg d (v :: vs) n')) → Q .none { s with heap := h' }) : wpAny (model prog w) A (call (.builtin "list.insert") [.ref x, .int 0 u, v]) Q E s := by
  obtain ⟨hx, hS⟩ := updF_in N U
  refine ts_insert0 (X.keeps F.keep) ⟨n, hx, hd⟩ hz fun h' k t => ?_
  obtain ⟨n', a, b⟩ := t.at_
  exact h h' n' (Mine.Fr.after F k hS) (news_updF N k U a)
theorem tg_extend {q : Addr} {us : List Value} {Q : Value → Shared → Prop} (F : Fr h₀ L s.heap m) (N : News h₀ L s.heap news) (X : (Mine.mkK.heap_1 w.params).In h₀) (U : UpdF x (tg d vs n) news gN) (hd : s.heap.get? d = some emptyDict) (hq : s.heap.IsList q us.toArray) (hz : vs.length + us.length ≤ 1000)
    (h : ∀ h' n', Fr h₀ L h' m → News h₀ L h' (gN (tg d (vs ++ us) n')) → Q .none { s with heap := h' }) : wpAny (model prog w) A (call (.builtin "list.extend") [.ref x, .ref q]) Q E s := by
  obtain ⟨hx, hS⟩ := updF_in N U
  refine ts_extend (X.keeps F.keep) ⟨n, hx, hd⟩ hq hz fun h' k t => ?_
  obtain ⟨n', a, b⟩ := t.at_
  exact h h' n' (Mine.Fr.after F k hS) (news_updF N k U a)
theorem tg_extendT {q : Addr} {us : List Value} {Q : Value → Shared → Prop} (hh : A.handled = none) (F : Fr h₀ L s.heap m) (N : News h₀ L s.heap news) (X : (Mine.mkK.heap_1 w.params).In h₀) (U : UpdF x (tg d vs n) news gN) (hd : s.heap.get? d = some emptyDict) (hq : TagsAt s.heap q us) (h0 : 0 < us.length) (hqx : q ≠ x) (hz : vs.length + us.length ≤ 1000)
    (h : ∀ h' tk' n', Fr h₀ L h' m → News h₀ L h' (gN (tg d (vs ++ us) n')) → Q .none { s with heap := h', toks := tk' }) : wpAny (model prog w) A (call (.builtin "list.extend") [.ref x, .ref q]) Q E s := by
  obtain ⟨hx, hS⟩ := updF_in N U
  refine ts_extend_tags hh (X.keeps F.keep) ⟨n, hx, hd⟩ hq h0 hqx hz fun h' tk' k t => ?_
  obtain ⟨n', a, b⟩ := t.at_
  exact h h' tk' n' (Mine.Fr.after F k hS) (news_updF N k U a)
theorem tg_del {a b : Nat} {ta tb : Tok} {Q : Unit → Shared → Prop} (F : Fr h₀ L s.heap m) (N : News h₀ L s.heap news) (X : (Mine.mkK.heap_1 w.params).In h₀) (U : UpdF x (tg d vs n) news gN) (hd : s.heap.get? d = some emptyDict) (ha : a ≤ b) (hb : b ≤ vs.length) (hz : vs.length ≤ 1000)
    (h : ∀ h' n', Fr h₀ L h' m → News h₀ L h' (gN (tg d (vs.take a ++ vs.drop b) n')) → Q () { s with heap := h' }) : wpAny (model prog w) A (delItem (.ref x) (.ref s.heap.objs.size)) Q E { s with heap := s.heap.push { cls := .type "slice", data := .fields #[.int a ta, .int b tb, .none] } } := by
  have kp : ∀ z o, s.heap.get? z = some o → (s.heap.push { cls := .type "slice", data := .fields #[.int a ta, .int b tb, .none] }).get? z = some o := fun z o e => Heap.get?_push_of_some _ e
  obtain ⟨hx, hS⟩ := updF_in N U
  refine ts_delslice ((X.keeps F.keep).keeps kp) ⟨n, kp _ _ hx, kp _ _ hd⟩ (Heap.IsSliceOf.new ..) ha hb hz fun h' k t => ?_
  obtain ⟨n', e, _⟩ := t.at_
  have k' : Keep [x] s.heap h' := fun z o q nq => k z o (kp z o q) nq
  exact h h' n' (Mine.Fr.after F k' hS) (news_updF N k' U e)
end
theorem truthy_nm {prog : Program} {w : World} {A : Around} {E : Value → Shared → Prop} {s : Shared} {nm : Str} {t : Tok} {Q : Bool → Shared → Prop} (h1 : 0 < nm.length) (h2 : nm.length < 100) (h : ∀ tk', Q true { s with toks := tk' }) : wpAny (model prog w) A (truthy (.str nm t)) Q E s := by
  refine PySem.P.truthy_str (by omega) ?_
  have e : ((nm.length : Int) != 0) = true := by simp; omega
  rw [e]; exact h _
end
local macro_rules | `(tactic| walk_at "call ref") => `(tactic| (k_here; (with_reducible show wpAny _ _ (call (Value.ref 335) _) _ _ _); k_dflt (refine' tg_new ?F ?N ?X ?_; (case F => k_asm); (case N => k_asm); (case X => k_asm); k_whole); intro S9 d9 n9 h9 F9 N9 f9 l8 l9; (try k_lt l9); (try dsimp only)))
local macro_rules | `(tactic| walk_at "getMethod ref") => `(tactic| (k_here; k_dflt (refine' tg_method ?F ?N ?X ?x ?d ?f ?t ?_; (case F => k_asm); (case N => k_asm); (case X => k_asm); (case x => k_mem); (case d => first | exact tg_hd1 (by k_asm) (by k_mem) | exact Fr.keep (by k_asm) _ _ (by assumption)); (case f => k_is); (case t => exact fun _ => Looks.of_pure (by kernel_rfl)); k_whole)))
local macro_rules | `(tactic| walk_at "call builtin:list.append") => `(tactic| (k_here; k_dflt (refine' tg_append ?F ?N ?X ?U ?d ?z ?_; (case F => k_asm); (case N => k_asm); (case X => k_asm); (case U => k_updF); (case d => first | exact tg_hd1 (by k_asm) (by k_mem) | exact Fr.keep (by k_asm) _ _ (by assumption)); (case z => (first | (simp; done) | (simp; omega))); k_whole); intro h9 n9 F9 N9; (try dsimp only at N9); (try dsimp only)))
local macro_rules | `(tactic| walk_at "call builtin:list.extend") => `(tactic| (k_here; k_dflt (first
  | (refine' tg_extend ?F ?N ?X ?U ?d ?q ?z ?_; (case F => k_asm); (case N => k_asm); (case X => k_asm); (case U => k_updF); (case d => first | exact tg_hd1 (by k_asm) (by k_mem) | exact Fr.keep (by k_asm) _ _ (by assumption)); (case q => exact stays_list (Fr.keep (by k_asm)) (by assumption)); (case z => (first | (simp; done) | (simp; omega))); k_whole; intro h9 n9 F9 N9; (try dsimp only at N9); (try dsimp only))
  | (refine' tg_extendT ?hh ?F ?N ?X ?U ?d ?q ?p ?r ?z ?_; (case hh => rfl); (case F => k_asm); (case N => k_asm); (case X => k_asm); (case U => k_updF); (case d => first | exact tg_hd1 (by k_asm) (by k_mem) | exact Fr.keep (by k_asm) _ _ (by assumption)); (case q => exact TagsAt.keeps (by assumption) (Fr.keep (by k_asm))); (case p => (first | (simp; done) | (simp; omega))); (case r => assumption); (case z => (first | (simp; done) | (simp; omega))); k_whole; intro h9 tk9 n9 F9 N9; (try dsimp only at N9); (try dsimp only)))))
local macro_rules | `(tactic| walk_at "call builtin:list.insert") => `(tactic| (k_here; k_dflt (refine' tg_insert0 ?F ?N ?X ?U ?d ?z ?_; (case F => k_asm); (case N => k_asm); (case X => k_asm); (case U => k_updF); (case d => first | exact tg_hd1 (by k_asm) (by k_mem) | exact Fr.keep (by k_asm) _ _ (by assumption)); (case z => (first | (simp; done) | (simp; omega))); k_whole); intro h9 n9 F9 N9; (try dsimp only at N9); (try dsimp only)))
local macro_rules | `(tactic| walk_at "truthy str") => `(tactic| (k_here; k_dflt (refine' truthy_nm ?a ?b ?_; (case a => assumption); (case b => assumption); k_whole); intro tk9))
section
theorem xl_c {w : World} {A : Around} {s : Shared} {Q E : Value → Shared → Prop} {dp un : Nat} {q : Addr} {vs : List Value} {nm : Str} {tn : Tok}
  (R : Rd w s.heap [] dp un A) (hq : s.heap.IsList q vs.toArray) (hn1 : 0 < nm.length) (hn2 : nm.length < 100) (hz : vs.length ≤ 900) (hd : dp + 5 < recursionLimit) (hu : un + 150 < cLine)
  (hret : ∀ (S d a : Addr) (n : Nat) (t1 t2 : Tok) (h' : Heap) (tk' : Nat), Keep [] s.heap h' → s.heap.get? S = none → s.heap.get? d = none → h'.get? S = some (tg d ([.ref a, .ref 340] ++ vs ++ [.ref 341]) n) → h'.get? d = some emptyDict → TupAt h' a (.int 1000 t1) (.str nm t2) → Q (.ref S) { s with heap := h', toks := tk' }) :
  wpAny (model PG w) A (call (.ref 348) [.str nm tn, .ref q]) Q E s := by
  cases R with
  | mk hf hkk B F X T hS =>
  rename_i h₀ L m p loose mean mg mb
  have N : News h₀ L s.heap [] := News.none
  refine wpAny_call ?_
  k_dflt cell_enter
  intro g L' h' hg hh F' N' B' X' T' lt'
  (try dsimp only)
  k_fold
  have hq' : g.IsList q vs.toArray := let ⟨o, ho, r⟩ := hq; ⟨o, hg _ _ ho (by simp), r⟩
  k_steps
  (with_reducible rename Heap.StaysIn g _ => kG)
  (with_reducible rename News g L' _ _ => kN)
  exact hret _ _ _ _ _ _ _ _ (keep_fin (S := []) hg kG) (fresh_of hg (kN _ (.tail _ (.head _))).2.2 (by simp)) (fresh_of hg (kN _ (.tail _ (.tail _ (.head _)))).2.2 (by simp)) (kN _ (.tail _ (.head _))).1 (kN _ (.tail _ (.tail _ (.head _)))).1 (tupAt_of kN (.head _))
section
variable {prog : Program} {w : World} {A : Around} {E : Value → Shared → Prop} {s : Shared} {h₀ : Heap} {L q : Addr} {m : Str → Option Value} {news : List (Addr × Obj)} {vs : List Value} {a b : Nat} {ta tb : Tok}
theorem tg_slice {value slice : Expr} {Q : Value → Shared → Prop} (F : Fr h₀ L s.heap m) (N : News h₀ L s.heap news) (X : (Mine.mkK.heap_1 w.params).In h₀) (t : TagsAt s.heap q vs) (ha : a ≤ b) (hb : b ≤ vs.length) (hz : vs.length ≤ 1000)
    (h : ∀ D h', Fr h₀ L h' m → News h₀ L h' ((D, listOf ((vs.drop a).take (b - a)).toArray 0) :: news) → (∀ p ∈ news, p.1 < D) → Q (.ref D) { s with heap := h' })
    (hs : subscripted slice false (.ref q) (.ref s.heap.objs.size) = operate [.ref s.heap.objs.size, .ref q] (getItem (.ref q) (.ref s.heap.objs.size))) :
    wpAny (model prog w) A (subscriptTail value slice (.ref q) (.ref s.heap.objs.size)) Q E { s with heap := s.heap.push { cls := .type "slice", data := .fields #[.int a ta, .int b tb, .none] } } := by
  have kp : ∀ z o, s.heap.get? z = some o → (s.heap.push { cls := .type "slice", data := .fields #[.int a ta, .int b tb, .none] }).get? z = some o := fun z o e => Heap.get?_push_of_some _ e
  refine ts_tail ((X.keeps F.keep).keeps kp) (t.keeps kp) (ts_getslice ((X.keeps F.keep).keeps kp) (t.keeps kp) (Heap.IsSliceOf.new ..) ha hb hz ?_) hs
  have N1 := News.push (F.push { cls := .type "slice", data := .fields #[.int a ta, .int b tb, .none] }) (N.grown fun _ _ e => Heap.get?_push_of_some _ e) { cls := .type "list", data := .seq ((vs.drop a).take (b - a)).toArray }
  exact h _ _ ((F.push _).push _) N1 fun p hp => Nat.lt_trans (Heap.lt_size (N p hp).1) (by rw [Heap.size_push]; exact Nat.lt_succ_self _)
end
section
variable {w : World} {dp un : Nat} {l : List Env} {env : Env} {gd : Option (List Code)} {A₀ : Around} {g : Heap} {L q : Addr} {m : Str → Option Value} {news : List (Addr × Obj)} {p : Program} {loose : List Str} {mean : ExcName → Option Value} {mg mb : Str → Option Value} {E Q : Value → Shared → Prop} {s : Shared}
abbrev RaisedBy (g : Heap) (l : List Env) (env : Env) (cls : Value) (h h' : Heap) (e t : Addr) (vs : List Value) : Prop := RaisedK (hideAll g (l.filterMap (·.frame))) (env :: l) e cls t vs [] h'
theorem assign_two {A : Around} {a : Addr} {v1 v2 : Value} {x y name : Str} {scope : Scope} {f : Addr} {cd : Value} {pa pb pt : Pos} {kt : Nat} {Q : Unit → Shared → Prop} (hh : A.handled = none) (F : Fr g L s.heap m) (N : News g L s.heap news) (t : TupAt s.heap a v1 v2)
  (hx : (envOf name scope L f cd).kindOf x = some .local) (hy : (envOf name scope L f cd).kindOf y = some .local) (hp : ((envOf name scope L f cd).scope.kind == .class || ((envOf name scope L f cd).scope.kind == .module && (envOf name scope L f cd).locals != (envOf name scope L f cd).globals)) = false)
  (h : ∀ h' tk', Fr g L h' (fun z => if z = y then some v2 else if z = x then some v1 else m z) → News g L h' news → Q () { s with heap := h', toks := tk' }) :
  wpAny (model PG w) A (assign (.Tuple [.Name x pa, .Name y pb] kt pt) (envOf name scope L f cd) (.ref a)) Q E s := by
  refine wpAny_assign_Tuple hh t rfl rfl fun h1 hx1 => ?_
  have F1 : Fr g L h1 m := F.keeps fun b o e => hx1 b o (Nat.ne_of_lt (Heap.lt_size e)) e
  have N1 : News g L h1 news := N.grown fun b o e => hx1 b o (Nat.ne_of_lt (Heap.lt_size e)) e
  show wpAny _ _ (do holding [v2] (assign (.Name x pa) (envOf name scope L f cd) v1); do holding [] (assign (.Name y pb) (envOf name scope L f cd) v2); pure ()) _ _ _
  refine wpAny_bind (wpAny_holding (wpAny_assign_Name (wpAny_storeName_local hx F1.ns (fun h2 hn2 hs2 => ?_) hp)))
  have F2 := F1.set hn2 hs2
  refine wpAny_bind (wpAny_holding (wpAny_assign_Name (wpAny_storeName_local hy F2.ns (fun h3 hn3 hs3 => wpAny_pure ?_) hp)))
  have F3 := F2.set hn3 hs3
  exact h _ _ F3 fun z hz => ⟨hs3.extBut _ _ (N z hz).2.1 (hs2.extBut _ _ (N z hz).2.1 (N1 z hz).1), (N z hz).2⟩
theorem flown_ofN {A : Around} {g h h' : Heap} {l : List Env} {e t : Addr} {cls : Value} {vs : List Value} {news : List (Addr × Obj)} (hg : ∀ a o, h.get? a = some o → a ∉ news.map (·.1) → g.get? a = some o) (hA : A.frames = some l) (N : ∀ p ∈ news, h.get? p.1 = some p.2)
    (R : RaisedK (hideAll g (l.filterMap (·.frame))) l e cls t vs news h') (U : g.UpToSlots h') : Flown A h e cls h' := by
  obtain ⟨⟨B, hB, hl, hfl, hnew⟩, htup⟩ := R
  have hq : ∀ b o, h.get? b = some o → b ∈ news.map (·.1) → B.get? b = some o := fun b o e hm => by
    obtain ⟨p, hp, rfl⟩ := List.mem_map.mp hm
    have := N p hp
    rw [e] at this
    cases this
    exact (hl p hp).1
  refine ⟨l, t, vs, hA, ⟨⟨B, fun b o q => ?_, fun _ h => (nomatch h), hfl, hnew⟩, htup⟩, fun b o q => ?_⟩
  · have hb := of_hideAll _ q
    by_cases hm : b ∈ news.map (·.1)
    · exact hq b o hb hm
    · refine hB b o (hideAll_get _ (hg b o hb hm) fun hm => ?_)
      rw [hideAll_none _ hm] at q; cases q
  · by_cases hm : b ∈ news.map (·.1)
    · exact fun _ => ⟨_, hfl.1 _ _ (hq b o q hm)⟩
    · exact U b o (hg b o q hm)
theorem flown_KN {A : Around} {g h h' : Heap} {L : Addr} {m : Str → Option Value} {l : List Env} {env : Env} {A₀ : Around} {e : Addr} {cls : Value} {news : List (Addr × Obj)} (B : Below A₀ (hideAll g (l.filterMap (·.frame))) l g) (F : Fr g L h m) (N : News g L h news) (hA : A.frames = some (env :: l)) (hf : env.frame = some L)
    (x : Flown A h e cls h') : ∃ t vs, RaisedK (hideAll g (l.filterMap (·.frame))) (env :: l) e cls t vs news h' ∧ h.UpToSlots h' := by
  obtain ⟨l', t, vs, e1, ⟨⟨B1, hB, _, hfl, hnew⟩, htup⟩, U⟩ := x.out
  rw [hA] at e1
  cases e1
  refine ⟨t, vs, ⟨⟨B1, fun b o q => hB b o ?_, fun q hq => ⟨hB _ _ (hideAll_get _ (N q hq).1 fun hm => ?_), ?_⟩, hfl, hnew⟩, htup⟩, U⟩
  · have hb := of_hideAll _ q
    refine hideAll_get _ (F.keep b o hb) fun hm => ?_
    rw [List.filterMap_cons, hf] at hm
    rcases List.mem_cons.mp hm with rfl | hm
    · exact absurd (Heap.lt_size hb) (Nat.not_lt.mpr F.above)
    · rw [hideAll_none _ hm] at q; cases q
  · rw [List.filterMap_cons, hf] at hm
    rcases List.mem_cons.mp hm with z | hm
    · exact (N q hq).2.1 z
    · obtain ⟨o, ho, _⟩ := (B.frames.mem hm).2
      rw [(N q hq).2.2] at ho; cases ho
  · cases z : (hideAll g (l.filterMap (·.frame))).get? q.1 with
    | none => rfl
    | some o => have := of_hideAll _ z; rw [(N q hq).2.2] at this; cases this
theorem gse_K {vs : List Value} {rows : List Row} {nm : Str} {tn : Tok} (hf : env.frame = some L) (hk : env.scope.kind = .function) (B : Below A₀ (hideAll g (l.filterMap (·.frame))) l g) (F : Fr g L s.heap m) (N : News g L s.heap news) (X : (Mine.mkK.heap_1 w.params).In g) (T : Top p loose mean mg mb g)
  (hq : TagsAt s.heap q vs) (hr : TagRows s.heap vs rows) (ho : RowsOk rows) (hn : PyData.strOk nm = true) (hlen : rows.length ≤ 300) (hd : dp + 5 < recursionLimit) (hu : un + 150 < cLine)
  (hlast : ∀ i : Nat, i < rows.length → ((rowAt rows i).1 == 1000 && (rowAt rows i).2 == nm) = true → i + 1 < rows.length)
  (hclos : ∀ i : Nat, i + 1 < rows.length → ((rowAt rows i).1 == 1000 && (rowAt rows i).2 == nm) = true → ((rowAt rows ((i : Int) + 1)).1 == 1002 && (rowAt rows ((i : Int) + 1)).2 == Str.ofString "{") = true → closeFrom (rows.drop (i + 1)) 0 (i + 1) ≠ none)
  (hraise : ∀ e t vs h' tk', RaisedK (hideAll g (l.filterMap (·.frame))) (env :: l) e (.ref 372) t vs news h' → s.heap.UpToSlots h' → Ctx0 h' e → spanFrom nm rows 0 = none → E (.ref e) { s with heap := h', toks := tk' })
  (hret : ∀ (a b : Nat) y t1 t2 h' tk', Fr g L h' m → News g L h' news → Keep [] s.heap h' → spanFrom nm rows 0 = some (a, b) → TupAt h' y (.int a t1) (.int b t2) → Q (.ref y) { s with heap := h', toks := tk' }) :
  wpAny (model PG w) ⟨none, dp, some (env :: l), gd, un⟩ (call (.ref 382) [.str nm tn, .ref q]) Q E s := by
  refine gse_c (Rd.mk hf hk B F X T (fun _ h => nomatch h)) hq hr ho hn hlen hd hu hlast hclos (fun e h' tk' x c sp => ?_) fun a b y t1 t2 h' tk' kp sp fy ty => hret a b y t1 t2 h' tk' (Mine.Fr.after F kp (fun _ h => nomatch h)) (News.after0 N kp) kp sp ty
  obtain ⟨t, vs', R, U⟩ := flown_KN (A := ⟨none, dp, some (env :: l), gd, un⟩) B F N rfl hf x
  exact hraise e t vs' h' tk' R U c sp
end
theorem close_bounds : ∀ (rs : List Row) (lv : Int) (k e : Nat), closeFrom rs lv k = some e → k ≤ e ∧ e < k + rs.length
  | [], _, _, _, h => by simp [closeFrom] at h
  | r :: rs, lv, k, e, h => by
    unfold closeFrom at h
    split at h
    · cases h; simp
    · have := close_bounds rs _ _ _ h
      simp; omega
theorem span_bounds {nm : Str} : ∀ (rs : List Row) (k a b : Nat), spanFrom nm rs k = some (a, b) → k ≤ a ∧ a < b ∧ b ≤ k + rs.length
  | [], _, _, _, h => by simp [spanFrom] at h
  | [_], _, _, _, h => by simp [spanFrom] at h
  | r :: r' :: rs, k, a, b, h => by
    have ih := span_bounds (nm := nm) (r' :: rs) (k + 1) a b
    unfold spanFrom at h
    split at h
    · split at h
      · rename_i e he
        have := close_bounds _ _ _ _ he
        cases h
        simp at this ⊢; omega
      · have := ih h
        simp at this ⊢; omega
    · have := ih h
      simp at this ⊢; omega
theorem span_lt {nm : Str} {rows : List Row} {a b : Nat} (h : spanFrom nm rows 0 = some (a, b)) : a ≤ b := by have := span_bounds _ _ _ _ h; omega
theorem span_le {nm : Str} {rows : List Row} {vs : List Value} {a b : Nat} (h : spanFrom nm rows 0 = some (a, b)) (e : vs.length = rows.length) : b ≤ vs.length := by have := span_bounds _ _ _ _ h; omega
section
variable {prog : Program} {w : World} {A : Around} {E : Value → Shared → Prop} {s : Shared} {h₀ : Heap} {L q : Addr} {m : Str → Option Value} {news : List (Addr × Obj)} {vs : List Value}
theorem newsF {S : Addr} {h' : Heap} (F : Fr h₀ L s.heap m) (N : News h₀ L s.heap news) (k : Keep [] s.heap h') (t : TagsF s.heap h' S vs) :
    ∃ d n, News h₀ L h' ((S, tg d vs n) :: (d, emptyDict) :: news) ∧ s.heap.get? S = none ∧ @LT.lt Nat instLTNat d S ∧ ∀ p ∈ news, p.1 < d := by
  obtain ⟨d, n, l, f1, f2, a, b⟩ := t
  have fr : ∀ z o, s.heap.get? z = none → h'.get? z = some o → z ≠ L ∧ h₀.get? z = none := fun z o e _ => by
    refine ⟨fun q => ?_, ?_⟩
    · obtain ⟨oL, _, _, hL, _⟩ := F.ns
      rw [q, hL] at e; cases e
    · cases q : h₀.get? z with
      | none => rfl
      | some o => rw [F.keep _ _ q] at e; cases e
  refine ⟨d, n, fun p hp => ?_, f1, l.2, fun p hp => Nat.lt_of_lt_of_le (Heap.lt_size (N p hp).1) l.1⟩
  rcases List.mem_cons.mp hp with rfl | hp
  · exact ⟨a, fr _ _ f1 a⟩
  · rcases List.mem_cons.mp hp with rfl | hp
    · exact ⟨b, fr _ _ f2 b⟩
    · exact News.after0 N k p hp
theorem tg_list {Q : Value → Shared → Prop} (F : Fr h₀ L s.heap m) (N : News h₀ L s.heap news) (X : (Mine.mkK.heap_1 w.params).In h₀) (hq : s.heap.IsList q vs.toArray) (hz : vs.length ≤ 1000)
    (h : ∀ S d n h', Fr h₀ L h' m → News h₀ L h' ((S, tg d vs n) :: (d, emptyDict) :: news) → s.heap.get? S = none → @LT.lt Nat instLTNat d S → (∀ p ∈ news, p.1 < d) → Q (.ref S) { s with heap := h' }) : wpAny (model prog w) A (call (.ref 335) [.ref q]) Q E s := by
  refine tags_list (X.keeps F.keep) hq hz fun S h' k t => ?_
  obtain ⟨d, n, a, b, c, e⟩ := newsF F N k t
  exact h S d n h' (Mine.Fr.after F k (fun _ q => nomatch q)) a b c e
theorem tg_tags {Q : Value → Shared → Prop} (hh : A.handled = none) (F : Fr h₀ L s.heap m) (N : News h₀ L s.heap news) (X : (Mine.mkK.heap_1 w.params).In h₀) (hq : TagsAt s.heap q vs) (h0 : 0 < vs.length) (hz : vs.length ≤ 1000)
    (h : ∀ S d n h' tk', Fr h₀ L h' m → News h₀ L h' ((S, tg d vs n) :: (d, emptyDict) :: news) → s.heap.get? S = none → @LT.lt Nat instLTNat d S → (∀ p ∈ news, p.1 < d) → Q (.ref S) { s with heap := h', toks := tk' }) : wpAny (model prog w) A (call (.ref 335) [.ref q]) Q E s := by
  refine tags_tags hh (X.keeps F.keep) hq h0 hz fun S h' tk' k t => ?_
  obtain ⟨d, n, a, b, c, e⟩ := newsF F N k t
  exact h S d n h' tk' (Mine.Fr.after F k (fun _ q => nomatch q)) a b c e
end
theorem tagsAt_led {h₀ h : Heap} {L x d : Addr} {vs : List Value} {n : Nat} {news : List (Addr × Obj)} (N : News h₀ L h news) (hm : (x, tg d vs n) ∈ news) : TagsAt h x vs := ⟨some d, n, _, (N _ hm).1⟩
theorem cut_len {vs : List Value} {n a k : Nat} (h : vs.length ≤ n) : ((vs.drop a).take k).length ≤ n := by simp; omega
end
local macro_rules | `(tactic| walk_at "call ref") => `(tactic| (k_here; (with_reducible show wpAny _ _ (call (Value.ref 382) _) _ _ _); k_dflt (refine' gse_K ?hf ?hk ?B ?F ?N ?X ?T ?q ?r ?ho ?hn ?hl ?hd ?hu ?l1 ?l2 ?_ ?_; (case hf => rfl); (case hk => rfl); (case F => k_asm); (case N => k_asm); (case B => k_asm); (case X => k_asm); (case T => k_asm); (case q => first | exact TagsAt.keeps (by assumption) (Fr.keep (by k_asm)) | exact tagsAt_led (by k_asm) (by k_mem)); (case r => exact TagRows.keeps (by assumption) (Fr.keep (by k_asm))); (case ho => assumption); (case hn => assumption); (case hl => assumption); (case hd => ktr_room); (case hu => ktr_units); (case l1 => assumption); (case l2 => assumption); k_whole)))
local macro_rules | `(tactic| walk_at "assign Tuple") => `(tactic| (k_here; k_dflt (refine' assign_two ?hh ?F ?N ?t ?a ?b ?c ?_; (case hh => rfl); (case F => k_asm); (case N => k_asm); (case t => assumption); (case a => rfl); (case b => rfl); (case c => rfl); k_whole); intro h9 tk9 F9 N9; (try dsimp only)))
local macro_rules | `(tactic| walk_at "subscriptTail Name Slice ref ref") => `(tactic| (k_here; k_dflt (refine' tg_slice ?F ?N ?X ?t ?a ?b ?z ?_ ?s; (case F => k_asm); (case N => k_asm); (case X => k_asm); (case t => exact TagsAt.keeps (by assumption) (Fr.keep (by k_asm))); (case a => exact span_lt (by assumption)); (case b => exact span_le (by assumption) (by assumption)); (case z => omega); (case s => with_unfolding_all rfl); k_whole); intro D9 h9 F9 N9 l9; (try k_lt l9); (try dsimp only)))
local macro_rules | `(tactic| walk_at "call ref") => `(tactic| (k_here; (with_reducible show wpAny _ _ (call (Value.ref 335) [Value.ref _]) _ _ _); k_dflt (first
  | (refine' tg_list ?F ?N ?X ?q ?z ?_; (case F => k_asm); (case N => k_asm); (case X => k_asm); (case q => exact News.isList (by k_asm) (by k_mem)); (case z => first | omega | exact cut_len (by omega)); k_whole; intro S9 d9 n9 h9 F9 N9 f9 l8 l9; (try k_lt l9); (try dsimp only))
  | (refine' tg_tags ?hh ?F ?N ?X ?q ?p ?z ?_; (case hh => rfl); (case F => k_asm); (case N => k_asm); (case X => k_asm); (case q => first | exact TagsAt.keeps (by assumption) (Fr.keep (by k_asm)) | exact tagsAt_led (by k_asm) (by k_mem)); (case p => assumption); (case z => omega); k_whole; intro S9 d9 n9 h9 tk9 F9 N9 f9 l8 l9; (try k_lt l9); (try dsimp only)))))
local macro_rules | `(tactic| walk_at "delItem ref ref") => `(tactic| (k_here; k_dflt (refine' tg_del ?F ?N ?X ?U ?d ?a ?b ?z ?_; (case F => k_asm); (case N => k_asm); (case X => k_asm); (case U => k_updF); (case d => first | exact tg_hd1 (by k_asm) (by k_mem) | exact Fr.keep (by k_asm) _ _ (by assumption)); (case a => exact span_lt (by assumption)); (case b => exact span_le (by assumption) (by assumption)); (case z => omega); k_whole); intro h9 n9 F9 N9; (try dsimp only at N9); (try dsimp only)))
section
theorem gn_c {w : World} {A : Around} {s : Shared} {Q E : Value → Shared → Prop} {dp un : Nat} {q : Addr} {vs : List Value} {rows : List Row} {nm : Str} {tn : Tok}
  (R : Rd w s.heap [] dp un A) (hq : TagsAt s.heap q vs) (hr : TagRows s.heap vs rows) (ho : RowsOk rows) (hn : PyData.strOk nm = true) (hlen : rows.length ≤ 300) (hd : dp + 9 < recursionLimit) (hu : un + 250 < cLine)
  (hlast : ∀ i : Nat, i < rows.length → ((rowAt rows i).1 == 1000 && (rowAt rows i).2 == nm) = true → i + 1 < rows.length)
  (hclos : ∀ i : Nat, i + 1 < rows.length → ((rowAt rows i).1 == 1000 && (rowAt rows i).2 == nm) = true → ((rowAt rows ((i : Int) + 1)).1 == 1002 && (rowAt rows ((i : Int) + 1)).2 == Str.ofString "{") = true → closeFrom (rows.drop (i + 1)) 0 (i + 1) ≠ none)
  (hraise : ∀ (e : Addr) (h' : Heap) (tk' : Nat), Flown A s.heap e (.ref 372) h' → Ctx0 h' e → spanFrom nm rows 0 = none → E (.ref e) { s with heap := h', toks := tk' })
  (hret : ∀ (a b : Nat) (S d : Addr) (n : Nat) (h' : Heap) (tk' : Nat), Keep [] s.heap h' → spanFrom nm rows 0 = some (a, b) → s.heap.get? S = none → s.heap.get? d = none → h'.get? S = some (tg d ((vs.drop a).take (b - a)) n) → h'.get? d = some emptyDict → Q (.ref S) { s with heap := h', toks := tk' }) :
  wpAny (model PG w) A (call (.ref 362) [.str nm tn, .ref q]) Q E s := by
  cases R with
  | mk hf hkk B F X T hS =>
  rename_i h₀ L m p loose mean mg mb
  have N : News h₀ L s.heap [] := News.none
  refine wpAny_call ?_
  k_dflt cell_enter
  intro g L' h' hg hh F' N' B' X' T' lt'
  (try dsimp only)
  k_fold
  have hq' : TagsAt g q vs := hq.keeps fun b o e => hg b o e (by simp)
  have hr' : TagRows g vs rows := hr.keeps fun b o e => hg b o e (by simp)
  have hvl : vs.length = rows.length := hr.1
  k_steps
  · (with_reducible rename RaisedK _ _ _ _ _ _ _ _ => kR9)
    (with_reducible rename Heap.UpToSlots g _ => kU9)
    exact hraise _ _ _ (flown_of hg rfl kR9 kU9) (by assumption) (by assumption)
  · (with_reducible rename Heap.StaysIn g _ => kG)
    (with_reducible rename News g L' _ _ => kN)
    exact hret _ _ _ _ _ _ _ (keep_fin (S := []) hg kG) (by assumption) (fresh_of hg (kN _ (.head _)).2.2 (by simp)) (fresh_of hg (kN _ (.tail _ (.head _))).2.2 (by simp)) (kN _ (.head _)).1 (kN _ (.tail _ (.head _))).1
theorem rm_c {w : World} {A : Around} {s : Shared} {Q E : Value → Shared → Prop} {dp un : Nat} {q d : Addr} {n : Nat} {vs : List Value} {rows : List Row} {nm : Str} {tn : Tok}
  (R : Rd w s.heap [q] dp un A) (hq : s.heap.get? q = some (tg d vs n)) (hqd : s.heap.get? d = some emptyDict) (hr : ∀ g : Heap, (∀ a o, s.heap.get? a = some o → a ∉ [q] → g.get? a = some o) → TagRows g vs rows) (ho : RowsOk rows) (hn : PyData.strOk nm = true) (hlen : rows.length ≤ 300) (hd : dp + 9 < recursionLimit) (hu : un + 250 < cLine)
  (hlast : ∀ i : Nat, i < rows.length → ((rowAt rows i).1 == 1000 && (rowAt rows i).2 == nm) = true → i + 1 < rows.length)
  (hclos : ∀ i : Nat, i + 1 < rows.length → ((rowAt rows i).1 == 1000 && (rowAt rows i).2 == nm) = true → ((rowAt rows ((i : Int) + 1)).1 == 1002 && (rowAt rows ((i : Int) + 1)).2 == Str.ofString "{") = true → closeFrom (rows.drop (i + 1)) 0 (i + 1) ≠ none)
  (hraise : ∀ (e : Addr) (h' : Heap) (tk' : Nat), Flown A s.heap e (.ref 372) h' → spanFrom nm rows 0 = none → E (.ref e) { s with heap := h', toks := tk' })
  (hret : ∀ (a b : Nat) (n' : Nat) (h' : Heap) (tk' : Nat), Keep [q] s.heap h' → spanFrom nm rows 0 = some (a, b) → h'.get? q = some (tg d (vs.take a ++ vs.drop b) n') → Q (.ref q) { s with heap := h', toks := tk' }) :
  wpAny (model PG w) A (call (.ref 355) [.str nm tn, .ref q]) Q E s := by
  cases R with
  | mk hf hkk B F X T hS =>
  rename_i h₀ L m p loose mean mg mb
  have N : News h₀ L s.heap [(q, tg d vs n)] := fun p hp => by
    rw [List.mem_singleton.mp hp]; exact ⟨hq, (hS q (by simp)).2, (hS q (by simp)).1⟩
  refine wpAny_call ?_
  k_dflt cell_enter
  intro g L' h' hg hh F' N' B' X' T' lt'
  (try dsimp only)
  k_fold
  have hdq : d ≠ q := fun z => by rw [z, hq] at hqd; cases hqd
  have hd' : g.get? d = some emptyDict := hg _ _ hqd (by simpa using hdq)
  have hr' : TagRows g vs rows := hr g (fun a o e n => hg a o e (by simpa using n))
  have hvl : vs.length = rows.length := hr'.1
  clear hq
  k_steps
  · (with_reducible rename RaisedK _ _ _ _ _ _ _ _ => kR9)
    (with_reducible rename Heap.UpToSlots g _ => kU9)
    exact hraise _ _ _ (flown_ofN hg rfl (fun p hp => (N p hp).1) kR9 kU9) (by assumption)
  · (with_reducible rename Heap.StaysIn g _ => kG)
    (with_reducible rename News g L' _ _ => kN)
    exact hret _ _ _ _ _ (keep_fin (S := [q]) hg kG) (by assumption) (kN _ (.head _)).1
end
section
def validC (k : Int) : Bool := decide (k ∈ ([1000, 1001, 1002, 1003, 1004, 1005, 1010, 1011, 1012, 1013, 1040, 1041, 1042, 1070, 1071] : List Int))
theorem valid_set {w : World} {h : Heap} (X : (Mine.mkK.heap_1 w.params).In h) : h.SetOf (PySem.intKind PG w) 22 validC 15 := by
  refine ⟨_, _, _, _, X 22 _ (by k_is), ?_, rfl, ?_, ?_, ?_, ?_, rfl⟩
  · refine ⟨?_, ?_, ?_⟩ <;> rfl
  · intro e he
    simp at he
    rcases he with rfl | rfl | rfl | rfl | rfl | rfl | rfl | rfl | rfl | rfl | rfl | rfl | rfl | rfl | rfl <;> exact ⟨⟨_, intKind_is _ _ _ _, (by first | rfl | kernel_rfl)⟩, rfl⟩
  · intro k
    constructor
    · intro hk
      simp [validC] at hk
      rcases hk with rfl | rfl | rfl | rfl | rfl | rfl | rfl | rfl | rfl | rfl | rfl | rfl | rfl | rfl | rfl <;> (refine' ⟨(_, .int _ _), ?mm, intKind_is _ _ _ _⟩; (case mm => repeat (first | exact List.Mem.head _ | refine List.Mem.tail _ ?_)))
    · rintro ⟨e, he, hk⟩
      obtain ⟨t, ht⟩ := Value.isInt_shape hk
      simp at he
      rcases he with rfl | rfl | rfl | rfl | rfl | rfl | rfl | rfl | rfl | rfl | rfl | rfl | rfl | rfl | rfl <;> (injection ht with e1; subst e1; decide)
  · decide
  · decide +kernel
section
variable {w : World} {A : Around} {s : Shared} {E : Value → Shared → Prop} {Q : Value → Shared → Prop} {dp un : Nat} {p : Program} {loose : List Str} {mean : ExcName → Option Value} {mg mb : Str → Option Value} {h₀ : Heap} {m : Str → Option Value}
  {scope sc : Scope} {C L a bi x : Addr} {code cd : Value} {nm : Str} {p1 p2 p3 p4 : Pos} {k : Int} {t1 : Tok} {v2 : Value}
theorem elt_val (hsc : scope.kind = .function) (hc1 : scope.names.lookup (Str.ofString "tag") = some .local) (hc3 : scope.names.lookup (Str.ofString "VALID_XDATA_GROUP_CODES") = some .globalImplicit)
  (R : Rd w s.heap [] dp un A) (F : Fr h₀ C s.heap m) (X : (Mine.mkK.heap_1 w.params).In h₀) (T : Top p loose mean mg mb h₀) (m1 : m (Str.ofString "tag") = some (.ref x)) (t : TagAt s.heap x (.int k t1) v2) (hd : dp + 2 < recursionLimit) (hu : un + 16 < cLine)
  (h : ∀ (h' : Heap) (tk' : Nat), Keep [] s.heap h' → Q (.bool (validC k)) { s with heap := h', toks := tk' }) :
  wpAny (model PG w) A (eval (.Compare (.Attribute (.Name (Str.ofString "tag") p1) (Str.ofString "code") p2) [.In] [.Name (Str.ofString "VALID_XDATA_GROUP_CODES") p3] p4) (genEnv scope [] C code bi (envOf nm sc L a cd))) Q E s := by
  refine wpAny_Compare1 ?_
  refine Attribute_Name_ ?_
  refine wpAny_Name (wpAny_loadName_local hsc hc1 F.ns m1 ?_) (by decide)
  refine tag_code R t rfl hd hu fun h1 tk1 k1 => ?_
  have F1 := Mine.Fr.after F k1 (fun _ h => nomatch h)
  refine Name_function_global hsc hc3 (loadGlobal_global (env := genEnv scope [] C code bi (envOf nm sc L a cd)) (T.g.keeps F1.keep) (mg_of X T.g (v := .ref 22) (by k_is)) ?_) (by decide)
  exact wpAny_inSet_of (knd := PySem.intKind PG w) (s := { s with heap := h1, toks := tk1 }) (intKind_is _ _ _ _) rfl (valid_set (X.keeps F1.keep)) (h _ _ k1)
end
end
section
abbrev valE (p1 p2 p3 p4 : Pos) : Expr := .Compare (.Attribute (.Name (Str.ofString "tag") p1) (Str.ofString "code") p2) [.In] [.Name (Str.ofString "VALID_XDATA_GROUP_CODES") p3] p4
def gxVal (rows : List Row) (h₀ : Heap) (C I q : Addr) (i : Nat) (y : Value) (s₀ s : Shared) : Prop :=
  GE [C, I] s₀ s ∧ gxInv h₀ C I q (i + 1) s ∧ y = .bool (validC (rowAt rows i).1)
section
variable {w : World} {dp un : Nat} {l : List Env} {gd : Option (List Code)} {A₀ : Around} {base h₀ : Heap} {p : Program} {loose : List Str} {mean : ExcName → Option Value} {mg mb : Str → Option Value}
  {scope sc : Scope} {C I q L a bi : Addr} {code cd : Value} {nm : Str} {p1 p2 p3 p4 pt pos : Pos} {iter : Expr} {vs : List Value} {rows : List Row}
theorem gx_val (hsc : scope.kind = .function) (hc1 : scope.names.lookup (Str.ofString "tag") = some .local) (hc3 : scope.names.lookup (Str.ofString "VALID_XDATA_GROUP_CODES") = some .globalImplicit)
  (B : Below A₀ base l h₀) (X : (Mine.mkK.heap_1 w.params).In h₀) (T : Top p loose mean mg mb h₀) (hq : SeqAt h₀ q vs) (hr : TagRows h₀ vs rows)
  (hI : h₀.get? I = none) (hCI : C ≠ I) (hd : dp + 20 < recursionLimit) (hu : un + 120 < cLine) :
  GxTurns PG w ((Around.in1 ⟨none, dp, some l, gd, un⟩).over (.compLoop (gxE (valE p1 p2 p3 p4) (.Name (Str.ofString "tag") pt) iter scope pos) 0 (.ref I) .none (genEnv scope [] C code bi (envOf nm sc L a cd))) [])
    (valE p1 p2 p3 p4) (.Name (Str.ofString "tag") pt) (genEnv scope [] C code bi (envOf nm sc L a cd)) I vs.length
    (gxInv h₀ C I q) (gxVal rows h₀ C I q) (GE [C, I]) (gxExt h₀ C I) where
  next := fun i y s s4 s'' hm he => hm.2.1.ext he
  done := fun s E inv => by
    obtain ⟨⟨m, F⟩, it⟩ := inv
    refine next_end rfl it (hq.keeps F.keep) (by simp) fun h' he => ⟨rfl, h', s.toks, s.gens, rfl, GN.refl _, fun b o e n => he b o (by simp at n; exact n.2) e⟩
  turn := fun i s E hi inv => by
    obtain ⟨⟨m, F⟩, it⟩ := inv
    have hi' : i < rows.length := hr.1 ▸ hi
    have hv : vs[i]? = some vs[i] := by simp [hi]
    have hrw := rowAt_some (rows := rows) (k := (i : Int)) (i := i) (by omega) hi'
    obtain ⟨aa, t1, t2, e, tg⟩ := (hr.2 i _ _ hv hrw).at_
    refine next_item it (hq.keeps F.keep) hv fun h1 it1 sb1 => ⟨_, rfl, ?_⟩
    have LC : h₀.get? C = none := by
      cases z : h₀.get? C with
      | none => rfl
      | some o => exact absurd (Heap.lt_size z) (Nat.not_lt.mpr F.above)
    have F1 : Fr h₀ C h1 m := ⟨F.ns.at' fun o h => (sb1.2 _ hCI).trans h, fun b o h => (sb1.2 b (fun z => by rw [z, hI] at h; cases h)).trans (F.keep b o h), F.above⟩
    rw [e]
    refine wpAny_pure (a := ()) ?_
    have hcu : (Code.compLoop (gxE (valE p1 p2 p3 p4) (.Name (Str.ofString "tag") pt) iter scope pos) 0 (.ref I) .none (genEnv scope [] C code bi (envOf nm sc L a cd))).cUnits ≤ 3 := by
      simp only [Code.cUnits, Code.frames]; split <;> omega
    refine wpAny_assign_Name (wpAny_storeName_local hc1 F1.ns (fun h2 hn2 hs2 => ?_) (by simp [genEnv, hsc]))
    have F2 := F1.set hn2 hs2
    refine elt_val (dp := dp + 1) (un := (Around.in1 ⟨none, dp, some l, gd, un⟩).units + unitsOf ([] : List (Code × Pos)) + (Code.compLoop (gxE (valE p1 p2 p3 p4) (.Name (Str.ofString "tag") pt) iter scope pos) 0 (.ref I) .none (genEnv scope [] C code bi (envOf nm sc L a cd))).cUnits) hsc hc1 hc3 (Rd.mk (env := genEnv scope [] C code bi (envOf nm sc L a cd)) rfl hsc B F2 X T (fun _ h => nomatch h)) F2 X T (if_pos rfl) (tg.keeps F2.keep) (by omega) (by show (un + 1) + 0 + _ + 16 < cLine; omega) fun h3 tk3 k3 => ?_
    change Keep [] h2 h3 at k3
    refine ⟨⟨h3, tk3, s.gens, rfl, GN.refl _, fun b o e n => ?_⟩, ⟨⟨_, Mine.Fr.after F2 k3 (fun _ h => nomatch h)⟩, ?_⟩, rfl⟩
    · simp at n
      exact k3 b o (hs2.extBut b o n.1 ((sb1.2 b n.2).trans e)) (by simp)
    · exact (it1.at fun o e => hs2.extBut _ o (Ne.symm hCI) e).at fun o e => k3 _ o e (by simp)
end
end
section
def valInv (w : World) (A : Around) (rows : List Row) (P C I q G n : Nat) (oP : Obj) (s0 : Shared) (i : Nat) (s : Shared) : Prop :=
  (∃ h tk gs, s = { s0 with heap := h, toks := tk, gens := gs }) ∧ (∃ gs, s.gens[s0.gens.size]? = some gs ∧ ∀ s'' : Shared, gxExt (hideAll s0.heap [P]) C I s s'' → gs.Goes (model PG w) A.in1 (fun m s₀ r s₁ => r = .ok .next ∧ (m = 0 ∧ GE [C, I] s₀ s₁)) (gxY n (gxVal rows (hideAll s0.heap [P]) C I q) (gxExt (hideAll s0.heap [P]) C I)) (n - i) (.send .none) s'') ∧
  s.heap.IsGen G s0.gens.size ∧ Keep [P] s0.heap s.heap ∧ s.heap.get? P = some oP ∧ GR s0.gens.size s0.gens s.gens ∧ gxInv (hideAll s0.heap [P]) C I q i s
section
variable {w : World} {dp un : Nat} {l : List Env} {gd : Option (List Code)} {A₀ : Around} {base : Heap} {p : Program} {loose : List Str} {mean : ExcName → Option Value} {mg mb : Str → Option Value}
  {C I q L a P G : Addr} {rows : List Row} {s0 : Shared} {R : Result → Shared → Prop} {n : Nat} {oP : Obj}
theorem val_loop (T : Top p loose mean mg mb (hideAll s0.heap [P])) (hI : s0.heap.get? I = none) (hC : s0.heap.get? C = none) (hG : s0.heap.get? G = none) (hP : ∃ oP, s0.heap.get? P = some oP) (hCI : C ≠ I) (hGC : G ≠ C) (hGI : G ≠ I) (hd : dp + 20 < recursionLimit) (hn : n = rows.length) :
    ∀ (k i : Nat) (s : Shared), n - i = k → i ≤ n → valInv w (Around.in1 ⟨none, dp, some l, gd, un⟩) rows P C I q G n oP s0 i s →
    (∀ h' tk' gs', Keep [P] s0.heap h' → h'.get? P = some oP → GN s0.gens gs' → R (.ok (.ret (.bool ((rows.drop i).all fun r => validC r.1)))) { s0 with heap := h', toks := tk', gens := gs' }) →
    codeAny (model PG w) ⟨none, dp, some l, gd, un⟩ (.builtin "all.loop" ⟨[.ref G], []⟩) R s := by
  have nP : ∀ z, s0.heap.get? z = none → P ≠ z := fun z fz q1 => by obtain ⟨o, ho⟩ := hP; rw [q1, fz] at ho; cases ho
  intro k
  induction k with
  | zero =>
    intro i s hk hi inv hR
    have hin : i = n := by omega
    subst hin
    obtain ⟨⟨h, tk, gs0, rfl⟩, ⟨gs, e1, e2⟩, e3, e4, e5, e6, e9⟩ := inv
    have hl : h.NoLimit := T.nolimit.keeps fun b o e => e4 b o (of_hideAll _ e) fun hm => by rw [hideAll_none _ hm] at e; cases e
    have W : GxAt PG w (Around.in1 ⟨none, dp, some l, gd, un⟩) G s0.gens.size i (gxVal rows (hideAll s0.heap [P]) C I q) (GE [C, I]) (gxExt (hideAll s0.heap [P]) C I) i ({ s0 with heap := h, toks := tk, gens := gs0 } : Shared) := ⟨e3, hl, gs, e1, e2⟩
    refine codeAny_builtin F.entry_all_loop ?_
    rw [Around.under_plainId F.plain_all_loop _]
    show wpAny _ (Around.in1 _) (pyNext (.ref G) >>= _) _ _ _
    refine wpAny_bind (gx_done (fun s b o _ e => e) rfl (by show dp < recursionLimit; omega) W (fun _ _ _ e => e) fun s₁ hf h' k' => ?_)
    obtain ⟨h1, tk1, gs1, rfl, g1, k1⟩ := hf
    change Keep [C, I] h h1 at k1
    have k2 : Keep [C, I] h h' := fun a o e nn => k' a o (k1 a o e nn)
    refine wpAny_bind (wpAny_rule (wpAny_pure ?_))
    have := hR h' tk1 (gs1.setIfInBounds s0.gens.size .finished) (fun a o e nn => k2 a o (e4 a o e nn) (by simp; exact ⟨(fun z => by rw [z, hC] at e; cases e), (fun z => by rw [z, hI] at e; cases e)⟩)) (k2 _ _ e5 (by simp; exact ⟨nP _ hC, nP _ hI⟩)) ((e6.set .running).grow g1).done
    rw [List.drop_of_length_le (by omega)] at this
    exact this
  | succ k ih =>
    intro i s hk hi inv hR
    have hlt : i < n := by omega
    have hdr : rows.drop i = rowAt rows i :: rows.drop (i + 1) := drop_at (rowAt_some (k := (i : Int)) (by omega) (by omega))
    obtain ⟨⟨h, tk, gs0, rfl⟩, ⟨gs, e1, e2⟩, e3, e4, e5, e6, e9⟩ := inv
    have hl : h.NoLimit := T.nolimit.keeps fun b o e => e4 b o (of_hideAll _ e) fun hm => by rw [hideAll_none _ hm] at e; cases e
    have W : GxAt PG w (Around.in1 ⟨none, dp, some l, gd, un⟩) G s0.gens.size n (gxVal rows (hideAll s0.heap [P]) C I q) (GE [C, I]) (gxExt (hideAll s0.heap [P]) C I) i ({ s0 with heap := h, toks := tk, gens := gs0 } : Shared) := ⟨e3, hl, gs, e1, e2⟩
    refine codeAny_builtin F.entry_all_loop ?_
    rw [Around.under_plainId F.plain_all_loop _]
    show wpAny _ (Around.in1 _) (pyNext (.ref G) >>= _) _ _ _
    refine wpAny_bind (gx_item rfl (by show dp < recursionLimit; omega) W hlt (fun _ _ _ e => e) fun v s₁ gs' hb hm hgo => ?_)
    obtain ⟨⟨h1, tk1, gs1, rfl, g1, k1⟩, inv1, rfl⟩ := hm
    change Keep [C, I] h h1 at k1
    have gsz : s0.gens.size < gs1.size := Nat.lt_of_lt_of_le (by simp [Shared.setGen]; exact e6.2.1) g1.1
    have kk : Keep [P] s0.heap h1 := fun a o e nn => k1 a o (e4 a o e nn) (by simp; exact ⟨(fun z => by rw [z, hC] at e; cases e), (fun z => by rw [z, hI] at e; cases e)⟩)
    have hP1 : h1.get? P = some oP := k1 _ _ e5 (by simp; exact ⟨nP _ hC, nP _ hI⟩)
    refine wpAny_bind (wpAny_holding (wpAny_truthy_bool ?_))
    refine wpAny_bind (wpAny_letGo ?_)
    cases hv : validC (rowAt rows i).1 with
    | true =>
      simp only [if_true]
      refine wpAny_pure ⟨plainId_quiet F.plain_all_loop _, ih (i + 1) _ (by omega) hlt ⟨⟨_, _, _, rfl⟩, ⟨gs', Array.getElem?_setIfInBounds_self_of_lt gsz, hgo⟩, ?_, kk, hP1, ((e6.set .running).grow g1).set gs', inv1⟩ fun h' tk' gs2 x1 x2 x3 => ?_⟩
      · obtain ⟨og, n1, n2, ho, rr⟩ := e3
        exact ⟨og, n1, n2, k1 _ _ ho (by simp; exact ⟨hGC, hGI⟩), rr⟩
      · have := hR h' tk' gs2 x1 x2 x3
        rw [hdr, List.all_cons, hv, Bool.true_and] at this
        exact this
    | false =>
      simp only [Bool.false_eq_true, if_false]
      refine wpAny_bind (wpAny_rule (wpAny_pure ?_))
      have := hR h1 tk1 (gs1.setIfInBounds s0.gens.size gs') kk hP1 (((e6.set .running).grow g1).doneB hb)
      rw [hdr, List.all_cons, hv, Bool.false_and] at this
      exact this
end
end
section
section
variable {w : World} {dp un : Nat} {outer : List Env} {gd : Option (List Code)} {A₀ : Around} {base h₀ : Heap} {p : Program} {loose : List Str} {mean : ExcName → Option Value} {mg mb : Str → Option Value} {m : Str → Option Value} {E Q : Value → Shared → Prop}
  {scope sc : Scope} {q L a P G c : Addr} {nm : Str} {p1 p2 p3 p4 pt pos : Pos} {iter : Expr} {vs : List Value} {rows : List Row} {s0 s1 : Shared} {ps : Array Value}
/-- all(genexpr) of has_valid_xdata_group_codes, from the made generator -/
theorem all_val (hsc : scope.kind = .function) (hc1 : scope.names.lookup (Str.ofString "tag") = some .local) (hc3 : scope.names.lookup (Str.ofString "VALID_XDATA_GROUP_CODES") = some .globalImplicit) (hco : scope.isCoroutine = false)
  (B : Below A₀ base outer h₀) (F : Fr h₀ L s0.heap m) (X : (Mine.mkK.heap_1 w.params).In h₀) (T : Top p loose mean mg mb h₀) (hk : sc.kind = .function) (hPn : h₀.get? P = none) (hPL : P ≠ L) (hcode : IsCT s0.heap c P ps)
  (hq : SeqAt s0.heap q vs) (hqP : q ≠ P) (hr : TagRows (hideAll s0.heap [P]) vs rows) (hd : dp + 30 < recursionLimit) (hu : un + 150 < cLine)
  (W : GxMade s0 P c q (valE p1 p2 p3 p4) (.Name (Str.ofString "tag") pt) iter scope pos (envOf nm sc L a (.ref c)) G s1)
  (hret : ∀ h' tk' gs' ps', Keep [P] s0.heap h' → IsCT h' c P ps' → GN s0.gens gs' → Q (.bool (rows.all fun r => validC r.1)) { s0 with heap := h', toks := tk', gens := gs' }) :
  wpAny (model PG w) ⟨none, dp, some (envOf nm sc L a (.ref c) :: outer), gd, un⟩ (call (.builtin "all") [.ref G]) Q E s1 := by
  obtain ⟨C, I, code, bi, h1, tk1, ps1, rfl, k1, hcode1, hgen, hG, hC, hI, hCI, hGC, hGI, ⟨m', F'⟩, hit⟩ := W
  obtain ⟨op, hop⟩ : ∃ op, s0.heap.get? P = some op := ⟨_, hcode.get⟩
  obtain ⟨op1, hop1⟩ : ∃ op, h1.get? P = some op := ⟨_, hcode1.get⟩
  have NP : News h₀ L s0.heap [(P, op)] := fun z hz => by rw [List.mem_singleton.mp hz]; exact ⟨hop, hPL, hPn⟩
  obtain ⟨_, B2, st, _⟩ := groundX (A := ⟨none, dp, some (envOf nm sc L a (.ref c) :: outer), gd, un⟩) (R := fun _ _ => True) B F NP rfl rfl hk
  have X2 := X.keeps st
  have T2 := T.keeps st
  have inv2 : gxInv (hideAll s0.heap [P]) C I q 0 ({ s0 with heap := h1, toks := tk1, gens := s0.gens.push (.fresh (.compStart (gxE (valE p1 p2 p3 p4) (.Name (Str.ofString "tag") pt) iter scope pos) 0 (.ref I) .none (genEnv scope [] C code bi (envOf nm sc L a (.ref c))))) } : Shared) :=
    ⟨⟨m', F'⟩, hit⟩
  have hq2 : SeqAt (hideAll s0.heap [P]) q vs := let ⟨o, n, e1, e2⟩ := hq.at_; ⟨o, n, hideAll_get _ e1 (by simpa using hqP), e2⟩
  have nI : (hideAll s0.heap [P]).get? I = none := by
    cases q1 : (hideAll s0.heap [P]).get? I with
    | none => rfl
    | some o => have := of_hideAll _ q1; rw [hI] at this; cases this
  refine call_function_tree PySem.F.kind_all PySem.F.plain_all PySem.F.entry_all (PySem.F.args_all1 _) ?_
  unfold Builtin.«all»
  refine wpAny_bind (m := oneArg "all" _) (wpAny_pure ?_)
  refine wpAny_bind (wpAny_pyIter_gen hgen ?_)
  refine wpAny_pure ⟨plainId_quiet PySem.F.plain_all_loop _, ?_⟩
  refine val_loop (l := envOf nm sc L a (.ref c) :: outer) T2 hI hC hG ⟨op, hop⟩ hCI hGC hGI (by omega) hr.1 vs.length 0 _ (Nat.sub_zero _) (Nat.zero_le _) (oP := op1) ⟨⟨_, _, _, rfl⟩, ⟨.fresh _, Array.getElem?_push_size .., fun s'' hx => ⟨rfl, seg_gx0 hco (gx_val hsc hc1 hc3 B2 X2 T2 hq2 hr nI hCI ?_ ?_) s'' (inv2.ext hx) (inv2.ext hx).2⟩⟩, hgen, k1, hop1, GR.push _ _, inv2⟩ ?_
  · show dp + 20 < recursionLimit
    omega
  · show un + 1 + 120 < cLine
    omega
  · intro h3 tk3 gs3 k3 hP3 g3
    rw [List.drop_zero]
    refine hret h3 tk3 gs3 ps1 k3 ?_ g3
    obtain ⟨o', _, b1, _, a11⟩ := hcode.at_
    refine hcode1.move (fun o e => ?_) fun o e => ?_
    · rw [k1 c o' b1 (by simpa using a11)] at e
      cases e
      exact k3 c _ b1 (by simpa using a11)
    · rw [hop1] at e
      cases e
      exact hP3
end
end
section
theorem hv_c {w : World} {A : Around} {s : Shared} {Q E : Value → Shared → Prop} {dp un : Nat} {q : Addr} {vs : List Value} {rows : List Row} {ps : Array Value}
  (R : Rd w s.heap [384] dp un A) (hcode : IsCT s.heap 388 384 ps) (hq : TagsAt s.heap q vs) (hq8 : q ≠ 384) (hr : TagRows (hideAll s.heap [384]) vs rows) (hd : dp + 40 < recursionLimit) (hu : un + 300 < cLine)
  (hret : ∀ h' tk' gs' ps', Keep [384] s.heap h' → IsCT h' 388 384 ps' → GN s.gens gs' → Q (.bool (rows.all fun r => validC r.1)) { s with heap := h', toks := tk', gens := gs' }) :
  wpAny (model PG w) A (call (.ref 389) [.ref q]) Q E s := by
  cases R with
  | mk hf hkk B F X T hS =>
  rename_i h₀ L m p loose mean mg mb
  obtain ⟨op, hop⟩ : ∃ op, s.heap.get? 384 = some op := ⟨_, hcode.get⟩
  have N : News h₀ L s.heap [(384, op)] := fun p hp => by
    rw [List.mem_singleton.mp hp]; exact ⟨hop, (hS 384 (by simp)).2, (hS 384 (by simp)).1⟩
  refine wpAny_call ?_
  k_dflt cell_enter
  intro g L' h' hg hh F' N' B' X' T' lt'
  (try dsimp only)
  k_fold
  have hq' : TagsAt g q vs := let ⟨dd, n, sl, e⟩ := hq.at_; ⟨dd, n, sl, hg _ _ e (by simpa using hq8)⟩
  have hcode' := hcode.keeps hh
  k_steps
  refine gx_make (ps := ps) F' T' rfl rfl (by decide) (by cell_ties) (fun A E Q hQ => ts_iter (X'.keeps F'.keep) (hq'.keeps F'.keep) hQ) hcode' (N' _ (.head _)).2.2 rfl rfl (by decide) rfl rfl ?_ fun G s1 W => ?_
  · show dp + 1 < recursionLimit
    omega
  refine spliced_none ?_
  have hr' : TagRows (hideAll h' [384]) vs rows := hr.keeps fun b o e => hideAll_get _ (hh b o (of_hideAll _ e)) fun hm => by rw [hideAll_none _ hm] at e; cases e
  k_dflt (refine' all_val (ps := ps) rfl rfl rfl rfl B' F' X' T' rfl (N' _ (.head _)).2.2 (N' _ (.head _)).2.1 hcode' (SeqAt.of_tags (hq'.keeps F'.keep)) hq8 hr' ?hd ?hu W ?_; (case hd => ktr_room); (case hu => ktr_units); k_whole)
  intro h3 tk3 gs3 ps3 k3 c3 g3
  change Keep [384] h' h3 at k3
  obtain ⟨op3, hop3⟩ : ∃ op, h3.get? 384 = some op := ⟨_, c3.get⟩
  have F3 := Mine.Fr.after F' k3 (fun c hc => by rw [List.mem_singleton] at hc; subst hc; exact ⟨(N' _ (.head _)).2.2, (N' _ (.head _)).2.1⟩)
  have N3 : News g L' h3 [(384, op3)] := fun p hp => by rw [List.mem_singleton.mp hp]; exact ⟨hop3, (N' _ (.head _)).2⟩
  k_steps
  (with_reducible rename Heap.StaysIn g _ => kG)
  exact hret _ _ _ _ (keep_fin (S := [384]) hg kG) c3 g3
end
section
theorem eq_call {w : World} {A : Around} {s : Shared} {Q E : Value → Shared → Prop} {dp un : Nat} {k k' : Int} {n n' : Str} {t1 t2 t3 t4 : Tok} {x y : Addr}
  (R : Rd w s.heap [] dp un A) (t : TagAt s.heap x (.int k t1) (.str n t2)) (u : TupAt s.heap y (.int k' t3) (.str n' t4)) (hn : PyData.strOk n = true) (hn' : PyData.strOk n' = true) (hd : dp + 3 < recursionLimit) (hu : un + 100 < cLine)
  (hret : ∀ (h' : Heap) (tk' : Nat), Keep [] s.heap h' → Q (.bool (k == k' && n == n')) { s with heap := h', toks := tk' }) :
  wpAny (model PG w) A (call (.ref 88) [.ref x, .ref y]) Q E s := by
  cases R with
  | mk hf hkk B F X T hS =>
  rename_i h₀ L m p loose mean mg mb
  have N : News h₀ L s.heap [] := News.none
  obtain ⟨dx, od, ht, hdx⟩ := t.at_
  refine wpAny_call ?_
  k_dflt cell_enter
  intro g L' h' hg hh F' N' B' X' T' lt'
  (try dsimp only)
  k_fold
  have ht' := hg _ _ ht (by simp)
  have hdx' := hg _ _ hdx (by simp)
  have tg : TagAt g x (.int k t1) (.str n t2) := ⟨dx, od, ht', hdx'⟩
  have u' : TupAt g y (.int k' t3) (.str n' t4) := TupAt.keeps u fun b o e => hg b o e (by simp)
  k_steps
  (with_reducible rename Heap.StaysIn g _ => kG)
  exact hret _ _ (keep_fin (S := []) hg kG)
theorem ifBound_slot {M : Model} {A : Around} {E : Value → Shared → Prop} {s : Shared} {K : Frag} {x C : Addr} {ox : Obj} {od : Option Obj} {name : Str} {id : String} {args : List Value} {Q : Option Value → Shared → Prop} (X : K.In s.heap) (I : InstAt s.heap x ox C od) (hs : findIn K (.ref C) name = some (some (.builtin id)))
    (hb : ∀ self, bindSpecial (.builtin id) self = pure (.builtin id, [self]))
    (h : wpAny M A (call (.builtin id) (.ref x :: args)) (fun v => Q (some v)) E s) : wpAny M A (callSpecialIfBound? (.ref x) name args) Q E s := by
  simp only [callSpecialIfBound?, bindSpecialIfBound?]
  refine wpAny_holding (wpAny_bind (wpAny_bind (wpAny_bind (I.type.here ((looks_findIn X hs).here ?_)))))
  refine wpAny_bind (wpAny_askSetting (wpAny_ite ?_))
  have fin : wpAny M A (call (.builtin id) ([.ref x] ++ args) >>= fun v => pure (some v)) Q E s := wpAny_bind (wpAny_mono h (fun v s' h' => wpAny_pure h') fun _ _ h' => h')
  rw [hb]
  split
  · exact wpAny_bind (wpAny_pure (wpAny_pure (by exact fin)))
  · exact wpAny_tryCatch (wpAny_bind (wpAny_pure (wpAny_pure (by exact fin))))
theorem tag_ne {w : World} {A : Around} {s : Shared} {Q E : Value → Shared → Prop} {dp un : Nat} {k k' : Int} {n n' : Str} {t1 t2 t3 t4 : Tok} {x y : Addr}
  (R : Rd w s.heap [] dp un A) (t : TagAt s.heap x (.int k t1) (.str n t2)) (u : TupAt s.heap y (.int k' t3) (.str n' t4)) (hn : PyData.strOk n = true) (hn' : PyData.strOk n' = true) (hd : dp + 3 < recursionLimit) (hu : un + 110 < cLine)
  (hret : ∀ (h' : Heap) (tk' : Nat), Keep [] s.heap h' → Q (.bool (!(k == k' && n == n'))) { s with heap := h', toks := tk' }) :
  wpAny (model PG w) A (compareOp .NotEq (.ref x) (.ref y)) Q E s := by
  cases R with
  | mk hf hkk B F X₀ T hS =>
  rename_i gd env outer A₀ base h₀ L m p loose mean mg mb
  have X := X₀.keeps F.keep
  obtain ⟨dx, od, ht, hdx⟩ := id t.at_
  have I : InstAt s.heap x (tagObj dx (.int k t1) (.str n t2)) 113 (some od) := ⟨ht, rfl, rfl, hdx⟩
  have hty : Looks (model PG w) s.heap (typeOf (.ref y)) (.type "tuple") := by
    obtain ⟨o, ho, hc, _⟩ := u
    exact hc ▸ (Looks.ld ho).andThen .now
  refine cmp_ofNotEq ?_
  have Lo : Looks (model PG w) s.heap (isInstance (.ref x) (.type "object")) true := I.type.andThen (looks_mroIn X (by k_is))
  have one : ∀ E', wpAny (model PG w) ⟨none, dp, some (env :: outer), gd, un⟩ (tryCompare (.ref x) (cmpInfo .NotEq).2.1 (.ref y)) (fun r s' => ∃ v, r = some v ∧ Q v s') E' s := by
    intro E'
    unfold tryCompare
    refine wpAny_bind (ifBound_slot X I (id := "object.__ne__") (by k_is) PySem.F.slot_object_ne.bind ?_)
    refine wpAny_call (codeAny_call_builtin PySem.F.slot_object_ne.plain PySem.F.entry_object_ne (check_meth (n := "__ne__") (owner := "object") (.inl (by decide +kernel)) (by decide +kernel) Lo (PySem.F.args_object_ne_2 _ _) ?_))
    unfold Builtin.«object.__ne__»
    refine wpAny_bind (m := slotArgs "__ne__" 1 _) (wpAny_pure ?_)
    refine wpAny_bind (wpAny_cRoomFor (by show un + 1 < cLine; omega) ?_)
    refine wpAny_bind (ifBound_K X I (f := 88) (by k_is) (by k_is) ?_)
    refine eq_call (dp := dp) (un := un + 1) (Rd.mk hf hkk B F X₀ T (fun _ h => nomatch h)) t u hn hn' hd (by omega) fun h' tk' kp => ?_
    dsimp only
    refine wpAny_bind (wpAny_truthy_bool (wpAny_pure ?_))
    exact wpAny_pure ⟨_, rfl, hret _ _ kp⟩
  unfold richCompare
  simp only [oneThing_ref]
  refine wpAny_holding (wpAny_bind (wpAny_cRoomFor (by show un < cLine; omega) ?_))
  refine wpAny_bind (I.type.here (wpAny_bind (hty.here ?_)))
  have e : subIn (Mine.mkK.heap_1 w.params) (.type "tuple") (.ref 113) = some false := by k_is
  rw [if_pos (by decide)]
  refine wpAny_bind ((looks_subIn X e).here ?_)
  simp only [Bool.false_eq_true, if_false]
  refine wpAny_bind (wpAny_mono (one _) (fun r s' z => ?_) fun _ _ e => e)
  obtain ⟨v, rfl, hq⟩ := z
  exact wpAny_pure hq
end
section
section
variable {prog : Program} {w : World} {A : Around} {E : Value → Shared → Prop} {s : Shared}
theorem tc_dict0 : checkTypeCall "dict" ⟨[], []⟩ = pure () := by kernel_rfl
theorem nc_dict0 : checkBuiltinCall "dict.__new__" ⟨[.type "dict"], []⟩ = pure () := by kernel_rfl
theorem code_dict_new0 {Q₁ : Value → Shared → Prop} (h : Q₁ (.ref s.heap.objs.size) { s with heap := s.heap.push { cls := .type "dict", data := .dict #[] } }) :
    codeAny (model prog w) A (.call (.builtin "dict.__new__") ⟨[.type "dict"], []⟩) (wants Q₁ E) s := by
  refine codeAny_call_builtin F.kt_plain_dict_new F.kt_entry_dict_new (wpAny_of_eq nc_dict0 ?_)
  have hsub := F.kt_sub_dict
  have hmro := F.kt_mro_dict
  obtain ⟨hp, g, d, tk, os⟩ := s
  unfold Builtin.«dict.__new__»
  wp_walk
  exact h
theorem call_dict0 {Q : Value → Shared → Prop}
    (h : Q (.ref s.heap.objs.size) { s with heap := s.heap.push { cls := .type "dict", data := .dict #[] } }) :
    wpAny (model prog w) A (call (.type "dict") []) Q E s := by
  refine callType_codes (Q₁ := fun obj s₁ => obj = .ref s.heap.objs.size ∧ s₁ = { s with heap := s.heap.push { cls := .type "dict", data := .dict #[] } }) F.kt_called_dict tc_dict0 F.entry_dict_init (code_dict_new0 ⟨rfl, rfl⟩) ?_
  rintro obj s₁ ⟨rfl, rfl⟩
  have hnew : (s.heap.push { cls := .type "dict", data := .dict #[] }).DictOf (strKind prog w) s.heap.objs.size [] := Heap.DictOf.new s.heap
  refine ⟨hnew.typeIs, F.args_dict_init_1 _, ?_⟩
  unfold Builtin.«dict.__init__»
  refine wpAny_bind ?_
  unfold Builtin.Dict.selfAndRest
  refine wpAny_bind (wpAny_notOrdered_dict hnew.typeIs ?_)
  show wpAny _ _ (pure (s.heap.objs.size, [])) _ _ _
  refine wpAny_pure ?_
  show wpAny _ _ (Builtin.Dict.addKeywords s.heap.objs.size [] >>= _) _ _ _
  exact wpAny_bind (wpAny_pure (wpAny_pure ⟨rfl, h⟩))
end
section
variable {prog : Program} {w : World} {A : Around} {E : Value → Shared → Prop} {s : Shared} {h₀ : Heap} {L : Addr} {m : Str → Option Value} {news : List (Addr × Obj)}
theorem dict0_K {Q : Value → Shared → Prop} (F : Fr h₀ L s.heap m) (N : News h₀ L s.heap news)
    (h : ∀ D h', Fr h₀ L h' m → News h₀ L h' ((D, dictOf [] 0) :: news) → (∀ p ∈ news, p.1 < D) → Q (.ref D) { s with heap := h' }) : wpAny (model prog w) A (call (.type "dict") []) Q E s :=
  call_dict0 (h _ _ (F.push _) (News.push F N _) fun p hp => Heap.lt_size (N p hp).1)
end
end
local macro_rules | `(tactic| walk_at "call type:dict nil nil") => `(tactic| (k_here; k_dflt (refine' dict0_K ?F ?N ?_; (case F => k_asm); (case N => k_asm); k_whole); intro D9 h9 F9 N9 l9; (try k_lt l9); (try dsimp only)))
section
abbrev xdIn (w : World) (t : Tok) (dd : Addr) : Obj := dictOf [{ hash := PyData.keyHash w.params (Str.ofString "data"), key := .str (Str.ofString "data") t, val := .ref dd }] 1
/-- an XData (at x, its instance dict at xi) over the dict at dd -/
structure XdAt (w : World) (h : Heap) (x xi dd : Addr) : Prop where
  at_ : ∃ t, h.get? x = some (instObj 501 xi) ∧ h.get? xi = some (xdIn w t dd)
theorem XdAt.keeps {w : World} {h h' : Heap} {x xi dd : Addr} (a : XdAt w h x xi dd) (k : ∀ b o, h.get? b = some o → h'.get? b = some o) : XdAt w h' x xi dd := let ⟨t, b, c⟩ := a.at_; ⟨t, k _ _ b, k _ _ c⟩
end
section
/-- the constants of the code object c lie in the table object op at P (a fact about objects, not about one heap) -/
def TabOk (g : Heap) (c P : Addr) (op : Obj) : Prop := ∃ ps oc, g.get? c = some oc ∧ ∀ h : Heap, h.get? c = some oc → h.get? P = some op → IsCT h c P ps
theorem TabOk.mono {g g' : Heap} {c P : Addr} {op : Obj} (t : TabOk g c P op) (k : ∀ b o, g.get? b = some o → g'.get? b = some o) : TabOk g' c P op :=
  let ⟨ps, oc, e, f⟩ := t; ⟨ps, oc, k _ _ e, f⟩
theorem TabOk.of_code {g h' : Heap} {c P : Addr} {op : Obj} {ps : Array Value} {oc : Obj} (x : IsCT h' c P ps) (k : ∀ b o, g.get? b = some o → h'.get? b = some o) (hc : g.get? c = some oc) (hP : h'.get? P = some op) : TabOk g c P op := by
  obtain ⟨o, vs, e1, _, _⟩ := x.at_
  have e2 := k c _ hc
  rw [e1] at e2
  cases e2
  refine ⟨ps, _, hc, fun h s e => x.move (fun o' z => ?_) fun o' z => ?_⟩
  · rw [e1] at z; cases z; exact s
  · rw [hP] at z; cases z; exact e
theorem TabOk.code {g h : Heap} {c P : Addr} {op oc : Obj} (t : TabOk g c P op) (hc : g.get? c = some oc) (hc' : h.get? c = some oc) (e : h.get? P = some op) : ∃ ps, IsCT h c P ps := by
  obtain ⟨ps, oc', e', f⟩ := t
  rw [hc] at e'
  cases e'
  exact ⟨ps, f h hc' e⟩
section
variable {w : World} {dp un : Nat} {l : List Env} {env : Env} {gd : Option (List Code)} {A₀ : Around} {g base : Heap} {L q : Addr} {m : Str → Option Value} {news : List (Addr × Obj)} {gN : Obj → List (Addr × Obj)} {p : Program} {loose : List Str} {mean : ExcName → Option Value} {mg mb : Str → Option Value} {E Q : Value → Shared → Prop} {s : Shared}
theorem hv_K {vs : List Value} {rows : List Row} {op oc : Obj} (hf : env.frame = some L) (hk : env.scope.kind = .function) (B : Below A₀ base l g) (F : Fr g L s.heap m) (N : News g L s.heap news) (X : (Mine.mkK.heap_1 w.params).In g) (T : Top p loose mean mg mb g)
  (U : UpdF 384 op news gN) (hoc : g.get? 388 = some oc) (ht : TabOk g 388 384 op) (hq : TagsAt s.heap q vs) (hq8 : q ≠ 384) (hr : TagRows (hideAll s.heap [384]) vs rows) (hd : dp + 40 < recursionLimit) (hu : un + 300 < cLine)
  (hret : ∀ h' tk' gs' op', Fr g L h' m → News g L h' (gN op') → TabOk g 388 384 op' → Keep [384] s.heap h' → GN s.gens gs' → Q (.bool (rows.all fun r => validC r.1)) { s with heap := h', toks := tk', gens := gs' }) :
  wpAny (model PG w) ⟨none, dp, some (env :: l), gd, un⟩ (call (.ref 389) [.ref q]) Q E s := by
  obtain ⟨hx, hS⟩ := updF_in N U
  obtain ⟨ps, oc2, hoc2, ht⟩ := ht
  refine hv_c (Rd.mk hf hk B F X T hS) (ht _ (F.keep _ _ hoc2) hx) hq hq8 hr hd hu fun h' tk' gs' ps' kp c' gn => ?_
  obtain ⟨op', hop'⟩ : ∃ op, h'.get? 384 = some op := ⟨_, c'.get⟩
  have F' := Mine.Fr.after F kp hS
  exact hret h' tk' gs' op' F' (news_updF N kp U hop') (TabOk.of_code c' F'.keep hoc hop') kp gn
end
end
section
/-- what a contract gives back about a new Tags, put into the ledger -/
theorem news_tags {g h h' : Heap} {L S d : Addr} {m : Str → Option Value} {news : List (Addr × Obj)} {vs : List Value} {n : Nat} (F : Fr g L h m) (N : News g L h news) (k : Keep [] h h') (f1 : h.get? S = none) (f2 : h.get? d = none) (a : h'.get? S = some (tg d vs n)) (b : h'.get? d = some emptyDict) :
    News g L h' ((S, tg d vs n) :: (d, emptyDict) :: news) ∧ @Ne Nat d S ∧ (∀ p ∈ news, @Ne Nat p.1 S) ∧ ∀ p ∈ news, @Ne Nat p.1 d := by
  have fr : ∀ z, h.get? z = none → z ≠ L ∧ g.get? z = none := fun z e => by
    refine ⟨fun q => ?_, ?_⟩
    · obtain ⟨oL, _, _, hL, _⟩ := F.ns
      rw [q, hL] at e; cases e
    · cases q : g.get? z with
      | none => rfl
      | some o => rw [F.keep _ _ q] at e; cases e
  refine ⟨fun p hp => ?_, fun z => ?_, fun p hp z => ?_, fun p hp z => ?_⟩
  · rcases List.mem_cons.mp hp with rfl | hp
    · exact ⟨a, fr _ f1⟩
    · rcases List.mem_cons.mp hp with rfl | hp
      · exact ⟨b, fr _ f2⟩
      · exact News.after0 N k p hp
  · change d = S at z
    rw [z, a] at b; cases b
  · have := (N p hp).1
    change p.1 = S at z
    rw [z, f1] at this; cases this
  · have := (N p hp).1
    change p.1 = d at z
    rw [z, f2] at this; cases this
def AllNe (d : Nat) : List (Addr × Obj) → Prop
  | [] => True
  | p :: r => @Ne Nat p.1 d ∧ AllNe d r
theorem allNe_of {d : Nat} : ∀ {news : List (Addr × Obj)}, (∀ p ∈ news, @Ne Nat p.1 d) → AllNe d news
  | [], _ => trivial
  | _ :: _, h => ⟨h _ (.head _), allNe_of fun p hp => h p (.tail _ hp)⟩
section
variable {w : World} {dp un : Nat} {l : List Env} {env : Env} {gd : Option (List Code)} {A₀ : Around} {g base : Heap} {L q : Addr} {m : Str → Option Value} {news : List (Addr × Obj)} {p : Program} {loose : List Str} {mean : ExcName → Option Value} {mg mb : Str → Option Value} {E Q : Value → Shared → Prop} {s : Shared}
theorem xl_K {vs : List Value} {nm : Str} {tn : Tok} (hf : env.frame = some L) (hk : env.scope.kind = .function) (B : Below A₀ base l g) (F : Fr g L s.heap m) (N : News g L s.heap news) (X : (Mine.mkK.heap_1 w.params).In g) (T : Top p loose mean mg mb g)
  (hq : s.heap.IsList q vs.toArray) (hn1 : 0 < nm.length) (hn2 : nm.length < 100) (hz : vs.length ≤ 900) (hd : dp + 5 < recursionLimit) (hu : un + 150 < cLine)
  (hret : ∀ S d a n t1 t2 h' tk', Fr g L h' m → News g L h' ((S, tg d ([.ref a, .ref 340] ++ vs ++ [.ref 341]) n) :: (d, emptyDict) :: news) → @Ne Nat d S → AllNe S news → AllNe d news → Keep [] s.heap h' → TupAt h' a (.int 1000 t1) (.str nm t2) → Q (.ref S) { s with heap := h', toks := tk' }) :
  wpAny (model PG w) ⟨none, dp, some (env :: l), gd, un⟩ (call (.ref 348) [.str nm tn, .ref q]) Q E s := by
  refine xl_c (Rd.mk hf hk B F X T (fun _ h => nomatch h)) hq hn1 hn2 hz hd hu fun S d a n t1 t2 h' tk' kp f1 f2 a1 a2 ta => ?_
  obtain ⟨z1, z2, z3, z4⟩ := news_tags F N kp f1 f2 a1 a2
  exact hret S d a n t1 t2 h' tk' (Mine.Fr.after F kp (fun _ h => nomatch h)) z1 z2 (allNe_of z3) (allNe_of z4) kp ta
end
end
section
section
variable {prog : Program} {w : World} {A : Around} {E : Value → Shared → Prop} {s : Shared} {h₀ : Heap} {L d : Addr} {m : Str → Option Value} {o : Obj} {kvs : List (Str × Value)} {k : Str} {t : Tok} {v : Value}
theorem sd_dict (F : Fr h₀ L s.heap m) (hd : h₀.get? d = some o) (ho : o.IsDictOf (PySem.strKind prog w) kvs) : s.heap.DictOf (PySem.strKind prog w) d kvs := Heap.dictOf_iff.mpr ⟨o, F.keep _ _ hd, ho⟩
theorem sd_item {value slice : PySem.Expr} {Q : Value → Shared → Prop} (F : Fr h₀ L s.heap m) (hd : h₀.get? d = some o) (ho : o.IsDictOf (PySem.strKind prog w) kvs) (hl : valueAt kvs k = some v) (h : Q v { s with toks := s.toks + 1 })
    (hs : subscripted slice false (.ref d) (.str k t) = operate [.ref d, .str k t] (getItem (.ref d) (.str k t))) :
    wpAny (model prog w) A (subscriptTail value slice (.ref d) (.str k t)) Q E s :=
  have hD := sd_dict F hd ho
  tail_any hD.typeIs slot_dict_getitem.lookup (wpAny_getItem_of (strKind_is _ _ _ _) hD.mapOf hl h) hs
theorem sd_in {b : Bool} {Q : Value → Shared → Prop} (F : Fr h₀ L s.heap m) (hd : h₀.get? d = some o) (ho : o.IsDictOf (PySem.strKind prog w) kvs) (lo : (d == sysModules) = false) (hb : (valueAt kvs k).isSome = b) (h : Q (.bool b) { s with toks := s.toks + 1 }) :
    wpAny (model prog w) A (compareOp .In (.str k t) (.ref d)) Q E s := wpAny_in_of (strKind_is _ _ _ _) lo (sd_dict F hd ho).mapOf (by rw [hb]; exact h)
theorem sd_notin {b : Bool} {Q : Value → Shared → Prop} (F : Fr h₀ L s.heap m) (hd : h₀.get? d = some o) (ho : o.IsDictOf (PySem.strKind prog w) kvs) (lo : (d == sysModules) = false) (hb : (valueAt kvs k).isSome = b) (h : Q (.bool (!b)) { s with toks := s.toks + 1 }) :
    wpAny (model prog w) A (compareOp .NotIn (.str k t) (.ref d)) Q E s := wpAny_notIn_of (strKind_is _ _ _ _) lo (sd_dict F hd ho).mapOf (by rw [hb]; exact h)
end
theorem inst_xd {w : World} {h₀ h : Heap} {L x xi dd : Addr} {m : Str → Option Value} {t : Tok} (F : Fr h₀ L h m) (a : h₀.get? x = some (instObj 501 xi)) (b : h₀.get? xi = some (xdIn w t dd)) :
    InstAt h x (instObj 501 xi) 501 (some (xdIn w t dd)) := ⟨F.keep _ _ a, rfl, rfl, F.keep _ _ b⟩
end
local macro_rules | `(tactic| walk_at "compareOp In str ref") => `(tactic| (k_here; k_dflt (refine' sd_in ?F ?d ?o ?l ?b ?_; (case F => k_asm); (case d => assumption); (case o => assumption); (case l => assumption); (case b => assumption); k_whole)))
local macro_rules | `(tactic| walk_at "compareOp NotIn str ref") => `(tactic| (k_here; k_dflt (refine' sd_notin ?F ?d ?o ?l ?b ?_; (case F => k_asm); (case d => assumption); (case o => assumption); (case l => assumption); (case b => assumption); k_whole)))
local macro_rules | `(tactic| walk_at "subscriptTail") => `(tactic| (k_here; (with_reducible show wpAny _ _ (subscriptTail _ _ (Value.ref _) (Value.str _ _)) _ _ _); k_dflt (refine' sd_item ?F ?d ?o ?l ?_ ?s; (case F => k_asm); (case d => assumption); (case o => assumption); (case l => assumption); (case s => with_unfolding_all rfl); k_whole)))
local macro_rules | `(tactic| k_inst) => `(tactic| exact inst_xd (by k_asm) (by assumption) (by assumption))
section
/-- the frames that lie below a call made in A (the caller's own among them) -/
def frs (A : Around) : List Addr := (A.frames.getD []).filterMap (·.frame)
/-- what a call keeps that may have caught an exception within: all but S, frames up to their slots -/
structure KeepF (S fs : List Addr) (h h' : Heap) : Prop where
  keep : ∀ a o, h.get? a = some o → a ∉ S → a ∉ fs → h'.get? a = some o
  up : ∀ a o, h.get? a = some o → a ∉ S → a ∈ fs → ∃ sl, h'.get? a = some { o with slots := sl }
theorem Keep.toF {S fs : List Addr} {h h' : Heap} (k : Keep S h h') : KeepF S fs h h' := ⟨fun a o e n _ => k a o e n, fun a o e n _ => ⟨o.slots, k a o e n⟩⟩
theorem KeepF.up' {S fs : List Addr} {h h' : Heap} (k : KeepF S fs h h') {a : Addr} {o : Obj} (e : h.get? a = some o) (n : a ∉ S) : ∃ sl, h'.get? a = some { o with slots := sl } := by
  by_cases m : a ∈ fs
  · exact k.up a o e n m
  · exact ⟨o.slots, k.keep a o e n m⟩
theorem keepF_fin {S fs : List Addr} {g g' h h' : Heap} (hg : ∀ a o, h.get? a = some o → a ∉ S → g.get? a = some o) (T : KtsTurn fs g g') (k : g'.StaysIn h') : KeepF S fs h h' :=
  ⟨fun a o e n m => k a o (T.other a o (hg a o e n) m), fun a o e n m => let ⟨sl, q⟩ := T.frame a o (hg a o e n) m; ⟨sl, k _ _ q⟩⟩
/-- the same heap facts, hidden addresses left out, stay -/
theorem KeepF.hid {S fs Z : List Addr} {h h' : Heap} (k : KeepF S fs h h') (hS : ∀ c ∈ S, c ∈ Z) (hF : ∀ c ∈ fs, c ∈ Z) : (hideAll h Z).StaysIn (hideAll h' Z) := fun b o e => by
  have nz : b ∉ Z := fun m => by rw [hideAll_none _ m] at e; cases e
  exact hideAll_get _ (k.keep b o (of_hideAll _ e) (fun m => nz (hS _ m)) (fun m => nz (hF _ m))) nz
theorem Keep.hid {S Z : List Addr} {h h' : Heap} (k : Keep S h h') (hS : ∀ c ∈ S, c ∈ Z) : (hideAll h Z).StaysIn (hideAll h' Z) := fun b o e => by
  have nz : b ∉ Z := fun m => by rw [hideAll_none _ m] at e; cases e
  exact hideAll_get _ (k b o (of_hideAll _ e) (fun m => nz (hS _ m))) nz
theorem hid_sub {Z W : List Addr} {h : Heap} (hs : ∀ c ∈ Z, c ∈ W) : (hideAll h W).StaysIn (hideAll h Z) := fun b o e => by
  have nz : b ∉ W := fun m => by rw [hideAll_none _ m] at e; cases e
  exact hideAll_get _ (of_hideAll _ e) fun m => nz (hs _ m)
theorem hid_of {Z : List Addr} {h : Heap} : (hideAll h Z).StaysIn h := fun _ _ e => of_hideAll _ e
/-- context of a call whose callee may catch -/
inductive Rc (w : World) (h : Heap) (S : List Addr) (dp un : Nat) : Around → Prop
  | mk {gd : Option (List Code)} {env : Env} {outer : List Env} {A₀ : Around} {base h₀ : Heap} {L : Addr} {m : Str → Option Value} {p : Program} {loose : List Str} {mean : ExcName → Option Value} {mg mb : Str → Option Value}
    (hf : env.frame = some L) (hk : env.scope.kind = .function) (B : Below A₀ base outer h₀) (F : Fr h₀ L h m) (X : (Mine.mkK.heap_1 w.params).In h₀) (T : Top p loose mean mg mb h₀) (XB : (Mine.mkK.heap_1 w.params).In base) (TB : Top p loose mean mg mb base) (D : KtsDicts (outer.filterMap (·.frame)) h₀) (hS : ∀ c ∈ S, h₀.get? c = none ∧ c ≠ L) :
    Rc w h S dp un ⟨none, dp, some (env :: outer), gd, un⟩
theorem Rc.rd {w : World} {h : Heap} {S : List Addr} {dp un : Nat} {A : Around} (R : Rc w h S dp un A) : Rd w h S dp un A := by
  cases R with
  | mk hf hk B F X T XB TB D hS => exact Rd.mk hf hk B F X T hS
def LeaveF (R : Result → Shared → Prop) (v : Value) (s' : Shared) : Prop := R (.ok (.ret v)) s'
section
variable {prog : Program} {w : World} {A₀ A : Around} {s : Shared} {base h₀ : Heap} {outer : List Env} {L : Addr} {m : Str → Option Value} {env : Env} {news : List (Addr × Obj)} {K : Frag} {p : Program} {loose : List Str} {mean : ExcName → Option Value} {mg mb : Str → Option Value}
  {R : Result → Shared → Prop} {name qual : Str} {params : Arguments} {body : List Stmt} {scope : Scope} {dV kV doc pm cdv ct oc : Value} {an od : Option Addr} {osl : Array (Option Value)} {f : Addr} {args : Args} {binds : List (Str × Value)}
theorem code_k (B : Below A₀ base outer h₀) (F : Fr h₀ L s.heap m) (X₀ : K.In h₀) (N : News h₀ L s.heap news) (T : Top p loose mean mg mb h₀) (XB : K.In base) (TB : Top p loose mean mg mb base) (D : KtsDicts (outer.filterMap (·.frame)) h₀) (hA : A.frames = some (env :: outer)) (hf : env.frame = some L) (hke : env.scope.kind = .function)
    (ho : K.lookup f = some ⟨oc, od, .func (fnOf name qual params body scope dV kV doc pm an cdv ct), osl⟩) (hcd : codeIn K cdv qual = true) (hroom : A.depth < recursionLimit)
    (hbind : BindsTo s (fnOf name qual params body scope dV kV doc pm an cdv ct) args binds) (hloc : ∀ y ∈ binds, scope.names.lookup y.1 = some .local)
    (h : ∀ g L' h₁, (∀ a o, s.heap.get? a = some o → a ∉ news.map (·.1) → g.get? a = some o) → (∀ a o, s.heap.get? a = some o → h₁.get? a = some o) → Fr g L' h₁ (fun y => binds.reverse.lookup y) → News g L' h₁ news → Below A (hideAll g ((env :: outer).filterMap (·.frame))) (env :: outer) g → K.In g → Top p loose mean mg mb g →
      K.In (hideAll g ((env :: outer).filterMap (·.frame))) → Top p loose mean mg mb (hideAll g ((env :: outer).filterMap (·.frame))) → KtsDicts ((env :: outer).filterMap (·.frame)) g → (∀ p ∈ news, p.1 < L') →
      wpAny (model prog w) (A.deeper (envOf qual scope L' f cdv)) (execs body (envOf qual scope L' f cdv))
        (fun fl s' => LeaveF R (match fl with | .ret v => v | _ => .none) s')
        (fun e s' => wpAny (model prog w) (A.deeper (envOf qual scope L' f cdv)) (leaving (envOf qual scope L' f cdv) e) (fun _ s'' => R (.error e) s'') (fun e' s'' => R (.error e') s'') s')
        { s with heap := h₁, toks := s.toks + binds.length })
    (hco : scope.isCoroutine = false) (hgen : scope.isGenerator = false) (hk : scope.kind = .function)
    (hcell : ∀ x ∈ scope.names, x.2 ≠ .cell) : codeAny (model prog w) A (.call (.ref f) args) R s := by
  obtain ⟨FG, BG, st, lv⟩ := groundX (R := R) B F N hA hf hke
  have stB : base.StaysIn (hideAll (hideAll s.heap (news.map (·.1))) ((env :: outer).filterMap (·.frame))) := fun b o e => hideAll_get _ (BG.stays b o e) fun hm => by
    rw [(BG.frames.mem hm).1] at e; cases e
  have DG : KtsDicts ((env :: outer).filterMap (·.frame)) (hideAll s.heap (news.map (·.1))) := fun b hb => by
    rw [List.filterMap_cons, hf] at hb
    rcases List.mem_cons.mp hb with rfl | hb
    · obtain ⟨oL, es, ep, hL, hLd, _⟩ := FG.ns
      exact ⟨oL, es, ep, hL, hLd⟩
    · obtain ⟨o, es, n, e1, e2⟩ := D b hb
      exact ⟨o, es, n, st _ _ e1, e2⟩
  refine codeAny_call_def (fd := fnOf name qual params body scope dV kV doc pm an cdv ct) (body := body) (binds := binds) hroom ((X₀.keeps F.keep) _ _ ho) rfl (T.nolimit.keeps F.keep) (codeRec_of (X₀.keeps F.keep) hcd) rfl hbind hcell hloc (fun h₁ hns hk₁ => ?_) hco hgen hk
  exact wpAny_mono (h _ s.heap.objs.size h₁ (fun a o e n => hideAll_get _ e n) hk₁ ⟨hns, fun b o e => hk₁ b o (of_hideAll _ e), Nat.le_of_eq (hideAll_size _ _)⟩
    (fun p hp => ⟨hk₁ _ _ (N p hp).1, Nat.ne_of_lt (Heap.lt_size (N p hp).1), hideAll_none _ (List.mem_map_of_mem hp)⟩) (below_wide BG) (X₀.keeps st) (T.keeps st) (XB.keeps stB) (TB.keeps stB) DG (fun p hp => Heap.lt_size (N p hp).1)) (fun fl s' hl => hl) fun _ _ y => y
end
section
variable {A A₀ : Around} {g base h h' : Heap} {L : Addr} {m : Str → Option Value} {l : List Env} {env : Env} {e : Addr} {cls : Value} {news news' cells : List (Addr × Obj)} {S : List Addr}
theorem fr_hid (F : Fr g L h m) (N : News g L h news) : Fr g L (hideAll h (news.map (·.1))) m := by
  obtain ⟨oL, es, ep, hL, hLd, hLk, hLf⟩ := F.ns
  refine ⟨⟨oL, es, ep, hideAll_get _ hL fun q => ?_, hLd, hLk, hLf⟩, fun b o e => hideAll_get _ (F.keep b o e) fun q => ?_, F.above⟩
  · obtain ⟨p, hp, e⟩ := List.mem_map.mp q
    exact (N p hp).2.1 e
  · obtain ⟨p, hp, rfl⟩ := List.mem_map.mp q
    rw [(N p hp).2.2] at e; cases e
/-- as Flown, of a callee that has changed the cells of S before it raised: their new objects are `cells` -/
structure FlownN (A : Around) (h : Heap) (e : Addr) (cls : Value) (cells : List (Addr × Obj)) (h' : Heap) : Prop where
  out : ∃ l t vs, A.frames = some l ∧ RaisedK (hideAll h (l.filterMap (·.frame))) l e cls t vs cells h' ∧ h.UpToSlots h'
theorem flown_SN (B : Below A₀ base l g) (F : Fr g L h m) (N : News g L h news) (hA : A.frames = some (env :: l)) (hf : env.frame = some L) (x : FlownN A (hideAll h S) e cls cells h')
    (hn : ∀ p ∈ news', p ∈ cells ∨ p ∈ news ∧ p.1 ∉ S) (hc : ∀ p ∈ cells, p.1 ∈ S) (hS : ∀ c ∈ S, c ∈ news.map (·.1)) :
    ∃ t vs, RaisedS base (hideAll h (news.map (·.1))) (env :: l) e cls t vs news' h' ∧ (hideAll h (news.map (·.1))).UpToSlots h' ∧ Fr g L (hideAll h (news.map (·.1))) m := by
  obtain ⟨l', t, vs, e1, ⟨⟨B1, hB, hce, hfl, hnew⟩, htup⟩, U⟩ := x.out
  rw [hA] at e1
  cases e1
  have nfr : ∀ p ∈ news, p.1 ∉ (env :: l).filterMap (·.frame) := fun p hp hm => by
    rw [List.filterMap_cons, hf] at hm
    rcases List.mem_cons.mp hm with z | hm
    · exact (N p hp).2.1 z
    · obtain ⟨o, ho, _⟩ := (B.frames.mem hm).2
      rw [(N p hp).2.2] at ho; cases ho
  have nb : ∀ p ∈ news, base.get? p.1 = none := fun p hp => by
    cases z : base.get? p.1 with
    | none => rfl
    | some o => have := B.stays _ _ z; rw [(N p hp).2.2] at this; cases this
  have inS : ∀ c ∈ S, ∃ p ∈ news, p.1 = c := fun c hc' => by
    obtain ⟨p, hp, z⟩ := List.mem_map.mp (hS c hc')
    exact ⟨p, hp, z⟩
  have sub : (hideAll h (news.map (·.1))).StaysIn (hideAll h S) := hid_sub hS
  refine ⟨t, vs, ⟨⟨B1, fun b o q => ?_, fun b o q nm => hB b o (hideAll_get _ (sub b o q) nm), fun q hq => ?_, hfl, hnew⟩, htup⟩, fun b o q => U b o (sub b o q), fr_hid F N⟩
  · have hg := B.stays b o q
    refine hB b o (hideAll_get _ (hideAll_get _ (F.keep b o hg) fun hm => ?_) fun hm => ?_)
    · obtain ⟨p, hp, z⟩ := inS b hm
      rw [← z, (N p hp).2.2] at hg; cases hg
    · rw [List.filterMap_cons, hf] at hm
      rcases List.mem_cons.mp hm with rfl | hm
      · exact absurd (Heap.lt_size hg) (Nat.not_lt.mpr F.above)
      · rw [(B.frames.mem hm).1] at q; cases q
  · rcases hn q hq with hq' | ⟨hq', nS⟩
    · obtain ⟨p, hp, z⟩ := inS q.1 (hc q hq')
      exact ⟨(hce q hq').1, hideAll_none _ (hS _ (hc q hq')), z ▸ nb p hp⟩
    · exact ⟨hB _ _ (hideAll_get _ (hideAll_get _ (N q hq').1 nS) (nfr q hq')), hideAll_none _ (List.mem_map_of_mem hq'), nb q hq'⟩
theorem hideAll_nil (h : Heap) : hideAll h [] = h := rfl
theorem Flown.toN {A : Around} (x : Flown A h e cls h') : FlownN A (hideAll h []) e cls [] h' := ⟨x.out⟩
theorem flown_S (B : Below A₀ base l g) (F : Fr g L h m) (N : News g L h news) (hA : A.frames = some (env :: l)) (hf : env.frame = some L) (x : Flown A h e cls h') :
    ∃ t vs, RaisedS base (hideAll h (news.map (·.1))) (env :: l) e cls t vs news h' ∧ (hideAll h (news.map (·.1))).UpToSlots h' ∧ Fr g L (hideAll h (news.map (·.1))) m :=
  flown_SN (S := []) (cells := []) B F N hA hf x.toN (fun p hp => .inr ⟨hp, by simp⟩) (fun _ hp => nomatch hp) (fun _ hp => nomatch hp)
end
section
variable {w : World} {A A₀ : Around} {g base h h' : Heap} {L : Addr} {m : Str → Option Value} {l : List Env} {env : Env} {news : List (Addr × Obj)} {S : List Addr} {K : Frag} {p : Program} {loose : List Str} {mean : ExcName → Option Value} {mg mb : Str → Option Value}
/-- the caller's context behind a call that may have caught within -/
structure AfterF (A₀ : Around) (base : Heap) (l : List Env) (K : Frag) (p : Program) (loose : List Str) (mean : ExcName → Option Value) (mg mb : Str → Option Value) (g g' : Heap) (L : Addr) (h' : Heap) (m : Str → Option Value) : Prop where
  T0 : KtsTurn (l.filterMap (·.frame)) g g'
  F : Fr g' L h' m
  B : Below A₀ base l g'
  X : K.In g'
  T : Top p loose mean mg mb g'
  D : KtsDicts (l.filterMap (·.frame)) g'
theorem ns_slots {h h' : Heap} {L : Addr} {m : Str → Option Value} (n : h.Ns L m) (k : ∀ o, h.get? L = some o → ∃ sl, h'.get? L = some { o with slots := sl }) : h'.Ns L m := by
  obtain ⟨oL, es, ep, hL, hLd, hLk, hLf⟩ := n
  obtain ⟨sl, q⟩ := k oL hL
  exact ⟨_, es, ep, q, hLd, hLk, hLf⟩
theorem after_F (B : Below A₀ base l g) (F : Fr g L h m) (XB : K.In base) (TB : Top p loose mean mg mb base) (D : KtsDicts (l.filterMap (·.frame)) g) (k : KeepF S (L :: l.filterMap (·.frame)) h h') (hS : ∀ c ∈ S, g.get? c = none ∧ c ≠ L) :
    ∃ g', AfterF A₀ base l K p loose mean mg mb g g' L h' m := by
  have nS : ∀ b o, g.get? b = some o → b ∉ S := fun b o e q => by rw [(hS b q).1] at e; cases e
  obtain ⟨T, S₁⟩ := kts_turn_at (h := h') (fs := l.filterMap (·.frame)) (g := g)
    (fun b hb => by
      obtain ⟨_, o, ho, _⟩ := B.frames.mem hb
      exact ⟨o, ho⟩)
    (fun b o e nm => k.keep b o (F.keep b o e) (nS b o e) fun hm => by
      rcases List.mem_cons.mp hm with rfl | hm
      · exact absurd (Heap.lt_size e) (Nat.not_lt.mpr F.above)
      · exact nm hm)
    (fun b o e hm => k.up b o (F.keep b o e) (nS b o e) (.tail _ hm))
  have B₃ : Below A₀ base l (ktsHeap h' (l.filterMap (·.frame)) g) := ⟨B.stack, fun b o e => T.other b o (B.stays b o e) (fun hm => by
    rw [(B.frames.mem hm).1] at e
    cases e), B.frames.of_keeps fun b o e _ => by
    obtain ⟨sl', hs'⟩ := T.up e
    exact ⟨_, hs', rfl⟩⟩
  exact ⟨_, T, ⟨ns_slots F.ns fun o e => k.up' e fun q => (hS L q).2 rfl, S₁, by rw [T.size]; exact F.above⟩, B₃, XB.keeps B₃.stays, TB.keeps B₃.stays, D.turn T⟩
theorem AfterF.led {g' : Heap} {newsW : List (Addr × Obj)} (a : AfterF A₀ base l K p loose mean mg mb g g' L h' m) (N : ∀ q ∈ newsW, h'.get? q.1 = some q.2 ∧ q.1 ≠ L ∧ g.get? q.1 = none) : News g' L h' newsW := fun q hq => ⟨(N q hq).1, (N q hq).2.1, a.T0.none_ _ (N q hq).2.2⟩
theorem news_F (N : News g L h news) (B : Below A₀ base l g) (k : KeepF S (L :: l.filterMap (·.frame)) h h') (hn : ∀ q ∈ news, q.1 ∉ S) : ∀ q ∈ news, h'.get? q.1 = some q.2 ∧ q.1 ≠ L ∧ g.get? q.1 = none := fun q hq => by
  refine ⟨k.keep _ _ (N q hq).1 (hn q hq) fun hm => ?_, (N q hq).2⟩
  rcases List.mem_cons.mp hm with z | hm
  · exact (N q hq).2.1 z
  · obtain ⟨o, ho, _⟩ := (B.frames.mem hm).2
    rw [(N q hq).2.2] at ho; cases ho
end
end
section
theorem get_c {w : World} {A : Around} {s : Shared} {Q E : Value → Shared → Prop} {dp un : Nat} {x xi dd : Addr} {o : Obj} {kvs : List (Str × Value)} {ap : Str} {ta : Tok}
  (R : Rd w s.heap [] dp un A) (hx : XdAt w s.heap x xi dd) (hdd : s.heap.get? dd = some o) (ho : o.IsDictOf (PySem.strKind PG w) kvs) (hlo : (dd == sysModules) = false) (hd : dp + 5 < recursionLimit) (hu : un + 150 < cLine)
  (hraise : ∀ (e : Addr) (h' : Heap) (tk' : Nat), valueAt kvs ap = none → Flown A s.heap e (.ref 159) h' → E (.ref e) { s with heap := h', toks := tk' })
  (hret : ∀ (v : Value) (h' : Heap) (tk' : Nat), valueAt kvs ap = some v → Keep [] s.heap h' → Q v { s with heap := h', toks := tk' }) :
  wpAny (model PG w) A (call (.ref 456) [.ref x, .str ap ta]) Q E s := by
  cases R with
  | mk hf hkk B F X T hS =>
  rename_i h₀ L m p loose mean mg mb
  have N : News h₀ L s.heap [] := News.none
  cases hv : valueAt kvs ap
  · have hb : (valueAt kvs ap).isSome = false := by rw [hv]; rfl
    refine wpAny_call ?_
    k_dflt cell_enter
    intro g L' h' hg hh F' N' B' X' T' lt'
    (try dsimp only)
    k_fold
    obtain ⟨t, hx1, hx2⟩ := hx.at_
    have hx1' := hg _ _ hx1 (by simp)
    have hx2' := hg _ _ hx2 (by simp)
    have hdd' := hg _ _ hdd (by simp)
    k_steps
    (with_reducible rename RaisedK _ _ _ _ _ _ _ _ => kR9)
    (with_reducible rename Heap.UpToSlots g _ => kU9)
    exact hraise _ _ _ hv (flown_of hg rfl kR9 kU9)
  · have hb : (valueAt kvs ap).isSome = true := by rw [hv]; rfl
    refine wpAny_call ?_
    k_dflt cell_enter
    intro g L' h' hg hh F' N' B' X' T' lt'
    (try dsimp only)
    k_fold
    obtain ⟨t, hx1, hx2⟩ := hx.at_
    have hx1' := hg _ _ hx1 (by simp)
    have hx2' := hg _ _ hx2 (by simp)
    have hdd' := hg _ _ hdd (by simp)
    k_steps
    (with_reducible rename Heap.StaysIn g _ => kG)
    exact hret _ _ _ hv (keep_fin (S := []) hg kG)
end
section
theorem TagsAt.hidden {h : Heap} {Z : List Addr} {q : Addr} {vs : List Value} (t : TagsAt (hideAll h Z) q vs) : TagsAt h q vs := t.keeps hid_of
section
variable {prog : Program} {w : World} {A : Around} {E : Value → Shared → Prop} {s : Shared} {g : Heap} {L x d : Addr} {m : Str → Option Value} {news : List (Addr × Obj)} {n : Nat}
theorem ground_hid {c : Addr} {o : Obj} (F : Fr g L s.heap m) (N : News g L s.heap news) (hm : (c, o) ∈ news) : g.StaysIn (hideAll s.heap [c]) := fun b ob e => hideAll_get _ (F.keep b ob e) fun q => by
  rw [List.mem_singleton] at q
  subst q
  rw [(N _ hm).2.2] at e; cases e
theorem tagRow_some {h : Heap} {vs : List Value} {rows : List Row} {k : Int} (hr : TagRows h vs rows) (h0 : 0 ≤ k) (h1 : k < (rows.length : Int)) : ∃ a t1 t2, vs[k.toNat]? = some (.ref a) ∧ TagAt h a (.int (rowAt rows k).1 t1) (.str (rowAt rows k).2 t2) ∧ rowAt rows k ∈ rows := by
  have hk : k.toNat < rows.length := by omega
  have hk' : k.toNat < vs.length := by rw [hr.1]; exact hk
  have hrow := rowAt_some (k := k) rfl hk
  obtain ⟨a, t1, t2, e, T⟩ := (hr.2 k.toNat vs[k.toNat] _ (by simp [hk']) hrow).at_
  exact ⟨a, t1, t2, by rw [List.getElem?_eq_getElem hk', e], T, List.mem_of_getElem? hrow⟩
/-- an item of a Tags in the ledger, its tags in the ground -/
theorem sub_led {value slice : Expr} {Q : Value → Shared → Prop} {vs : List Value} {rows : List Row} {k : Int} {u : Tok} (F : Fr g L s.heap m) (N : News g L s.heap news) (X : (Mine.mkK.heap_1 w.params).In g) (hm : (x, tg d vs n) ∈ news) (hr : TagRows g vs rows) (ho : RowsOk rows) (hn : rows.length ≤ 1000) (h0 : 0 ≤ k) (h1 : k < (rows.length : Int))
    (h : ∀ a t1 t2, PyData.strOk (rowAt rows k).2 = true → TagAt g a (.int (rowAt rows k).1 t1) (.str (rowAt rows k).2 t2) → Q (.ref a) s)
    (hs : subscripted slice false (.ref x) (.int k u) = operate [.ref x, .int k u] (getItem (.ref x) (.int k u)) := by with_unfolding_all rfl) :
    wpAny (model prog w) A (subscriptTail value slice (.ref x) (.int k u)) Q E s := by
  obtain ⟨a, t1, t2, e, T, hmem⟩ := tagRow_some hr h0 h1
  exact ts_tail (X.keeps F.keep) (tagsAt_led N hm) (ts_getitem (X.keeps F.keep) (tagsAt_led N hm) h0 (by omega) e (h a t1 t2 (ho _ hmem) T)) hs
end
theorem flown_of2 {A : Around} {g h h' : Heap} {S : List Addr} {l : List Env} {e t : Addr} {cls : Value} {vs : List Value} {news cells : List (Addr × Obj)} (hg : ∀ a o, (hideAll h S).get? a = some o → g.get? a = some o ∨ (a, o) ∈ news) (hA : A.frames = some l) (hc : ∀ p ∈ cells, p ∈ news ∧ p.1 ∈ S)
    (R : RaisedK (hideAll g (l.filterMap (·.frame))) l e cls t vs news h') (U : g.UpToSlots h') : FlownN A (hideAll h S) e cls cells h' := by
  obtain ⟨⟨B, hB, hl, hfl, hnew⟩, htup⟩ := R
  refine ⟨l, t, vs, hA, ⟨⟨B, fun b o q => ?_, fun q hq => ⟨(hl q (hc q hq).1).1, ?_⟩, hfl, hnew⟩, htup⟩, fun b o q => ?_⟩
  · have nf : b ∉ l.filterMap (·.frame) := fun m => by rw [hideAll_none _ m] at q; cases q
    rcases hg b o (of_hideAll _ q) with z | z
    · exact hB b o (hideAll_get _ z nf)
    · exact (hl _ z).1
  · cases z : (hideAll (hideAll h S) (l.filterMap (·.frame))).get? q.1 with
    | none => rfl
    | some o => have := of_hideAll _ z; rw [hideAll_none _ (hc q hq).2] at this; cases this
  · rcases hg b o q with z | z
    · exact U b o z
    · exact fun _ => ⟨_, hfl.1 _ _ (hl _ z).1⟩
end
local macro_rules | `(tactic| walk_at "call builtin:len") => `(tactic| (k_here; k_dflt (refine' ts_len ?X ?t _ ?e ?n ?_; (case X => exact Frag.In.keeps (by k_asm) (Fr.keep (by k_asm))); (case t => exact tagsAt_led (by k_asm) (by k_mem)); (case e => assumption); (case n => omega); k_whole)))
local macro_rules | `(tactic| walk_at "subscriptTail") => `(tactic| (k_here; (with_reducible show wpAny _ _ (subscriptTail _ _ (Value.ref _) (Value.int _ _)) _ _ _); k_dflt (refine' sub_led ?F ?N ?X ?hm ?hr ?ho ?hn ?h0 ?h1 ?_ ?hs; (case F => k_asm); (case N => k_asm); (case X => k_asm); (case hm => k_mem); (case hr => assumption); (case ho => assumption); (case hn => omega); (case h0 => omega); (case h1 => omega); (case hs => with_unfolding_all rfl); k_whole)))
local macro_rules | `(tactic| walk_at "call ref") => `(tactic| (k_here; (with_reducible show wpAny _ _ (call (Value.ref 389) [Value.ref _]) _ _ _); k_dflt (refine' hv_K ?hf ?hk ?B ?F ?N ?X ?T ?U ?oc ?ht ?q ?q8 ?r ?hd ?hu ?_; (case hf => rfl); (case hk => rfl); (case F => k_asm); (case N => k_asm); (case B => k_asm); (case X => k_asm); (case T => k_asm); (case U => k_updF); (case oc => assumption); (case ht => assumption); (case q => exact tagsAt_led (by k_asm) (by k_mem)); (case q8 => k_ne); (case r => exact TagRows.keeps (by assumption) (ground_hid (by k_asm) (by k_asm) (by k_mem))); (case hd => ktr_room); (case hu => ktr_units); k_whole); intro h9 tk9 gs9 op9 F9 N9 ht9 kp9 gn9; (try dsimp only)))
local macro_rules | `(tactic| walk_at "setItem ref str") => `(tactic| (k_here; k_dflt (refine' kda_set (knd := PySem.strKind _ _) ?F ?N ?U ?d (strKind_is _ _ _ _) ?z ?_; (case F => k_asm); (case N => k_asm); (case U => k_updF); (case d => assumption); (case z => (rw [sizeLine_eq]; omega)); k_whole); intro h9 o9 F9 N9 hd9; (try dsimp only at N9); (try dsimp only)))
section
theorem code_tab {h : Heap} {c P : Addr} {ps : Array Value} (x : IsCT h c P ps) : ∃ op, h.get? P = some op := by
  exact ⟨_, x.get⟩
theorem tab_code {g h : Heap} {c P : Addr} {op : Obj} (t : TabOk g c P op) (k : g.StaysIn h) (e : h.get? P = some op) : ∃ ps, IsCT h c P ps := let ⟨ps, _, c, f⟩ := t; ⟨ps, f h (k _ _ c) e⟩
theorem nin1 {x a : Nat} (h : @Ne Nat x a) : x ∉ ([a] : List Addr) := fun q => by rw [List.mem_singleton] at q; exact h q
theorem nin2 {x a b : Nat} (h : @Ne Nat x a) (h' : @Ne Nat x b) : x ∉ ([a, b] : List Addr) := fun q => by
  rcases List.mem_cons.mp q with q | q
  · exact h q
  · exact nin1 h' q
theorem nin3 {x a b c : Nat} (h : @Ne Nat x a) (h' : @Ne Nat x b) (h'' : @Ne Nat x c) : x ∉ ([a, b, c] : List Addr) := fun q => by
  rcases List.mem_cons.mp q with q | q
  · exact h q
  · exact nin2 h' h'' q
theorem nin4 {x a b c d : Nat} (h : @Ne Nat x a) (h' : @Ne Nat x b) (h'' : @Ne Nat x c) (h3 : @Ne Nat x d) : x ∉ ([a, b, c, d] : List Addr) := fun q => by
  rcases List.mem_cons.mp q with q | q
  · exact h q
  · exact nin3 h' h'' h3 q
theorem adda_c {w : World} {A : Around} {s : Shared} {Q E : Value → Shared → Prop} {dp un : Nat} {x xi dd q : Addr} {o : Obj} {kvs : List (Str × Value)} {vs : List Value} {rows : List Row} {ap : Str} {ps : Array Value}
  (R : Rd w s.heap [dd, 384] dp un A) (hx : XdAt w (hideAll s.heap [dd, 384]) x xi dd) (hdd : s.heap.get? dd = some o) (ho : o.IsDictOf (PySem.strKind PG w) kvs) (hlo : (dd == sysModules) = false) (hkl : kvs.length ≤ 10) (hd384 : @Ne Nat dd 384)
  (hcode : IsCT s.heap 388 384 ps) (hq : TagsAt (hideAll s.heap [dd, 384]) q vs) (hr : TagRows (hideAll s.heap [dd, 384]) vs rows) (hro : RowsOk rows) (hlen : rows.length ≤ 400) (h0 : 0 < rows.length) (hap : (rowAt rows 0).2 = ap)
  (hval : rows.all (fun r => validC r.1) = true) (hd : dp + 45 < recursionLimit) (hu : un + 400 < cLine)
  (hret : ∀ (S d : Addr) (n : Nat) (o' : Obj) (h' : Heap) (tk' : Nat) (gs' : Array GenState) (ps' : Array Value), Keep [dd, 384] s.heap h' → h'.get? dd = some o' → o'.IsDictOf (PySem.strKind PG w) (stored kvs ap (.ref S)) → IsCT h' 388 384 ps' → GN s.gens gs' →
     s.heap.get? S = none → s.heap.get? d = none → h'.get? S = some (tg d vs n) → h'.get? d = some emptyDict → Q .none { s with heap := h', toks := tk', gens := gs' }) :
  wpAny (model PG w) A (call (.ref 442) [.ref x, .ref q]) Q E s := by
  subst hap
  cases R with
  | mk hf hkk B F X T hS =>
  rename_i h₀ L m p loose mean mg mb
  obtain ⟨op, h384⟩ := code_tab hcode
  have N : News h₀ L s.heap [(dd, o), (384, op)] := fun p hp => by
    rcases List.mem_cons.mp hp with rfl | hp
    · exact ⟨hdd, (hS _ (by simp)).2, (hS _ (by simp)).1⟩
    · rw [List.mem_singleton.mp hp]; exact ⟨h384, (hS _ (by simp)).2, (hS _ (by simp)).1⟩
  obtain ⟨oc, hoc⟩ : ∃ oc, h₀.get? 388 = some oc := ⟨_, X _ _ (by k_is)⟩
  have htab := TabOk.of_code (g := h₀) hcode F.keep hoc h384
  refine wpAny_call ?_
  k_dflt cell_enter
  intro g L' h' hg hh F' N' B' X' T' lt'
  (try dsimp only)
  k_fold
  have hgz : (hideAll s.heap [dd, 384]).StaysIn g := fun a ob e => hg a ob (of_hideAll _ e) fun q => by rw [hideAll_none _ (by simpa using q)] at e; cases e
  have hg0 : h₀.StaysIn g := fun a ob e => hg a ob (F.keep _ _ e) fun q => by
    obtain ⟨z, hz, rfl⟩ := List.mem_map.mp q
    rw [(N z hz).2.2] at e; cases e
  obtain ⟨t, hx1, hx2⟩ := hx.at_
  have hx1' := hgz _ _ hx1
  have hx2' := hgz _ _ hx2
  have hoc' := hg0 _ _ hoc
  have htab' := htab.mono hg0
  have hq' : TagsAt g q vs := hq.keeps hgz
  have hr' : TagRows g vs rows := hr.keeps hgz
  have hvl : vs.length = rows.length := hr.1
  have h0v : 0 < vs.length := by omega
  k_lt lt'
  k_steps
  · (with_reducible rename Heap.StaysIn g _ => kG)
    (with_reducible rename TabOk g 388 384 _ => kT)
    (with_reducible rename News g _ _ _ => kN)
    (with_reducible rename Obj.IsDictOf _ _ _ => kD)
    (with_reducible rename GN _ _ => kGN)
    have eT := (kN _ (.tail _ (.tail _ (.tail _ (.head _))))).1
    obtain ⟨ps', hps'⟩ := tab_code kT kG eT
    exact hret _ _ _ _ _ _ _ _ (keep_fin (S := [dd, 384]) (fun a ob e n => hg a ob e (by simpa using n)) kG) (kN _ (.tail _ (.tail _ (.head _)))).1 kD hps' kGN (fresh_of (S := [dd, 384]) hg (kN _ (.head _)).2.2 (nin2 (by omega) (by omega))) (fresh_of (S := [dd, 384]) hg (kN _ (.tail _ (.head _))).2.2 (nin2 (by omega) (by omega))) (kN _ (.head _)).1 (kN _ (.tail _ (.head _))).1
  · omega
end
section
section
variable {prog : Program} {w : World} {A : Around} {E : Value → Shared → Prop} {s : Shared} {Q : Value → Shared → Prop} {D : Addr} {k : Int} {n : Str} {t1 t2 : Tok}
theorem rowD_depth (r : Row) : (rowD r).depth ≤ 5 := by
  simp [rowD, PyData.depth, PyData.depthAll]
theorem rep_tup (u : TupAt s.heap D (.int k t1) (.str n t2)) {g : List Code} (hg : A.guards = some g) (hcl : Clear g D) (hs : (rowD (k, n)).showable = true) (hz : (rowD (k, n)).shown.length ≤ sizeLine) (hu : A.units + 8 < cLine)
    (hQ : ∀ h' u tk, (∀ b o, s.heap.get? b = some o → h'.get? b = some o) → Q (.str (rowD (k, n)).shown u) { s with heap := h', toks := tk }) : wpAny (model prog w) A (call (.builtin "tuple.__repr__") [.ref D]) Q E s := by
  obtain ⟨o, ho, hc, m, hd⟩ := u
  have hall : ReadsAll s.heap [.int k t1, .str n t2] [.int k, .str n] [] := .cons (as := []) (bs := []) (.int _ _) (.cons (as := []) (bs := []) (.str _ _) .nil)
  obtain ⟨bs, hb, hk⟩ := ReprAllK.of_readsAll (prog := prog) (w := w) hall (by simpa [PyData.showable, rowD] using hs) (fun hx => by simp [PyData.hasDictAll, PyData.hasDict] at hx) (fun t ht => by
    have h2 := tupleText_mem_le ht
    simp only [rowD, PyData.shown] at hz
    exact Nat.le_trans h2 hz)
  have hnil : bs = [] := by
    cases bs with
    | nil => rfl
    | cons b r =>
      obtain ⟨v, as, r1, hd1⟩ := hb b (.head _)
      exfalso
      cases r1 <;> simp [PyData.depth, PyData.depthAll] at hd1
  subst hnil
  refine call_tuple_reprK (as := []) ho hc hd (fun q => nomatch q) hk hg (fun b hb' => ?_) ?_ (fun _ _ e => e) (fun h' u tk hk' => ?_) ?_
  · rw [List.mem_singleton] at hb'; subst hb'; exact hcl
  · simp [PyData.depthAll, PyData.depth]; omega
  · have := hQ h' u tk hk'
    simpa only [rowD, PyData.shown] using this
  · simpa only [rowD, PyData.shown] using hz
theorem str_tup (u : TupAt s.heap D (.int k t1) (.str n t2)) {g : List Code} (hg : A.guards = some g) (hcl : Clear g D) (hs : (rowD (k, n)).showable = true) (hz : (rowD (k, n)).shown.length ≤ sizeLine) (hu : A.units + 20 < cLine)
    (hQ : ∀ h' u tk, (∀ b o, s.heap.get? b = some o → h'.get? b = some o) → Q (.str (rowD (k, n)).shown u) { s with heap := h', toks := tk }) : wpAny (model prog w) A (call (.type "str") [.ref D]) Q E s := by
  obtain ⟨o, ho, hc, m, hd⟩ := id u
  have hT : s.TypeIs (.ref D) "tuple" := ⟨o, ho, hc⟩
  refine callType_new F.called_str (by decide) (F.typeCall_str_1 _) (F.newCall_str_1 _) (fun obj => F.args_object_init_2 obj _) F.entry_str_new
    (meets_str_new (S := fun A' R s' => A'.guards = some g ∧ A'.units + 12 < cLine ∧ s' = s ∧
        ∀ h' u tk, (∀ b o, s.heap.get? b = some o → h'.get? b = some o) → R (.ok (.ret (.str (rowD (k, n)).shown u))) { s with heap := h', toks := tk })
      fun prog' w' A' R s' h => ?_) ⟨hg, ?_, rfl, fun h' u tk hk => ?_⟩
  · obtain ⟨h1, h2, rfl, h4⟩ := h
    refine wpAny_strOf_slot (T := "tuple") rfl (by show A'.units + 1 + 1 < cLine; omega) hT F.slot_tuple_str F.slot_tuple_repr (rep_tup u h1 hcl hs hz (by show A'.units + 1 + 1 + 8 < cLine; omega) fun h' u tk hk => ⟨_, _, rfl, h4 h' u tk hk⟩)
  · show A.units + 1 + 12 < cLine
    omega
  · exact ⟨typeIs_str _ _ _, hQ h' u tk hk⟩
end
theorem clear_keep {g h : Heap} {gl : List Code} (c : ∀ b, g.get? b = none → Clear gl b) (k : g.StaysIn h) : ∀ b, h.get? b = none → Clear gl b := fun b e => c b (by
  cases q : g.get? b with
  | none => rfl
  | some o => have := k b o q; rw [e] at this; cases this)
theorem clear_of {g h : Heap} {L D : Addr} {o : Obj} {gl : List Code} {news : List (Addr × Obj)} (c : ∀ b, g.get? b = none → Clear gl b) (N : News g L h news) (hm : (D, o) ∈ news) : Clear gl D := c _ (N _ hm).2.2
local macro_rules | `(tactic| walk_at "call type:str") => `(tactic| (k_here; (with_reducible show wpAny _ _ (call (Value.type "str") [Value.ref _]) _ _ _); k_dflt (refine' str_tup ?u ?hg ?hc ?hs ?hz ?hu ?_; (case u => exact tupAt_of (by k_asm) (by k_mem)); (case hg => exact rfl); (case hc => exact clear_of (by assumption) (by k_asm) (by k_mem)); (case hs => assumption); (case hz => assumption); (case hu => ktr_units); k_whole); intro h9 u9 tk9 kp9; (have F9 := Mine.Fr.after (S := []) (by k_asm) (fun a o e _ => kp9 a o e) (fun _ h => nomatch h)); (have N9 := News.after0 (by k_asm) (fun a o e _ => kp9 a o e)); clear kp9; (try dsimp only); (try k_sweep)))
theorem tstr_c {w : World} {A : Around} {s : Shared} {Q E : Value → Shared → Prop} {dp un : Nat} {k : Int} {n : Str} {t1 t2 : Tok} {x : Addr} {gl : List Code}
  (R : Rd w s.heap [] dp un A) (hgd : A.guards = some gl) (hcl : ∀ b, s.heap.get? b = none → Clear gl b) (t : TagAt s.heap x (.int k t1) (.str n t2)) (hs : (rowD (k, n)).showable = true) (hz : (rowD (k, n)).shown.length ≤ sizeLine) (hd : dp + 13 < recursionLimit) (hu : un + 100 < cLine)
  (hret : ∀ (u : Tok) (h' : Heap) (tk' : Nat), Keep [] s.heap h' → Q (.str (rowD (k, n)).shown u) { s with heap := h', toks := tk' }) :
  wpAny (model PG w) A (call (.ref 44) [.ref x]) Q E s := by
  cases R with
  | mk hf hkk B F X T hS =>
  rename_i h₀ L m p loose mean mg mb
  have N : News h₀ L s.heap [] := News.none
  obtain ⟨dx, od, ht, hdx⟩ := t.at_
  cases hgd
  refine wpAny_call ?_
  k_dflt cell_enter
  intro g L' h' hg hh F' N' B' X' T' lt'
  (try dsimp only)
  k_fold
  have ht' := hg _ _ ht (by simp)
  have hdx' := hg _ _ hdx (by simp)
  have tg : TagAt g x (.int k t1) (.str n t2) := ⟨dx, od, ht', hdx'⟩
  have hclg : ∀ b, g.get? b = none → Clear gl b := fun b hb => hcl b (fresh_of (S := []) hg hb (by simp))
  k_steps
  (with_reducible rename Heap.StaysIn g _ => kG)
  exact hret _ _ _ (keep_fin (S := []) hg kG)
local macro_rules | `(tactic| walk_at "call ref") => `(tactic| (k_here; (with_reducible show wpAny _ _ (call (Value.ref 44) _) _ _ _); k_dflt ((refine' tstr_c (Rd.mk rfl rfl ?B ?F ?X ?T (fun _ h => nomatch h)) ?gd ?cl ?t ?hs ?hz ?hd ?hu ?_; (case F => k_asm); (case t => exact TagAt.keeps (by assumption) (Fr.keep (by k_asm))); (case B => k_asm); (case X => k_asm); (case T => k_asm); (case gd => exact rfl); (case cl => exact clear_keep (by assumption) (Fr.keep (by k_asm))); (case hs => assumption); (case hz => assumption); (case hd => ktr_room); (case hu => ktr_units); k_whole); intro u9 h9 tk9 kp9; (have F9 := Mine.Fr.after (by k_asm) kp9 (fun _ h => nomatch h)); (have N9 := News.after0 (by k_asm) kp9); clear kp9; (try dsimp only [StrBack]); (try dsimp only); (try k_sweep))))
local macro_rules | `(tactic| walk_at "call type:str") => `(tactic| (k_here; (with_reducible show wpAny _ _ (call (Value.type "str") [Value.ref _]) _ _ _); k_dflt (refine' kso_call ?k1 ?k2 ?k3 ?k4 ?k5 ?_; (case k1 => ktr_units); (case k2 => k_in); (case k3 => k_inst); (case k4 => k_is); (case k5 => k_is); k_whole)))
theorem trepr_c {w : World} {A : Around} {s : Shared} {Q E : Value → Shared → Prop} {dp un : Nat} {k : Int} {n : Str} {t1 t2 : Tok} {x : Addr} {gl : List Code}
  (R : Rd w s.heap [] dp un A) (hgd : A.guards = some gl) (hcl : ∀ b, s.heap.get? b = none → Clear gl b) (t : TagAt s.heap x (.int k t1) (.str n t2)) (hs : (rowD (k, n)).showable = true) (hz : (rowD (k, n)).shown.length ≤ 60) (hd : dp + 16 < recursionLimit) (hu : un + 140 < cLine)
  (hret : ∀ (y : Str) (u : Tok) (h' : Heap) (tk' : Nat), y.length ≤ 100 → Keep [] s.heap h' → Q (.str y u) { s with heap := h', toks := tk' }) :
  wpAny (model PG w) A (call (.ref 51) [.ref x]) Q E s := by
  cases R with
  | mk hf hkk B F X T hS =>
  rename_i h₀ L m p loose mean mg mb
  have N : News h₀ L s.heap [] := News.none
  obtain ⟨dx, od, ht, hdx⟩ := t.at_
  cases hgd
  refine wpAny_call ?_
  k_dflt cell_enter
  intro g L' h' hg hh F' N' B' X' T' lt'
  (try dsimp only)
  k_fold
  have ht' := hg _ _ ht (by simp)
  have hdx' := hg _ _ hdx (by simp)
  have tg : TagAt g x (.int k t1) (.str n t2) := ⟨dx, od, ht', hdx'⟩
  have hz2 : (rowD (k, n)).shown.length ≤ sizeLine := by rw [sizeLine_eq]; omega
  have hclg : ∀ b, g.get? b = none → Clear gl b := fun b hb => hcl b (fresh_of (S := []) hg hb (by simp))
  k_steps
  (with_reducible rename Heap.StaysIn g _ => kG)
  refine hret _ _ _ _ ?_ (keep_fin (S := []) hg kG)
  rw [strLen_append, strLen_append]
  have e1 : (Str.empty).length = 0 := rfl
  have e2 : (Str.ofString "DXFTag").length = 6 := by decide +kernel
  omega
end
section
/-- an Around with its parts named -/
structure ArIs (A : Around) (l : List Env) (gl : List Code) (dp un : Nat) : Prop where
  hh : A.handled = none
  dep : A.depth = dp
  fr : A.frames = some l
  gd : A.guards = some gl
  ut : A.units = un
theorem ArIs.lit {A : Around} {l : List Env} {gl : List Code} {dp un : Nat} (a : ArIs A l gl dp un) : A = ⟨none, dp, some l, some gl, un⟩ := by
  obtain ⟨h1, h2, h3, h4, h5⟩ := a
  cases A
  simp_all
theorem ArIs.in1 {A : Around} {l : List Env} {gl : List Code} {dp un : Nat} (a : ArIs A l gl dp un) : ArIs A.in1 l gl dp (un + 1) := by
  obtain ⟨h1, h2, h3, h4, h5⟩ := a
  exact ⟨h1, h2, h3, h4, by show A.units + 1 = _; rw [h5]⟩
theorem ArIs.loop {A : Around} {l : List Env} {gl : List Code} {dp un : Nat} (a : ArIs A l gl dp un) (args : Args) : ArIs (A.under (.builtin "list.__repr__.loop" args)) l (.builtin "list.__repr__.loop" args :: gl) (dp + 1) (un + 1) := by
  obtain ⟨h1, h2, h3, h4, h5⟩ := a
  refine ⟨h1, ?_, ?_, guards_under_guard (isGuard_list_loop _) h4, by rw [units_under_list_loop, h5]⟩
  · rw [← h2]
    have e1 : (Code.builtin "list.__repr__.loop" args).isCreation = false := by rfl
    have e2 : (Code.builtin "list.__repr__.loop" args).isCaller = false := by rfl
    have e3 : (Code.builtin "list.__repr__.loop" args).frames = 0 := by rfl
    simp [Around.under, Code.weight, isGuard_list_loop, e1, e2, e3]
  · rw [← h3]
    have e : (Code.builtin "list.__repr__.loop" args).isFrame = false := by rfl
    simp [Around.under, Code.envs, pushEnvs, e]
theorem isInst_str {w : World} {A : Around} {E : Value → Shared → Prop} {s : Shared} {y : Str} {u : Tok} {Q : Bool → Shared → Prop} (h : Q true s) : wpAny (model PG w) A (isInstance (.str y u) (.type "str")) Q E s :=
  wpAny_isInstance (T := "str") (b := true) (typeIs_str _ _ _) isSubtype_str_str h
/-- repr of one tag within the repr of a list -/
theorem repr_tag {w : World} {A : Around} {s : Shared} {Q : Str → Shared → Prop} {E : Value → Shared → Prop} {dp un b : Nat} {k : Int} {n : Str} {t1 t2 : Tok} {x : Addr} {gl : List Code}
  (R : Rd w s.heap [] dp un A) (hgd : A.guards = some gl) (hcl : ∀ b, s.heap.get? b = none → Clear gl b) (t : TagAt s.heap x (.int k t1) (.str n t2)) (hs : (rowD (k, n)).showable = true) (hz : (rowD (k, n)).shown.length ≤ 60) (hb : b ≤ sizeLine) (hd : dp + 16 < recursionLimit) (hu : un + 140 < cLine)
  (hret : ∀ (y : Str) (h' : Heap) (tk' : Nat), y.length ≤ 100 → Keep [] s.heap h' → Q y { s with heap := h', toks := tk' }) :
  wpAny (model PG w) A (pyReprUnder b (.ref x)) Q E s := by
  refine wpAny_pyReprUnder_ref hb ?_
  cases R with
  | mk hf hkk B F X₀ T hS =>
  rename_i gd env outer A₀ base h₀ L m p loose mean mg mb
  have X := X₀.keeps F.keep
  obtain ⟨dx, od, ht, hdx⟩ := id t.at_
  have I : InstAt s.heap x (tagObj dx (.int k t1) (.str n t2)) 113 (some od) := ⟨ht, rfl, rfl, hdx⟩
  have hfind : findIn (Mine.mkK.heap_1 w.params) (.ref 113) (Str.ofString "__repr__") = some (some (.ref 51)) := by k_is
  have hfn : isFn (Mine.mkK.heap_1 w.params) (.ref 51) = true := by k_is
  unfold pyReprObjUnder pyReprObjBy
  refine wpAny_bind (wpAny_cRoomFor (by show un < cLine; omega) ?_)
  have L1 : Looks (model PG w) s.heap (specialOf (.ref x) "__repr__") (some (.ref 51)) := I.type.andThen (looks_findIn X hfind)
  refine wpAny_bind (L1.here ?_)
  rw [if_neg (by simp)]
  refine wpAny_bind (m := callSpecialIfBoundBy? _ _ _) ?_
  simp only [callSpecialIfBoundBy?, bindSpecialIfBound?]
  refine wpAny_holding (wpAny_bind (wpAny_bind (L1.here ?_)))
  refine wpAny_bind (wpAny_askSetting (wpAny_ite ?_))
  have hk2 : reprUnder? (.ref 51) = none := rfl
  have fin : wpAny (model PG w) ⟨none, dp, some (env :: outer), gd, un⟩ (call (.ref 51) ([.ref x] ++ []) >>= fun v => pure (some v)) (fun r s' => wpAny (model PG w) ⟨none, dp, some (env :: outer), gd, un⟩ (match r with
      | some r => do if ← isInstance r (.type "str") then pure r else raiseError "TypeError" s!"__repr__ returned non-string (type {← typeNameOf r})"
      | none => unsupported "repr:special-get-raises") (fun v s' => ∃ x u, v = .str x u ∧ Q x s') E s') E s := by
    refine wpAny_bind (trepr_c (Rd.mk hf hkk B F X₀ T hS) hgd hcl t hs hz hd hu fun y u h' tk' hy kp => ?_)
    exact wpAny_pure (wpAny_bind (isInst_str (wpAny_pure ⟨_, _, rfl, hret _ _ _ hy kp⟩)))
  split
  · exact wpAny_bind ((bind_fn X _ (beq_iff_eq.mp hfn)).here (wpAny_pure (by exact fin)))
  · exact wpAny_tryCatch (wpAny_bind ((bind_fn X _ (beq_iff_eq.mp hfn)).here (wpAny_pure (by exact fin))))
section
variable {w : World} {A : Around} {R : Result → Shared → Prop}
theorem piled_le {ts : List Str} (h : ∀ t ∈ ts, t.length ≤ 100) : piled ts ≤ 102 * ts.length := by
  induction ts with
  | nil => simp [piled]
  | cons t r ih =>
    rw [piled_cons, List.length_cons]
    have := ih fun u hu => h u (.tail _ hu)
    have := h t (.head _)
    omega
theorem sum_le {ts : List Str} (h : ∀ t ∈ ts, t.length ≤ 100) : (ts.map (·.length)).sum ≤ 100 * ts.length := by
  induction ts with
  | nil => simp
  | cons t r ih =>
    rw [List.map_cons, List.sum_cons, List.length_cons]
    have := ih fun u hu => h u (.tail _ hu)
    have := h t (.head _)
    omega
theorem tags_repr_loop {S P : Addr} (hne : S ≠ P) {items : Array Value} {h₀ : Heap} (hPf : h₀.get? P = none) (hsz : items.size ≤ 1000)
    (hrep : ∀ (i : Nat) (x : Value), items[i]? = some x → ∀ (args : Args) (b : Nat) (Q : Str → Shared → Prop) (E : Value → Shared → Prop) (s : Shared), b ≤ 200000 → h₀.StaysIn s.heap → (∀ t h' tk, t.length ≤ 100 → s.heap.StaysIn h' → Q t { s with heap := h', toks := tk }) →
      wpAny (model PG w) (A.under (.builtin "list.__repr__.loop" ⟨.ref S :: args.pos, args.kw⟩)) (pyReprUnder b x) Q E s) :
    ∀ (k i : Nat) (s : Shared) (oa : Obj) (na : Nat) (acc : Array Value) (c : Nat) (done : List (Str × Tok)), items.size - i = k → i ≤ items.size → h₀.StaysIn s.heap → s.heap.get? S = some oa → oa.data = .seq items na →
    s.heap.get? P = some { cls := .type "list", dict := none, data := .seq acc c, slots := #[] } → acc.toList = strValues done → done.length = i → (∀ d ∈ done, d.1.length ≤ 100) →
    (∀ y h' u tk, y.length ≤ 200000 → (∀ b o, b ≠ P → s.heap.get? b = some o → h'.get? b = some o) → R (.ok (.ret (.str y u))) { s with heap := h', toks := tk }) →
    codeAny (model PG w) A (.builtin "list.__repr__.loop" ⟨[.ref S, rawInt i, .ref P, rawInt ((piled (done.map (·.1)) : Nat) : Int)], []⟩) R s := by
  intro k
  induction k with
  | zero =>
    intro i s oa na acc c done hk hi hk0 ha hda hP hacc hdone hle hR
    have hin : i = items.size := by omega
    refine codeAny_builtin F.entry_list_repr_loop ?_
    show wpAny _ _ (Builtin.«list.__repr__.loop» ⟨[.ref S, .int i 0, .ref P, .int ((piled (done.map (·.1)) : Nat) : Int) 0], []⟩) _ _ s
    rw [repr_loop_tree]
    refine wpAny_bind (wpAny_listItems ha hda ?_)
    have hnone : items[(i : Int).toNat]? = none := by simp [hin]
    simp only [hnone]
    unfold reprEnd
    refine wpAny_bind (wpAny_listItems hP rfl ?_)
    rw [hacc, repr_fold]
    refine wpAny_bind (wpAny_pure ?_)
    have hall : ∀ t ∈ done.map (·.1), t.length ≤ 100 := fun t ht => by
      obtain ⟨d, hd, rfl⟩ := List.mem_map.mp ht; exact hle d hd
    have h1 := listText_len_le (done.map (·.1))
    have h2 := sum_le hall
    have h3 : (listText (done.map (·.1))).length ≤ 200000 := by
      rw [List.length_map] at h1 h2; omega
    refine wpAny_bind (wpAny_mkStr (wpAny_pure ?_) (by rw [sizeLine_eq]; show (listText (done.map (·.1))).length ≤ _; omega))
    exact hR _ s.heap _ _ h3 (fun _ _ _ e => e)
  | succ k ih =>
    intro i s oa na acc c done hk hi hk0 ha hda hP hacc hdone hle hR
    have hlt : i < items.size := by omega
    have hall : ∀ t ∈ done.map (·.1), t.length ≤ 100 := fun t ht => by
      obtain ⟨d, hd, rfl⟩ := List.mem_map.mp ht; exact hle d hd
    have hp := piled_le hall
    rw [List.length_map] at hp
    refine codeAny_builtin F.entry_list_repr_loop ?_
    show wpAny _ _ (Builtin.«list.__repr__.loop» ⟨[.ref S, .int i 0, .ref P, .int ((piled (done.map (·.1)) : Nat) : Int) 0], []⟩) _ _ s
    rw [repr_loop_tree]
    refine wpAny_bind (wpAny_listItems ha hda ?_)
    have hsome : items[(i : Int).toNat]? = some items[i] := by simp [hlt]
    simp only [hsome]
    rw [Int.toNat_natCast]
    refine wpAny_bind (wpAny_holding (hrep i items[i] (by simp [hlt]) ⟨[rawInt i, .ref P, rawInt ((piled (done.map (·.1)) : Nat) : Int)], []⟩ _ _ _ s (by omega) hk0 fun t h' tk ht hkp => ?_))
    refine wpAny_bind (wpAny_mkStr ?_ (by rw [sizeLine_eq]; omega))
    refine wpAny_bind ?_
    show wpAny _ _ (updateSeq P _) _ _ _
    have hasz : acc.size ≤ sizeLine := by
      have e1 : acc.toList.length = acc.size := by simp
      have e2 : (strValues done).length = done.length := by simp [strValues]
      rw [hacc] at e1; rw [sizeLine_eq]; omega
    refine wpAny_updateSeq (hkp _ _ hP) rfl (wpAny_pure ⟨F.quiet_list_repr_loop _, ?_⟩) hasz
    have e1 : ((i : Int) + 1) = ((i + 1 : Nat) : Int) := by omega
    have e2 : piled (done.map (·.1)) + (t.length + 2) = piled ((done ++ [(t, tk)]).map (·.1)) := by simp [piled_append, piled]
    rw [e1, e2]
    refine ih (i + 1) _ oa na (acc.push (.str t tk)) _ (done ++ [(t, tk)]) (by omega) hlt (fun b o e => (Heap.get?_update_other _ _ (fun h : P = b => by rw [← h, hPf] at e; cases e)).trans (hkp _ _ (hk0 _ _ e))) ((Heap.get?_update_other _ _ (fun h : P = S => hne h.symm)).trans (hkp _ _ ha)) hda (Heap.get?_update_self _ (hkp _ _ hP) rfl) (by simp [hacc, strValues]) (by simp [hdone]) (fun d hd => ?_) fun y h'' u tk' hy hh => ?_
    · rcases List.mem_append.mp hd with hd | hd
      · exact hle d hd
      · rw [List.mem_singleton.mp hd]; exact ht
    · exact hR y h'' u tk' hy fun b o hb e => hh b o hb ((Heap.get?_update_other _ _ (fun h : P = b => hb h.symm)).trans (hkp _ _ e))
end
end
section
def RowsSh (rows : List Row) : Prop := ∀ r ∈ rows, (rowD r).showable = true ∧ (rowD r).shown.length ≤ 60
theorem tagRow_at {h : Heap} {vs : List Value} {rows : List Row} {i : Nat} {v : Value} (hr : TagRows h vs rows) (hv : vs[i]? = some v) : ∃ r a t1 t2, r ∈ rows ∧ v = .ref a ∧ TagAt h a (.int r.1 t1) (.str r.2 t2) := by
  have hi : i < vs.length := by
    obtain ⟨q, _⟩ := List.getElem?_eq_some_iff.mp hv; exact q
  have hi' : i < rows.length := by rw [← hr.1]; exact hi
  obtain ⟨a, t1, t2, e, T⟩ := (hr.2 i v rows[i] hv (List.getElem?_eq_getElem hi')).at_
  exact ⟨rows[i], a, t1, t2, List.getElem_mem hi', e, T⟩
/-- f-string field of a Tags: some text -/
theorem fmt_tags {w : World} {A : Around} {s : Shared} {Q E : Value → Shared → Prop} {dp un : Nat} {S d : Addr} {n : Nat} {vs : List Value} {rows : List Row}
  (R : Rd w s.heap [] dp un A) (hgd : A.guards = some []) (hS : s.heap.get? S = some (tg d vs n)) (hSd : s.heap.get? d = some emptyDict) (hr : TagRows s.heap vs rows) (hsh : RowsSh rows) (h0 : 0 < rows.length) (hlen : rows.length ≤ 400) (hd : dp + 20 < recursionLimit) (hu : un + 160 < cLine)
  (hret : ∀ (y : Str) (u : Tok) (h' : Heap) (tk' : Nat), y.length ≤ 200000 → Keep [] s.heap h' → Q (.str y u) { s with heap := h', toks := tk' }) :
  wpAny (model PG w) A (formatField (.ref S) Str.empty) Q E s := by
  cases R with
  | mk hf hkk B F X₀ T hS0 =>
  rename_i gd env outer A₀ base h₀ L m p loose mean mg mb
  cases hgd
  have X := X₀.keeps F.keep
  have I : InstAt s.heap S (tg d vs n) 335 (some emptyDict) := ⟨hS, rfl, rfl, hSd⟩
  have hmo : mroIn (Mine.mkK.heap_1 w.params) 335 (.type "object") = some true := by k_is
  have hml : mroIn (Mine.mkK.heap_1 w.params) 335 (.type "list") = some true := tags_mro w
  have Lo : Looks (model PG w) s.heap (isInstance (.ref S) (.type "object")) true := I.type.andThen (looks_mroIn X hmo)
  have Ll : Looks (model PG w) s.heap (isInstance (.ref S) (.type "list")) true := I.type.andThen (looks_mroIn X hml)
  have ar : ArIs (⟨none, dp, some (env :: outer), some [], un⟩ : Around) (env :: outer) [] dp un := ⟨rfl, rfl, rfl, rfl, rfl⟩
  refine kfo_field X I (by k_is) hmo ?_
  refine kfo_obj (by show un + 1 < cLine; omega) ?_
  refine kfo_special (s := { s with toks := s.toks + 1 }) X I (id := "object.__str__") (by k_is) PySem.F.slot_object_str.bind ?_
  refine wpAny_call (codeAny_call_builtin PySem.F.slot_object_str.plain PySem.F.entry_object_str (check_slot (i := "object.__str__") (owner := "object") (n := "__str__") (by decide +kernel) (by decide +kernel) Lo (PySem.F.args_object_str_1 _) ?_))
  unfold Builtin.«object.__str__»
  refine wpAny_bind (m := slotArgs "__str__" 0 _) (wpAny_pure ?_)
  refine wpAny_bind (m := cRoomFor _ _) (wpAny_cRoomFor (by show un + 1 + 1 < cLine; omega) ?_)
  refine wpAny_bind (m := callSpecialIfBound? (.ref S) (Str.ofString "__repr__") _) (ifBound_slot X I (id := "list.__repr__") (by k_is) PySem.F.slot_list_repr.bind ?_)
  refine wpAny_call (codeAny_call_builtin PySem.F.slot_list_repr.plain PySem.F.entry_list_repr (check_meth (n := "__repr__") (owner := "list") (.inl (by decide +kernel)) (by decide +kernel) Ll (PySem.F.args_list_repr_1 _) ?_))
  obtain ⟨x0, xl, hx⟩ : ∃ x l, vs = x :: l := by
    cases vs with
    | nil => have := hr.1; simp at this; omega
    | cons x l => exact ⟨x, l, rfl⟩
  have hdat : (tg d vs n).data = .seq (x0 :: xl).toArray n := by rw [← hx]; rfl
  refine wpAny_list_repr_head (g := []) (o := tg d vs n) (x := x0) (l := xl) (n := n) rfl (fun _ _ _ h => nomatch h) hS hdat ?_
  refine wpAny_bind (m := newList []) (wpAny_newObj_type ?_)
  refine wpAny_pure ⟨PySem.F.quiet_list_repr_loop _, ?_⟩
  have kp : ∀ b o, s.heap.get? b = some o → (s.heap.push { cls := .type "list", data := .seq #[] }).get? b = some o := fun b o e => Heap.get?_push_of_some _ e
  have ar2 := ar.in1.in1
  refine tags_repr_loop (P := s.heap.objs.size) (items := (x0 :: xl).toArray) (h₀ := s.heap) (Nat.ne_of_lt (Heap.lt_size hS)) ?_ ?_ ?_ (x0 :: xl).toArray.size 0 _ (tg d vs n) n #[] 0 [] ?_ ?_ ?_ ?_ hdat ?_ rfl rfl ?_ ?_
  · cases q : s.heap.get? s.heap.objs.size with
    | none => rfl
    | some o => exact absurd (Heap.lt_size q) (Nat.lt_irrefl _)
  · rw [← hx]
    show vs.length ≤ 1000
    rw [hr.1]; omega
  · intro i x hi args b Q' E' s' hb hk hq
    rw [← hx] at hi
    obtain ⟨r, a, t1, t2, hm, rfl, T'⟩ := tagRow_at hr (by simpa using hi)
    have F' : Fr h₀ L s'.heap m := Mine.Fr.after (S := []) F (fun a o e _ => hk a o e) (fun _ h => nomatch h)
    rw [(ar2.loop _).lit]
    refine repr_tag (dp := dp + 1) (un := un + 1 + 1 + 1) (Rd.mk hf hkk B F' X₀ T (fun _ h => nomatch h)) rfl (fun b hb' => Clear.cons (Clear.nil b) fun q => ?_) (T'.keeps hk) (hsh _ hm).1 (hsh _ hm).2 (by rw [sizeLine_eq]; omega) (by omega) (by omega) fun y h' tk' hy kp => hq y h' tk' hy fun b o e => kp b o e (by simp)
    rw [← q, hk _ _ hS] at hb'
    cases hb'
  · rfl
  · exact Nat.zero_le _
  · exact kp
  · exact kp _ _ hS
  · exact Heap.get?_push_size _ rfl
  · exact fun _ h => nomatch h
  · intro y h' u tk hy hk
    refine wpAny_pure ⟨_, rfl, ⟨_, _, rfl, ⟨_, _, rfl, ?_⟩⟩⟩
    exact hret y u h' tk hy fun b o e _ => hk b o (Nat.ne_of_lt (Heap.lt_size e)) (kp _ _ e)
end
local macro_rules | `(tactic| walk_at "formatField ref") => `(tactic| (k_here; (with_reducible show wpAny _ _ (formatField (Value.ref _) _) _ _ _); k_dflt ((refine' fmt_tags (Rd.mk rfl rfl ?B ?F ?X ?T (fun _ h => nomatch h)) ?gd ?S ?d ?r ?sh ?p ?l ?hd ?hu ?_; (case F => k_asm); (case B => k_asm); (case X => k_asm); (case T => k_asm); (case gd => exact rfl); (case S => exact tg_hd1 (by k_asm) (by k_mem)); (case d => exact tg_hd1 (by k_asm) (by k_mem)); (case r => exact TagRows.keeps (by assumption) (Fr.keep (by k_asm))); (case sh => assumption); (case p => omega); (case l => omega); (case hd => ktr_room); (case hu => ktr_units); k_whole); intro y9 u9 h9 tk9 hy9 kp9; (have F9 := Mine.Fr.after (by k_asm) kp9 (fun _ h => nomatch h)); (have N9 := News.after0 (by k_asm) kp9); clear kp9; (try dsimp only); (try k_sweep))))
section
theorem code_flown {A : Around} {g h9 h' : Heap} {l : List Env} {e t c P : Addr} {cls : Value} {vs : List Value} {news : List (Addr × Obj)} {op oc : Obj} {base : Heap} (B : Below A base l g) (tk : TabOk g c P op) (hc : g.get? c = some oc) (k : g.StaysIn h9) (h9P : h9.get? P = some op) (hm : (P, op) ∈ news)
    (R : RaisedK (hideAll g (l.filterMap (·.frame))) l e cls t vs news h') : ∃ ps, IsCT h' c P ps := by
  obtain ⟨⟨B1, hB, hl, hfl, hnew⟩, htup⟩ := R
  have nc : c ∉ l.filterMap (·.frame) := fun hm' => by
    obtain ⟨ps, h1⟩ := tk.code hc (k _ _ hc) h9P
    obtain ⟨o, ws, a1, a2, _⟩ := h1.at_
    rw [k _ _ hc] at a1
    cases a1
    obtain ⟨o, ho, hd⟩ := (B.frames.mem hm').2
    rw [hc] at ho
    cases ho
    exact hd _ a2
  exact tk.code hc (hfl.1 _ _ (hB _ _ (hideAll_get _ hc nc))) (hfl.1 _ _ (hl _ hm).1)
theorem adda_r {w : World} {A : Around} {s : Shared} {Q E : Value → Shared → Prop} {dp un : Nat} {x xi dd q : Addr} {o : Obj} {kvs : List (Str × Value)} {vs : List Value} {rows : List Row} {ap : Str} {ps : Array Value}
  (R : Rd w s.heap [dd, 384] dp un A) (hx : XdAt w (hideAll s.heap [dd, 384]) x xi dd) (hdd : s.heap.get? dd = some o) (ho : o.IsDictOf (PySem.strKind PG w) kvs) (hlo : (dd == sysModules) = false) (hkl : kvs.length ≤ 10) (hd384 : @Ne Nat dd 384)
  (hcode : IsCT s.heap 388 384 ps) (hq : TagsAt (hideAll s.heap [dd, 384]) q vs) (hr : TagRows (hideAll s.heap [dd, 384]) vs rows) (hro : RowsOk rows) (hlen : rows.length ≤ 400) (h0 : 0 < rows.length) (hap : (rowAt rows 0).2 = ap)
  (hval : rows.all (fun r => validC r.1) = false) (hd : dp + 45 < recursionLimit) (hu : un + 400 < cLine)
  (hgd : A.guards = some []) (hsh : RowsSh rows)
  (hraise : ∀ (e : Addr) (op' : Obj) (h' : Heap) (tk' : Nat) (gs' : Array GenState) (ps' : Array Value), FlownN A (hideAll s.heap [384]) e (.ref 159) [(384, op')] h' → IsCT h' 388 384 ps' → GN s.gens gs' → E (.ref e) { s with heap := h', toks := tk', gens := gs' }) :
  wpAny (model PG w) A (call (.ref 442) [.ref x, .ref q]) Q E s := by
  subst hap
  cases R with
  | mk hf hkk B F X T hS =>
  rename_i h₀ L m p loose mean mg mb
  cases hgd
  obtain ⟨op, h384⟩ := code_tab hcode
  have N : News h₀ L s.heap [(dd, o), (384, op)] := fun p hp => by
    rcases List.mem_cons.mp hp with rfl | hp
    · exact ⟨hdd, (hS _ (by simp)).2, (hS _ (by simp)).1⟩
    · rw [List.mem_singleton.mp hp]; exact ⟨h384, (hS _ (by simp)).2, (hS _ (by simp)).1⟩
  obtain ⟨oc, hoc⟩ : ∃ oc, h₀.get? 388 = some oc := ⟨_, X _ _ (by k_is)⟩
  have htab := TabOk.of_code (g := h₀) hcode F.keep hoc h384
  refine wpAny_call ?_
  k_dflt cell_enter
  intro g L' h' hg hh F' N' B' X' T' lt'
  (try dsimp only)
  k_fold
  have hgz : (hideAll s.heap [dd, 384]).StaysIn g := fun a ob e => hg a ob (of_hideAll _ e) fun q => by rw [hideAll_none _ (by simpa using q)] at e; cases e
  have hg0 : h₀.StaysIn g := fun a ob e => hg a ob (F.keep _ _ e) fun q => by
    obtain ⟨z, hz, rfl⟩ := List.mem_map.mp q
    rw [(N z hz).2.2] at e; cases e
  obtain ⟨t, hx1, hx2⟩ := hx.at_
  have hx1' := hgz _ _ hx1
  have hx2' := hgz _ _ hx2
  have hoc' := hg0 _ _ hoc
  have htab' := htab.mono hg0
  have hq' : TagsAt g q vs := hq.keeps hgz
  have hr' : TagRows g vs rows := hr.keeps hgz
  have hvl : vs.length = rows.length := hr.1
  have h0v : 0 < vs.length := by omega
  k_lt lt'
  k_steps
  · (with_reducible rename TabOk g 388 384 _ => kT)
    (with_reducible rename Obj => op9)
    (with_reducible rename News g _ _ _ => kN)
    (with_reducible rename Fr g _ _ _ => kF)
    (with_reducible rename RaisedK _ _ _ _ _ _ _ _ => kR9)
    (with_reducible rename Heap.UpToSlots g _ => kU9)
    (with_reducible rename GN _ _ => kGN)
    obtain ⟨ps', hps'⟩ := code_flown B' kT hoc' kF.keep (kN _ (.tail _ (.tail _ (.tail _ (.head _))))).1 (.tail _ (.tail _ (.tail _ (.head _)))) kR9
    refine hraise _ op9 _ _ _ _ (flown_of2 (fun a ob e => ?_) rfl (fun p hp => ?_) kR9 kU9) hps' kGN
    · by_cases ha : a = dd
      · subst ha
        have := of_hideAll _ e
        rw [hdd] at this
        cases this
        exact .inr (.tail _ (.tail _ (.head _)))
      · refine .inl (hg a ob (of_hideAll _ e) fun q => ?_)
        simp at q
        rcases q with q | q
        · exact ha q
        · rw [hideAll_none _ (by simpa using q)] at e; cases e
    · rw [List.mem_singleton.mp hp]
      exact ⟨.tail _ (.tail _ (.tail _ (.head _))), by simp⟩
  · omega
end
section
/-- a snapshot: what lies in hs stays as long as the ground g and the ledger part tl stay -/
structure Snap (g : Heap) (tl : List (Addr × Obj)) (hs : Heap) : Prop where
  keep : ∀ h', g.StaysIn h' → (∀ p ∈ tl, h'.get? p.1 = some p.2) → hs.StaysIn h'
theorem Snap.at_ {g hs h : Heap} {L : Addr} {m : Str → Option Value} {tl news : List (Addr × Obj)} (S : Snap g tl hs) (F : Fr g L h m) (N : News g L h news) (sub : ∀ p ∈ tl, p ∈ news) : hs.StaysIn h := S.keep h F.keep fun p hp => (N p (sub p hp)).1
theorem sub_cons {tl r : List (Addr × Obj)} {x : Addr × Obj} (h : ∀ p ∈ tl, p ∈ r) : ∀ p ∈ tl, p ∈ x :: r := fun p hp => List.mem_cons_of_mem _ (h p hp)
theorem sub_self {tl : List (Addr × Obj)} : ∀ p ∈ tl, p ∈ tl := fun _ h => h
/-- all that lies in the heap now, but for the cells Z (the frame among them), goes into the ledger's tail -/
theorem rebase {g h : Heap} {L : Addr} {m : Str → Option Value} {Z : List Addr} (F : Fr g L h m) (hL : L ∈ Z) : ∃ tl, News g L h tl ∧ (∀ c ∈ Z, NeAll c tl) ∧ Snap g tl (hideAll h Z) := by
  let f : Nat → Option (Addr × Obj) := fun a => if a ∈ Z ∨ (g.get? a).isSome = true then none else (h.get? a).map fun o => (a, o)
  have hmem : ∀ p : Addr × Obj, p ∈ (List.range h.objs.size).filterMap f ↔ (h.get? p.1 = some p.2 ∧ p.1 ∉ Z ∧ g.get? p.1 = none) := fun p => by
    rw [List.mem_filterMap]
    constructor
    · rintro ⟨a, ha, e⟩
      by_cases q : a ∈ Z ∨ (g.get? a).isSome = true
      · have : f a = none := if_pos q
        rw [this] at e; cases e
      · have e1 : f a = (h.get? a).map fun o => (a, o) := if_neg q
        rw [e1] at e
        obtain ⟨o, ho, rfl⟩ := Option.map_eq_some_iff.mp e
        refine ⟨ho, fun z => q (.inl z), ?_⟩
        cases z : g.get? a with
        | none => rfl
        | some o' => exact absurd (.inr (by rw [z]; rfl)) q
    · rintro ⟨e1, e2, e3⟩
      refine ⟨p.1, List.mem_range.mpr (Heap.lt_size e1), ?_⟩
      have : f p.1 = (h.get? p.1).map fun o => (p.1, o) := if_neg (by rintro (z | z); exact e2 z; rw [e3] at z; cases z)
      rw [this, e1]; rfl
  refine ⟨(List.range h.objs.size).filterMap f, fun p hp => ?_, fun c hc p hp z => ((hmem p).mp hp).2.1 (z ▸ hc), ⟨fun h' kg kt b o e => ?_⟩⟩
  · obtain ⟨a, b, c⟩ := (hmem p).mp hp
    exact ⟨a, fun z => b (z ▸ hL), c⟩
  · have nz : b ∉ Z := fun q => by rw [hideAll_none _ q] at e; cases e
    have e1 := of_hideAll _ e
    cases q : g.get? b with
    | none => exact kt (b, o) ((hmem (b, o)).mpr ⟨e1, nz, q⟩)
    | some o' =>
      have := F.keep _ _ q
      rw [e1] at this
      cases this
      exact kg _ _ q
theorem News.app {g h : Heap} {L : Addr} {a b : List (Addr × Obj)} (x : News g L h a) (y : News g L h b) : News g L h (a ++ b) := fun p hp => (List.mem_append.mp hp).elim (x p) (y p)
/-- the snapshot holds the ground -/
theorem ground_in {g h : Heap} {L : Addr} {m : Str → Option Value} {Z : List Addr} (F : Fr g L h m) (hZ : ∀ c ∈ Z, g.get? c = none) : g.StaysIn (hideAll h Z) := fun b o e => hideAll_get _ (F.keep b o e) fun q => by rw [hZ b q] at e; cases e
section
variable {prog : Program} {w : World} {A : Around} {E : Value → Shared → Prop} {s : Shared} {g hs : Heap} {L x d : Addr} {m : Str → Option Value} {news : List (Addr × Obj)} {n : Nat}
/-- an item of a Tags in the ledger, its tags in a snapshot -/
theorem sub_ledS {value slice : Expr} {Q : Value → Shared → Prop} {vs : List Value} {rows : List Row} {k : Int} {u : Tok} (F : Fr g L s.heap m) (N : News g L s.heap news) (X : (Mine.mkK.heap_1 w.params).In g) (hm : (x, tg d vs n) ∈ news) (hr : TagRows hs vs rows) (ho : RowsOk rows) (hn : rows.length ≤ 1000) (h0 : 0 ≤ k) (h1 : k < (rows.length : Int))
    (h : ∀ a t1 t2, PyData.strOk (rowAt rows k).2 = true → TagAt hs a (.int (rowAt rows k).1 t1) (.str (rowAt rows k).2 t2) → Q (.ref a) s)
    (hs' : subscripted slice false (.ref x) (.int k u) = operate [.ref x, .int k u] (getItem (.ref x) (.int k u)) := by with_unfolding_all rfl) :
    wpAny (model prog w) A (subscriptTail value slice (.ref x) (.int k u)) Q E s := by
  obtain ⟨a, t1, t2, e, T, hmem⟩ := tagRow_some hr h0 h1
  exact ts_tail (X.keeps F.keep) (tagsAt_led N hm) (ts_getitem (X.keeps F.keep) (tagsAt_led N hm) h0 (by omega) e (h a t1 t2 (ho _ hmem) T)) hs'
end
def LtAll (d : Nat) (tl : List (Addr × Obj)) : Prop := ∀ p ∈ tl, @LT.lt Nat instLTNat p.1 d
theorem tail_lt {g hs : Heap} {tl news : List (Addr × Obj)} {d : Addr} (_S : Snap g tl hs) (h : ∀ p ∈ news, p.1 < d) (sub : ∀ p ∈ tl, p ∈ news) : LtAll d tl := fun p hp => h p (sub p hp)
theorem LtAll.ne {d x : Nat} {tl : List (Addr × Obj)} (h : LtAll d tl) (l : d ≤ x) : NeAll x tl := fun p hp => Nat.ne_of_lt (Nat.lt_of_lt_of_le (h p hp) l)
end
local macro_rules | `(tactic| k_subL) => `(tactic| first | exact sub_self | (refine sub_cons ?_; k_subL))
local macro_rules | `(tactic| k_offL) => `(tactic| first | exact Fr.keep (by k_asm) | exact Snap.at_ (by assumption) (by k_asm) (by k_asm) (by k_subL))
local macro_rules | `(tactic| walk_at "getAttr ref") => `(tactic| (k_here; k_dflt (first
  | ((with_reducible show wpAny _ _ (getAttr (Value.ref _) (Str.ofString "value") _) _ _ _); (refine' tag_value (Rd.mk rfl rfl ?B ?F ?X ?T (fun _ h => nomatch h)) ?t ?hv ?hd ?hu ?_; (case F => k_asm); (case t => exact TagAt.keeps (by assumption) (by k_offL)); (case B => k_asm); (case X => k_asm); (case T => k_asm); (case hv => first | rfl | k_handed); (case hd => ktr_room); (case hu => ktr_units); k_whole); intro h9 tk9 kp9; (have F9 := Mine.Fr.after (by k_asm) kp9 (fun _ h => nomatch h)); (have N9 := News.after0 (by k_asm) kp9); clear kp9; (try dsimp only); (try k_sweep))
  | ((with_reducible show wpAny _ _ (getAttr (Value.ref _) (Str.ofString "code") _) _ _ _); (refine' tag_code (Rd.mk rfl rfl ?B ?F ?X ?T (fun _ h => nomatch h)) ?t ?hv ?hd ?hu ?_; (case F => k_asm); (case t => exact TagAt.keeps (by assumption) (by k_offL)); (case B => k_asm); (case X => k_asm); (case T => k_asm); (case hv => first | rfl | k_handed); (case hd => ktr_room); (case hu => ktr_units); k_whole); intro h9 tk9 kp9; (have F9 := Mine.Fr.after (by k_asm) kp9 (fun _ h => nomatch h)); (have N9 := News.after0 (by k_asm) kp9); clear kp9; (try dsimp only); (try k_sweep)))))
local macro_rules | `(tactic| walk_at "compareOp NotEq ref") => `(tactic| (k_here; k_dflt ((refine' tag_ne (Rd.mk rfl rfl ?B ?F ?X ?T (fun _ h => nomatch h)) ?t ?u ?n1 ?n2 ?hd ?hu ?_; (case F => k_asm); (case t => exact TagAt.keeps (by assumption) (by k_offL)); (case u => first | exact tupAt_of (by k_asm) (by k_mem) | exact TupAt.keeps (by assumption) (by k_offL)); (case n1 => first | assumption | decide +kernel); (case n2 => first | assumption | decide +kernel); (case B => k_asm); (case X => k_asm); (case T => k_asm); (case hd => ktr_room); (case hu => ktr_units); k_whole); intro h9 tk9 kp9; (have F9 := Mine.Fr.after (by k_asm) kp9 (fun _ h => nomatch h)); (have N9 := News.after0 (by k_asm) kp9); clear kp9; (try dsimp only); (try k_sweep))))
local macro_rules | `(tactic| walk_at "subscriptTail") => `(tactic| (k_here; (with_reducible show wpAny _ _ (subscriptTail _ _ (Value.ref _) (Value.int _ _)) _ _ _); k_dflt (refine' sub_ledS ?F ?N ?X ?hm ?hr ?ho ?hn ?h0 ?h1 ?_ ?hs; (case F => k_asm); (case N => k_asm); (case X => k_asm); (case hm => k_mem); (case hr => assumption); (case ho => assumption); (case hn => omega); (case h0 => omega); (case h1 => omega); (case hs => with_unfolding_all rfl); k_whole)))
local macro_rules | `(tactic| k_lt $h:ident) => `(tactic| ((have hTl9 := tail_lt (by assumption) $h (by k_subL)); (replace $h := allLt_of $h); simp only [AllLt, and_true] at $h:ident))
local macro_rules | `(tactic| k_all) => `(tactic| (k_dflt ((with_reducible rename LtAll _ _ => q9); first | exact LtAll.ne q9 (by omega) | (clear q9; k_all))))
local macro_rules | `(tactic| walk_at "call builtin:list.insert") => `(tactic| (k_here; k_dflt (refine' tg_insert0 ?F ?N ?X ?U ?d ?z ?_; (case F => k_asm); (case N => k_asm); (case X => k_asm); (case U => k_updF); (case d => first | exact tg_hd1 (by k_asm) (by k_mem) | exact Fr.keep (by k_asm) _ _ (by assumption)); (case z => (first | omega | (simp; done) | (simp; omega))); k_whole); intro h9 n9 F9 N9; (try dsimp only at N9); (try dsimp only)))
local macro_rules | `(tactic| walk_at "call builtin:list.append") => `(tactic| (k_here; k_dflt (refine' tg_append ?F ?N ?X ?U ?d ?z ?_; (case F => k_asm); (case N => k_asm); (case X => k_asm); (case U => k_updF); (case d => first | exact tg_hd1 (by k_asm) (by k_mem) | exact Fr.keep (by k_asm) _ _ (by assumption)); (case z => (first | omega | (simp; done) | (simp; omega))); k_whole); intro h9 n9 F9 N9; (try dsimp only at N9); (try dsimp only)))
local macro_rules | `(tactic| walk_at "call builtin:list.extend") => `(tactic| (k_here; k_dflt (first
  | (refine' tg_extend ?F ?N ?X ?U ?d ?q ?z ?_; (case F => k_asm); (case N => k_asm); (case X => k_asm); (case U => k_updF); (case d => first | exact tg_hd1 (by k_asm) (by k_mem) | exact Fr.keep (by k_asm) _ _ (by assumption)); (case q => exact stays_list (Fr.keep (by k_asm)) (by assumption)); (case z => (first | omega | (simp; done) | (simp; omega))); k_whole; intro h9 n9 F9 N9; (try dsimp only at N9); (try dsimp only))
  | (refine' tg_extendT ?hh ?F ?N ?X ?U ?d ?q ?p ?r ?z ?_; (case hh => rfl); (case F => k_asm); (case N => k_asm); (case X => k_asm); (case U => k_updF); (case d => first | exact tg_hd1 (by k_asm) (by k_mem) | exact Fr.keep (by k_asm) _ _ (by assumption)); (case q => exact TagsAt.keeps (by assumption) (Fr.keep (by k_asm))); (case p => (first | omega | (simp; done) | (simp; omega))); (case r => assumption); (case z => (first | omega | (simp; done) | (simp; omega))); k_whole; intro h9 tk9 n9 F9 N9; (try dsimp only at N9); (try dsimp only)))))
section
def ItemRow (h : Heap) (v : Value) (r : Row) : Prop := ∃ b t1 t2, v = .ref b ∧ RowIn h b (.int r.1 t1) (.str r.2 t2)
def ItemRows (h : Heap) (vs : List Value) (rows : List Row) : Prop := vs.length = rows.length ∧ ∀ (i : Nat) v r, vs[i]? = some v → rows[i]? = some r → ItemRow h v r
theorem ItemRows.keeps {h h' : Heap} {vs : List Value} {rows : List Row} (t : ItemRows h vs rows) (k : ∀ b o, h.get? b = some o → h'.get? b = some o) : ItemRows h' vs rows :=
  ⟨t.1, fun i v r a b => let ⟨c, t1, t2, e, T⟩ := t.2 i v r a b; ⟨c, t1, t2, e, T.keeps k⟩⟩
theorem item_pairs {h : Heap} : ∀ {vs : List Value} {rows : List Row}, ItemRows h vs rows → ∃ rv : List (Value × Value), rv.length = rows.length ∧
    ∀ (i : Nat) (p : Value × Value), rv[i]? = some p → ∃ (r : Row) (t1 t2 : Tok) (b : Addr), rows[i]? = some r ∧ p = (.int r.1 t1, .str r.2 t2) ∧ vs[i]? = some (.ref b) ∧ RowIn h b p.1 p.2
  | [], [], _ => ⟨[], rfl, fun i p e => by simp at e⟩
  | [], _ :: _, t => by have := t.1; simp at this
  | _ :: _, [], t => by have := t.1; simp at this
  | v :: vs, r :: rows, t => by
    obtain ⟨rv, e1, e2⟩ := item_pairs (h := h) (vs := vs) (rows := rows) ⟨by have := t.1; simpa using this, fun i v' r' a b => t.2 (i + 1) v' r' (by simpa using a) (by simpa using b)⟩
    obtain ⟨b, t1, t2, rfl, hb⟩ := t.2 0 v r rfl rfl
    refine ⟨(.int r.1 t1, .str r.2 t2) :: rv, by simp [e1], fun i p e => ?_⟩
    cases i with
    | zero =>
      simp at e
      subst e
      exact ⟨r, t1, t2, b, rfl, rfl, rfl, hb⟩
    | succ i => exact e2 i p (by simpa using e)
theorem seq_pyIter {w : World} {A : Around} {E : Value → Shared → Prop} {s : Shared} {q : Addr} {vs : List Value} {Q : Value → Shared → Prop} (X : (Mine.mkK.heap_1 w.params).In s.heap) (t : s.heap.IsList q vs.toArray ∨ TagsAt s.heap q vs)
    (hQ : Q (.ref s.heap.objs.size) { s with heap := s.heap.push { cls := .type "list_iterator", data := .fields #[.ref q, .int 0 0] } }) : wpAny (model PG w) A (pyIter (.ref q)) Q E s := by
  rcases t with t | t
  · exact wpAny_pyIter_list t hQ
  · exact ts_iter X t hQ
theorem seqAt_or {h : Heap} {q : Addr} {vs : List Value} (t : h.IsList q vs.toArray ∨ TagsAt h q vs) : SeqAt h q vs := t.elim SeqAt.of_list SeqAt.of_tags
theorem seqOr_keeps {h h' : Heap} {q : Addr} {vs : List Value} (t : h.IsList q vs.toArray ∨ TagsAt h q vs) (k : ∀ b o, h.get? b = some o → h'.get? b = some o) : h'.IsList q vs.toArray ∨ TagsAt h' q vs := t.imp (fun ⟨o, a, r⟩ => ⟨o, k _ _ a, r⟩) fun x => x.keeps k
/-- the rows of XData.add: the marker stands first -/
def marked (ap : Str) (rows : List Row) : List Row := if rows.length = 0 ∨ rowAt rows 0 ≠ (1001, ap) then (1001, ap) :: rows else rows
/-- new tags, standing apart from all that was there -/
def NewRows (h0 h : Heap) (acc : List Value) (rows : List Row) : Prop := acc.length = rows.length ∧ ∀ (i : Nat) (v : Value), acc[i]? = some v →
  ∃ x dx r t1 t2, v = .ref x ∧ rows[i]? = some r ∧ h0.get? x = none ∧ h0.get? dx = none ∧ h.get? x = some (tagObj dx (.int r.1 t1) (.str r.2 t2)) ∧ h.get? dx = some (dictOf [] 0)
theorem newRows_of {h0 h hz : Heap} {acc vs : List Value} {rv : List (Value × Value)} {rows : List Row} (t : NewTags [] h0 h acc rv) (e1 : rv.length = rows.length) (e2 : acc.length = rv.length)
    (e3 : ∀ (i : Nat) (p : Value × Value), rv[i]? = some p → ∃ (r : Row) (t1 t2 : Tok) (b : Addr), rows[i]? = some r ∧ p = (.int r.1 t1, .str r.2 t2) ∧ vs[i]? = some (.ref b) ∧ RowIn hz b p.1 p.2) : NewRows h0 h acc rows := by
  refine ⟨e2.trans e1, fun i v e => ?_⟩
  obtain ⟨x, dx, p, a, b, c, d, _, _, e, f⟩ := t i v e
  obtain ⟨r, t1, t2, _, h1, rfl, _⟩ := e3 i p b
  exact ⟨x, dx, r, t1, t2, a, h1, c, d, e, f⟩
theorem NewRows.rows {h0 h : Heap} {acc : List Value} {rows : List Row} {Z : List Addr} (t : NewRows h0 h acc rows) (hz : ∀ c ∈ Z, (∃ o, h0.get? c = some o) ∨ ∃ dd vs n, h.get? c = some (tg dd vs n)) : TagRows (hideAll h Z) acc rows := by
  refine ⟨t.1, fun i v r e er => ?_⟩
  obtain ⟨x, dx, r', t1, t2, rfl, er', fx, fd, hx, hd⟩ := t.2 i v e
  rw [er] at er'
  cases er'
  refine ⟨x, t1, t2, rfl, ⟨dx, _, hideAll_get _ hx fun hm => ?_, hideAll_get _ hd fun hm => ?_⟩⟩
  · rcases hz _ hm with ⟨o, q⟩ | ⟨_, _, _, q⟩
    · rw [fx] at q; cases q
    · rw [hx] at q; cases q
  · rcases hz _ hm with ⟨o, q⟩ | ⟨_, _, _, q⟩
    · rw [fd] at q; cases q
    · rw [hd] at q; cases q
def ZCell (h0 h : Heap) (c : Addr) : Prop := (∃ o, h0.get? c = some o) ∨ ∃ dd vs n, h.get? c = some (tg dd vs n)
theorem NewRows.snap {h0 h h' : Heap} {acc : List Value} {rows : List Row} {Z : List Addr} (t : NewRows h0 h acc rows) (hz : ∀ c ∈ Z, ZCell h0 h c) (k : (hideAll h Z).StaysIn h') : NewRows h0 h' acc rows := by
  refine ⟨t.1, fun i v e => ?_⟩
  obtain ⟨x, dx, r, t1, t2, rfl, er, fx, fd, hx, hd⟩ := t.2 i v e
  refine ⟨x, dx, r, t1, t2, rfl, er, fx, fd, k _ _ (hideAll_get _ hx fun hm => ?_), k _ _ (hideAll_get _ hd fun hm => ?_)⟩
  · rcases hz _ hm with ⟨o, q⟩ | ⟨_, _, _, q⟩
    · rw [fx] at q; cases q
    · rw [hx] at q; cases q
  · rcases hz _ hm with ⟨o, q⟩ | ⟨_, _, _, q⟩
    · rw [fd] at q; cases q
    · rw [hd] at q; cases q
theorem NewRows.keep {h0 h h' : Heap} {acc : List Value} {rows : List Row} {Z : List Addr} (t : NewRows h0 h acc rows) (hz : ∀ c ∈ Z, ∃ o, h0.get? c = some o) (k : Keep Z h h') : NewRows h0 h' acc rows := by
  refine ⟨t.1, fun i v e => ?_⟩
  obtain ⟨x, dx, r, t1, t2, rfl, er, fx, fd, hx, hd⟩ := t.2 i v e
  refine ⟨x, dx, r, t1, t2, rfl, er, fx, fd, k _ _ hx fun hm => ?_, k _ _ hd fun hm => ?_⟩
  · obtain ⟨o, q⟩ := hz _ hm
    rw [fx] at q; cases q
  · obtain ⟨o, q⟩ := hz _ hm
    rw [fd] at q; cases q
theorem NewRows.mono {h0 h0' h : Heap} {acc : List Value} {rows : List Row} (t : NewRows h0 h acc rows) (k : h0'.StaysIn h0) : NewRows h0' h acc rows := by
  refine ⟨t.1, fun i v e => ?_⟩
  obtain ⟨x, dx, r, t1, t2, rfl, er, fx, fd, hx, hd⟩ := t.2 i v e
  have f : ∀ z, h0.get? z = none → h0'.get? z = none := fun z e => by
    cases q : h0'.get? z with
    | none => rfl
    | some o => have := k _ _ q; rw [e] at this; cases this
  exact ⟨x, dx, r, t1, t2, rfl, er, f _ fx, f _ fd, hx, hd⟩
theorem NewRows.cons {h0 h : Heap} {acc : List Value} {rows : List Row} {x dx : Addr} {k : Int} {n : Str} {t1 t2 : Tok} (t : NewRows h0 h acc rows) (fx : h0.get? x = none) (fd : h0.get? dx = none) (hx : h.get? x = some (tagObj dx (.int k t1) (.str n t2))) (hd : h.get? dx = some (dictOf [] 0)) :
    NewRows h0 h (.ref x :: acc) ((k, n) :: rows) := by
  refine ⟨by simp [t.1], fun i v e => ?_⟩
  cases i with
  | zero =>
    simp at e
    exact ⟨x, dx, (k, n), t1, t2, e.symm, rfl, fx, fd, hx, hd⟩
  | succ i => simpa using t.2 i v (by simpa using e)
theorem marked_zero {ap : Str} {rows : List Row} (h : ((rows.length : Nat) : Int) = 0) : marked ap rows = (1001, ap) :: rows := if_pos (.inl (by omega))
theorem marked_no {ap : Str} {rows : List Row} (h : ((rowAt rows 0).1 == 1001 && (rowAt rows 0).2 == ap) = false) : marked ap rows = (1001, ap) :: rows := if_pos (.inr fun q => by rw [q] at h; simp at h)
theorem marked_yes {ap : Str} {rows : List Row} (h0 : ((rows.length : Nat) : Int) ≠ 0) (h : ((rowAt rows 0).1 == 1001 && (rowAt rows 0).2 == ap) = true) : marked ap rows = rows := if_neg fun q => by
  rcases q with q | q
  · omega
  · simp only [Bool.and_eq_true, beq_iff_eq] at h
    exact q (Prod.ext h.1 h.2)
theorem raised_keep {base h : Heap} {l : List Env} {e t : Addr} {cls : Value} {vs : List Value} {news : List (Addr × Obj)} (R : RaisedK base l e cls t vs news h) : base.StaysIn h := by
  obtain ⟨⟨B, hB, _, hfl, _⟩, _⟩ := R
  exact fun b o e => hfl.1 _ _ (hB _ _ e)
theorem raised_news {base h : Heap} {l : List Env} {e t : Addr} {cls : Value} {vs : List Value} {news : List (Addr × Obj)} (R : RaisedK base l e cls t vs news h) : ∀ p ∈ news, h.get? p.1 = some p.2 := by
  obtain ⟨⟨B, _, hl, hfl, _⟩, _⟩ := R
  exact fun p hp => hfl.1 _ _ (hl p hp).1
theorem not_frame {A : Around} {base g : Heap} {l : List Env} {c : Addr} {oc : Obj} (B : Below A base l g) (hc : g.get? c = some oc) (hd : ∃ vs, oc.data = .fields vs) : (hideAll g (l.filterMap (·.frame))).get? c = some oc := hideAll_get _ hc fun hm => by
  obtain ⟨o, ho, hn⟩ := (B.frames.mem hm).2
  rw [hc] at ho
  cases ho
  obtain ⟨vs, q⟩ := hd
  exact hn _ q
theorem code_move {h h' : Heap} {c P : Addr} {ps : Array Value} {oc op : Obj} (x : IsCT h c P ps) (hc : h.get? c = some oc) (hc' : h'.get? c = some oc) (hP : h.get? P = some op) (hP' : h'.get? P = some op) : IsCT h' c P ps := by
  refine x.move (fun o e => ?_) fun o e => ?_
  · rw [hc] at e; cases e; exact hc'
  · rw [hP] at e; cases e; exact hP'
theorem code_fields {h : Heap} {c P : Addr} {ps : Array Value} {oc : Obj} (x : IsCT h c P ps) (hc : h.get? c = some oc) : ∃ vs, oc.data = .fields vs := by
  obtain ⟨o, ws, a1, a2, _⟩ := x.at_
  rw [hc] at a1
  cases a1
  exact ⟨_, a2⟩
section
variable {ap : Str} {rows : List Row}
theorem marked_all {p : Row → Prop} (h1 : p (1001, ap)) (h : ∀ r ∈ rows, p r) : ∀ r ∈ marked ap rows, p r := fun r hr => by
  unfold marked at hr
  split at hr
  · rcases List.mem_cons.mp hr with rfl | hr
    · exact h1
    · exact h r hr
  · exact h r hr
theorem marked_len : (marked ap rows).length ≤ rows.length + 1 := by
  unfold marked; split <;> simp
theorem marked_head : rowAt (marked ap rows) 0 = (1001, ap) := by
  unfold marked
  split
  · rfl
  · rename_i h
    exact Decidable.byContradiction fun q => h (.inr q)
theorem marked_pos : 0 < (marked ap rows).length := by
  unfold marked
  split
  · simp
  · rename_i h
    exact Nat.pos_of_ne_zero fun q => h (.inl q)
end
end
section
section
variable {w : World} {dp un : Nat} {l : List Env} {env : Env} {gd : Option (List Code)} {A₀ : Around} {g base : Heap} {L x xi dd S d : Addr} {m : Str → Option Value} {news : List (Addr × Obj)} {p : Program} {loose : List Str} {mean : ExcName → Option Value} {mg mb : Str → Option Value} {E Q : Value → Shared → Prop} {s : Shared} {o op op4 : Obj}
/-- `_add` in K form: the cells dd, 384 (and 444, untouched) and the new Tags S stand in the ledger -/
theorem adda_K {vs : List Value} {rows : List Row} {ap : Str} {n : Nat} {kvs : List (Str × Value)} {t : Tok} {ps : Array Value} (hf : env.frame = some L) (hk : env.scope.kind = .function) (B : Below A₀ base l g) (F : Fr g L s.heap m) (N : News g L s.heap news) (X : (Mine.mkK.heap_1 w.params).In g) (T : Top p loose mean mg mb g)
  (mdd : (dd, o) ∈ news) (m3 : (384, op) ∈ news) (m4 : (444, op4) ∈ news) (mS : (S, tg d vs n) ∈ news) (hSdd : @Ne Nat S dd) (hS3 : @Ne Nat S 384) (hx1 : g.get? x = some (instObj 501 xi)) (hx2 : g.get? xi = some (xdIn w t dd))
  (ho : o.IsDictOf (PySem.strKind PG w) kvs) (hlo : (dd == sysModules) = false) (hkl : kvs.length ≤ 10) (hd384 : @Ne Nat dd 384) (hd444 : @Ne Nat dd 444) (hc : IsCT s.heap 388 384 ps) (hr : TagRows (hideAll s.heap [dd, 384]) vs rows) (hro : RowsOk rows) (hsh : RowsSh rows) (hlen : rows.length ≤ 400) (h0 : 0 < rows.length) (hap : (rowAt rows 0).2 = ap)
  (hgd : gd = some []) (hd : dp + 45 < recursionLimit) (hu : un + 400 < cLine)
  (hret : rows.all (fun r => validC r.1) = true → ∀ (S' d' : Addr) (n' : Nat) (o' : Obj) (h' : Heap) (tk' : Nat) (gs' : Array GenState) (ps' : Array Value), Fr g L h' m → Keep [dd, 384] s.heap h' → h'.get? dd = some o' → o'.IsDictOf (PySem.strKind PG w) (stored kvs ap (.ref S')) → IsCT h' 388 384 ps' → GN s.gens gs' →
     s.heap.get? S' = none → s.heap.get? d' = none → h'.get? S' = some (tg d' vs n') → h'.get? d' = some emptyDict → Q .none { s with heap := h', toks := tk', gens := gs' })
  (hraise : rows.all (fun r => validC r.1) = false → ∀ (e t : Addr) (vs' : List Value) (op' : Obj) (h' : Heap) (tk' : Nat) (gs' : Array GenState) (ps' : Array Value), RaisedK base (env :: l) e (.ref 159) t vs' [(dd, o), (384, op'), (444, op4)] h' → (hideAll s.heap (news.map (·.1))).UpToSlots h' → Fr g L (hideAll s.heap (news.map (·.1))) m → IsCT h' 388 384 ps' → GN s.gens gs' → E (.ref e) { s with heap := h', toks := tk', gens := gs' }) :
  wpAny (model PG w) ⟨none, dp, some (env :: l), gd, un⟩ (call (.ref 442) [.ref x, .ref S]) Q E s := by
  subst hgd
  have hS : ∀ c ∈ [dd, 384], g.get? c = none ∧ c ≠ L := fun c hc => by
    rcases List.mem_cons.mp hc with rfl | hc
    · exact ⟨(N _ mdd).2.2, (N _ mdd).2.1⟩
    · rw [List.mem_singleton.mp hc]; exact ⟨(N _ m3).2.2, (N _ m3).2.1⟩
  have R : Rd w s.heap [dd, 384] dp un ⟨none, dp, some (env :: l), some [], un⟩ := Rd.mk hf hk B F X T hS
  have hx : XdAt w (hideAll s.heap [dd, 384]) x xi dd := ⟨t, ground_in F (fun c hc => (hS c hc).1) _ _ hx1, ground_in F (fun c hc => (hS c hc).1) _ _ hx2⟩
  have hq : TagsAt (hideAll s.heap [dd, 384]) S vs := ⟨some d, n, _, hideAll_get _ (N _ mS).1 (nin2 hSdd hS3)⟩
  cases hv : rows.all (fun r => validC r.1)
  · refine adda_r R hx (N _ mdd).1 ho hlo hkl hd384 hc hq hr hro hlen h0 hap hv hd hu rfl hsh fun e op' h' tk' gs' ps' x hc' gn => ?_
    have hn : ∀ p ∈ [(dd, o), (384, op'), (444, op4)], p ∈ [((384 : Addr), op')] ∨ p ∈ news ∧ p.1 ∉ [(384 : Addr)] := fun p hp => by
      rcases List.mem_cons.mp hp with rfl | hp
      · exact .inr ⟨mdd, nin1 hd384⟩
      rcases List.mem_cons.mp hp with rfl | hp
      · exact .inl (.head _)
      · rw [List.mem_singleton.mp hp]; exact .inr ⟨m4, by simp⟩
    have hc2 : ∀ p ∈ [((384 : Addr), op')], p.1 ∈ [(384 : Addr)] := fun p hp => by
      rw [List.mem_singleton.mp hp]; exact .head _
    have hc3 : ∀ c ∈ [(384 : Addr)], c ∈ news.map (·.1) := fun c hc => by
      rw [List.mem_singleton.mp hc]; exact List.mem_map_of_mem m3
    obtain ⟨t', vs', RS, U, FH⟩ := flown_SN B F N rfl hf x hn hc2 hc3
    exact hraise hv e t' vs' op' h' tk' gs' ps' RS.toK U FH hc' gn
  · exact adda_c R hx (N _ mdd).1 ho hlo hkl hd384 hc hq hr hro hlen h0 hap hv hd hu fun S' d' n' o' h' tk' gs' ps' kp => hret hv S' d' n' o' h' tk' gs' ps' (Mine.Fr.after F kp hS) kp
end
end
section
theorem fresh9 {h g h9 : Heap} {a b c : Addr} {oa ob oc : Obj} {l : List Addr} (hg : ∀ x o, h.get? x = some o → x ∉ l → g.get? x = some o) (k : g.StaysIn h9) (ha : h9.get? a = some oa) (hb : h9.get? b = some ob) (hc : h9.get? c = some oc) (hl : l = [a, b, c] := by rfl) : ∀ z, h9.get? z = none → h.get? z = none := fun z e => by
  subst hl
  cases q : h.get? z with
  | none => rfl
  | some o =>
    by_cases m : z ∈ [a, b, c]
    · simp only [List.mem_cons, List.not_mem_nil, or_false] at m
      rcases m with rfl | rfl | rfl
      · rw [e] at ha; cases ha
      · rw [e] at hb; cases hb
      · rw [e] at hc; cases hc
    · have := k _ _ (hg z o q m)
      rw [e] at this; cases this
theorem cut {P : Prop} (h : Stop P) : P := h.out
local macro_rules | `(tactic| walk_at "call ref") => `(tactic| (k_here; (with_reducible show wpAny _ _ (call (Value.ref 442) _) _ _ _); refine cut ?_))
theorem add_c {w : World} {A : Around} {s : Shared} {Q E : Value → Shared → Prop} {dp un : Nat} {x xi dd q : Addr} {o : Obj} {kvs : List (Str × Value)} {vs : List Value} {rows : List Row} {ap : Str} {ta : Tok} {ps ps4 : Array Value}
  (R : Rd w s.heap [dd, 384, 444] dp un A) (hx : XdAt w (hideAll s.heap [dd, 384, 444]) x xi dd) (hdd : s.heap.get? dd = some o) (ho : o.IsDictOf (PySem.strKind PG w) kvs) (hlo : (dd == sysModules) = false) (hkl : kvs.length ≤ 10) (hd384 : @Ne Nat dd 384) (hd444 : @Ne Nat dd 444)
  (hc8 : IsCT s.heap 388 384 ps) (hc4 : IsCT s.heap 448 444 ps4) (hq : (hideAll s.heap [dd, 384, 444]).IsList q vs.toArray ∨ TagsAt (hideAll s.heap [dd, 384, 444]) q vs) (hr : ItemRows (hideAll s.heap [dd, 384, 444]) vs rows) (hro : RowsOk rows) (hsh : RowsSh rows) (hlen : rows.length ≤ 390)
  (hap : PyData.strOk ap = true) (hsa : (rowD (1001, ap)).showable = true ∧ (rowD (1001, ap)).shown.length ≤ 60) (hgd : A.guards = some []) (hd : dp + 60 < recursionLimit) (hu : un + 600 < cLine)
  (hret : (marked ap rows).all (fun r => validC r.1) = true → ∀ (S d : Addr) (n : Nat) (vs' : List Value) (o' : Obj) (h' : Heap) (tk' : Nat) (gs' : Array GenState) (ps' ps4' : Array Value), Keep [dd, 384, 444] s.heap h' → h'.get? dd = some o' → o'.IsDictOf (PySem.strKind PG w) (stored kvs ap (.ref S)) → IsCT h' 388 384 ps' → IsCT h' 448 444 ps4' → GN s.gens gs' →
     s.heap.get? S = none → s.heap.get? d = none → h'.get? S = some (tg d vs' n) → h'.get? d = some emptyDict → NewRows s.heap h' vs' (marked ap rows) → Q .none { s with heap := h', toks := tk', gens := gs' })
  (hraise : (marked ap rows).all (fun r => validC r.1) = false → ∀ (e : Addr) (op' op4' : Obj) (h' : Heap) (tk' : Nat) (gs' : Array GenState) (ps' ps4' : Array Value), FlownN A (hideAll s.heap [384, 444]) e (.ref 159) [(384, op'), (444, op4')] h' → IsCT h' 388 384 ps' → IsCT h' 448 444 ps4' → GN s.gens gs' → E (.ref e) { s with heap := h', toks := tk', gens := gs' }) :
  wpAny (model PG w) A (call (.ref 449) [.ref x, .str ap ta, .ref q]) Q E s := by
  cases R with
  | mk hf hkk B F X T hS =>
  rename_i h₀ L m p loose mean mg mb
  cases hgd
  obtain ⟨op, h384⟩ := code_tab hc8
  obtain ⟨op4, h444⟩ := code_tab hc4
  have N : News h₀ L s.heap [(dd, o), (384, op), (444, op4)] := fun p hp => by
    rcases List.mem_cons.mp hp with rfl | hp
    · exact ⟨hdd, (hS _ (by simp)).2, (hS _ (by simp)).1⟩
    rcases List.mem_cons.mp hp with rfl | hp
    · exact ⟨h384, (hS _ (by simp)).2, (hS _ (by simp)).1⟩
    · rw [List.mem_singleton.mp hp]; exact ⟨h444, (hS _ (by simp)).2, (hS _ (by simp)).1⟩
  refine wpAny_call ?_
  k_dflt cell_enter
  intro g L' h' hg hh F' N' B' X' T' lt'
  (try dsimp only)
  k_fold
  have hgz : (hideAll s.heap [dd, 384, 444]).StaysIn g := fun a ob e => hg a ob (of_hideAll _ e) fun q => by rw [hideAll_none _ (by simpa using q)] at e; cases e
  have hg0 : h₀.StaysIn g := fun a ob e => hg a ob (F.keep _ _ e) fun q => by
    obtain ⟨z, hz, rfl⟩ := List.mem_map.mp q
    rw [(N z hz).2.2] at e; cases e
  obtain ⟨oc8, hoc8⟩ : ∃ oc, h₀.get? 388 = some oc := ⟨_, X _ _ (by k_is)⟩
  obtain ⟨oc4, hoc4⟩ : ∃ oc, h₀.get? 448 = some oc := ⟨_, X _ _ (by k_is)⟩
  have tab8 := (TabOk.of_code (g := h₀) hc8 F.keep hoc8 h384).mono hg0
  obtain ⟨t, hx1, hx2⟩ := hx.at_
  have hx1' := hgz _ _ hx1
  have hx2' := hgz _ _ hx2
  have hq' := seqOr_keeps hq hgz
  have hc4' : IsCT h' 448 444 ps4 := hc4.keeps hh
  have hvl : vs.length = rows.length := hr.1
  have hq4 : q ≠ 444 := fun z => by
    rcases hq with ⟨o, e, _⟩ | ⟨_, _, _, e⟩
    · rw [z, hideAll_none _ (by simp)] at e; cases e
    · rw [z, hideAll_none _ (by simp)] at e; cases e
  have hz4 : (hideAll s.heap [dd, 384, 444]).StaysIn (hideAll h' [444]) := fun b o e => hideAll_get _ (hh b o (of_hideAll _ e)) fun hm => by
    rw [hideAll_none _ (by simp at hm; simp [hm])] at e; cases e
  obtain ⟨rv, hrv1, hrv2⟩ := item_pairs hr
  k_steps
  refine gx_make (ps := ps4) F' T' rfl rfl (by decide) (by cell_ties) (fun A E Q hQ => seq_pyIter (X'.keeps F'.keep) (seqOr_keeps hq' F'.keep) hQ) hc4' (N' _ (.tail _ (.tail _ (.head _)))).2.2 rfl rfl (by decide) rfl rfl ?_ fun G s1 W => ?_
  · show dp + 1 < recursionLimit
    omega
  refine spliced_none ⟨?_, ?_⟩
  · obtain ⟨C, I, code, bi, h1, tk1, ps1, rfl, k1, _⟩ := W
    exact X'.keeps fun b o e => k1 b o (F'.keep b o e) fun z => by
      rw [List.mem_singleton.mp z, (N' _ (.tail _ (.tail _ (.head _)))).2.2] at e; cases e
  k_dflt (refine' tags_dxf (ps := ps4) rfl rfl rfl rfl rfl B' F' X' T' rfl (N' _ (.tail _ (.tail _ (.head _)))).2.2 (N' _ (.tail _ (.tail _ (.head _)))).2.1 hc4' (SeqAt.keeps (seqAt_or hq') F'.keep) hq4 (rows := rv) (by omega) (by omega) (fun i v r e1 e2 => ?_) ?hd ?hu W ?_; (case hd => ktr_room); (case hu => ktr_units))
  · obtain ⟨r', t1, t2, b, h1, rfl, h3, h4⟩ := hrv2 i r e2
    rw [h3] at e1
    cases e1
    exact ⟨rfl, rfl, b, rfl, h4.keeps hz4⟩
  intro S d acc cc h1 tk1 gs1 ps4' k1 c4' gn1 fS fd hSat hdat hacc hnt
  obtain ⟨op4', hop4'⟩ := code_tab c4'
  have hSd : S ≠ d := fun z => by rw [z, hdat] at hSat; cases hSat
  have F1 := Mine.Fr.after F' k1 (fun c hc => by rw [List.mem_singleton.mp hc]; exact ⟨(N' _ (.tail _ (.tail _ (.head _)))).2.2, (N' _ (.tail _ (.tail _ (.head _)))).2.1⟩)
  have kL : ∃ oL, h'.get? L' = some oL := let ⟨oL, _, _, e, _⟩ := F'.ns; ⟨oL, e⟩
  have hne : ∀ c ob, h'.get? c = some ob → @Ne Nat S c ∧ @Ne Nat d c := fun c ob e => ⟨fun z => (by rw [← z, fS] at e; cases e), fun z => (by rw [← z, fd] at e; cases e)⟩
  have e5 := N' _ (.head _)
  have e6 := N' _ (.tail _ (.head _))
  have e7 := N' _ (.tail _ (.tail _ (.head _)))
  have hnr := newRows_of hnt hrv1 hacc hrv2
  obtain ⟨tl, Ntl, hNe, snap⟩ := rebase F1 (Z := [L', S, dd, 384, 444]) (.head _)
  have hrs := hnr.rows (Z := [L', S, dd, 384, 444]) (fun c hc => by
    simp only [List.mem_cons, List.not_mem_nil, or_false] at hc
    rcases hc with rfl | rfl | rfl | rfl | rfl
    · exact .inl kL
    · exact .inr ⟨_, _, _, hSat⟩
    · exact .inl ⟨_, e5.1⟩
    · exact .inl ⟨_, e6.1⟩
    · exact .inl ⟨_, e7.1⟩)
  have frg : ∀ z, h'.get? z = none → g.get? z = none ∧ z ≠ L' := fun z e => by
    obtain ⟨oL, hoL⟩ := kL
    refine ⟨?_, fun q => by rw [q, hoL] at e; cases e⟩
    cases q : g.get? z with
    | none => rfl
    | some ob => have := F'.keep _ _ q; rw [e] at this; cases this
  have N1 : News g L' h1 ((S, tg d acc cc) :: (d, emptyDict) :: (dd, o) :: (384, op) :: (444, op4') :: tl) := fun p hp => by
    rcases List.mem_cons.mp hp with rfl | hp
    · exact ⟨hSat, (frg _ fS).2, (frg _ fS).1⟩
    rcases List.mem_cons.mp hp with rfl | hp
    · exact ⟨hdat, (frg _ fd).2, (frg _ fd).1⟩
    rcases List.mem_cons.mp hp with rfl | hp
    · exact ⟨k1 _ _ e5.1 (nin1 hd444), e5.2⟩
    rcases List.mem_cons.mp hp with rfl | hp
    · exact ⟨k1 _ _ e6.1 (by simp), e6.2⟩
    rcases List.mem_cons.mp hp with rfl | hp
    · exact ⟨hop4', e7.2⟩
    · exact Ntl p hp
  have n1 := hNe S (by simp)
  have n2 := hNe dd (by simp)
  have n3 := hNe 384 (by simp)
  have n4 := hNe 444 (by simp)
  have m1 := hne _ _ e5.1
  have m2 := hne _ _ e6.1
  have m3 := hne _ _ e7.1
  have m4 : @Ne Nat S d := hSd
  have hacc2 : acc.length = rows.length := hacc.trans hrv1
  have tab4 := TabOk.of_code (g := g) c4' F1.keep (hg0 _ _ hoc4) hop4'
  have hzc : ∀ c ∈ [L', S, dd, 384, 444], ZCell h' h1 c := fun c hc => by
    simp only [List.mem_cons, List.not_mem_nil, or_false] at hc
    rcases hc with rfl | rfl | rfl | rfl | rfl
    · exact .inl kL
    · exact .inr ⟨_, _, _, hSat⟩
    · exact .inl ⟨_, e5.1⟩
    · exact .inl ⟨_, e6.1⟩
    · exact .inl ⟨_, e7.1⟩
  have hz3 : ∀ c ∈ [dd, 384], ∃ ob, s.heap.get? c = some ob := fun c hc => by
    rcases List.mem_cons.mp hc with rfl | hc
    · exact ⟨_, hdd⟩
    · rw [List.mem_singleton.mp hc]; exact ⟨_, h384⟩
  have mk1 : RowsOk (marked ap rows) := marked_all hap hro
  have mk2 : RowsSh (marked ap rows) := marked_all hsa hsh
  have mk3 : (marked ap rows).length ≤ 400 := Nat.le_trans marked_len (by omega)
  have mk4 : 0 < (marked ap rows).length := marked_pos
  have mk5 : (rowAt (marked ap rows) 0).2 = ap := by rw [marked_head]
  have b8 := not_frame B' (hg0 _ _ hoc8) (code_fields hc8 (F.keep _ _ hoc8))
  have b4 := not_frame B' (hg0 _ _ hoc4) (code_fields hc4 (F.keep _ _ hoc4))
  have mS3 := m2.1
  clear hnt hSat hdat hrv2 hrv1 W k1 c4' hq hr hq' hNe hne frg Ntl
  clear F' N'
  k_steps
  · refine Stop.mk ?_
    (with_reducible rename News g L' _ _ => kN)
    (with_reducible rename Fr g L' _ _ => kF)
    have nr0 := (hnr.snap hzc (snap.at_ kF kN (by k_subL))).mono hh
    have hm := marked_zero (ap := ap) (rows := rows) (by assumption)
    have nr := nr0.cons (k := 1001) (n := ap) (fresh_of (S := [dd, 384, 444]) hg (kN _ (.head _)).2.2 (nin3 (by omega) (by omega) (by omega))) (fresh_of (S := [dd, 384, 444]) hg (kN _ (.tail _ (.head _))).2.2 (nin3 (by omega) (by omega) (by omega))) (kN _ (.head _)).1 (kN _ (.tail _ (.head _))).1
    rw [← hm] at nr
    have i3 := PyProof.Rows.News.get kN (show ((384 : Addr), op) ∈ _ by k_mem)
    have i4 := PyProof.Rows.News.get kN (show ((444 : Addr), op4') ∈ _ by k_mem)
    have i5 := PyProof.Rows.News.get kN (show (dd, o) ∈ _ by k_mem)
    obtain ⟨ps9, hc9⟩ := tab_code tab8 kF.keep i3
    have fr9 := fresh9 hg kF.keep i5 i3 i4
    (k_dflt (refine' adda_K (o := o) (op := op) (op4 := op4') rfl rfl B' kF kN X' T' (by k_mem) (by k_mem) (by k_mem) (by k_mem) m1.1 m2.1 hx1' hx2' ho hlo hkl hd384 hd444 hc9 (nr.rows (Z := [dd, 384]) (fun c hc => .inl (hz3 c hc))) mk1 mk2 mk3 mk4 mk5 rfl ?hd ?hu (fun hv S' d' n' o' h3 tk3 gs3 ps3 F3 kp3 edd edict ecode egn fS' fd' eS' ed' => ?_) (fun hv e t vs' op' h3 tk3 gs3 ps3 RK U3 F3 ecode egn => ?_); (case hd => ktr_room); (case hu => ktr_units)))
    · have N3 : News g L' h3 [] := News.none
      have e4 := kp3 _ _ i4 (nin2 hd444.symm (by decide))
      clear kF kN
      k_steps
      (with_reducible rename Heap.StaysIn g _ => kG)
      obtain ⟨ps5, hc5⟩ := tab_code tab4 kG e4
      exact hret hv _ _ _ _ _ _ _ _ _ _ (keep_fin (S := [dd, 384, 444]) hg kG) edd edict ecode hc5 (gn1.trans egn) (fr9 _ fS') (fr9 _ fd') eS' ed' (nr.keep hz3 kp3)
    · have c8 := raised_keep RK _ _ b8
      have c4 := raised_keep RK _ _ b4
      have d8 := raised_news RK _ (.tail _ (.head _))
      have d4 := raised_news RK _ (.tail _ (.tail _ (.head _)))
      clear kF kN
      k_steps
      (with_reducible rename RaisedK _ _ _ _ _ _ _ _ => kR)
      (with_reducible rename Heap.UpToSlots g _ => kU)
      obtain ⟨ps5, hc5⟩ := tab4.code (hg0 _ _ hoc4) c4 d4
      refine hraise hv _ op' op4' _ _ _ _ _ (flown_of2 (cells := [(384, op'), (444, op4')]) (fun a ob e => ?_) rfl (fun p hp => ?_) kR kU) (code_move ecode c8 (raised_keep kR _ _ b8) d8 (raised_news kR _ (.tail _ (.head _)))) (code_move hc5 c4 (raised_keep kR _ _ b4) d4 (raised_news kR _ (.tail _ (.tail _ (.head _))))) (gn1.trans egn)
      · by_cases ha : a = dd
        · subst ha
          have := of_hideAll _ e
          rw [hdd] at this
          cases this
          exact .inr (.head _)
        · refine .inl (hg a ob (of_hideAll _ e) (nin3 ha (fun z => ?_) (fun z => ?_)))
          · rw [hideAll_none _ (by rw [show a = 384 from z]; simp)] at e; cases e
          · rw [hideAll_none _ (by rw [show a = 444 from z]; simp)] at e; cases e
      · rcases List.mem_cons.mp hp with rfl | hp
        · exact ⟨.tail _ (.head _), by simp⟩
        · rw [List.mem_singleton.mp hp]; exact ⟨.tail _ (.tail _ (.head _)), by simp⟩
  · refine Stop.mk ?_
    (with_reducible rename News g L' _ _ => kN)
    (with_reducible rename Fr g L' _ _ => kF)
    have nr0 := (hnr.snap hzc (snap.at_ kF kN (by k_subL))).mono hh
    have hm := marked_yes (ap := ap) (rows := rows) (by assumption) (by assumption)
    have nr := nr0
    rw [← hm] at nr
    have i3 := PyProof.Rows.News.get kN (show ((384 : Addr), op) ∈ _ by k_mem)
    have i4 := PyProof.Rows.News.get kN (show ((444 : Addr), op4') ∈ _ by k_mem)
    have i5 := PyProof.Rows.News.get kN (show (dd, o) ∈ _ by k_mem)
    obtain ⟨ps9, hc9⟩ := tab_code tab8 kF.keep i3
    have fr9 := fresh9 hg kF.keep i5 i3 i4
    (k_dflt (refine' adda_K (o := o) (op := op) (op4 := op4') rfl rfl B' kF kN X' T' (by k_mem) (by k_mem) (by k_mem) (by k_mem) m1.1 m2.1 hx1' hx2' ho hlo hkl hd384 hd444 hc9 (nr.rows (Z := [dd, 384]) (fun c hc => .inl (hz3 c hc))) mk1 mk2 mk3 mk4 mk5 rfl ?hd ?hu (fun hv S' d' n' o' h3 tk3 gs3 ps3 F3 kp3 edd edict ecode egn fS' fd' eS' ed' => ?_) (fun hv e t vs' op' h3 tk3 gs3 ps3 RK U3 F3 ecode egn => ?_); (case hd => ktr_room); (case hu => ktr_units)))
    · have N3 : News g L' h3 [] := News.none
      have e4 := kp3 _ _ i4 (nin2 hd444.symm (by decide))
      clear kF kN
      k_steps
      (with_reducible rename Heap.StaysIn g _ => kG)
      obtain ⟨ps5, hc5⟩ := tab_code tab4 kG e4
      exact hret hv _ _ _ _ _ _ _ _ _ _ (keep_fin (S := [dd, 384, 444]) hg kG) edd edict ecode hc5 (gn1.trans egn) (fr9 _ fS') (fr9 _ fd') eS' ed' (nr.keep hz3 kp3)
    · have c8 := raised_keep RK _ _ b8
      have c4 := raised_keep RK _ _ b4
      have d8 := raised_news RK _ (.tail _ (.head _))
      have d4 := raised_news RK _ (.tail _ (.tail _ (.head _)))
      clear kF kN
      k_steps
      (with_reducible rename RaisedK _ _ _ _ _ _ _ _ => kR)
      (with_reducible rename Heap.UpToSlots g _ => kU)
      obtain ⟨ps5, hc5⟩ := tab4.code (hg0 _ _ hoc4) c4 d4
      refine hraise hv _ op' op4' _ _ _ _ _ (flown_of2 (cells := [(384, op'), (444, op4')]) (fun a ob e => ?_) rfl (fun p hp => ?_) kR kU) (code_move ecode c8 (raised_keep kR _ _ b8) d8 (raised_news kR _ (.tail _ (.head _)))) (code_move hc5 c4 (raised_keep kR _ _ b4) d4 (raised_news kR _ (.tail _ (.tail _ (.head _))))) (gn1.trans egn)
      · by_cases ha : a = dd
        · subst ha
          have := of_hideAll _ e
          rw [hdd] at this
          cases this
          exact .inr (.head _)
        · refine .inl (hg a ob (of_hideAll _ e) (nin3 ha (fun z => ?_) (fun z => ?_)))
          · rw [hideAll_none _ (by rw [show a = 384 from z]; simp)] at e; cases e
          · rw [hideAll_none _ (by rw [show a = 444 from z]; simp)] at e; cases e
      · rcases List.mem_cons.mp hp with rfl | hp
        · exact ⟨.tail _ (.head _), by simp⟩
        · rw [List.mem_singleton.mp hp]; exact ⟨.tail _ (.tail _ (.head _)), by simp⟩
  · refine Stop.mk ?_
    (with_reducible rename News g L' _ _ => kN)
    (with_reducible rename Fr g L' _ _ => kF)
    have nr0 := (hnr.snap hzc (snap.at_ kF kN (by k_subL))).mono hh
    have hm := marked_no (ap := ap) (rows := rows) (by assumption)
    have nr := nr0.cons (k := 1001) (n := ap) (fresh_of (S := [dd, 384, 444]) hg (kN _ (.head _)).2.2 (nin3 (by omega) (by omega) (by omega))) (fresh_of (S := [dd, 384, 444]) hg (kN _ (.tail _ (.head _))).2.2 (nin3 (by omega) (by omega) (by omega))) (kN _ (.head _)).1 (kN _ (.tail _ (.head _))).1
    rw [← hm] at nr
    have i3 := PyProof.Rows.News.get kN (show ((384 : Addr), op) ∈ _ by k_mem)
    have i4 := PyProof.Rows.News.get kN (show ((444 : Addr), op4') ∈ _ by k_mem)
    have i5 := PyProof.Rows.News.get kN (show (dd, o) ∈ _ by k_mem)
    obtain ⟨ps9, hc9⟩ := tab_code tab8 kF.keep i3
    have fr9 := fresh9 hg kF.keep i5 i3 i4
    (k_dflt (refine' adda_K (o := o) (op := op) (op4 := op4') rfl rfl B' kF kN X' T' (by k_mem) (by k_mem) (by k_mem) (by k_mem) m1.1 m2.1 hx1' hx2' ho hlo hkl hd384 hd444 hc9 (nr.rows (Z := [dd, 384]) (fun c hc => .inl (hz3 c hc))) mk1 mk2 mk3 mk4 mk5 rfl ?hd ?hu (fun hv S' d' n' o' h3 tk3 gs3 ps3 F3 kp3 edd edict ecode egn fS' fd' eS' ed' => ?_) (fun hv e t vs' op' h3 tk3 gs3 ps3 RK U3 F3 ecode egn => ?_); (case hd => ktr_room); (case hu => ktr_units)))
    · have N3 : News g L' h3 [] := News.none
      have e4 := kp3 _ _ i4 (nin2 hd444.symm (by decide))
      clear kF kN
      k_steps
      (with_reducible rename Heap.StaysIn g _ => kG)
      obtain ⟨ps5, hc5⟩ := tab_code tab4 kG e4
      exact hret hv _ _ _ _ _ _ _ _ _ _ (keep_fin (S := [dd, 384, 444]) hg kG) edd edict ecode hc5 (gn1.trans egn) (fr9 _ fS') (fr9 _ fd') eS' ed' (nr.keep hz3 kp3)
    · have c8 := raised_keep RK _ _ b8
      have c4 := raised_keep RK _ _ b4
      have d8 := raised_news RK _ (.tail _ (.head _))
      have d4 := raised_news RK _ (.tail _ (.tail _ (.head _)))
      clear kF kN
      k_steps
      (with_reducible rename RaisedK _ _ _ _ _ _ _ _ => kR)
      (with_reducible rename Heap.UpToSlots g _ => kU)
      obtain ⟨ps5, hc5⟩ := tab4.code (hg0 _ _ hoc4) c4 d4
      refine hraise hv _ op' op4' _ _ _ _ _ (flown_of2 (cells := [(384, op'), (444, op4')]) (fun a ob e => ?_) rfl (fun p hp => ?_) kR kU) (code_move ecode c8 (raised_keep kR _ _ b8) d8 (raised_news kR _ (.tail _ (.head _)))) (code_move hc5 c4 (raised_keep kR _ _ b4) d4 (raised_news kR _ (.tail _ (.tail _ (.head _))))) (gn1.trans egn)
      · by_cases ha : a = dd
        · subst ha
          have := of_hideAll _ e
          rw [hdd] at this
          cases this
          exact .inr (.head _)
        · refine .inl (hg a ob (of_hideAll _ e) (nin3 ha (fun z => ?_) (fun z => ?_)))
          · rw [hideAll_none _ (by rw [show a = 384 from z]; simp)] at e; cases e
          · rw [hideAll_none _ (by rw [show a = 444 from z]; simp)] at e; cases e
      · rcases List.mem_cons.mp hp with rfl | hp
        · exact ⟨.tail _ (.head _), by simp⟩
        · rw [List.mem_singleton.mp hp]; exact ⟨.tail _ (.tail _ (.head _)), by simp⟩
end
section
section
variable {prog : Program} {w : World} {K : Type} [DecidableEq K] {knd : KeyKind prog w K} {A : Around} {E : Value → Shared → Prop} {s : Shared} {h₀ : Heap} {L d : Addr} {m : Str → Option Value} {news : List (Addr × Obj)} {g : Obj → List (Addr × Obj)} {o : Obj} {kvs : List (K × Value)} {k : K} {key v : Value}
theorem kda_notin {Q : Value → Shared → Prop} (N : News h₀ L s.heap news) (hp : (d, o) ∈ news) (hd : o.IsDictOf knd kvs) (lo : (d == sysModules) = false) (hkey : knd.is k key = true) (b : Bool) (hb : (valueAt kvs k).isSome = b) (h : Q (.bool (!b)) { s with toks := s.toks + 1 }) :
    wpAny (model prog w) A (compareOp .NotIn key (.ref d)) Q E s := wpAny_notIn_of hkey lo (kda_dict N hp hd).mapOf (by rw [hb]; exact h)
end
theorem without_none {kvs : List (Str × Value)} {k : Str} (h : valueAt kvs k = none) : without kvs k = kvs := by
  refine without_of_not_mem kvs k fun hm => ?_
  obtain ⟨p, hp, e⟩ := List.mem_map.mp hm
  unfold valueAt at h
  rw [Option.map_eq_none_iff, List.find?_eq_none] at h
  exact h p hp (by simp [e])
section
variable {w : World} {dp un : Nat} {l : List Env} {env : Env} {gd : Option (List Code)} {A₀ : Around} {g base hs : Heap} {L x xi dd q d : Addr} {m : Str → Option Value} {news : List (Addr × Obj)} {gN : Obj → List (Addr × Obj)} {p : Program} {loose : List Str} {mean : ExcName → Option Value} {mg mb : Str → Option Value} {E Q : Value → Shared → Prop} {s : Shared} {o : Obj}
/-- K forms that raise in a frame whose base heap is any -/
theorem get_S {kvs : List (Str × Value)} {ap : Str} {ta : Tok} (hf : env.frame = some L) (hk : env.scope.kind = .function) (B : Below A₀ base l g) (F : Fr g L s.heap m) (N : News g L s.heap news) (X : (Mine.mkK.heap_1 w.params).In g) (T : Top p loose mean mg mb g)
  (hx : XdAt w s.heap x xi dd) (hdd : s.heap.get? dd = some o) (ho : o.IsDictOf (PySem.strKind PG w) kvs) (hlo : (dd == sysModules) = false) (hd : dp + 5 < recursionLimit) (hu : un + 150 < cLine)
  (hraise : ∀ e t vs h' tk', valueAt kvs ap = none → RaisedS base (hideAll s.heap (news.map (·.1))) (env :: l) e (.ref 159) t vs news h' → (hideAll s.heap (news.map (·.1))).UpToSlots h' → Fr g L (hideAll s.heap (news.map (·.1))) m → E (.ref e) { s with heap := h', toks := tk' })
  (hret : ∀ v h' tk', valueAt kvs ap = some v → Fr g L h' m → News g L h' news → Keep [] s.heap h' → Q v { s with heap := h', toks := tk' }) :
  wpAny (model PG w) ⟨none, dp, some (env :: l), gd, un⟩ (call (.ref 456) [.ref x, .str ap ta]) Q E s := by
  refine get_c (Rd.mk hf hk B F X T (fun _ h => nomatch h)) hx hdd ho hlo hd hu (fun e h' tk' hv fl => ?_) fun v h' tk' hv kp => hret v h' tk' hv (Mine.Fr.after F kp (fun _ h => nomatch h)) (News.after0 N kp) kp
  obtain ⟨t, vs, R, U, F'⟩ := flown_S (A := ⟨none, dp, some (env :: l), gd, un⟩) B F N rfl hf fl
  exact hraise e t vs h' tk' hv R U F'
theorem gn_S {vs : List Value} {rows : List Row} {nm : Str} {tn : Tok} (hf : env.frame = some L) (hk : env.scope.kind = .function) (B : Below A₀ base l g) (F : Fr g L s.heap m) (N : News g L s.heap news) (X : (Mine.mkK.heap_1 w.params).In g) (T : Top p loose mean mg mb g)
  (hq : TagsAt s.heap q vs) (hr : TagRows s.heap vs rows) (ho : RowsOk rows) (hn : PyData.strOk nm = true) (hlen : rows.length ≤ 300) (hd : dp + 9 < recursionLimit) (hu : un + 250 < cLine)
  (hlast : ∀ i : Nat, i < rows.length → ((rowAt rows i).1 == 1000 && (rowAt rows i).2 == nm) = true → i + 1 < rows.length)
  (hclos : ∀ i : Nat, i + 1 < rows.length → ((rowAt rows i).1 == 1000 && (rowAt rows i).2 == nm) = true → ((rowAt rows ((i : Int) + 1)).1 == 1002 && (rowAt rows ((i : Int) + 1)).2 == Str.ofString "{") = true → closeFrom (rows.drop (i + 1)) 0 (i + 1) ≠ none)
  (hraise : ∀ e t vs h' tk', RaisedS base (hideAll s.heap (news.map (·.1))) (env :: l) e (.ref 372) t vs news h' → (hideAll s.heap (news.map (·.1))).UpToSlots h' → Fr g L (hideAll s.heap (news.map (·.1))) m → Ctx0 h' e → spanFrom nm rows 0 = none → E (.ref e) { s with heap := h', toks := tk' })
  (hret : ∀ (a b : Nat) S d n h' tk', Fr g L h' m → News g L h' ((S, tg d ((vs.drop a).take (b - a)) n) :: (d, emptyDict) :: news) → @Ne Nat d S → AllNe S news → AllNe d news → Keep [] s.heap h' → spanFrom nm rows 0 = some (a, b) → Q (.ref S) { s with heap := h', toks := tk' }) :
  wpAny (model PG w) ⟨none, dp, some (env :: l), gd, un⟩ (call (.ref 362) [.str nm tn, .ref q]) Q E s := by
  refine gn_c (Rd.mk hf hk B F X T (fun _ h => nomatch h)) hq hr ho hn hlen hd hu hlast hclos (fun e h' tk' x c sp => ?_) fun a b S d n h' tk' kp sp f1 f2 a1 a2 => ?_
  · obtain ⟨t, vs', R, U, F'⟩ := flown_S (A := ⟨none, dp, some (env :: l), gd, un⟩) B F N rfl hf x
    exact hraise e t vs' h' tk' R U F' c sp
  · obtain ⟨z1, z2, z3, z4⟩ := news_tags F N kp f1 f2 a1 a2
    exact hret a b S d n h' tk' (Mine.Fr.after F kp (fun _ h => nomatch h)) z1 z2 (allNe_of z3) (allNe_of z4) kp sp
theorem rm_S {vs : List Value} {rows : List Row} {nm : Str} {tn : Tok} {n : Nat} (hf : env.frame = some L) (hk : env.scope.kind = .function) (B : Below A₀ base l g) (F : Fr g L s.heap m) (N : News g L s.heap news) (X : (Mine.mkK.heap_1 w.params).In g) (T : Top p loose mean mg mb g)
  (U : UpdF q (tg d vs n) news gN) (hqd : s.heap.get? d = some emptyDict) (hr : ∀ g : Heap, (∀ a o, s.heap.get? a = some o → a ∉ [q] → g.get? a = some o) → TagRows g vs rows) (ho : RowsOk rows) (hn : PyData.strOk nm = true) (hlen : rows.length ≤ 300) (hd : dp + 9 < recursionLimit) (hu : un + 250 < cLine)
  (hlast : ∀ i : Nat, i < rows.length → ((rowAt rows i).1 == 1000 && (rowAt rows i).2 == nm) = true → i + 1 < rows.length)
  (hclos : ∀ i : Nat, i + 1 < rows.length → ((rowAt rows i).1 == 1000 && (rowAt rows i).2 == nm) = true → ((rowAt rows ((i : Int) + 1)).1 == 1002 && (rowAt rows ((i : Int) + 1)).2 == Str.ofString "{") = true → closeFrom (rows.drop (i + 1)) 0 (i + 1) ≠ none)
  (hraise : ∀ e t vs h' tk', RaisedS base (hideAll s.heap (news.map (·.1))) (env :: l) e (.ref 372) t vs news h' → (hideAll s.heap (news.map (·.1))).UpToSlots h' → Fr g L (hideAll s.heap (news.map (·.1))) m → spanFrom nm rows 0 = none → E (.ref e) { s with heap := h', toks := tk' })
  (hret : ∀ (a b : Nat) n' h' tk', Fr g L h' m → News g L h' (gN (tg d (vs.take a ++ vs.drop b) n')) → Keep [q] s.heap h' → spanFrom nm rows 0 = some (a, b) → Q (.ref q) { s with heap := h', toks := tk' }) :
  wpAny (model PG w) ⟨none, dp, some (env :: l), gd, un⟩ (call (.ref 355) [.str nm tn, .ref q]) Q E s := by
  obtain ⟨hx, hS⟩ := updF_in N U
  refine rm_c (Rd.mk hf hk B F X T hS) hx hqd hr ho hn hlen hd hu hlast hclos (fun e h' tk' x sp => ?_) fun a b n' h' tk' kp sp a1 => ?_
  · obtain ⟨t, vs', R, U', F'⟩ := flown_S (A := ⟨none, dp, some (env :: l), gd, un⟩) B F N rfl hf x
    exact hraise e t vs' h' tk' R U' F' sp
  · exact hret a b n' h' tk' (Mine.Fr.after F kp hS) (news_updF N kp U a1) kp sp
end
/-- the clauses that a list's tags must meet: a name never stands last, and each list that opens closes -/
structure NamesOk (nm : Str) (rows : List Row) : Prop where
  last : ∀ i : Nat, i < rows.length → ((rowAt rows i).1 == 1000 && (rowAt rows i).2 == nm) = true → i + 1 < rows.length
  clos : ∀ i : Nat, i + 1 < rows.length → ((rowAt rows i).1 == 1000 && (rowAt rows i).2 == nm) = true → ((rowAt rows ((i : Int) + 1)).1 == 1002 && (rowAt rows ((i : Int) + 1)).2 == Str.ofString "{") = true → closeFrom (rows.drop (i + 1)) 0 (i + 1) ≠ none
end
local macro_rules | `(tactic| walk_at "compareOp In str ref") => `(tactic| (k_here; k_dflt (refine' kda_in (knd := PySem.strKind _ _) ?N ?p ?d ?l (strKind_is _ _ _ _) _ ?b ?_; (case N => k_asm); (case p => k_mem); (case d => assumption); (case l => assumption); (case b => assumption); k_whole)))
local macro_rules | `(tactic| walk_at "compareOp NotIn str ref") => `(tactic| (k_here; k_dflt (refine' kda_notin (knd := PySem.strKind _ _) ?N ?p ?d ?l (strKind_is _ _ _ _) _ ?b ?_; (case N => k_asm); (case p => k_mem); (case d => assumption); (case l => assumption); (case b => assumption); k_whole)))
local macro_rules | `(tactic| walk_at "delItem ref str") => `(tactic| (k_here; k_dflt ((refine' kob_del (knd := PySem.strKind _ _) ?F ?N ?U ?d (strKind_is _ _ _ _) ?l ?z ?_; (case F => k_asm); (case N => k_asm); (case U => k_updF); (case d => assumption); (case l => assumption); (case z => (rw [sizeLine_eq]; omega)); k_whole); intro h9 o9 F9 N9 hd9; (try dsimp only at N9); (try dsimp only))))
section
/-- the dict cell of a ledger is not the module table -/
theorem discard_c {w : World} {A : Around} {s : Shared} {Q E : Value → Shared → Prop} {dp un : Nat} {x xi dd : Addr} {o : Obj} {kvs : List (Str × Value)} {ap : Str} {ta : Tok}
  (R : Rd w s.heap [dd] dp un A) (hx : XdAt w (hideAll s.heap [dd]) x xi dd) (hdd : s.heap.get? dd = some o) (ho : o.IsDictOf (PySem.strKind PG w) kvs) (hlo : (dd == sysModules) = false) (hkl : kvs.length ≤ 10) (hd : dp + 5 < recursionLimit) (hu : un + 150 < cLine)
  (hret : ∀ (o' : Obj) (h' : Heap) (tk' : Nat), Keep [dd] s.heap h' → h'.get? dd = some o' → o'.IsDictOf (PySem.strKind PG w) (without kvs ap) → Q .none { s with heap := h', toks := tk' }) :
  wpAny (model PG w) A (call (.ref 463) [.ref x, .str ap ta]) Q E s := by
  cases R with
  | mk hf hkk B F X T hS =>
  rename_i h₀ L m p loose mean mg mb
  have N : News h₀ L s.heap [(dd, o)] := fun p hp => by
    rw [List.mem_singleton.mp hp]; exact ⟨hdd, (hS _ (by simp)).2, (hS _ (by simp)).1⟩
  cases hv : valueAt kvs ap
  · have hb : (valueAt kvs ap).isSome = false := by rw [hv]; rfl
    refine wpAny_call ?_
    k_dflt cell_enter
    intro g L' h' hg hh F' N' B' X' T' lt'
    (try dsimp only)
    k_fold
    have hgz : (hideAll s.heap [dd]).StaysIn g := fun a ob e => hg a ob (of_hideAll _ e) fun q => by rw [hideAll_none _ (by simpa using q)] at e; cases e
    obtain ⟨t, hx1, hx2⟩ := hx.at_
    have hx1' := hgz _ _ hx1
    have hx2' := hgz _ _ hx2
    k_steps
    (with_reducible rename Heap.StaysIn g _ => kG)
    (with_reducible rename News g L' _ _ => kN)
    refine hret _ _ _ (keep_fin (S := [dd]) hg kG) (kN _ (.head _)).1 ?_
    rw [without_none hv]; exact ho
  · have hb : (valueAt kvs ap).isSome = true := by rw [hv]; rfl
    refine wpAny_call ?_
    k_dflt cell_enter
    intro g L' h' hg hh F' N' B' X' T' lt'
    (try dsimp only)
    k_fold
    have hgz : (hideAll s.heap [dd]).StaysIn g := fun a ob e => hg a ob (of_hideAll _ e) fun q => by rw [hideAll_none _ (by simpa using q)] at e; cases e
    obtain ⟨t, hx1, hx2⟩ := hx.at_
    have hx1' := hgz _ _ hx1
    have hx2' := hgz _ _ hx2
    k_steps
    (with_reducible rename Heap.StaysIn g _ => kG)
    (with_reducible rename News g L' _ _ => kN)
    (with_reducible rename Obj.IsDictOf _ _ _ => kD)
    exact hret _ _ _ (keep_fin (S := [dd]) hg kG) (kN _ (.head _)).1 kD
end
section
section
variable {w : World} {dp un : Nat} {l : List Env} {env : Env} {gd : Option (List Code)} {A₀ : Around} {g base hs : Heap} {L x xi dd q d : Addr} {m : Str → Option Value} {news : List (Addr × Obj)} {gN : Obj → List (Addr × Obj)} {p : Program} {loose : List Str} {mean : ExcName → Option Value} {mg mb : Str → Option Value} {E Q : Value → Shared → Prop} {s : Shared} {o : Obj}
theorem get_Sn {kvs : List (Str × Value)} {ap : Str} {ta : Tok} (hf : env.frame = some L) (hk : env.scope.kind = .function) (B : Below A₀ base l g) (F : Fr g L s.heap m) (N : News g L s.heap news) (X : (Mine.mkK.heap_1 w.params).In g) (T : Top p loose mean mg mb g)
  (hx : XdAt w s.heap x xi dd) (hdd : s.heap.get? dd = some o) (ho : o.IsDictOf (PySem.strKind PG w) kvs) (hlo : (dd == sysModules) = false) (hv : valueAt kvs ap = none) (hd : dp + 5 < recursionLimit) (hu : un + 150 < cLine)
  (hraise : ∀ e t vs h' tk', RaisedS base (hideAll s.heap (news.map (·.1))) (env :: l) e (.ref 159) t vs news h' → (hideAll s.heap (news.map (·.1))).UpToSlots h' → Fr g L (hideAll s.heap (news.map (·.1))) m → E (.ref e) { s with heap := h', toks := tk' }) :
  wpAny (model PG w) ⟨none, dp, some (env :: l), gd, un⟩ (call (.ref 456) [.ref x, .str ap ta]) Q E s :=
  get_S hf hk B F N X T hx hdd ho hlo hd hu (fun e t vs h' tk' _ => hraise e t vs h' tk') fun v h' tk' hv' => absurd (hv.symm.trans hv') (by simp)
theorem get_Ss {kvs : List (Str × Value)} {ap : Str} {ta : Tok} {v : Value} (hf : env.frame = some L) (hk : env.scope.kind = .function) (B : Below A₀ base l g) (F : Fr g L s.heap m) (N : News g L s.heap news) (X : (Mine.mkK.heap_1 w.params).In g) (T : Top p loose mean mg mb g)
  (hx : XdAt w s.heap x xi dd) (hdd : s.heap.get? dd = some o) (ho : o.IsDictOf (PySem.strKind PG w) kvs) (hlo : (dd == sysModules) = false) (hv : valueAt kvs ap = some v) (hd : dp + 5 < recursionLimit) (hu : un + 150 < cLine)
  (hret : ∀ h' tk', Fr g L h' m → News g L h' news → Keep [] s.heap h' → Q v { s with heap := h', toks := tk' }) :
  wpAny (model PG w) ⟨none, dp, some (env :: l), gd, un⟩ (call (.ref 456) [.ref x, .str ap ta]) Q E s :=
  get_S hf hk B F N X T hx hdd ho hlo hd hu (fun e t vs h' tk' hv' => absurd (hv.symm.trans hv') (by simp)) fun v' h' tk' hv' F' N' => by
    rw [hv] at hv'
    cases hv'
    exact hret h' tk' F' N'
theorem gn_Sn {vs : List Value} {rows : List Row} {nm : Str} {tn : Tok} (hf : env.frame = some L) (hk : env.scope.kind = .function) (B : Below A₀ base l g) (F : Fr g L s.heap m) (N : News g L s.heap news) (X : (Mine.mkK.heap_1 w.params).In g) (T : Top p loose mean mg mb g)
  (hq : TagsAt s.heap q vs) (hr : TagRows s.heap vs rows) (ho : RowsOk rows) (hn : PyData.strOk nm = true) (hlen : rows.length ≤ 300) (hd : dp + 9 < recursionLimit) (hu : un + 250 < cLine) (hok : NamesOk nm rows) (hsp : spanFrom nm rows 0 = none)
  (hraise : ∀ e t vs h' tk', RaisedS base (hideAll s.heap (news.map (·.1))) (env :: l) e (.ref 372) t vs news h' → (hideAll s.heap (news.map (·.1))).UpToSlots h' → Fr g L (hideAll s.heap (news.map (·.1))) m → Ctx0 h' e → E (.ref e) { s with heap := h', toks := tk' }) :
  wpAny (model PG w) ⟨none, dp, some (env :: l), gd, un⟩ (call (.ref 362) [.str nm tn, .ref q]) Q E s :=
  gn_S hf hk B F N X T hq hr ho hn hlen hd hu hok.last hok.clos (fun e t vs h' tk' R U F' c _ => hraise e t vs h' tk' R U F' c) fun a b S d n h' tk' _ _ _ _ _ _ sp => absurd (hsp.symm.trans sp) (by simp)
theorem gn_Ss {vs : List Value} {rows : List Row} {nm : Str} {tn : Tok} {a b : Nat} (hf : env.frame = some L) (hk : env.scope.kind = .function) (B : Below A₀ base l g) (F : Fr g L s.heap m) (N : News g L s.heap news) (X : (Mine.mkK.heap_1 w.params).In g) (T : Top p loose mean mg mb g)
  (hq : TagsAt s.heap q vs) (hr : TagRows s.heap vs rows) (ho : RowsOk rows) (hn : PyData.strOk nm = true) (hlen : rows.length ≤ 300) (hd : dp + 9 < recursionLimit) (hu : un + 250 < cLine) (hok : NamesOk nm rows) (hsp : spanFrom nm rows 0 = some (a, b))
  (hret : ∀ S d n h' tk', Fr g L h' m → News g L h' ((S, tg d ((vs.drop a).take (b - a)) n) :: (d, emptyDict) :: news) → @Ne Nat d S → AllNe S news → AllNe d news → Keep [] s.heap h' → Q (.ref S) { s with heap := h', toks := tk' }) :
  wpAny (model PG w) ⟨none, dp, some (env :: l), gd, un⟩ (call (.ref 362) [.str nm tn, .ref q]) Q E s :=
  gn_S hf hk B F N X T hq hr ho hn hlen hd hu hok.last hok.clos (fun e t vs h' tk' _ _ _ _ sp => absurd (hsp.symm.trans sp) (by simp)) fun a' b' S d n h' tk' F' N' n1 n2 n3 kp sp => by
    rw [hsp] at sp
    cases sp
    exact hret S d n h' tk' F' N' n1 n2 n3 kp
theorem rm_Sn {vs : List Value} {rows : List Row} {nm : Str} {tn : Tok} {n : Nat} (hf : env.frame = some L) (hk : env.scope.kind = .function) (B : Below A₀ base l g) (F : Fr g L s.heap m) (N : News g L s.heap news) (X : (Mine.mkK.heap_1 w.params).In g) (T : Top p loose mean mg mb g)
  (U : UpdF q (tg d vs n) news gN) (hqd : s.heap.get? d = some emptyDict) (hr : ∀ g : Heap, (∀ a o, s.heap.get? a = some o → a ∉ [q] → g.get? a = some o) → TagRows g vs rows) (ho : RowsOk rows) (hn : PyData.strOk nm = true) (hlen : rows.length ≤ 300) (hd : dp + 9 < recursionLimit) (hu : un + 250 < cLine) (hok : NamesOk nm rows) (hsp : spanFrom nm rows 0 = none)
  (hraise : ∀ e t vs h' tk', RaisedS base (hideAll s.heap (news.map (·.1))) (env :: l) e (.ref 372) t vs news h' → (hideAll s.heap (news.map (·.1))).UpToSlots h' → Fr g L (hideAll s.heap (news.map (·.1))) m → E (.ref e) { s with heap := h', toks := tk' }) :
  wpAny (model PG w) ⟨none, dp, some (env :: l), gd, un⟩ (call (.ref 355) [.str nm tn, .ref q]) Q E s :=
  rm_S hf hk B F N X T U hqd hr ho hn hlen hd hu hok.last hok.clos (fun e t vs h' tk' R U' F' _ => hraise e t vs h' tk' R U' F') fun a b n' h' tk' _ _ _ sp => absurd (hsp.symm.trans sp) (by simp)
theorem rm_Ss {vs : List Value} {rows : List Row} {nm : Str} {tn : Tok} {n a b : Nat} (hf : env.frame = some L) (hk : env.scope.kind = .function) (B : Below A₀ base l g) (F : Fr g L s.heap m) (N : News g L s.heap news) (X : (Mine.mkK.heap_1 w.params).In g) (T : Top p loose mean mg mb g)
  (U : UpdF q (tg d vs n) news gN) (hqd : s.heap.get? d = some emptyDict) (hr : ∀ g : Heap, (∀ a o, s.heap.get? a = some o → a ∉ [q] → g.get? a = some o) → TagRows g vs rows) (ho : RowsOk rows) (hn : PyData.strOk nm = true) (hlen : rows.length ≤ 300) (hd : dp + 9 < recursionLimit) (hu : un + 250 < cLine) (hok : NamesOk nm rows) (hsp : spanFrom nm rows 0 = some (a, b))
  (hret : ∀ n' h' tk', Fr g L h' m → News g L h' (gN (tg d (vs.take a ++ vs.drop b) n')) → Keep [q] s.heap h' → Q (.ref q) { s with heap := h', toks := tk' }) :
  wpAny (model PG w) ⟨none, dp, some (env :: l), gd, un⟩ (call (.ref 355) [.str nm tn, .ref q]) Q E s :=
  rm_S hf hk B F N X T U hqd hr ho hn hlen hd hu hok.last hok.clos (fun e t vs h' tk' _ _ _ sp => absurd (hsp.symm.trans sp) (by simp)) fun a' b' n' h' tk' F' N' kp sp => by
    rw [hsp] at sp
    cases sp
    exact hret n' h' tk' F' N' kp
end
end
local macro_rules | `(tactic| kc_enter) => `(tactic| (refine' code_k ?k1 ?k2 ?k3 ?k4 ?k5 ?XB ?TB ?D ?kA ?kF ?kK ?k6 ?k7 ?k8 ?k9 ?kB ?_ ?c2 ?c3 ?c4 ?c5; (case kA => exact rfl); (case kF => first | assumption | exact rfl); (case kK => first | assumption | exact rfl); (case k1 => k_asm); (case XB => assumption); (case TB => assumption); (case D => assumption); (case k2 => k_asm); (case k3 => k_asm); (case k4 => k_asm); (case k5 => k_asm); (case k6 => k_is); (case k7 => k_is); (case k8 => ktr_room); (case k9 => first | exact BindsTo.of_eq rfl | exact binds_K (by k_in) rfl (by k_is) rfl rfl rfl); (case c5 => decide); (case kB => exact locs rfl); (case c2 => exact rfl); (case c3 => exact rfl); (case c4 => exact rfl); k_whole))
local macro_rules | `(tactic| walk_at "LeaveF") => `(tactic| (dsimp only [LeaveF]))
local macro_rules | `(tactic| walk_at "call ref") => `(tactic| (k_here; (with_reducible show wpAny _ _ (call (Value.ref 456) _) _ _ _); k_dflt (first
  | ((refine' get_Sn ?hf ?hk ?B ?F ?N ?X ?T ?x ?dd ?o ?lo ?hv ?hd ?hu ?_; (case hf => rfl); (case hk => rfl); (case F => k_asm); (case N => k_asm); (case B => k_asm); (case X => k_asm); (case T => k_asm); (case x => exact XdAt.keeps (by assumption) (by k_offL)); (case dd => first | exact tg_hd1 (by k_asm) (by k_mem) | exact Fr.keep (by k_asm) _ _ (by assumption)); (case o => first | with_reducible assumption | assumption); (case lo => first | with_reducible assumption | assumption); (case hv => with_reducible assumption); (case hd => ktr_room); (case hu => ktr_units); k_whole))
  | ((refine' get_Ss ?hf ?hk ?B ?F ?N ?X ?T ?x ?dd ?o ?lo ?hv ?hd ?hu ?_; (case hf => rfl); (case hk => rfl); (case F => k_asm); (case N => k_asm); (case B => k_asm); (case X => k_asm); (case T => k_asm); (case x => exact XdAt.keeps (by assumption) (by k_offL)); (case dd => first | exact tg_hd1 (by k_asm) (by k_mem) | exact Fr.keep (by k_asm) _ _ (by assumption)); (case o => first | with_reducible assumption | assumption); (case lo => first | with_reducible assumption | assumption); (case hv => first | with_reducible assumption | assumption); (case hd => ktr_room); (case hu => ktr_units); k_whole); intro h9 tk9 F9 N9 kp9; clear kp9; (try dsimp only); (try k_sweep)))))
local macro_rules | `(tactic| walk_at "call ref") => `(tactic| (k_here; (with_reducible show wpAny _ _ (call (Value.ref 362) _) _ _ _); k_dflt (first
  | ((refine' gn_Sn ?hf ?hk ?B ?F ?N ?X ?T ?q ?r ?ho ?hn ?hl ?hd ?hu ?ok ?sp ?_; (case hf => rfl); (case hk => rfl); (case F => k_asm); (case N => k_asm); (case B => k_asm); (case X => k_asm); (case T => k_asm); (case q => exact TagsAt.keeps (by assumption) (by k_offL)); (case r => exact TagRows.keeps (by assumption) (by k_offL)); (case ho => assumption); (case hn => assumption); (case hl => assumption); (case ok => assumption); (case sp => assumption); (case hd => ktr_room); (case hu => ktr_units); k_whole))
  | ((refine' gn_Ss ?hf ?hk ?B ?F ?N ?X ?T ?q ?r ?ho ?hn ?hl ?hd ?hu ?ok ?sp ?_; (case hf => rfl); (case hk => rfl); (case F => k_asm); (case N => k_asm); (case B => k_asm); (case X => k_asm); (case T => k_asm); (case q => exact TagsAt.keeps (by assumption) (by k_offL)); (case r => exact TagRows.keeps (by assumption) (by k_offL)); (case ho => assumption); (case hn => assumption); (case hl => assumption); (case ok => assumption); (case sp => assumption); (case hd => ktr_room); (case hu => ktr_units); k_whole); intro S9 d9 n9 h9 tk9 F9 N9 e9 a9 b9 kp9; (try simp only [AllNe, and_true] at a9 b9); (try dsimp only); (try k_sweep)))))
section
/-- an exception made while hd was handled -/
structure MadeCtx (h h' : Heap) (e : Addr) (cls : Value) (hd : Addr) (args : List Value) : Prop where
  keeps : ∀ b o, h.get? b = some o → h'.get? b = some o
  new : h.get? e = none
  there : ∃ t, h'.get? e = some { cls := cls, data := .fields #[.ref t, .none, .ref hd, .none, .bool false, .none] } ∧ h.get? t = none ∧ h'.get? t = some { cls := .type "tuple", data := .seq args.toArray }
theorem entry_unchain : entryFor table "proto.unchain" = some Builtin.«proto.unchain» := entryFor_of_tree (by kernel_rfl)
section
variable {prog : Program} {w : World} {A : Around} {E : Value → Shared → Prop} {s : Shared}
theorem raiseNew_ctx {α : Type} {e hd : Addr} {cls : Value} {t : Value} {Q : α → Shared → Prop} (hh : A.handled = some (.ref hd)) (hne : hd ≠ e) (c : Ctx0 s.heap hd) (he : s.heap.get? e = some { cls := cls, data := .fields #[t, .none, .none, .none, .bool false, .none] })
    (h : E (.ref e) { s with heap := s.heap.update e (Obj.mapFields (·.setIfInBounds 2 (.ref hd))) }) : wpAny (model prog w) A (raiseNew (.ref e) : Sem α) Q E s := by
  obtain ⟨o, vs, ho, hd', h2⟩ := c
  unfold raiseNew
  refine wpAny_bind (wpAny_handled ?_)
  rw [hh]
  dsimp only
  rw [if_pos (by simpa using hne)]
  refine wpAny_bind (wpAny_holding (runValue_entry entry_unchain ?_))
  unfold Builtin.«proto.unchain»
  refine wpAny_bind (m := field (.ref hd) 2) (wpAny_field ho hd' h2 ?_)
  rw [if_pos (by rfl)]
  refine wpAny_pure ⟨_, rfl, ?_⟩
  refine wpAny_bind (m := updateField e 2 _) ?_
  refine wpAny_setField (i := 2) he rfl (by simp) ?_
  exact wpAny_throw h
theorem raiseStmt_ctx {env : Env} {nm q : Str} {C N hd : Addr} {bs bm : List Value} {hdct : Bool} {sn : List Str} {sub : List Value} {ab : Bool} {col : Option Bool} {dd : Option Addr} {k0 k1 k2 k3 k5 : Option Value} {newId : String}
    {x : Sem Value} {Q : Flow → Shared → Prop} (hbase : bm.contains (.type "BaseException") = true) (hh : A.handled = some (.ref hd))
    (h : wpAny (model prog w) A x (fun v s₁ => ∃ e t, v = .ref e ∧ s₁.heap.get? C = some (excClassObj nm q C N bs bm hdct sn sub ab col dd k0 k1 k2 k3 k5 newId) ∧ hd ≠ e ∧ Ctx0 s₁.heap hd ∧
      s₁.heap.get? e = some { cls := .ref C, data := .fields #[.ref t, .none, .none, .none, .bool false, .none] } ∧ E (.ref e) { s₁ with heap := s₁.heap.update e (Obj.mapFields (·.setIfInBounds 2 (.ref hd))) }) E s) :
    wpAny (model prog w) A (raiseStmt env (some x) none) Q E s := by
  have hcB : (Value.ref C :: bm).contains (.type "BaseException") = true := by rw [List.contains_cons, hbase, Bool.or_true]
  unfold raiseStmt
  refine wpAny_bind (wpAny_mono h (fun v s₁ h₁ => ?_) fun _ _ x => x)
  obtain ⟨e, t, rfl, hC, hne, c, he, hE⟩ := h₁
  obtain ⟨hp, gs, d, tk, os⟩ := s₁
  repeat (first | with_reducible refine wpAny_loadPart_at he ?_ | with_reducible refine wpAny_loadPart_at hC ?_ | (with_reducible refine wpAny_isSubtype_exc hC ?_; rw [hcB]) | wp_step)
  exact raiseNew_ctx hh hne c he hE
end
theorem madeCtx_of {h h' : Heap} {e hd : Addr} {cls : Value} {args : List Value} (m : Heap.MadeExcOf h h' e cls args) : MadeCtx h (h'.update e (Obj.mapFields (·.setIfInBounds 2 (.ref hd)))) e cls hd args := by
  obtain ⟨t, he, ht, htt⟩ := m.there
  have hte : t ≠ e := fun z => by rw [z, he] at htt; cases htt
  refine ⟨fun b o q => (Heap.get?_update_other _ _ (fun z : e = b => by rw [← z, m.new] at q; cases q)).trans (m.keeps b o q), m.new, t, ?_, ht, (Heap.get?_update_other _ _ (Ne.symm hte)).trans htt⟩
  rw [Heap.get?_update_self _ he (by rfl)]
  rfl
structure RaiseGo (h₀ : Heap) (E : Value → Shared → Prop) (hd C : Addr) (vs : List Value) (s : Shared) : Prop where
  len : vs.length ≤ sizeLine
  keep : ∀ b o, h₀.get? b = some o → s.heap.get? b = some o
  ctx : Ctx0 s.heap hd
  go : ∀ h' e, MadeCtx s.heap h' e (.ref C) hd vs → E (.ref e) { s with heap := h' }
section
variable {prog : Program} {w : World} {A : Around} {E : Value → Shared → Prop} {s : Shared} {h₀ : Heap} {L a : Addr} {m mg : Str → Option Value} {name : Str} {scope : Scope} {cd : Value}
  {x : Str} {C : Addr} {bmB : List Value} {newId B initId : String} {np pos cpos : Pos} {Q : Flow → Shared → Prop}
theorem Raise_ctx {e₀ : Expr} {rest : List Expr} {hd : Addr} (F : Fr h₀ L s.heap m) (hg : h₀.Ns mainGlobals mg) (O : OwnCls x C bmB newId mg h₀) (FB : ExcBaseFacts B newId initId bmB) (hh : A.handled = some (.ref hd))
    (h : wpAny (model prog w) A (spliced (backTo cpos (starEach (e₀ :: rest) (envOf name scope L a cd)))) (fun vs s₂ => RaiseGo h₀ E hd C vs s₂) E s)
    (he : starEach (e₀ :: rest) (envOf name scope L a cd) = (false, eval e₀ (envOf name scope L a cd)) :: starEach rest (envOf name scope L a cd) := by rfl)
    (hplain : (backTo cpos (starEach rest (envOf name scope L a cd))).any (·.1) = false := by rfl)
    (hk : scope.kind = .function := by rfl) (hx : (envOf name scope L a cd).kindOf x = some .globalImplicit := by rfl) (hdb : (x == ("__debug__" : Str)) = false := by decide) :
    wpAny (model prog w) A (exec (.Raise (some (.Call (.Name x np) (e₀ :: rest) [] cpos)) none pos) (envOf name scope L a cd)) Q E s := by
  obtain ⟨tl, N, nm, q, bs, hdct, sn, sub, ab, col, dd, k0, k1, k2, k3, k5, mN, hC, hN, hni, T⟩ := O.obj
  have hbase : tl.contains (.type "BaseException") = true := T.hasType FB.hasBase
  have hpl : (backTo cpos (starEach (e₀ :: rest) (envOf name scope L a cd))).any (·.1) = false := by rw [he]; show (false || (backTo cpos (starEach rest (envOf name scope L a cd))).any (·.1)) = false; rw [hplain]; rfl
  show wpAny (model prog w) A (do standAt pos; raiseStmt _ (some (do let v ← eval (.Call (.Name x np) (e₀ :: rest) [] cpos) (envOf name scope L a cd); standAt pos; pure v)) none) Q E s
  refine wpAny_bind (wpAny_standAt (raiseStmt_ctx (C := C) (nm := nm) (q := q) (N := N) (bs := bs) (bm := tl) (hdct := hdct) (sn := sn) (sub := sub) (ab := ab) (col := col) (dd := dd) (k0 := k0) (k1 := k1) (k2 := k2) (k3 := k3) (k5 := k5) (newId := newId) hbase hh
    (wpAny_bind (wpAny_mono (wpAny_Call_ofName (ld_own F hg O ?_ hk hx hdb)) (fun v s₃ h₃ => wpAny_bind (wpAny_standAt (wpAny_pure h₃))) fun _ _ x => x))))
  have h1 : wpAny (model prog w) A (evalArgs (.ref C) true (backTo cpos (starEach (e₀ :: rest) (envOf name scope L a cd))) []) (fun a s₂ => a.kw = [] ∧ RaiseGo h₀ E hd C a.pos s₂) E s := by
    rw [he] at h ⊢
    exact Calls.evalArgs_plain (wpAny_mono h (fun vs s₂ h₂ => ⟨rfl, h₂⟩) fun _ _ y => y)
  unfold callWith
  refine wpAny_bind (wpAny_holding (wpAny_mono h1 (fun ar s₂ h₂ => wpAny_bind (wpAny_standAt ?_)) fun _ _ x => x))
  obtain ⟨apos, akw⟩ := ar
  obtain ⟨hkw, hlen, hkeep, hctx, hgo⟩ := h₂
  obtain rfl : akw = [] := hkw
  have hC2 := hkeep _ _ hC
  have hN2 := hN.keeps hkeep
  have T2 := T.keeps hkeep
  obtain ⟨hp, gs, d, tk, os⟩ := s₂
  simp only [hpl]
  refine wpAny_bind (wpAny_keeperOf_exc hC2 ?_)
  refine wpAny_bind (wpAny_call_exc_subT (hrest := hlen) FB T2 hC2 hN2 hni fun h' e hm => wpAny_bind (wpAny_holding (wpAny_point (wpAny_pure ?_))))
  obtain ⟨t, ht, _, _⟩ := hm.there
  obtain ⟨oh, vs, c1, c2, c3⟩ := hctx
  exact ⟨e, t, rfl, hm.keeps _ _ hC2, (fun z => by rw [z, hm.new] at c1; cases c1), ⟨oh, vs, hm.keeps _ _ c1, c2, c3⟩, ht, hgo _ _ (madeCtx_of hm)⟩
end
def CtxObj (o : Obj) : Prop := ∃ vs, o.data = .fields vs ∧ vs[2]? = some .none
theorem ctx0_led {g h : Heap} {L e : Addr} {o : Obj} {news : List (Addr × Obj)} (c : CtxObj o) (N : News g L h news) (hm : (e, o) ∈ news) : Ctx0 h e := let ⟨vs, a, b⟩ := c; ⟨o, vs, (N _ hm).1, a, b⟩
section
variable {M : Model} {A : Around} {E : Value → Shared → Prop} {s' : Shared} {base g h : Heap} {outer : List Env} {L a e hd : Addr} {m : Str → Option Value} {name : Str} {scope : Scope} {cd : Value} {Q : Unit → Shared → Prop} {news : List (Addr × Obj)}
theorem leave_raiseX {cls : Value} {vs : List Value} (K : Below A base outer g) (hx : MadeCtx h s'.heap e cls hd vs) (F : Fr g L h m) (N : News g L h news)
    (hQ : ∀ h' t, RaisedK base outer e cls t vs news h' → g.UpToSlots h' → Q () { s' with heap := h' }) (hk : scope.kind = .function := by rfl) :
    wpAny M (A.deeper (envOf name scope L a cd)) (leaving (envOf name scope L a cd) (.ref e)) Q E s' := by
  have K' := K.push (name := name) (a := a) (cd := cd) F hk
  let fs := (envOf name scope L a cd :: outer).filterMap (·.frame)
  have inFs : ∀ env ∈ (envOf name scope L a cd :: outer), ∀ b, env.frame = some b → b ∈ fs := fun env he b hb => List.mem_filterMap.mpr ⟨env, he, hb⟩
  have st : base.StaysIn (hideAll h fs) := fun b o q => hideAll_get _ (K'.stays b o q) fun hm => by rw [(K'.frames.mem hm).1] at q; cases q
  have nw : ∀ q ∈ news, (hideAll h fs).get? q.1 = some q.2 ∧ base.get? q.1 = none := fun q hq => by
    refine ⟨hideAll_get _ (N q hq).1 fun hm => ?_, fresh_of_stays K.stays (N q hq).2.2⟩
    rcases kts_mem hm with z | z
    · exact (N q hq).2.1 z
    · obtain ⟨_, o, ho, _⟩ := K.frames.mem z
      rw [(N q hq).2.2] at ho; cases ho
  obtain ⟨t, he, htn, ht⟩ := hx.there
  have frz : ∀ b, h.get? b = none → (hideAll h fs).get? b = none := fun b hb => by
    cases q : (hideAll h fs).get? b with
    | none => rfl
    | some o => rw [of_hideAll _ q] at hb; cases hb
  have ff := funFrames_hide K'.frames inFs
  refine wpAny_leaving_firstW (a0 := .ref t) (base := hideAll h fs) K'.stack (ff.of_keeps fun b o hb _ => ⟨o, hx.keeps b o hb, rfl⟩) rfl he (fun b o hb => hx.keeps b o (of_hideAll _ hb)) (frz e hx.new) rfl rfl rfl fun h' hL => ?_
  obtain ⟨k1, ⟨_, _, k2⟩, k3, k4⟩ := hL
  exact hQ h' t ⟨⟨_, st, nw, ⟨k1, frz e hx.new, k2, k3⟩, frz t htn⟩, Heap.TupAt.of_slots ⟨_, _, ht, rfl, rfl⟩ k4⟩ (((Heap.UpToSlots.of_keeps F.keep).trans (Heap.UpToSlots.of_keeps hx.keeps)).trans k4)
end
section
variable {prog : Program} {w : World} {A₀ : Around} {E : Value → Shared → Prop} {s' : Shared} {base g g₀ G : Heap} {outer : List Env} {L a e t C : Addr} {m : Str → Option Value} {name : Str} {scope : Scope} {cd : Value}
  {vs : List Value} {b₀ : Stmt} {suite : List Stmt} {pos np : Pos} {rest : List ExceptHandler} {Q : Flow → Shared → Prop} {news : List (Addr × Obj)} {KF : Frag}
  {p : Program} {loose : List Str} {mean : ExcName → Option Value} {mg mb : Str → Option Value} {x : Str}
/-- an own class caught by its name, its context known to be none -/
theorem caught_C (R : RaisedS base G (envOf name scope L a cd :: outer) e (.ref C) t vs news s'.heap) (F : Fr g L G m) (K : Below A₀ base outer g) (hsm : G.UpToSlots s'.heap) (cx : Ctx0 s'.heap e) (XB : KF.In base) (TB : Top p loose mean mg mb base)
    (D : KtsDicts (outer.filterMap (·.frame)) g) (T0 : KtsTurn (outer.filterMap (·.frame)) g₀ g)
    (ex : nsIn KF mainGlobals x = some (some (.ref C))) (q : ktsIn KF C "BaseException" = true)
    (k : ∀ h' g' oe, KtsTurn (outer.filterMap (·.frame)) g₀ g' → Fr g' L h' m → CtxObj oe → News g' L h' ((e, oe) :: news) → Below A₀ base outer g' → KF.In g' → Top p loose mean mg mb g' → KtsDicts (outer.filterMap (·.frame)) g' →
      wpAny (model prog w) ((A₀.deeper (envOf name scope L a cd)).mark (some (.ref e))) (execs (b₀ :: suite) (envOf name scope L a cd)) Q E { s' with heap := h' })
    (hk : scope.kind = .function := by rfl) (hx : (envOf name scope L a cd).kindOf x = some .globalImplicit := by rfl) (hd : (x == ("__debug__" : Str)) = false := by decide)
    (hE : PassesOwnAt (model prog w) ((A₀.deeper (envOf name scope L a cd)).mark (some (.ref e))) (A₀.deeper (envOf name scope L a cd)) (envOf name scope L a cd) E := by passes_own) :
    wpAny (model prog w) (A₀.deeper (envOf name scope L a cd)) (noteFrame (.ref e) (envOf name scope L a cd))
      (fun _ s₂ => wpAny (model prog w) (A₀.deeper (envOf name scope L a cd)) (setFlight (.ref e) none) (fun _ s₃ =>
        wpAny (model prog w) (A₀.deeper (envOf name scope L a cd)) (handleBy (.ref e) (envOf name scope L a cd) (.ExceptHandler (some (.Name x np)) none (b₀ :: suite) pos :: rest)) Q E s₃) E s₂) E s' := by
  obtain ⟨⟨B, hB, hBG, hl, hfl, hnew⟩, htup⟩ := R
  have hL : B.get? L = none := by
    obtain ⟨_, ⟨L', _, hf, hn', _⟩, _⟩ := hfl.2.2.1
    obtain rfl : L = L' := Option.some.inj hf
    exact hn'
  let env := envOf name scope L a cd
  refine wpAny_mono (flat2_any (flat2_noteFrame _ _) cx (wpAny_looks_onW (Q := fun _ s => ∃ h4, s = { s' with heap := h4 } ∧ Heap.HeldW B (env :: outer) e (.ref C) (.ref t) L h4 ∧ s'.heap.UpToSlots h4) (Around.frames_deeper K.stack) rfl hfl fun h4 a b => ⟨h4, rfl, a, b⟩)) (fun _ s4 z => ?_) fun _ _ z => z
  obtain ⟨⟨h4, rfl, held4, u4⟩, c4⟩ := z
  refine wpAny_mono (flat2_any (flat2_setFlight _ _) c4 (wpAny_landsW (Q := fun _ s => ∃ h5, s = { s' with heap := h5 } ∧ Heap.FlyingW B (env :: outer) e (.ref C) (.ref t) h5 ∧ h4.UpToSlots h5) held4 fun h5 a b => ⟨h5, rfl, a, b⟩)) (fun _ s5 z => ?_) fun _ _ z => z
  obtain ⟨⟨h5, rfl, fly5, u5'⟩, c5⟩ := z
  have u5 := u4.trans u5'
  obtain ⟨g5, T5, F5, K5⟩ := kts_ground K F hBG fly5.1 (hsm.trans u5)
  obtain ⟨ob, hob, hobc⟩ := fly5.there
  obtain ⟨nm, q', N, bs, bm, hdct, sn, sub, ab, col, dd, k0, k1, k2, k3, k5, newId, hC, hbase, hbT⟩ := kts_cls (XB.keeps K5.stays) q
  refine wpAny_handleBy_cons (codeAny_handlers_test (name_K F5 (XB.keeps K5.stays) (topRead_of (TB.keeps K5.stays)) ex ?_ hk hx hd)) (by intro q; cases q)
  refine wpAny_excMatches_sub_self (F5.keep _ _ hC) hob hobc hbase (codeAny_handlers_suite ?_)
  refine wpAny_mono (flat2_any (flat2_setFlight _ _) c5 (lands_againW (Q := fun _ s => ∃ h6, s = { s' with heap := h6 } ∧ Heap.FlyingW B (env :: outer) e (.ref C) (.ref t) h6 ∧ h5.UpToSlots h6) fly5 fun h6 a b => ⟨h6, rfl, a, b⟩)) (fun _ s6 z => ?_) fun _ _ z => z
  obtain ⟨⟨h6, rfl, fly6, u6⟩, c6⟩ := z
  obtain ⟨g6, T6, F6, K6⟩ := kts_ground K F hBG fly6.1 ((hsm.trans u5).trans u6)
  obtain ⟨oe, ws, hoe, hod, h2⟩ := c6
  have ne6 : g6.get? e = none := T6.none_ _ (kts_fresh F hBG fly6.2.1 fun o ho mm => by
    obtain ⟨_, o', ho', hdd⟩ := K.frames.mem mm
    rw [ho] at ho'
    cases ho'
    obtain ⟨sl, hs⟩ := ((hsm.trans u5).trans u6) _ _ (F.keep _ _ ho) hdd
    rw [hoe] at hs
    cases hs
    exact hdd _ hod)
  have Nl : News g6 L h6 news := fun q hq => ⟨fly6.1 _ _ (hl q hq).1, (fun z => by have := (hl q hq).1; rw [z, hL] at this; cases this), T6.none_ _ (kts_none F.keep (hl q hq).2.1)⟩
  exact wpAny_passesOwnAt hE (k h6 g6 oe (T0.trans T6) F6 ⟨ws, hod, h2⟩ (News.more F6 Nl hoe (fun es n q => by rw [hod] at q; cases q) ne6) K6 (XB.keeps K6.stays) (TB.keeps K6.stays) (D.turn T6))
end
end
local macro_rules | `(tactic| walk_at "leaving ref") => `(tactic| (k_here; k_dflt ((refine' leave_raiseX ?k1 ?k0 ?k2 ?k3 ?_; (case k0 => assumption); (case k2 => assumption); (case k1 => assumption); (case k3 => k_asm); k_whole); intro h' t' R' U'; (try dsimp only at R' U' ⊢))))
local macro_rules | `(tactic| walk_at "exec Raise some none") => `(tactic| (k_here; (with_reducible show wpAny _ _ (exec (Stmt.Raise (some (Expr.Call (Expr.Name _ _) (_ :: _) [] _)) none _) _) _ _ _); k_dflt (refine' Raise_ctx ?F ?g ?O PySem.F.excBase_Exception ?h ?_ ?a ?b ?c ?d ?e; (case F => k_asm); (case g => exact TopRead.g (by k_asm)); (case O => exact own_of_in (by k_asm) (by k_asm) (by k_is) (by k_exc)); (case h => exact rfl); (case a => rfl); (case b => rfl); (case c => rfl); (case d => rfl); (case e => decide); k_whole)))
local macro_rules | `(tactic| walk_at "RaiseGo") => `(tactic| (k_dflt ((refine' RaiseGo.mk ?l ?k ?c ?_; (case l => (rw [sizeLine_eq]; exact Nat.le_of_ble_eq_true rfl)); (case k => exact Fr.keep (by k_asm)); (case c => exact ctx0_led (by assumption) (by k_asm) (by k_mem)); k_whole); intro h9 e9 m9)))
local macro_rules | `(tactic| walk_at "noteFrame ref") => `(tactic| (k_here; k_dflt ((refine' caught_C ?R ?F ?K ?U ?c ?XB ?TB ?D ?T0 ?ex ?q ?_; (case R => assumption); (case F => assumption); (case K => assumption); (case U => assumption); (case c => assumption); (case XB => assumption); (case TB => assumption); (case D => assumption); (case T0 => first | assumption | exact KtsTurn.refl); (case ex => k_is); (case q => kts_isx); k_whole); intro h9 g9 oe9 T9 F9 c9 N9 K9 X9 P9 D9; (try k_lift K9); (try k_sweep))))
section
theorem kts_slots {fs : List Addr} {g g' : Heap} (T : KtsTurn fs g g') : g.UpToSlots g' := fun _ _ e _ => T.up e
theorem gxl_c {w : World} {A : Around} {s : Shared} {Q E : Value → Shared → Prop} {dp un : Nat} {x xi dd q : Addr} {o : Obj} {kvs : List (Str × Value)} {ap nm : Str} {ta tn : Tok} {vs : List Value} {rows : List Row}
  (R : Rc w s.heap [] dp un A) (hx : XdAt w s.heap x xi dd) (hdd : s.heap.get? dd = some o) (ho : o.IsDictOf (PySem.strKind PG w) kvs) (hlo : (dd == sysModules) = false) (hv : valueAt kvs ap = none ∨ valueAt kvs ap = some (.ref q))
  (hq : valueAt kvs ap = some (.ref q) → TagsAt s.heap q vs ∧ TagRows s.heap vs rows ∧ RowsOk rows ∧ rows.length ≤ 300 ∧ NamesOk nm rows) (hn : PyData.strOk nm = true) (hn2 : nm.length < 100) (ha2 : ap.length < 100) (hd : dp + 15 < recursionLimit) (hu : un + 350 < cLine)
  (hraise : (valueAt kvs ap = none ∨ spanFrom nm rows 0 = none) → ∀ (e : Addr) (h' : Heap) (tk' : Nat), Flown A s.heap e (.ref 159) h' → E (.ref e) { s with heap := h', toks := tk' })
  (hret : ∀ (a b : Nat), valueAt kvs ap = some (.ref q) → spanFrom nm rows 0 = some (a, b) → ∀ (S d : Addr) (n : Nat) (h' : Heap) (tk' : Nat), Keep [] s.heap h' → s.heap.get? S = none → s.heap.get? d = none → h'.get? S = some (tg d ((vs.drop a).take (b - a)) n) → h'.get? d = some emptyDict → Q (.ref S) { s with heap := h', toks := tk' }) :
  wpAny (model PG w) A (call (.ref 477) [.ref x, .str ap ta, .str nm tn]) Q E s := by
  cases R with
  | mk hf hkk B F X T XB TB D hS =>
  rename_i h₀ L m p loose mean mg mb
  have N : News h₀ L s.heap [] := News.none
  rcases hv with hv | hv
  · refine wpAny_call ?_
    k_dflt kc_enter
    intro g L' h' hg hh F' N' B' X' T' XB' TB' D' lt'
    (try dsimp only)
    k_fold
    have hx' := hx.keeps fun b o e => hg b o e (by simp)
    have hdd' := hg _ _ hdd (by simp)
    obtain ⟨t, hx1, hx2⟩ := id hx'.at_
    k_steps
    (with_reducible rename RaisedK _ _ _ _ _ _ _ _ => kR9)
    (with_reducible rename Heap.UpToSlots g _ => kU9)
    exact hraise (.inl hv) _ _ _ (flown_of hg rfl kR9 kU9)
  · obtain ⟨hq1, hq2, hro, hlen, hok⟩ := hq hv
    cases hsp : spanFrom nm rows 0
    · refine wpAny_call ?_
      k_dflt kc_enter
      intro g L' h' hg hh F' N' B' X' T' XB' TB' D' lt'
      (try dsimp only)
      k_fold
      have hx' := hx.keeps fun b o e => hg b o e (by simp)
      have hdd' := hg _ _ hdd (by simp)
      obtain ⟨t, hx1, hx2⟩ := id hx'.at_
      have hq1' := hq1.keeps fun b o e => hg b o e (by simp)
      have hq2' := hq2.keeps fun b o e => hg b o e (by simp)
      k_steps
      (with_reducible rename KtsTurn _ g _ => kT9)
      (with_reducible rename RaisedK _ _ _ _ _ _ _ _ => kR9)
      (with_reducible rename Heap.UpToSlots _ _ => kU9)
      exact hraise (.inr hsp) _ _ _ (flown_of hg rfl kR9 ((kts_slots kT9).trans kU9))
    · rename_i ab
      obtain ⟨a, b⟩ := ab
      refine wpAny_call ?_
      k_dflt kc_enter
      intro g L' h' hg hh F' N' B' X' T' XB' TB' D' lt'
      (try dsimp only)
      k_fold
      have hx' := hx.keeps fun b o e => hg b o e (by simp)
      have hdd' := hg _ _ hdd (by simp)
      obtain ⟨t, hx1, hx2⟩ := id hx'.at_
      have hq1' := hq1.keeps fun b o e => hg b o e (by simp)
      have hq2' := hq2.keeps fun b o e => hg b o e (by simp)
      k_steps
      (with_reducible rename News g L' _ _ => kN)
      (with_reducible rename Fr g L' _ _ => kF)
      exact hret a b hv hsp _ _ _ _ _ (keep_fin (S := []) hg kF.keep) (fresh_of hg (kN _ (.head _)).2.2 (by simp)) (fresh_of hg (kN _ (.tail _ (.head _))).2.2 (by simp)) (kN _ (.head _)).1 (kN _ (.tail _ (.head _))).1
end
section
section
variable {w : World} {dp un : Nat} {l : List Env} {env : Env} {gd : Option (List Code)} {A₀ : Around} {g base hs : Heap} {L x xi dd q : Addr} {m : Str → Option Value} {news : List (Addr × Obj)} {p : Program} {loose : List Str} {mean : ExcName → Option Value} {mg mb : Str → Option Value} {E Q : Value → Shared → Prop} {s : Shared} {o : Obj}
  {kvs : List (Str × Value)} {ap nm : Str} {ta tn : Tok} {vs : List Value} {rows : List Row}
theorem gxl_Sn (hf : env.frame = some L) (hk : env.scope.kind = .function) (B : Below A₀ base l g) (F : Fr g L s.heap m) (N : News g L s.heap news) (X : (Mine.mkK.heap_1 w.params).In g) (T : Top p loose mean mg mb g) (XB : (Mine.mkK.heap_1 w.params).In base) (TB : Top p loose mean mg mb base) (D : KtsDicts (l.filterMap (·.frame)) g)
  (hx : XdAt w s.heap x xi dd) (hdd : s.heap.get? dd = some o) (ho : o.IsDictOf (PySem.strKind PG w) kvs) (hlo : (dd == sysModules) = false) (hv : valueAt kvs ap = none ∨ valueAt kvs ap = some (.ref q))
  (hq : valueAt kvs ap = some (.ref q) → TagsAt s.heap q vs ∧ TagRows s.heap vs rows ∧ RowsOk rows ∧ rows.length ≤ 300 ∧ NamesOk nm rows) (hn : PyData.strOk nm = true) (hn2 : nm.length < 100) (ha2 : ap.length < 100) (hd : dp + 15 < recursionLimit) (hu : un + 350 < cLine)
  (hno : valueAt kvs ap = none ∨ spanFrom nm rows 0 = none)
  (hraise : ∀ e t vs h' tk', RaisedS base (hideAll s.heap (news.map (·.1))) (env :: l) e (.ref 159) t vs news h' → (hideAll s.heap (news.map (·.1))).UpToSlots h' → Fr g L (hideAll s.heap (news.map (·.1))) m → E (.ref e) { s with heap := h', toks := tk' }) :
  wpAny (model PG w) ⟨none, dp, some (env :: l), gd, un⟩ (call (.ref 477) [.ref x, .str ap ta, .str nm tn]) Q E s := by
  refine gxl_c (Rc.mk hf hk B F X T XB TB D (fun _ h => nomatch h)) hx hdd ho hlo hv hq hn hn2 ha2 hd hu (fun _ e h' tk' fl => ?_) fun a b e1 e2 => ?_
  · obtain ⟨t, vs, R, U, F'⟩ := flown_S (A := ⟨none, dp, some (env :: l), gd, un⟩) B F N rfl hf fl
    exact hraise e t vs h' tk' R U F'
  · rcases hno with z | z
    · exact absurd (z.symm.trans e1) (by simp)
    · exact absurd (z.symm.trans e2) (by simp)
theorem gxl_Ss {a b : Nat} (hf : env.frame = some L) (hk : env.scope.kind = .function) (B : Below A₀ base l g) (F : Fr g L s.heap m) (N : News g L s.heap news) (X : (Mine.mkK.heap_1 w.params).In g) (T : Top p loose mean mg mb g) (XB : (Mine.mkK.heap_1 w.params).In base) (TB : Top p loose mean mg mb base) (D : KtsDicts (l.filterMap (·.frame)) g)
  (hx : XdAt w s.heap x xi dd) (hdd : s.heap.get? dd = some o) (ho : o.IsDictOf (PySem.strKind PG w) kvs) (hlo : (dd == sysModules) = false) (hv : valueAt kvs ap = some (.ref q))
  (hq : valueAt kvs ap = some (.ref q) → TagsAt s.heap q vs ∧ TagRows s.heap vs rows ∧ RowsOk rows ∧ rows.length ≤ 300 ∧ NamesOk nm rows) (hn : PyData.strOk nm = true) (hn2 : nm.length < 100) (ha2 : ap.length < 100) (hd : dp + 15 < recursionLimit) (hu : un + 350 < cLine)
  (hsp : spanFrom nm rows 0 = some (a, b))
  (hret : ∀ S d n h' tk', Fr g L h' m → News g L h' ((S, tg d ((vs.drop a).take (b - a)) n) :: (d, emptyDict) :: news) → @Ne Nat d S → AllNe S news → AllNe d news → Keep [] s.heap h' → Q (.ref S) { s with heap := h', toks := tk' }) :
  wpAny (model PG w) ⟨none, dp, some (env :: l), gd, un⟩ (call (.ref 477) [.ref x, .str ap ta, .str nm tn]) Q E s := by
  refine gxl_c (Rc.mk hf hk B F X T XB TB D (fun _ h => nomatch h)) hx hdd ho hlo (.inr hv) hq hn hn2 ha2 hd hu (fun hz => ?_) fun a' b' _ e2 S d n h' tk' kp f1 f2 a1 a2 => ?_
  · rcases hz with z | z
    · exact absurd (z.symm.trans hv) (by simp)
    · exact absurd (z.symm.trans hsp) (by simp)
  · rw [hsp] at e2
    cases e2
    obtain ⟨z1, z2, z3, z4⟩ := news_tags F N kp f1 f2 a1 a2
    exact hret S d n h' tk' (Mine.Fr.after F kp (fun _ h => nomatch h)) z1 z2 (allNe_of z3) (allNe_of z4) kp
end
theorem hq_keep {h h' : Heap} {P : Prop} {q : Addr} {vs : List Value} {rows : List Row} {nm : Str} (hq : P → TagsAt h q vs ∧ TagRows h vs rows ∧ RowsOk rows ∧ rows.length ≤ 300 ∧ NamesOk nm rows) (k : h.StaysIn h') :
    P → TagsAt h' q vs ∧ TagRows h' vs rows ∧ RowsOk rows ∧ rows.length ≤ 300 ∧ NamesOk nm rows := fun z => let ⟨a, b, c⟩ := hq z; ⟨a.keeps k, b.keeps k, c⟩
end
local macro_rules | `(tactic| walk_at "call ref") => `(tactic| (k_here; (with_reducible show wpAny _ _ (call (Value.ref 477) _) _ _ _); k_dflt (first
  | ((refine' gxl_Sn ?hf ?hk ?B ?F ?N ?X ?T ?XB ?TB ?D ?x ?dd ?o ?lo ?hv ?hq ?n1 ?n2 ?a2 ?hd ?hu ?no ?_; (case hf => rfl); (case hk => rfl); (case F => k_asm); (case N => k_asm); (case B => k_asm); (case X => k_asm); (case T => k_asm); (case XB => assumption); (case TB => assumption); (case D => assumption); (case x => exact XdAt.keeps (by assumption) (by k_offL)); (case dd => first | exact Fr.keep (by k_asm) _ _ (by assumption) | exact tg_hd1 (by k_asm) (by k_mem)); (case o => assumption); (case lo => assumption); (case hv => assumption); (case hq => exact hq_keep (by assumption) (by k_offL)); (case n1 => assumption); (case n2 => assumption); (case a2 => assumption); (case no => assumption); (case hd => ktr_room); (case hu => ktr_units); k_whole))
  | ((refine' gxl_Ss ?hf ?hk ?B ?F ?N ?X ?T ?XB ?TB ?D ?x ?dd ?o ?lo ?hv ?hq ?n1 ?n2 ?a2 ?hd ?hu ?no ?_; (case hf => rfl); (case hk => rfl); (case F => k_asm); (case N => k_asm); (case B => k_asm); (case X => k_asm); (case T => k_asm); (case XB => assumption); (case TB => assumption); (case D => assumption); (case x => exact XdAt.keeps (by assumption) (by k_offL)); (case dd => first | exact Fr.keep (by k_asm) _ _ (by assumption) | exact tg_hd1 (by k_asm) (by k_mem)); (case o => assumption); (case lo => assumption); (case hv => assumption); (case hq => exact hq_keep (by assumption) (by k_offL)); (case n1 => assumption); (case n2 => assumption); (case a2 => assumption); (case no => assumption); (case hd => ktr_room); (case hu => ktr_units); k_whole); intro S9 d9 n9 h9 tk9 F9 N9 e9 a9 b9 kp9; (try simp only [AllNe, and_true] at a9 b9); (try dsimp only); (try k_sweep)))))
section
theorem hxl_c {w : World} {A : Around} {s : Shared} {Q E : Value → Shared → Prop} {dp un : Nat} {x xi dd q : Addr} {o : Obj} {kvs : List (Str × Value)} {ap nm : Str} {ta tn : Tok} {vs : List Value} {rows : List Row}
  (R : Rc w s.heap [] dp un A) (hx : XdAt w s.heap x xi dd) (hdd : s.heap.get? dd = some o) (ho : o.IsDictOf (PySem.strKind PG w) kvs) (hlo : (dd == sysModules) = false) (hv : valueAt kvs ap = none ∨ valueAt kvs ap = some (.ref q))
  (hq : valueAt kvs ap = some (.ref q) → TagsAt s.heap q vs ∧ TagRows s.heap vs rows ∧ RowsOk rows ∧ rows.length ≤ 300 ∧ NamesOk nm rows) (hn : PyData.strOk nm = true) (hn2 : nm.length < 100) (ha2 : ap.length < 100) (hd : dp + 18 < recursionLimit) (hu : un + 400 < cLine)
  (hret : ∀ (b : Bool) (h' : Heap) (tk' : Nat), KeepF [] (frs A) s.heap h' → b = ((valueAt kvs ap).isSome && (spanFrom nm rows 0).isSome) → Q (.bool b) { s with heap := h', toks := tk' }) :
  wpAny (model PG w) A (call (.ref 470) [.ref x, .str ap ta, .str nm tn]) Q E s := by
  cases R with
  | mk hf hkk B F X T XB TB D hS =>
  rename_i h₀ L m p loose mean mg mb
  have N : News h₀ L s.heap [] := News.none
  by_cases hno : valueAt kvs ap = none ∨ spanFrom nm rows 0 = none
  · refine wpAny_call ?_
    k_dflt kc_enter
    intro g L' h' hg hh F' N' B' X' T' XB' TB' D' lt'
    (try dsimp only)
    k_fold
    have hx' := hx.keeps fun b o e => hg b o e (by simp)
    have hdd' := hg _ _ hdd (by simp)
    have hq' := hq_keep hq fun b o e => hg b o e (by simp)
    obtain ⟨t, hx1, hx2⟩ := id hx'.at_
    k_steps
    (with_reducible rename KtsTurn _ g _ => kT9)
    (with_reducible rename Fr _ L' _ _ => kF)
    refine hret false _ _ (keepF_fin (S := []) hg kT9 kF.keep) ?_
    rcases hno with z | z <;> simp [z]
  · obtain ⟨hno1, hno2⟩ := not_or.mp hno
    have hv2 := hv.resolve_left hno1
    obtain ⟨⟨a, b⟩, hsp⟩ := Option.ne_none_iff_exists'.mp hno2
    refine wpAny_call ?_
    k_dflt kc_enter
    intro g L' h' hg hh F' N' B' X' T' XB' TB' D' lt'
    (try dsimp only)
    k_fold
    have hx' := hx.keeps fun b o e => hg b o e (by simp)
    have hdd' := hg _ _ hdd (by simp)
    have hq' := hq_keep hq fun b o e => hg b o e (by simp)
    obtain ⟨t, hx1, hx2⟩ := id hx'.at_
    k_steps
    (with_reducible rename Fr g L' _ _ => kF)
    refine hret true _ _ (Keep.toF (keep_fin (S := []) hg kF.keep)) ?_
    simp [hv2, hsp]
end
section
theorem rm_rows {g h : Heap} {L q : Addr} {m : Str → Option Value} {vs : List Value} {rows : List Row} (hr : TagRows g vs rows) (F : Fr g L h m) (hq : g.get? q = none) : ∀ g' : Heap, (∀ a o, h.get? a = some o → a ∉ [q] → g'.get? a = some o) → TagRows g' vs rows :=
  fun g' k => hr.keeps fun b o e => k b o (F.keep _ _ e) fun z => by rw [List.mem_singleton.mp z, hq] at e; cases e
section
variable {w : World} {dp un : Nat} {l : List Env} {env : Env} {gd : Option (List Code)} {A₀ : Around} {g base : Heap} {L x xi dd q : Addr} {m : Str → Option Value} {news : List (Addr × Obj)} {p : Program} {loose : List Str} {mean : ExcName → Option Value} {mg mb : Str → Option Value} {E Q : Value → Shared → Prop} {s : Shared} {o op op4 : Obj}
/-- `add` in K form, its rows all allowed -/
theorem add_K {vs : List Value} {rows : List Row} {ap : Str} {ta : Tok} {kvs : List (Str × Value)} {t : Tok} {ps ps4 : Array Value} (hf : env.frame = some L) (hk : env.scope.kind = .function) (B : Below A₀ base l g) (F : Fr g L s.heap m) (N : News g L s.heap news) (X : (Mine.mkK.heap_1 w.params).In g) (T : Top p loose mean mg mb g)
  (mdd : (dd, o) ∈ news) (m3 : (384, op) ∈ news) (m4 : (444, op4) ∈ news) (hx1 : g.get? x = some (instObj 501 xi)) (hx2 : g.get? xi = some (xdIn w t dd))
  (ho : o.IsDictOf (PySem.strKind PG w) kvs) (hlo : (dd == sysModules) = false) (hkl : kvs.length ≤ 10) (hd384 : @Ne Nat dd 384) (hd444 : @Ne Nat dd 444) (hc8 : IsCT s.heap 388 384 ps) (hc4 : IsCT s.heap 448 444 ps4)
  (hq : (hideAll s.heap [dd, 384, 444]).IsList q vs.toArray ∨ TagsAt (hideAll s.heap [dd, 384, 444]) q vs) (hr : ItemRows (hideAll s.heap [dd, 384, 444]) vs rows) (hro : RowsOk rows) (hsh : RowsSh rows) (hlen : rows.length ≤ 390)
  (hap : PyData.strOk ap = true) (hsa : (rowD (1001, ap)).showable = true ∧ (rowD (1001, ap)).shown.length ≤ 60) (hval : (marked ap rows).all (fun r => validC r.1) = true) (hgd : gd = some []) (hd : dp + 60 < recursionLimit) (hu : un + 600 < cLine)
  (hret : ∀ (S d : Addr) (n : Nat) (vs' : List Value) (o' : Obj) (h' : Heap) (tk' : Nat) (gs' : Array GenState) (ps' ps4' : Array Value), Fr g L h' m → Keep [dd, 384, 444] s.heap h' → h'.get? dd = some o' → o'.IsDictOf (PySem.strKind PG w) (stored kvs ap (.ref S)) → IsCT h' 388 384 ps' → IsCT h' 448 444 ps4' → GN s.gens gs' →
     s.heap.get? S = none → s.heap.get? d = none → h'.get? S = some (tg d vs' n) → h'.get? d = some emptyDict → NewRows s.heap h' vs' (marked ap rows) → Q .none { s with heap := h', toks := tk', gens := gs' }) :
  wpAny (model PG w) ⟨none, dp, some (env :: l), gd, un⟩ (call (.ref 449) [.ref x, .str ap ta, .ref q]) Q E s := by
  subst hgd
  have hS : ∀ c ∈ [dd, 384, 444], g.get? c = none ∧ c ≠ L := fun c hc => by
    simp only [List.mem_cons, List.not_mem_nil, or_false] at hc
    rcases hc with rfl | rfl | rfl
    · exact ⟨(N _ mdd).2.2, (N _ mdd).2.1⟩
    · exact ⟨(N _ m3).2.2, (N _ m3).2.1⟩
    · exact ⟨(N _ m4).2.2, (N _ m4).2.1⟩
  have hx : XdAt w (hideAll s.heap [dd, 384, 444]) x xi dd := ⟨t, ground_in F (fun c hc => (hS c hc).1) _ _ hx1, ground_in F (fun c hc => (hS c hc).1) _ _ hx2⟩
  refine add_c (Rd.mk hf hk B F X T hS) hx (N _ mdd).1 ho hlo hkl hd384 hd444 hc8 hc4 hq hr hro hsh hlen hap hsa rfl hd hu (fun _ S d n vs' o' h' tk' gs' ps' ps4' kp => hret S d n vs' o' h' tk' gs' ps' ps4' (Mine.Fr.after F kp hS) kp) fun hn => ?_
  rw [hval] at hn
  cases hn
end
theorem ItemRows.of_tags {h : Heap} {vs : List Value} {rows : List Row} (t : TagRows h vs rows) : ItemRows h vs rows := ⟨t.1, fun i v r a b => let ⟨c, t1, t2, e, T⟩ := (t.2 i v r a b).at_; ⟨c, t1, t2, e, .tag T⟩⟩
theorem ItemRows.of_tups {h : Heap} {vs : List Value} {rows : List Row} (t : TupRows h vs rows) : ItemRows h vs rows := ⟨t.1, fun i v r a b => let ⟨c, t1, t2, e, T⟩ := (t.2 i v r a b).at_; ⟨c, t1, t2, e, .tup T⟩⟩
theorem ItemRows.app {h : Heap} {vs us : List Value} {rows rws : List Row} (t : ItemRows h vs rows) (u : ItemRows h us rws) : ItemRows h (vs ++ us) (rows ++ rws) := by
  refine ⟨by simp [t.1, u.1], fun i v r a b => ?_⟩
  have e := t.1
  by_cases hi : i < vs.length
  · rw [List.getElem?_append_left hi] at a
    rw [List.getElem?_append_left (by omega)] at b
    exact t.2 i v r a b
  · rw [List.getElem?_append_right (by omega)] at a
    rw [List.getElem?_append_right (by omega), ← e] at b
    exact u.2 _ v r a b
theorem ItemRows.take {h : Heap} {vs : List Value} {rows : List Row} (t : ItemRows h vs rows) (k : Nat) : ItemRows h (vs.take k) (rows.take k) := by
  refine ⟨by simp [t.1], fun i v r a b => ?_⟩
  rw [List.getElem?_take] at a b
  split at a
  · rename_i hi
    rw [if_pos hi] at b
    exact t.2 i v r a b
  · cases a
theorem ItemRows.drop {h : Heap} {vs : List Value} {rows : List Row} (t : ItemRows h vs rows) (k : Nat) : ItemRows h (vs.drop k) (rows.drop k) := by
  refine ⟨by simp [t.1], fun i v r a b => ?_⟩
  rw [List.getElem?_drop] at a b
  exact t.2 _ v r a b
theorem ItemRows.one {h : Heap} {a : Addr} {k : Int} {n : Str} {t1 t2 : Tok} (t : TupAt h a (.int k t1) (.str n t2)) : ItemRows h [.ref a] [(k, n)] := by
  refine ⟨rfl, fun i v r x y => ?_⟩
  cases i with
  | zero =>
    simp at x y
    subst x y
    exact ⟨a, t1, t2, rfl, .tup t⟩
  | succ i => simp at x
/-- what discard_xlist leaves of the rows -/
def cutSpan (rows : List Row) (a b : Nat) : List Row := rows.take a ++ rows.drop b
theorem keepF_cells {fs : List Addr} {g g' h h' : Heap} {news : List (Addr × Obj)} (hg : ∀ a o, h.get? a = some o → a ∉ news.map (·.1) → g.get? a = some o) (T : KtsTurn fs g g') (k : g'.StaysIn h') (hN : ∀ p ∈ news, h.get? p.1 = some p.2) (hN' : ∀ p ∈ news, h'.get? p.1 = some p.2) : KeepF [] fs h h' := by
  have key : ∀ a o, h.get? a = some o → a ∈ news.map (·.1) → h'.get? a = some o := fun a o e m => by
    obtain ⟨p, hp, rfl⟩ := List.mem_map.mp m
    rw [hN p hp] at e
    cases e
    exact hN' p hp
  refine ⟨fun a o e _ m => ?_, fun a o e _ m => ?_⟩
  · by_cases q : a ∈ news.map (·.1)
    · exact key a o e q
    · exact k _ _ (T.other a o (hg a o e q) m)
  · by_cases q : a ∈ news.map (·.1)
    · exact ⟨o.slots, key a o e q⟩
    · obtain ⟨sl, z⟩ := T.frame a o (hg a o e q) m
      exact ⟨sl, k _ _ z⟩
theorem fresh_cells {g h h' : Heap} {news : List (Addr × Obj)} (hg : ∀ a o, h.get? a = some o → a ∉ news.map (·.1) → g.get? a = some o) (k : g.StaysIn h') (hN' : ∀ a ∈ news.map (·.1), ∃ o, h'.get? a = some o) : ∀ z, h'.get? z = none → h.get? z = none := fun z e => by
  cases q : h.get? z with
  | none => rfl
  | some o =>
    by_cases m : z ∈ news.map (·.1)
    · obtain ⟨o', z'⟩ := hN' z m
      rw [e] at z'; cases z'
    · have := k _ _ (hg z o q m)
      rw [e] at this; cases this
theorem NewRows.monoF {h0 h0' h : Heap} {acc : List Value} {rows : List Row} (t : NewRows h0 h acc rows) (f : ∀ z, h0.get? z = none → h0'.get? z = none) : NewRows h0' h acc rows := by
  refine ⟨t.1, fun i v e => ?_⟩
  obtain ⟨x, dx, r, t1, t2, rfl, er, fx, fd, hx, hd⟩ := t.2 i v e
  exact ⟨x, dx, r, t1, t2, rfl, er, f _ fx, f _ fd, hx, hd⟩
theorem cut_mem {rows : List Row} {a b : Nat} : ∀ r ∈ cutSpan rows a b, r ∈ rows := fun r h => by
  rcases List.mem_append.mp h with h | h
  · exact List.mem_of_mem_take h
  · exact List.mem_of_mem_drop h
theorem cut_le {rows : List Row} {a b : Nat} (h : a ≤ b) : (cutSpan rows a b).length ≤ rows.length := by
  simp [cutSpan]; omega
theorem marked_valid {ap : Str} {rows : List Row} (h : rows.all (fun r => validC r.1) = true) : (marked ap rows).all (fun r => validC r.1) = true := by
  rw [List.all_eq_true] at h ⊢
  exact marked_all (p := fun r => validC r.1 = true) (show validC 1001 = true by decide) h
theorem all_sub {rows rows' : List Row} (h : rows.all (fun r => validC r.1) = true) (k : ∀ r ∈ rows', r ∈ rows) : rows'.all (fun r => validC r.1) = true := by
  rw [List.all_eq_true] at h ⊢
  exact fun r hr => h r (k r hr)
end
local macro_rules | `(tactic| walk_at "call ref") => `(tactic| (k_here; (with_reducible show wpAny _ _ (call (Value.ref 355) _) _ _ _); k_dflt (first
  | ((refine' rm_Sn ?hf ?hk ?B ?F ?N ?X ?T ?U ?qd ?r ?ho ?hn ?hl ?hd ?hu ?ok ?sp ?_; (case hf => rfl); (case hk => rfl); (case F => k_asm); (case N => k_asm); (case B => k_asm); (case X => k_asm); (case T => k_asm); (case U => k_updF); (case qd => exact Fr.keep (by k_asm) _ _ (by assumption)); (case r => exact rm_rows (by assumption) (by k_asm) (PyProof.Rows.News.fresh (by k_asm) (by k_mem))); (case ho => assumption); (case hn => assumption); (case hl => assumption); (case ok => assumption); (case sp => assumption); (case hd => ktr_room); (case hu => ktr_units); k_whole))
  | ((refine' rm_Ss ?hf ?hk ?B ?F ?N ?X ?T ?U ?qd ?r ?ho ?hn ?hl ?hd ?hu ?ok ?sp ?_; (case hf => rfl); (case hk => rfl); (case F => k_asm); (case N => k_asm); (case B => k_asm); (case X => k_asm); (case T => k_asm); (case U => k_updF); (case qd => exact Fr.keep (by k_asm) _ _ (by assumption)); (case r => exact rm_rows (by assumption) (by k_asm) (PyProof.Rows.News.fresh (by k_asm) (by k_mem))); (case ho => assumption); (case hn => assumption); (case hl => assumption); (case ok => assumption); (case sp => assumption); (case hd => ktr_room); (case hu => ktr_units); k_whole); intro n9 h9 tk9 F9 N9 kp9; (try dsimp only at N9); (try dsimp only); (try k_sweep)))))
local macro_rules | `(tactic| walk_at "call ref") => `(tactic| (k_here; (with_reducible show wpAny _ _ (call (Value.ref 449) _) _ _ _); refine cut ?_))
section
theorem dxl_n {w : World} {A : Around} {s : Shared} {Q E : Value → Shared → Prop} {dp un : Nat} {x xi dd : Addr} {o : Obj} {kvs : List (Str × Value)} {ap nm : Str} {ta tn : Tok}
  (R : Rc w s.heap [] dp un A) (hx : XdAt w s.heap x xi dd) (hdd : s.heap.get? dd = some o) (ho : o.IsDictOf (PySem.strKind PG w) kvs) (hlo : (dd == sysModules) = false) (hv : valueAt kvs ap = none) (hd : dp + 18 < recursionLimit) (hu : un + 400 < cLine)
  (hret : ∀ (h' : Heap) (tk' : Nat), KeepF [] (frs A) s.heap h' → Q .none { s with heap := h', toks := tk' }) :
  wpAny (model PG w) A (call (.ref 491) [.ref x, .str ap ta, .str nm tn]) Q E s := by
  cases R with
  | mk hf hkk B F X T XB TB D hS =>
  rename_i h₀ L m p loose mean mg mb
  have N : News h₀ L s.heap [] := News.none
  refine wpAny_call ?_
  k_dflt kc_enter
  intro g L' h' hg hh F' N' B' X' T' XB' TB' D' lt'
  (try dsimp only)
  k_fold
  have hx' := hx.keeps fun b o e => hg b o e (by simp)
  have hdd' := hg _ _ hdd (by simp)
  obtain ⟨t, hx1, hx2⟩ := id hx'.at_
  k_steps
  (with_reducible rename KtsTurn _ g _ => kT9)
  (with_reducible rename Fr _ L' _ _ => kF)
  exact hret _ _ (keepF_fin (S := []) hg kT9 kF.keep)
theorem dxl_p {w : World} {A : Around} {s : Shared} {Q E : Value → Shared → Prop} {dp un : Nat} {x xi dd q d : Addr} {o : Obj} {kvs : List (Str × Value)} {ap nm : Str} {ta tn : Tok} {vs : List Value} {rows : List Row} {n : Nat} {ps ps4 : Array Value}
  (R : Rc w s.heap [dd, q, 384, 444] dp un A) (hx : XdAt w (hideAll s.heap [dd, q, 384, 444]) x xi dd) (hdd : s.heap.get? dd = some o) (ho : o.IsDictOf (PySem.strKind PG w) kvs) (hlo : (dd == sysModules) = false) (hkl : kvs.length ≤ 10) (hv : valueAt kvs ap = some (.ref q))
  (hdq : @Ne Nat dd q) (hd384 : @Ne Nat dd 384) (hd444 : @Ne Nat dd 444) (hq384 : @Ne Nat q 384) (hq444 : @Ne Nat q 444) (hc8 : IsCT s.heap 388 384 ps) (hc4 : IsCT s.heap 448 444 ps4)
  (hqo : s.heap.get? q = some (tg d vs n)) (hqd : (hideAll s.heap [dd, q, 384, 444]).get? d = some emptyDict) (hr : TagRows (hideAll s.heap [dd, q, 384, 444]) vs rows) (hro : RowsOk rows) (hsh : RowsSh rows) (hlen : rows.length ≤ 300) (hok : NamesOk nm rows)
  (hall : rows.all (fun r => validC r.1) = true) (hn : PyData.strOk nm = true) (hap : PyData.strOk ap = true) (hsa : (rowD (1001, ap)).showable = true ∧ (rowD (1001, ap)).shown.length ≤ 60) (hgd : A.guards = some []) (hd : dp + 80 < recursionLimit) (hu : un + 900 < cLine)
  (hno : spanFrom nm rows 0 = none → ∀ (h' : Heap) (tk' : Nat), KeepF [] (frs A) s.heap h' → Q .none { s with heap := h', toks := tk' })
  (hret : ∀ (a b : Nat), spanFrom nm rows 0 = some (a, b) → ∀ (S d : Addr) (n : Nat) (vs' : List Value) (o' : Obj) (h' : Heap) (tk' : Nat) (gs' : Array GenState) (ps' ps4' : Array Value), KeepF [dd, q, 384, 444] (frs A) s.heap h' → h'.get? dd = some o' → o'.IsDictOf (PySem.strKind PG w) (stored kvs ap (.ref S)) → IsCT h' 388 384 ps' → IsCT h' 448 444 ps4' → GN s.gens gs' →
     s.heap.get? S = none → s.heap.get? d = none → h'.get? S = some (tg d vs' n) → h'.get? d = some emptyDict → NewRows s.heap h' vs' (marked ap (cutSpan rows a b)) → Q .none { s with heap := h', toks := tk', gens := gs' }) :
  wpAny (model PG w) A (call (.ref 491) [.ref x, .str ap ta, .str nm tn]) Q E s := by
  cases R with
  | mk hf hkk B F X T XB TB D hS =>
  rename_i h₀ L m p loose mean mg mb
  cases hgd
  obtain ⟨op, h384⟩ := code_tab hc8
  obtain ⟨op4, h444⟩ := code_tab hc4
  have N : News h₀ L s.heap [(dd, o), (q, tg d vs n), (384, op), (444, op4)] := fun p hp => by
    simp only [List.mem_cons, List.not_mem_nil, or_false] at hp
    rcases hp with rfl | rfl | rfl | rfl
    · exact ⟨hdd, (hS _ (by simp)).2, (hS _ (by simp)).1⟩
    · exact ⟨hqo, (hS _ (by simp)).2, (hS _ (by simp)).1⟩
    · exact ⟨h384, (hS _ (by simp)).2, (hS _ (by simp)).1⟩
    · exact ⟨h444, (hS _ (by simp)).2, (hS _ (by simp)).1⟩
  have hd9 : @Ne Nat 384 444 := by decide
  cases hsp : spanFrom nm rows 0
  · refine wpAny_call ?_
    k_dflt kc_enter
    intro g L' h' hg hh F' N' B' X' T' XB' TB' D' lt'
    (try dsimp only)
    k_fold
    have hgz : (hideAll s.heap [dd, q, 384, 444]).StaysIn g := fun a ob e => hg a ob (of_hideAll _ e) fun z => by rw [hideAll_none _ (by simpa using z)] at e; cases e
    have hx' := hx.keeps hgz
    have hqd' := hgz _ _ hqd
    have hr' : TagRows g vs rows := hr.keeps hgz
    obtain ⟨t, hx1, hx2⟩ := id hx'.at_
    k_steps
    (with_reducible rename KtsTurn _ g _ => kT9)
    (with_reducible rename Fr _ L' _ _ => kF)
    (with_reducible rename News _ L' _ _ => kN)
    exact hno hsp _ _ (keepF_cells (news := [(dd, o), (q, tg d vs n), (384, op), (444, op4)]) hg kT9 kF.keep (fun p hp => (N p hp).1) fun p hp => (kN p (by first | exact hp | simp_all)).1)
  · rename_i ab
    obtain ⟨a, b⟩ := ab
    refine wpAny_call ?_
    k_dflt kc_enter
    intro g L' h' hg hh F' N' B' X' T' XB' TB' D' lt'
    (try dsimp only)
    k_fold
    have hgz : (hideAll s.heap [dd, q, 384, 444]).StaysIn g := fun a ob e => hg a ob (of_hideAll _ e) fun z => by rw [hideAll_none _ (by simpa using z)] at e; cases e
    have hx' := hx.keeps hgz
    have hqd' := hgz _ _ hqd
    have hr' : TagRows g vs rows := hr.keeps hgz
    have hg0 : h₀.StaysIn g := fun a ob e => hg a ob (F.keep _ _ e) fun q => by
      obtain ⟨z, hz, rfl⟩ := List.mem_map.mp q
      rw [(N z hz).2.2] at e; cases e
    obtain ⟨oc8, hoc8⟩ : ∃ oc, h₀.get? 388 = some oc := ⟨_, X _ _ (by k_is)⟩
    obtain ⟨oc4, hoc4⟩ : ∃ oc, h₀.get? 448 = some oc := ⟨_, X _ _ (by k_is)⟩
    have tab8 := (TabOk.of_code (g := h₀) hc8 F.keep hoc8 h384).mono hg0
    have tab4 := (TabOk.of_code (g := h₀) hc4 F.keep hoc4 h444).mono hg0
    obtain ⟨t, hx1, hx2⟩ := id hx'.at_
    k_steps
    refine Stop.mk ?_
    (with_reducible rename News g L' _ _ => kN)
    (with_reducible rename Fr g L' _ _ => kF)
    have c1 := kN _ (.head _)
    have c2 := kN _ (.tail _ (.head _))
    have c3 := kN _ (.tail _ (.tail _ (.head _)))
    have c4 := kN _ (.tail _ (.tail _ (.tail _ (.head _))))
    obtain ⟨ps8, hc8'⟩ := tab_code tab8 kF.keep c3.1
    obtain ⟨ps44, hc4'⟩ := tab_code tab4 kF.keep c4.1
    have gz : ∀ c ∈ [dd, 384, 444], g.get? c = none := fun c hc => by
      simp only [List.mem_cons, List.not_mem_nil, or_false] at hc
      rcases hc with rfl | rfl | rfl
      · exact c1.2.2
      · exact c3.2.2
      · exact c4.2.2
    have hir : ItemRows (hideAll _ [dd, 384, 444]) (vs.take a ++ vs.drop b) (cutSpan rows a b) := ((ItemRows.of_tags hr').take a |>.app ((ItemRows.of_tags hr').drop b)).keeps (ground_in kF gz)
    have hab := span_lt hsp
    have fr9 := fresh_cells hg kF.keep (fun z hz => by
      simp only [List.map_cons, List.map_nil, List.mem_cons, List.not_mem_nil, or_false] at hz
      rcases hz with rfl | rfl | rfl | rfl
      · exact ⟨_, c1.1⟩
      · exact ⟨_, c2.1⟩
      · exact ⟨_, c3.1⟩
      · exact ⟨_, c4.1⟩)
    (k_dflt (refine' add_K (o := o) (op := op) (op4 := op4) rfl rfl B' kF kN X' T' (.head _) (by k_mem) (by k_mem) hx1 hx2 ho hlo hkl hd384 hd444 hc8' hc4' (.inr ⟨some d, _, _, hideAll_get _ c2.1 (nin3 hdq.symm hq384 hq444)⟩) hir (fun r hr => hro r (cut_mem r hr)) (fun r hr => hsh r (cut_mem r hr)) (Nat.le_trans (cut_le hab) (by omega)) hap hsa (marked_valid (all_sub hall cut_mem)) rfl ?hd ?hu (fun S' d' n' vs' o' h3 tk3 gs3 ps3 ps5 F3 kp3 edd edict e8 e4 egn fS' fd' eS' ed' nr => ?_); (case hd => ktr_room); (case hu => ktr_units)))
    have N3 : News g L' h3 [] := News.none
    clear kF kN
    k_steps
    exact hret a b hsp _ _ _ _ _ _ _ _ _ _ (Keep.toF (keep_fin (S := [dd, q, 384, 444]) hg F3.keep)) edd edict e8 e4 egn (fr9 _ fS') (fr9 _ fd') eS' ed' (nr.monoF fr9)
end
section
abbrev tupO (v1 v2 : Value) : Obj := { cls := .type "tuple", data := .seq #[v1, v2] }
theorem tupO_at {h : Heap} {a : Addr} {v1 v2 : Value} (e : h.get? a = some (tupO v1 v2)) : TupAt h a v1 v2 := ⟨_, e, rfl, _, rfl⟩
theorem xl2_c {w : World} {A : Around} {s : Shared} {Q E : Value → Shared → Prop} {dp un : Nat} {q : Addr} {vs : List Value} {nm : Str} {tn : Tok}
  (R : Rd w s.heap [] dp un A) (hq : s.heap.IsList q vs.toArray) (hn1 : 0 < nm.length) (hn2 : nm.length < 100) (hz : vs.length ≤ 900) (hd : dp + 5 < recursionLimit) (hu : un + 150 < cLine)
  (hret : ∀ (S d a : Addr) (n : Nat) (t1 t2 : Tok) (h' : Heap) (tk' : Nat), Keep [] s.heap h' → s.heap.get? S = none → s.heap.get? d = none → s.heap.get? a = none → h'.get? S = some (tg d ([.ref a, .ref 340] ++ vs ++ [.ref 341]) n) → h'.get? d = some emptyDict → h'.get? a = some (tupO (.int 1000 t1) (.str nm t2)) → Q (.ref S) { s with heap := h', toks := tk' }) :
  wpAny (model PG w) A (call (.ref 348) [.str nm tn, .ref q]) Q E s := by
  cases R with
  | mk hf hkk B F X T hS =>
  rename_i h₀ L m p loose mean mg mb
  have N : News h₀ L s.heap [] := News.none
  refine wpAny_call ?_
  k_dflt cell_enter
  intro g L' h' hg hh F' N' B' X' T' lt'
  (try dsimp only)
  k_fold
  have hq' : g.IsList q vs.toArray := let ⟨o, ho, r⟩ := hq; ⟨o, hg _ _ ho (by simp), r⟩
  k_steps
  (with_reducible rename Heap.StaysIn g _ => kG)
  (with_reducible rename News g L' _ _ => kN)
  exact hret _ _ _ _ _ _ _ _ (keep_fin (S := []) hg kG) (fresh_of hg (kN _ (.tail _ (.head _))).2.2 (by simp)) (fresh_of hg (kN _ (.tail _ (.tail _ (.head _)))).2.2 (by simp)) (fresh_of hg (kN _ (.head _)).2.2 (by simp)) (kN _ (.tail _ (.head _))).1 (kN _ (.tail _ (.tail _ (.head _)))).1 (kN _ (.head _)).1
section
variable {w : World} {dp un : Nat} {l : List Env} {env : Env} {gd : Option (List Code)} {A₀ : Around} {g base : Heap} {L q : Addr} {m : Str → Option Value} {news : List (Addr × Obj)} {p : Program} {loose : List Str} {mean : ExcName → Option Value} {mg mb : Str → Option Value} {E Q : Value → Shared → Prop} {s : Shared}
theorem xl2_K {vs : List Value} {nm : Str} {tn : Tok} (hf : env.frame = some L) (hk : env.scope.kind = .function) (B : Below A₀ base l g) (F : Fr g L s.heap m) (N : News g L s.heap news) (X : (Mine.mkK.heap_1 w.params).In g) (T : Top p loose mean mg mb g)
  (hq : s.heap.IsList q vs.toArray) (hn1 : 0 < nm.length) (hn2 : nm.length < 100) (hz : vs.length ≤ 900) (hd : dp + 5 < recursionLimit) (hu : un + 150 < cLine)
  (hret : ∀ S d a n t1 t2 h' tk', Fr g L h' m → News g L h' ((S, tg d ([.ref a, .ref 340] ++ vs ++ [.ref 341]) n) :: (d, emptyDict) :: (a, tupO (.int 1000 t1) (.str nm t2)) :: news) → @Ne Nat d S → @Ne Nat a S → @Ne Nat a d → AllNe S news → AllNe d news → AllNe a news → Keep [] s.heap h' → Q (.ref S) { s with heap := h', toks := tk' }) :
  wpAny (model PG w) ⟨none, dp, some (env :: l), gd, un⟩ (call (.ref 348) [.str nm tn, .ref q]) Q E s := by
  refine xl2_c (Rd.mk hf hk B F X T (fun _ h => nomatch h)) hq hn1 hn2 hz hd hu fun S d a n t1 t2 h' tk' kp f1 f2 f3 a1 a2 ta => ?_
  obtain ⟨z1, z2, z3, z4⟩ := news_tags F N kp f1 f2 a1 a2
  have na : ∀ z o, s.heap.get? z = some o → @Ne Nat z a := fun z o e q => by
    change z = a at q
    rw [q, f3] at e; cases e
  have frz : a ≠ L ∧ g.get? a = none := by
    refine ⟨fun q => ?_, ?_⟩
    · obtain ⟨oL, _, _, hL, _⟩ := F.ns
      rw [q, hL] at f3; cases f3
    · cases q : g.get? a with
      | none => rfl
      | some o => rw [F.keep _ _ q] at f3; cases f3
  refine hret S d a n t1 t2 h' tk' (Mine.Fr.after F kp (fun _ h => nomatch h)) (fun p hp => ?_) z2 (fun q => ?_) (fun q => ?_) (allNe_of z3) (allNe_of z4) (allNe_of fun p hp => na _ _ (N p hp).1) kp
  · rcases List.mem_cons.mp hp with rfl | hp
    · exact z1 _ (.head _)
    rcases List.mem_cons.mp hp with rfl | hp
    · exact z1 _ (.tail _ (.head _))
    rcases List.mem_cons.mp hp with rfl | hp
    · exact ⟨ta, frz⟩
    · exact z1 _ (.tail _ (.tail _ hp))
  · change a = S at q
    rw [q, a1] at ta; cases ta
  · change a = d at q
    rw [q, a2] at ta
    have := congrArg Obj.data (Option.some.inj ta)
    cases this
end
theorem isList_led {g h : Heap} {L q : Addr} {news : List (Addr × Obj)} {vs : List Value} {n : Nat} (N : News g L h news) (hm : (q, listOf vs.toArray n) ∈ news) : h.IsList q vs.toArray := News.isList N hm
end
local macro_rules | `(tactic| walk_at "call ref") => `(tactic| (k_here; (with_reducible show wpAny _ _ (call (Value.ref 348) _) _ _ _); k_dflt (first | ((refine' xl2_K ?hf ?hk ?B ?F ?N ?X ?T ?q ?n1 ?n2 ?z ?hd ?hu ?_; (case hf => rfl); (case hk => rfl); (case F => k_asm); (case N => k_asm); (case B => k_asm); (case X => k_asm); (case T => k_asm); (case q => exact stays_list (base := _) (by k_offL) (by assumption)); (case n1 => assumption); (case n2 => assumption); (case z => omega); (case hd => ktr_room); (case hu => ktr_units); k_whole); intro S9 d9 a9 n9 t9 u9 h9 tk9 F9 N9 e9 e10 e11 b9 c9 f9 kp9; (try simp only [AllNe, and_true] at b9 c9 f9); clear kp9; (try dsimp only); (try k_sweep)) | refine cut ?_)))
local macro_rules | `(tactic| walk_at "call builtin:list.extend") => `(tactic| (k_here; k_dflt ((refine' tg_extendT ?hh ?F ?N ?X ?U ?d ?q ?p ?r ?z ?_; (case hh => rfl); (case F => k_asm); (case N => k_asm); (case X => k_asm); (case U => k_updF); (case d => first | exact tg_hd1 (by k_asm) (by k_mem) | exact Fr.keep (by k_asm) _ _ (by assumption)); (case q => exact tagsAt_led (by k_asm) (by k_mem)); (case p => (first | omega | (simp; done) | (simp; omega))); (case r => k_ne); (case z => (first | omega | (simp; done) | (simp; omega))); k_whole); intro h9 tk9 n9 F9 N9; (try dsimp only at N9); (try dsimp only))))
section
/-- the rows of xdata_list -/
def xlRows (nm : Str) (rws : List Row) : List Row := (1000, nm) :: obr :: rws ++ [cbr]
/-- what remove_named_list leaves -/
def restRows (nm : Str) (rows : List Row) : List Row := match spanFrom nm rows 0 with | none => rows | some (a, b) => cutSpan rows a b
theorem rest_mem {nm : Str} {rows : List Row} : ∀ r ∈ restRows nm rows, r ∈ rows := fun r h => by
  unfold restRows at h
  split at h
  · exact h
  · exact cut_mem r h
theorem rest_le {nm : Str} {rows : List Row} : (restRows nm rows).length ≤ rows.length := by
  unfold restRows
  split
  · exact Nat.le_refl _
  · rename_i e; exact cut_le (span_lt e)
theorem xl_all {p : Row → Prop} {nm : Str} {rws : List Row} (h1 : p (1000, nm)) (h2 : p obr) (h3 : p cbr) (h : ∀ r ∈ rws, p r) : ∀ r ∈ xlRows nm rws, p r := fun r hr => by
  simp only [xlRows, List.cons_append, List.mem_cons, List.mem_append, List.not_mem_nil, or_false] at hr
  rcases hr with rfl | rfl | hr | rfl
  · exact h1
  · exact h2
  · exact h r hr
  · exact h3
theorem app_all {p : Row → Prop} {a b : List Row} (h1 : ∀ r ∈ a, p r) (h2 : ∀ r ∈ b, p r) : ∀ r ∈ a ++ b, p r := fun r hr => (List.mem_append.mp hr).elim (h1 r) (h2 r)
theorem xl_items {w : World} {h : Heap} {a : Addr} {nm : Str} {t1 t2 : Tok} {us : List Value} {rws : List Row} (X : (Mine.mkK.heap_1 w.params).In h) (ha : TupAt h a (.int 1000 t1) (.str nm t2)) (hr : TupRows h us rws) : ItemRows h ([.ref a, .ref 340] ++ us ++ [.ref 341]) (xlRows nm rws) := by
  obtain ⟨o1, o2, ho⟩ := open_at X
  obtain ⟨c1, c2, hc⟩ := close_at X
  have e : xlRows nm rws = ([(1000, nm)] ++ [obr]) ++ rws ++ [cbr] := by simp [xlRows]
  rw [e]
  exact ((ItemRows.app (ItemRows.app (ItemRows.one ha) (ItemRows.one ho)) (ItemRows.of_tups hr)).app (ItemRows.one hc))
theorem tab_turn {fs : List Addr} {g g9 : Heap} {c P : Addr} {op oc : Obj} (t : TabOk g c P op) (hc : g.get? c = some oc) (hd : ∃ vs, oc.data = .fields vs) (T : KtsTurn fs g g9) (D : KtsDicts fs g) : TabOk g9 c P op := by
  obtain ⟨ps, oc', e, f⟩ := t
  rw [hc] at e
  cases e
  refine ⟨ps, oc, T.other _ _ hc fun m => ?_, f⟩
  obtain ⟨o, es, n, ho, hdd⟩ := D c m
  rw [hc] at ho
  cases ho
  obtain ⟨vs, q⟩ := hd
  rw [q] at hdd
  cases hdd
theorem xl_len {nm : Str} {rws : List Row} : (xlRows nm rws).length = rws.length + 3 := by simp [xlRows]
theorem all_of {rows : List Row} (h : ∀ r ∈ rows, validC r.1 = true) : rows.all (fun r => validC r.1) = true := List.all_eq_true.mpr h
theorem of_all {rows : List Row} (h : rows.all (fun r => validC r.1) = true) : ∀ r ∈ rows, validC r.1 = true := List.all_eq_true.mp h
theorem news_nilF {g h : Heap} {L : Addr} {m : Str → Option Value} (_ : Fr g L h m) : News g L h [] := News.none
theorem rpl_n {w : World} {A : Around} {s : Shared} {Q E : Value → Shared → Prop} {dp un : Nat} {x xi dd q2 : Addr} {o : Obj} {kvs : List (Str × Value)} {ap nm : Str} {ta tn : Tok}
  (R : Rc w s.heap [] dp un A) (hx : XdAt w s.heap x xi dd) (hdd : s.heap.get? dd = some o) (ho : o.IsDictOf (PySem.strKind PG w) kvs) (hlo : (dd == sysModules) = false) (hv : valueAt kvs ap = none) (hd : dp + 18 < recursionLimit) (hu : un + 400 < cLine)
  (hraise : ∀ (e : Addr) (h' : Heap) (tk' : Nat), Flown A s.heap e (.ref 159) h' → E (.ref e) { s with heap := h', toks := tk' }) :
  wpAny (model PG w) A (call (.ref 498) [.ref x, .str ap ta, .str nm tn, .ref q2]) Q E s := by
  cases R with
  | mk hf hkk B F X T XB TB D hS =>
  rename_i h₀ L m p loose mean mg mb
  have N : News h₀ L s.heap [] := News.none
  refine wpAny_call ?_
  k_dflt kc_enter
  intro g L' h' hg hh F' N' B' X' T' XB' TB' D' lt'
  (try dsimp only)
  k_fold
  have hx' := hx.keeps fun b o e => hg b o e (by simp)
  have hdd' := hg _ _ hdd (by simp)
  obtain ⟨t, hx1, hx2⟩ := id hx'.at_
  k_steps
  (with_reducible rename RaisedK _ _ _ _ _ _ _ _ => kR9)
  (with_reducible rename Heap.UpToSlots g _ => kU9)
  exact hraise _ _ _ (flown_of hg rfl kR9 kU9)
theorem isList_keep {h h' : Heap} {q : Addr} {vs : List Value} (t : h.IsList q vs.toArray) (k : ∀ b o, h.get? b = some o → h'.get? b = some o) : h'.IsList q vs.toArray := let ⟨o, a, r⟩ := t; ⟨o, k _ _ a, r⟩
theorem hz_ground {h g : Heap} {S fs l : List Addr} (hg : ∀ a o, h.get? a = some o → a ∉ l → g.get? a = some o) (hl : ∀ a ∈ l, a ∈ S) : ∀ a o, (hideAll h (S ++ fs)).get? a = some o → g.get? a = some o ∧ a ∉ fs := fun a o e => by
  have nz : a ∉ S ++ fs := fun m => by rw [hideAll_none _ m] at e; cases e
  exact ⟨hg a o (of_hideAll _ e) fun z => nz (List.mem_append_left _ (hl a z)), fun z => nz (List.mem_append_right _ z)⟩
theorem rpl_p {w : World} {A : Around} {s : Shared} {Q E : Value → Shared → Prop} {dp un : Nat} {x xi dd q d q2 : Addr} {o : Obj} {kvs : List (Str × Value)} {ap nm : Str} {ta tn : Tok} {vs : List Value} {rows rws : List Row} {us : List Value} {n : Nat} {ps ps4 : Array Value}
  (R : Rc w s.heap [dd, q, 384, 444] dp un A) (hx : XdAt w (hideAll s.heap ([dd, q, 384, 444] ++ frs A)) x xi dd) (hdd : s.heap.get? dd = some o) (ho : o.IsDictOf (PySem.strKind PG w) kvs) (hlo : (dd == sysModules) = false) (hkl : kvs.length ≤ 10) (hv : valueAt kvs ap = some (.ref q))
  (hdq : @Ne Nat dd q) (hd384 : @Ne Nat dd 384) (hd444 : @Ne Nat dd 444) (hq384 : @Ne Nat q 384) (hq444 : @Ne Nat q 444) (hc8 : IsCT s.heap 388 384 ps) (hc4 : IsCT s.heap 448 444 ps4)
  (hqo : s.heap.get? q = some (tg d vs n)) (hqd : (hideAll s.heap ([dd, q, 384, 444] ++ frs A)).get? d = some emptyDict) (hr : TagRows (hideAll s.heap ([dd, q, 384, 444] ++ frs A)) vs rows) (hro : RowsOk rows) (hsh : RowsSh rows) (hlen : rows.length ≤ 300) (hok : NamesOk nm rows)
  (hall : rows.all (fun r => validC r.1) = true) (hn : PyData.strOk nm = true) (hap : PyData.strOk ap = true) (hsa : (rowD (1001, ap)).showable = true ∧ (rowD (1001, ap)).shown.length ≤ 60) (hgd : A.guards = some []) (hd : dp + 80 < recursionLimit) (hu : un + 900 < cLine)
  (hq2 : (hideAll s.heap ([dd, q, 384, 444] ++ frs A)).IsList q2 us.toArray) (hr2 : TupRows (hideAll s.heap ([dd, q, 384, 444] ++ frs A)) us rws) (hro2 : RowsOk rws) (hsh2 : RowsSh rws) (hall2 : rws.all (fun r => validC r.1) = true) (hlen2 : rws.length ≤ 50)
  (hn0 : 0 < nm.length) (hn2 : nm.length < 100) (hsn : (rowD (1000, nm)).showable = true ∧ (rowD (1000, nm)).shown.length ≤ 60)
  (hret : ∀ (S d : Addr) (n : Nat) (vs' : List Value) (o' : Obj) (h' : Heap) (tk' : Nat) (gs' : Array GenState) (ps' ps4' : Array Value), KeepF [dd, q, 384, 444] (frs A) s.heap h' → h'.get? dd = some o' → o'.IsDictOf (PySem.strKind PG w) (stored kvs ap (.ref S)) → IsCT h' 388 384 ps' → IsCT h' 448 444 ps4' → GN s.gens gs' →
     s.heap.get? S = none → s.heap.get? d = none → h'.get? S = some (tg d vs' n) → h'.get? d = some emptyDict → NewRows s.heap h' vs' (marked ap (restRows nm rows ++ xlRows nm rws)) → Q .none { s with heap := h', toks := tk', gens := gs' }) :
  wpAny (model PG w) A (call (.ref 498) [.ref x, .str ap ta, .str nm tn, .ref q2]) Q E s := by
  cases R with
  | mk hf hkk B F X T XB TB D hS =>
  rename_i gd env outer A₀ base h₀ L m p loose mean mg mb
  cases hgd
  obtain ⟨op, h384⟩ := code_tab hc8
  obtain ⟨op4, h444⟩ := code_tab hc4
  have N : News h₀ L s.heap [(dd, o), (q, tg d vs n), (384, op), (444, op4)] := fun p hp => by
    simp only [List.mem_cons, List.not_mem_nil, or_false] at hp
    rcases hp with rfl | rfl | rfl | rfl
    · exact ⟨hdd, (hS _ (by simp)).2, (hS _ (by simp)).1⟩
    · exact ⟨hqo, (hS _ (by simp)).2, (hS _ (by simp)).1⟩
    · exact ⟨h384, (hS _ (by simp)).2, (hS _ (by simp)).1⟩
    · exact ⟨h444, (hS _ (by simp)).2, (hS _ (by simp)).1⟩
  have hd9 : @Ne Nat 384 444 := by decide
  have hvl2 : us.length = rws.length := hr2.1
  have hvl : vs.length = rows.length := hr.1
  have ro : RowsOk (restRows nm rows ++ xlRows nm rws) := app_all (fun r h => hro r (rest_mem r h)) (xl_all hn (by decide +kernel) (by decide +kernel) hro2)
  have rsh : RowsSh (restRows nm rows ++ xlRows nm rws) := app_all (fun r h => hsh r (rest_mem r h)) (xl_all hsn (by decide +kernel) (by decide +kernel) hsh2)
  have rlen : (restRows nm rows ++ xlRows nm rws).length ≤ 390 := by
    have := rest_le (nm := nm) (rows := rows)
    rw [List.length_append, xl_len]; omega
  have rall : (restRows nm rows ++ xlRows nm rws).all (fun r => validC r.1) = true := all_of (app_all (fun r h => of_all hall r (rest_mem r h)) (xl_all (show validC 1000 = true by decide) (show validC 1002 = true by decide) (show validC 1002 = true by decide) (of_all hall2)))
  obtain ⟨oc8, hoc8⟩ : ∃ oc, h₀.get? 388 = some oc := ⟨_, X _ _ (by k_is)⟩
  obtain ⟨oc4, hoc4⟩ : ∃ oc, h₀.get? 448 = some oc := ⟨_, X _ _ (by k_is)⟩
  have f8 := code_fields hc8 (F.keep _ _ hoc8)
  have f4 := code_fields hc4 (F.keep _ _ hoc4)
  cases hsp : spanFrom nm rows 0
  · refine wpAny_call ?_
    k_dflt kc_enter
    intro g L' h' hg hh F' N' B' X' T' XB' TB' D' lt'
    (try dsimp only)
    k_fold
    have hgz := hz_ground (S := [dd, q, 384, 444]) (fs := frs ⟨none, dp, some (env :: outer), some [], un⟩) hg (fun a h => h)
    have hzg : (hideAll s.heap ([dd, q, 384, 444] ++ frs ⟨none, dp, some (env :: outer), some [], un⟩)).StaysIn g := fun a ob e => (hgz a ob e).1
    have hx' := hx.keeps hzg
    have hqd' := hzg _ _ hqd
    have hr' : TagRows g vs rows := hr.keeps hzg
    have hq2' : g.IsList q2 us.toArray := let ⟨o, a, r⟩ := hq2; ⟨o, hzg _ _ a, r⟩
    have hg0 : h₀.StaysIn g := fun a ob e => hg a ob (F.keep _ _ e) fun q => by
      obtain ⟨z, hz, rfl⟩ := List.mem_map.mp q
      rw [(N z hz).2.2] at e; cases e
    have tab8 := (TabOk.of_code (g := h₀) hc8 F.keep hoc8 h384).mono hg0
    have tab4 := (TabOk.of_code (g := h₀) hc4 F.keep hoc4 h444).mono hg0
    have hr2' : TupRows g us rws := hr2.keeps hzg
    obtain ⟨t, hx1, hx2⟩ := id hx'.at_
    k_lt lt'
    k_steps
    refine Stop.mk ?_
    (with_reducible rename KtsTurn _ g _ => kT9)
    have hz9 := fun a ob e => kT9.other a ob (hgz a ob e).1 (hgz a ob e).2
    have hx9 := hx.keeps hz9
    have hqd9 := hz9 _ _ hqd
    have hr9 := hr.keeps hz9
    have hq29 := isList_keep hq2 hz9
    have hr29 := hr2.keeps hz9
    obtain ⟨t9, hx19, hx29⟩ := id hx9.at_
    k_steps
    refine Stop.mk ?_
    have t8 := tab_turn tab8 (hg0 _ _ hoc8) f8 kT9 D'
    have t4 := tab_turn tab4 (hg0 _ _ hoc4) f4 kT9 D'
    (with_reducible rename News _ L' _ _ => kN)
    (with_reducible rename Fr _ L' _ _ => kF)
    have c1 := kN _ (.tail _ (.tail _ (.tail _ (.head _))))
    have c2 := kN _ (.tail _ (.tail _ (.tail _ (.tail _ (.head _)))))
    have c3 := kN _ (.tail _ (.tail _ (.tail _ (.tail _ (.tail _ (.head _))))))
    have c4 := kN _ (.tail _ (.tail _ (.tail _ (.tail _ (.tail _ (.tail _ (.head _)))))))
    have c5 := kN _ (.tail _ (.tail _ (.head _)))
    obtain ⟨ps8, hc8'⟩ := tab_code t8 kF.keep c3.1
    obtain ⟨ps44, hc4'⟩ := tab_code t4 kF.keep c4.1
    have gi := ground_in (Z := [dd, 384, 444]) kF (by
      intro c hc
      simp only [List.mem_cons, List.not_mem_nil, or_false] at hc
      rcases hc with rfl | rfl | rfl
      · exact c1.2.2
      · exact c3.2.2
      · exact c4.2.2)
    have hir : ItemRows _ _ (rows ++ xlRows nm rws) := ItemRows.app ((ItemRows.of_tags hr9).keeps gi) (xl_items (Frag.In.keeps (by k_asm) gi) (tupO_at (hideAll_get [dd, 384, 444] c5.1 (nin3 (by omega) (by omega) (by omega)))) (hr29.keeps gi))
    have er : restRows nm rows = rows := by unfold restRows; rw [hsp]
    rw [← er] at hir
    have fr9 : ∀ z, Heap.get? _ z = none → s.heap.get? z = none := fun z e => by
      cases q0 : s.heap.get? z with
      | none => rfl
      | some ob =>
        exfalso
        by_cases m : z ∈ [dd, q, 384, 444]
        · simp only [List.mem_cons, List.not_mem_nil, or_false] at m
          rcases m with rfl | rfl | rfl | rfl
          · rw [c1.1] at e; cases e
          · rw [c2.1] at e; cases e
          · rw [c3.1] at e; cases e
          · rw [c4.1] at e; cases e
        · obtain ⟨sl, z1⟩ := kT9.up (hg z ob q0 m)
          rw [kF.keep _ _ z1] at e; cases e
    (k_dflt (refine' add_K (o := o) (op := op) (op4 := op4) rfl rfl (by k_asm) kF kN (by k_asm) (by k_asm) (by k_mem) (by k_mem) (by k_mem) hx19 hx29 ho hlo hkl hd384 hd444 hc8' hc4' (.inr ⟨some d, _, _, hideAll_get _ c2.1 (nin3 hdq.symm hq384 hq444)⟩) hir ro rsh rlen hap hsa (marked_valid rall) rfl ?hd ?hu (fun S' d' n' vs' o' h3 tk3 gs3 ps3 ps5 F3 kp3 edd edict e8 e4 egn fS' fd' eS' ed' nr => ?_); (case hd => ktr_room); (case hu => ktr_units)))
    have N3 := news_nilF F3
    clear kF kN
    k_steps
    exact hret _ _ _ _ _ _ _ _ _ _ (keepF_fin (S := [dd, q, 384, 444]) hg kT9 F3.keep) edd edict e8 e4 egn (fr9 _ fS') (fr9 _ fd') eS' ed' (nr.monoF fr9)
  · rename_i ab
    obtain ⟨a, b⟩ := ab
    refine wpAny_call ?_
    k_dflt kc_enter
    intro g L' h' hg hh F' N' B' X' T' XB' TB' D' lt'
    (try dsimp only)
    k_fold
    have hgz := hz_ground (S := [dd, q, 384, 444]) (fs := frs ⟨none, dp, some (env :: outer), some [], un⟩) hg (fun a h => h)
    have hzg : (hideAll s.heap ([dd, q, 384, 444] ++ frs ⟨none, dp, some (env :: outer), some [], un⟩)).StaysIn g := fun a ob e => (hgz a ob e).1
    have hx' := hx.keeps hzg
    have hqd' := hzg _ _ hqd
    have hr' : TagRows g vs rows := hr.keeps hzg
    have hq2' : g.IsList q2 us.toArray := let ⟨o, a, r⟩ := hq2; ⟨o, hzg _ _ a, r⟩
    have hg0 : h₀.StaysIn g := fun a ob e => hg a ob (F.keep _ _ e) fun q => by
      obtain ⟨z, hz, rfl⟩ := List.mem_map.mp q
      rw [(N z hz).2.2] at e; cases e
    have tab8 := (TabOk.of_code (g := h₀) hc8 F.keep hoc8 h384).mono hg0
    have tab4 := (TabOk.of_code (g := h₀) hc4 F.keep hoc4 h444).mono hg0
    have hr2' : TupRows g us rws := hr2.keeps hzg
    obtain ⟨t, hx1, hx2⟩ := id hx'.at_
    k_lt lt'
    k_steps
    refine Stop.mk ?_
    have t8 := tab8
    have t4 := tab4
    (with_reducible rename News _ L' _ _ => kN)
    (with_reducible rename Fr _ L' _ _ => kF)
    have c1 := kN _ (.tail _ (.tail _ (.tail _ (.head _))))
    have c2 := kN _ (.tail _ (.tail _ (.tail _ (.tail _ (.head _)))))
    have c3 := kN _ (.tail _ (.tail _ (.tail _ (.tail _ (.tail _ (.head _))))))
    have c4 := kN _ (.tail _ (.tail _ (.tail _ (.tail _ (.tail _ (.tail _ (.head _)))))))
    have c5 := kN _ (.tail _ (.tail _ (.head _)))
    obtain ⟨ps8, hc8'⟩ := tab_code t8 kF.keep c3.1
    obtain ⟨ps44, hc4'⟩ := tab_code t4 kF.keep c4.1
    have gi := ground_in (Z := [dd, 384, 444]) kF (by
      intro c hc
      simp only [List.mem_cons, List.not_mem_nil, or_false] at hc
      rcases hc with rfl | rfl | rfl
      · exact c1.2.2
      · exact c3.2.2
      · exact c4.2.2)
    have hir : ItemRows _ _ (cutSpan rows a b ++ xlRows nm rws) := ItemRows.app ((((ItemRows.of_tags hr').take a).app ((ItemRows.of_tags hr').drop b)).keeps gi) (xl_items (Frag.In.keeps (by k_asm) gi) (tupO_at (hideAll_get [dd, 384, 444] c5.1 (nin3 (by omega) (by omega) (by omega)))) (hr2'.keeps gi))
    have er : restRows nm rows = cutSpan rows a b := by unfold restRows; rw [hsp]
    rw [← er] at hir
    have fr9 : ∀ z, Heap.get? _ z = none → s.heap.get? z = none := fun z e => by
      cases q0 : s.heap.get? z with
      | none => rfl
      | some ob =>
        exfalso
        by_cases m : z ∈ [dd, q, 384, 444]
        · simp only [List.mem_cons, List.not_mem_nil, or_false] at m
          rcases m with rfl | rfl | rfl | rfl
          · rw [c1.1] at e; cases e
          · rw [c2.1] at e; cases e
          · rw [c3.1] at e; cases e
          · rw [c4.1] at e; cases e
        · rw [kF.keep _ _ (hg z ob q0 m)] at e; cases e
    (k_dflt (refine' add_K (o := o) (op := op) (op4 := op4) rfl rfl (by k_asm) kF kN (by k_asm) (by k_asm) (by k_mem) (by k_mem) (by k_mem) hx1 hx2 ho hlo hkl hd384 hd444 hc8' hc4' (.inr ⟨some d, _, _, hideAll_get _ c2.1 (nin3 hdq.symm hq384 hq444)⟩) hir ro rsh rlen hap hsa (marked_valid rall) rfl ?hd ?hu (fun S' d' n' vs' o' h3 tk3 gs3 ps3 ps5 F3 kp3 edd edict e8 e4 egn fS' fd' eS' ed' nr => ?_); (case hd => ktr_room); (case hu => ktr_units)))
    have N3 := news_nilF F3
    clear kF kN
    k_steps
    exact hret _ _ _ _ _ _ _ _ _ _ (Keep.toF (keep_fin (S := [dd, q, 384, 444]) hg F3.keep)) edd edict e8 e4 egn (fr9 _ fS') (fr9 _ fd') eS' ed' (nr.monoF fr9)
end
section
section
variable {prog : Program} {w : World} {A : Around} {E : Value → Shared → Prop} {s : Shared} {h₀ : Heap} {L x q : Addr} {m : Str → Option Value} {news : List (Addr × Obj)} {gN : Obj → List (Addr × Obj)} {vs us : List Value} {n : Nat}
/-- a list of the ledger extended by a Tags -/
theorem lg_extendT {Q : Value → Shared → Prop} (hh : A.handled = none) (F : Fr h₀ L s.heap m) (N : News h₀ L s.heap news) (X : (Mine.mkK.heap_1 w.params).In h₀) (U : UpdF x (listOf vs.toArray n) news gN) (hq : TagsAt s.heap q us) (h0 : 0 < us.length) (hz : vs.length + us.length ≤ 1000)
    (h : ∀ h' tk' n', Fr h₀ L h' m → News h₀ L h' (gN (listOf (vs ++ us).toArray n')) → Q .none { s with heap := h', toks := tk' }) : wpAny (model prog w) A (call (.builtin "list.extend") [.ref x, .ref q]) Q E s := by
  obtain ⟨hx, hS⟩ := updF_in N U
  refine ls_extend_tags hh (X.keeps F.keep) hx hq h0 hz fun h' tk' n' k e => ?_
  exact h h' tk' n' (Mine.Fr.after F k hS) (news_updF N k U e)
end
theorem keepF_call {S : List Addr} {A A' : Around} {L' : Addr} {h g h1 h2 : Heap} (hfr : frs A' = L' :: frs A) (hL : h.get? L' = none) (k1 : ∀ a o, h.get? a = some o → h1.get? a = some o) (k2 : KeepF S (frs A') h1 h2) : KeepF S (frs A) h h2 := by
  refine ⟨fun a o e n m => k2.keep a o (k1 a o e) n ?_, fun a o e n m => k2.up a o (k1 a o e) n ?_⟩
  · rw [hfr]
    intro z
    rcases List.mem_cons.mp z with rfl | z
    · rw [hL] at e; cases e
    · exact m z
  · rw [hfr]; exact .tail _ m
theorem hz_call {S fs : List Addr} {h g h1 : Heap} {L' : Addr} (hz : ∀ a o, (hideAll h (S ++ fs)).get? a = some o → g.get? a = some o ∧ a ∉ fs) (hg : g.StaysIn h1) (hL : g.get? L' = none) : (hideAll h (S ++ fs)).StaysIn (hideAll h1 (S ++ (L' :: fs))) := fun a o e => by
  have nz : a ∉ S ++ fs := fun m => by rw [hideAll_none _ m] at e; cases e
  obtain ⟨e1, e2⟩ := hz a o e
  refine hideAll_get _ (hg _ _ e1) fun m => ?_
  rcases List.mem_append.mp m with m | m
  · exact nz (List.mem_append_left _ m)
  · rcases List.mem_cons.mp m with rfl | m
    · rw [hL] at e1; cases e1
    · exact e2 m
end
local macro_rules | `(tactic| walk_at "call builtin:list.extend") => `(tactic| (k_here; k_dflt ((refine' lg_extendT (vs := [_]) ?hh ?F ?N ?X ?U ?q ?p ?z ?_; (case hh => rfl); (case F => k_asm); (case N => k_asm); (case X => k_asm); (case U => k_updF); (case q => exact tagsAt_led (by k_asm) (by k_mem)); (case p => (first | omega | (simp; done) | (simp; omega))); (case z => (first | omega | (simp; done) | (simp; omega))); k_whole); intro h9 tk9 n9 F9 N9; (try dsimp only at N9); (try dsimp only))))
local macro_rules | `(tactic| walk_at "call ref") => `(tactic| (k_here; (with_reducible show wpAny _ _ (call (Value.ref 498) _) _ _ _); refine cut ?_))
section
theorem sxl_n {w : World} {A : Around} {s : Shared} {Q E : Value → Shared → Prop} {dp un : Nat} {x xi dd q2 : Addr} {o : Obj} {kvs : List (Str × Value)} {ap nm : Str} {ta tn : Tok} {rws : List Row} {us : List Value} {ps ps4 : Array Value}
  (R : Rd w s.heap [dd, 384, 444] dp un A) (hx : XdAt w (hideAll s.heap [dd, 384, 444]) x xi dd) (hdd : s.heap.get? dd = some o) (ho : o.IsDictOf (PySem.strKind PG w) kvs) (hlo : (dd == sysModules) = false) (hkl : kvs.length ≤ 10) (hv : valueAt kvs ap = none)
  (hd384 : @Ne Nat dd 384) (hd444 : @Ne Nat dd 444) (hc8 : IsCT s.heap 388 384 ps) (hc4 : IsCT s.heap 448 444 ps4) (hn : PyData.strOk nm = true) (hap : PyData.strOk ap = true) (hsa : (rowD (1001, ap)).showable = true ∧ (rowD (1001, ap)).shown.length ≤ 60) (hgd : A.guards = some []) (hd : dp + 80 < recursionLimit) (hu : un + 900 < cLine)
  (hq2 : (hideAll s.heap [dd, 384, 444]).IsList q2 us.toArray) (hr2 : TupRows (hideAll s.heap [dd, 384, 444]) us rws) (hro2 : RowsOk rws) (hsh2 : RowsSh rws) (hall2 : rws.all (fun r => validC r.1) = true) (hlen2 : rws.length ≤ 50)
  (hn0 : 0 < nm.length) (hn2 : nm.length < 100) (hsn : (rowD (1000, nm)).showable = true ∧ (rowD (1000, nm)).shown.length ≤ 60)
  (hret : ∀ (S d : Addr) (n : Nat) (vs' : List Value) (o' : Obj) (h' : Heap) (tk' : Nat) (gs' : Array GenState) (ps' ps4' : Array Value), Keep [dd, 384, 444] s.heap h' → h'.get? dd = some o' → o'.IsDictOf (PySem.strKind PG w) (stored kvs ap (.ref S)) → IsCT h' 388 384 ps' → IsCT h' 448 444 ps4' → GN s.gens gs' →
     s.heap.get? S = none → s.heap.get? d = none → h'.get? S = some (tg d vs' n) → h'.get? d = some emptyDict → NewRows s.heap h' vs' (marked ap ((1001, ap) :: xlRows nm rws)) → Q .none { s with heap := h', toks := tk', gens := gs' }) :
  wpAny (model PG w) A (call (.ref 484) [.ref x, .str ap ta, .str nm tn, .ref q2]) Q E s := by
  cases R with
  | mk hf hkk B F X T hS =>
  rename_i gd env outer A₀ base h₀ L m p loose mean mg mb
  cases hgd
  obtain ⟨op, h384⟩ := code_tab hc8
  obtain ⟨op4, h444⟩ := code_tab hc4
  have N : News h₀ L s.heap [(dd, o), (384, op), (444, op4)] := fun p hp => by
    simp only [List.mem_cons, List.not_mem_nil, or_false] at hp
    rcases hp with rfl | rfl | rfl
    · exact ⟨hdd, (hS _ (by simp)).2, (hS _ (by simp)).1⟩
    · exact ⟨h384, (hS _ (by simp)).2, (hS _ (by simp)).1⟩
    · exact ⟨h444, (hS _ (by simp)).2, (hS _ (by simp)).1⟩
  have hb : (valueAt kvs ap).isSome = false := by rw [hv]; rfl
  have hvl2 : us.length = rws.length := hr2.1
  have ro : RowsOk ((1001, ap) :: xlRows nm rws) := fun r hr => (List.mem_cons.mp hr).elim (fun e => e ▸ hap) (xl_all hn (by decide +kernel) (by decide +kernel) hro2 r)
  have rsh : RowsSh ((1001, ap) :: xlRows nm rws) := fun r hr => (List.mem_cons.mp hr).elim (fun e => e ▸ hsa) (xl_all hsn (by decide +kernel) (by decide +kernel) hsh2 r)
  have rlen : ((1001, ap) :: xlRows nm rws).length ≤ 390 := by
    rw [List.length_cons, xl_len]; omega
  have rall : ((1001, ap) :: xlRows nm rws).all (fun r => validC r.1) = true := all_of fun r hr => (List.mem_cons.mp hr).elim (fun e => e ▸ (show validC 1001 = true by decide)) (xl_all (p := fun r => validC r.1 = true) (show validC 1000 = true by decide) (show validC 1002 = true by decide) (show validC 1002 = true by decide) (of_all hall2) r)
  obtain ⟨oc8, hoc8⟩ : ∃ oc, h₀.get? 388 = some oc := ⟨_, X _ _ (by k_is)⟩
  obtain ⟨oc4, hoc4⟩ : ∃ oc, h₀.get? 448 = some oc := ⟨_, X _ _ (by k_is)⟩
  refine wpAny_call ?_
  k_dflt cell_enter
  intro g L' h' hg hh F' N' B' X' T' lt'
  (try dsimp only)
  k_fold
  have hzg : (hideAll s.heap [dd, 384, 444]).StaysIn g := fun a ob e => hg a ob (of_hideAll _ e) fun q => by rw [hideAll_none _ (by simpa using q)] at e; cases e
  have hg0 : h₀.StaysIn g := fun a ob e => hg a ob (F.keep _ _ e) fun q => by
    obtain ⟨z, hz, rfl⟩ := List.mem_map.mp q
    rw [(N z hz).2.2] at e; cases e
  have tab8 := (TabOk.of_code (g := h₀) hc8 F.keep hoc8 h384).mono hg0
  have tab4 := (TabOk.of_code (g := h₀) hc4 F.keep hoc4 h444).mono hg0
  have hx' := hx.keeps hzg
  have hq2' : g.IsList q2 us.toArray := isList_keep hq2 hzg
  have hr2' : TupRows g us rws := hr2.keeps hzg
  obtain ⟨t, hx1, hx2⟩ := id hx'.at_
  k_lt lt'
  k_steps
  refine Stop.mk ?_
  (with_reducible rename News g L' _ _ => kN)
  (with_reducible rename Fr g L' _ _ => kF)
  have c1 := kN _ (.tail _ (.tail _ (.tail _ (.tail _ (.tail _ (.head _))))))
  have c3 := kN _ (.tail _ (.tail _ (.tail _ (.tail _ (.tail _ (.tail _ (.head _)))))))
  have c4 := kN _ (.tail _ (.tail _ (.tail _ (.tail _ (.tail _ (.tail _ (.tail _ (.head _))))))))
  have c5 := kN _ (.tail _ (.tail _ (.head _)))
  have c6 := kN _ (.tail _ (.tail _ (.tail _ (.head _))))
  have c7 := kN _ (.tail _ (.tail _ (.tail _ (.tail _ (.head _)))))
  obtain ⟨ps8, hc8'⟩ := tab_code tab8 kF.keep c3.1
  obtain ⟨ps44, hc4'⟩ := tab_code tab4 kF.keep c4.1
  have gi := ground_in (Z := [dd, 384, 444]) kF (by
    intro c hc
    simp only [List.mem_cons, List.not_mem_nil, or_false] at hc
    rcases hc with rfl | rfl | rfl
    · exact c1.2.2
    · exact c3.2.2
    · exact c4.2.2)
  have hir : ItemRows _ _ ([(1001, ap)] ++ xlRows nm rws) := ItemRows.app (ItemRows.one (tupO_at (hideAll_get [dd, 384, 444] c7.1 (nin3 (by omega) (by omega) (by omega))))) (xl_items (Frag.In.keeps (by k_asm) gi) (tupO_at (hideAll_get [dd, 384, 444] c5.1 (nin3 (by omega) (by omega) (by omega)))) (hr2'.keeps gi))
  have fr9 := fresh9 hg kF.keep c1.1 c3.1 c4.1
  (k_dflt (refine' add_K (o := o) (op := op) (op4 := op4) rfl rfl (by k_asm) kF kN (by k_asm) (by k_asm) (by k_mem) (by k_mem) (by k_mem) hx1 hx2 ho hlo hkl hd384 hd444 hc8' hc4' (.inl ⟨_, hideAll_get _ c6.1 (nin3 (by omega) (by omega) (by omega)), rfl, _, rfl⟩) hir ro rsh rlen hap hsa (marked_valid rall) rfl ?hd ?hu (fun S' d' n' vs' o' h3 tk3 gs3 ps3 ps5 F3 kp3 edd edict e8 e4 egn fS' fd' eS' ed' nr => ?_); (case hd => ktr_room); (case hu => ktr_units)))
  have N3 := news_nilF F3
  clear kF kN
  k_steps
  exact hret _ _ _ _ _ _ _ _ _ _ (keep_fin (S := [dd, 384, 444]) hg F3.keep) edd edict e8 e4 egn (fr9 _ fS') (fr9 _ fd') eS' ed' (nr.monoF fr9)
theorem sxl_p {w : World} {A : Around} {s : Shared} {Q E : Value → Shared → Prop} {dp un : Nat} {x xi dd q d q2 : Addr} {o : Obj} {kvs : List (Str × Value)} {ap nm : Str} {ta tn : Tok} {vs : List Value} {rows rws : List Row} {us : List Value} {n : Nat} {ps ps4 : Array Value}
  (R : Rc w s.heap [dd, q, 384, 444] dp un A) (hx : XdAt w (hideAll s.heap ([dd, q, 384, 444] ++ frs A)) x xi dd) (hdd : s.heap.get? dd = some o) (ho : o.IsDictOf (PySem.strKind PG w) kvs) (hlo : (dd == sysModules) = false) (hkl : kvs.length ≤ 10) (hv : valueAt kvs ap = some (.ref q))
  (hdq : @Ne Nat dd q) (hd384 : @Ne Nat dd 384) (hd444 : @Ne Nat dd 444) (hq384 : @Ne Nat q 384) (hq444 : @Ne Nat q 444) (hc8 : IsCT s.heap 388 384 ps) (hc4 : IsCT s.heap 448 444 ps4)
  (hqo : s.heap.get? q = some (tg d vs n)) (hqd : (hideAll s.heap ([dd, q, 384, 444] ++ frs A)).get? d = some emptyDict) (hr : TagRows (hideAll s.heap ([dd, q, 384, 444] ++ frs A)) vs rows) (hro : RowsOk rows) (hsh : RowsSh rows) (hlen : rows.length ≤ 300) (hok : NamesOk nm rows)
  (hall : rows.all (fun r => validC r.1) = true) (hn : PyData.strOk nm = true) (hap : PyData.strOk ap = true) (hsa : (rowD (1001, ap)).showable = true ∧ (rowD (1001, ap)).shown.length ≤ 60) (hgd : A.guards = some []) (hd : dp + 90 < recursionLimit) (hu : un + 1000 < cLine)
  (hq2 : (hideAll s.heap ([dd, q, 384, 444] ++ frs A)).IsList q2 us.toArray) (hr2 : TupRows (hideAll s.heap ([dd, q, 384, 444] ++ frs A)) us rws) (hro2 : RowsOk rws) (hsh2 : RowsSh rws) (hall2 : rws.all (fun r => validC r.1) = true) (hlen2 : rws.length ≤ 50)
  (hn0 : 0 < nm.length) (hn2 : nm.length < 100) (hsn : (rowD (1000, nm)).showable = true ∧ (rowD (1000, nm)).shown.length ≤ 60)
  (hret : ∀ (S d : Addr) (n : Nat) (vs' : List Value) (o' : Obj) (h' : Heap) (tk' : Nat) (gs' : Array GenState) (ps' ps4' : Array Value), KeepF [dd, q, 384, 444] (frs A) s.heap h' → h'.get? dd = some o' → o'.IsDictOf (PySem.strKind PG w) (stored kvs ap (.ref S)) → IsCT h' 388 384 ps' → IsCT h' 448 444 ps4' → GN s.gens gs' →
     s.heap.get? S = none → s.heap.get? d = none → h'.get? S = some (tg d vs' n) → h'.get? d = some emptyDict → NewRows s.heap h' vs' (marked ap (restRows nm rows ++ xlRows nm rws)) → Q .none { s with heap := h', toks := tk', gens := gs' }) :
  wpAny (model PG w) A (call (.ref 484) [.ref x, .str ap ta, .str nm tn, .ref q2]) Q E s := by
  have R0 := R
  cases R with
  | mk hf hkk B F X T XB TB D hS =>
  rename_i gd env outer A₀ base h₀ L m p loose mean mg mb
  cases hgd
  obtain ⟨op, h384⟩ := code_tab hc8
  obtain ⟨op4, h444⟩ := code_tab hc4
  have N : News h₀ L s.heap [(dd, o), (q, tg d vs n), (384, op), (444, op4)] := fun p hp => by
    simp only [List.mem_cons, List.not_mem_nil, or_false] at hp
    rcases hp with rfl | rfl | rfl | rfl
    · exact ⟨hdd, (hS _ (by simp)).2, (hS _ (by simp)).1⟩
    · exact ⟨hqo, (hS _ (by simp)).2, (hS _ (by simp)).1⟩
    · exact ⟨h384, (hS _ (by simp)).2, (hS _ (by simp)).1⟩
    · exact ⟨h444, (hS _ (by simp)).2, (hS _ (by simp)).1⟩
  have hb : (valueAt kvs ap).isSome = true := by rw [hv]; rfl
  refine wpAny_call ?_
  k_dflt kc_enter
  intro g L' h' hg hh F' N' B' X' T' XB' TB' D' lt'
  (try dsimp only)
  k_fold
  have hgz := hz_ground (S := [dd, q, 384, 444]) (fs := frs ⟨none, dp, some (env :: outer), some [], un⟩) hg (fun a h => h)
  have hzg : (hideAll s.heap ([dd, q, 384, 444] ++ frs ⟨none, dp, some (env :: outer), some [], un⟩)).StaysIn g := fun a ob e => (hgz a ob e).1
  have hx' := hx.keeps hzg
  obtain ⟨t, hx1, hx2⟩ := id hx'.at_
  k_lt lt'
  k_steps
  refine Stop.mk ?_
  (with_reducible rename News g L' _ _ => kN)
  (with_reducible rename Fr g L' _ _ => kF)
  have c1 := kN _ (.head _)
  have c2 := kN _ (.tail _ (.head _))
  have c3 := kN _ (.tail _ (.tail _ (.head _)))
  have c4 := kN _ (.tail _ (.tail _ (.tail _ (.head _))))
  have hS' : ∀ c ∈ [dd, q, 384, 444], g.get? c = none ∧ c ≠ L' := fun c hc => by
    simp only [List.mem_cons, List.not_mem_nil, or_false] at hc
    rcases hc with rfl | rfl | rfl | rfl
    · exact ⟨c1.2.2, c1.2.1⟩
    · exact ⟨c2.2.2, c2.2.1⟩
    · exact ⟨c3.2.2, c3.2.1⟩
    · exact ⟨c4.2.2, c4.2.1⟩
  have hg0 : h₀.StaysIn g := fun a ob e => hg a ob (F.keep _ _ e) fun q => by
    obtain ⟨z, hz, rfl⟩ := List.mem_map.mp q
    rw [(N z hz).2.2] at e; cases e
  obtain ⟨oc8, hoc8⟩ : ∃ oc, h₀.get? 388 = some oc := ⟨_, X _ _ (by k_is)⟩
  obtain ⟨oc4, hoc4⟩ : ∃ oc, h₀.get? 448 = some oc := ⟨_, X _ _ (by k_is)⟩
  have tab8 := (TabOk.of_code (g := h₀) hc8 F.keep hoc8 h384).mono hg0
  have tab4 := (TabOk.of_code (g := h₀) hc4 F.keep hoc4 h444).mono hg0
  obtain ⟨ps8, hc8'⟩ := tab_code tab8 kF.keep c3.1
  obtain ⟨ps44, hc4'⟩ := tab_code tab4 kF.keep c4.1
  have hLg := kts_self kF
  have hzz := hz_call hgz kF.keep hLg
  have k19 : ∀ z ob, s.heap.get? z = some ob → Heap.get? _ z = some ob := fun z ob e => by
    by_cases m : z ∈ [dd, q, 384, 444]
    · simp only [List.mem_cons, List.not_mem_nil, or_false] at m
      rcases m with rfl | rfl | rfl | rfl
      · rw [hdd] at e; cases e; exact c1.1
      · rw [hqo] at e; cases e; exact c2.1
      · rw [h384] at e; cases e; exact c3.1
      · rw [h444] at e; cases e; exact c4.1
    · exact kF.keep _ _ (hg z ob e m)
  have hL0 : s.heap.get? L' = none := by
    cases e : s.heap.get? L' with
    | none => rfl
    | some ob =>
      exfalso
      by_cases m : L' ∈ [dd, q, 384, 444]
      · exact (hS' _ m).2 rfl
      · rw [hg L' ob e m] at hLg; cases hLg
  have fr9 : ∀ z, Heap.get? _ z = none → s.heap.get? z = none := fun z e => by
    cases e0 : s.heap.get? z with
    | none => rfl
    | some ob => rw [k19 z ob e0] at e; cases e
  (k_dflt (refine' rpl_p (Rc.mk rfl rfl B' kF X' T' XB' TB' D' hS') (hx.keeps hzz) c1.1 ho hlo hkl hv hdq hd384 hd444 hq384 hq444 hc8' hc4' c2.1 (hzz _ _ hqd) (hr.keeps hzz) hro hsh hlen hok hall hn hap hsa rfl ?hd ?hu (isList_keep hq2 hzz) (hr2.keeps hzz) hro2 hsh2 hall2 hlen2 hn0 hn2 hsn (fun S' d' n' vs' o' h3 tk3 gs3 ps3 ps5 kf edd edict e8 e4 egn fS' fd' eS' ed' nr => ?_); (case hd => ktr_room); (case hu => ktr_units)))
  clear kF kN
  k_steps
  exact hret _ _ _ _ _ _ _ _ _ _ (keepF_call (A := ⟨none, dp, some (env :: outer), some [], un⟩) (g := g) rfl hL0 k19 kf) edd edict e8 e4 egn (fr9 _ fS') (fr9 _ fd') eS' ed' (nr.monoF fr9)
end
section
section
variable {w : World} {dp un : Nat} {l : List Env} {env : Env} {gd : Option (List Code)} {A₀ : Around} {g base : Heap} {L c sc : Addr} {m : Str → Option Value} {news : List (Addr × Obj)} {gN : Obj → List (Addr × Obj)} {p : Program} {loose : List Str} {mean : ExcName → Option Value} {mg mb : Str → Option Value} {E Q : Value → Shared → Prop} {s : Shared}
theorem take_K {vs : List Value} {ns : List Int} {i v k : Int} {ti tv tk : Tok} {ep : Nat} (hf : env.frame = some L) (hk : env.scope.kind = .function) (B : Below A₀ base l g) (F : Fr g L s.heap m) (N : News g L s.heap news) (X : (Mine.mkK.heap_1 w.params).In g) (T : Top p loose mean mg mb g)
  (U : UpdF c (cObj sc i v ti tv ep) news gN) (hl : s.heap.IsList sc vs.toArray) (hsc : @Ne Nat sc c) (hi : IntsAre vs ns) (hn : ns.length ≤ 63) (h0 : 0 ≤ i) (h1 : i ≤ 100000) (hv0 : 0 ≤ v) (hv1 : v < 999983) (hk0 : 2 ≤ k) (hk1 : k ≤ 11)
  (hd : dp + 1 < recursionLimit) (hu : un + 8 < cLine)
  (hret : ∀ (d i' v' : Int) (t ti' tv' : Tok) (ep' : Nat) h' tk', 0 ≤ d → d < k → 0 ≤ i' → i' ≤ i + 1 → 0 ≤ v' → v' < 999983 → Fr g L h' m → News g L h' (gN (cObj sc i' v' ti' tv' ep')) → Q (.int d t) { s with heap := h', toks := tk' }) :
  wpAny (model PG w) ⟨none, dp, some (env :: l), gd, un⟩ (call (.ref 512) [.ref c, .int k tk]) Q E s := by
  obtain ⟨hx, hS⟩ := updF_in N U
  refine take_c (Rd.mk hf hk B F X T hS) hx hl hsc hi hn h0 h1 hv0 hv1 hk0 hk1 hd hu fun d i' v' t ti' tv' ep' h' tk' a1 a2 a3 a4 a5 a6 kp e => ?_
  exact hret d i' v' t ti' tv' ep' h' tk' a1 a2 a3 a4 a5 a6 (Mine.Fr.after F kp hS) (news_updF N kp U e)
end
/-- what _law_inside may give -/
def inMenu : List Row := [(1000, Str.ofString "text"), (1070, Str.ofString "7"), (1040, Str.ofString "1.5"), (1071, Str.ofString "9"), (1000, Str.ofString "t2")]
def blkB : List Row := [(1000, Str.ofString "B"), (1002, Str.ofString "{"), (1070, Str.ofString "3"), (1002, Str.ofString "}")]
inductive InR (deep : Bool) : List Row → Prop
  | nil : InR deep []
  | one {rows : List Row} {r : Row} : InR deep rows → r ∈ inMenu → InR deep (rows ++ [r])
  | blk {rows : List Row} : deep = true → InR deep rows → InR deep (rows ++ blkB)
/-- new tuples, standing apart from what was there -/
def NewTups (h0 h : Heap) (vs : List Value) (rows : List Row) : Prop := vs.length = rows.length ∧ ∀ (i : Nat) v r, vs[i]? = some v → rows[i]? = some r → ∃ a t1 t2, v = .ref a ∧ h0.get? a = none ∧ h.get? a = some (tupO (.int r.1 t1) (.str r.2 t2))
theorem NewTups.nil {h0 h : Heap} : NewTups h0 h [] [] := ⟨rfl, fun i v r a => by simp at a⟩
theorem NewTups.keep {h0 h h' : Heap} {vs : List Value} {rows : List Row} (t : NewTups h0 h vs rows) (k : ∀ a v1 v2, h.get? a = some (tupO v1 v2) → h'.get? a = some (tupO v1 v2)) : NewTups h0 h' vs rows :=
  ⟨t.1, fun i v r a b => let ⟨c, t1, t2, e, f, g⟩ := t.2 i v r a b; ⟨c, t1, t2, e, f, k _ _ _ g⟩⟩
theorem NewTups.app {h0 h : Heap} {vs us : List Value} {rows rws : List Row} (t : NewTups h0 h vs rows) (u : NewTups h0 h us rws) : NewTups h0 h (vs ++ us) (rows ++ rws) := by
  refine ⟨by simp [t.1, u.1], fun i v r a b => ?_⟩
  have e := t.1
  by_cases hi : i < vs.length
  · rw [List.getElem?_append_left hi] at a
    rw [List.getElem?_append_left (by omega)] at b
    exact t.2 i v r a b
  · rw [List.getElem?_append_right (by omega)] at a
    rw [List.getElem?_append_right (by omega), ← e] at b
    exact u.2 _ v r a b
theorem NewTups.one {h0 h : Heap} {a : Addr} {k : Int} {n : Str} {t1 t2 : Tok} (f : h0.get? a = none) (e : h.get? a = some (tupO (.int k t1) (.str n t2))) : NewTups h0 h [.ref a] [(k, n)] := by
  refine ⟨rfl, fun i v r x y => ?_⟩
  cases i with
  | zero =>
    simp at x y
    subst x y
    exact ⟨a, t1, t2, rfl, f, e⟩
  | succ i => simp at x
theorem NewTups.rows {h0 h : Heap} {vs : List Value} {rows : List Row} {Z : List Addr} (t : NewTups h0 h vs rows) (hz : ∀ c ∈ Z, ∃ o, h0.get? c = some o) : TupRows (hideAll h Z) vs rows :=
  ⟨t.1, fun i v r a b => let ⟨c, t1, t2, e, f, g⟩ := t.2 i v r a b; ⟨c, t1, t2, e, tupO_at (hideAll_get _ g fun m => by
    obtain ⟨o, q⟩ := hz c m
    rw [f] at q; cases q)⟩⟩
section
variable {prog : Program} {w : World} {A : Around} {E : Value → Shared → Prop} {s : Shared} {g : Heap} {L D : Addr} {m : Str → Option Value} {news : List (Addr × Obj)} {n : Nat}
theorem item_led {value slice : Expr} {Q : Value → Shared → Prop} {vs : List Value} {k : Int} {u : Tok} (N : News g L s.heap news) (hm : (D, listOf vs.toArray n) ∈ news) (h0 : 0 ≤ k) (h1 : k < (vs.length : Int)) (hz : vs.length ≤ 1000)
    (h : ∀ v, vs[k.toNat]? = some v → Q v s)
    (hs : subscripted slice false (.ref D) (.int k u) = operate [.ref D, .int k u] (getItem (.ref D) (.int k u)) := by with_unfolding_all rfl) :
    wpAny (model prog w) A (subscriptTail value slice (.ref D) (.int k u)) Q E s := by
  have hk : k.toNat < vs.length := by omega
  have hL := isList_led N hm
  exact tail_any hL.typeIs slot_list_getitem.lookup (wpAny_getItem_list (x := vs[k.toNat]) hL h0 (by omega) (by simp [hk]) (h _ (by rw [List.getElem?_eq_getElem hk]))) hs
end
theorem range_n {h : Heap} {r : Addr} {b : Int} {t u v : Tok} (_ : IsRange h r 0 b 1 t u v) (h0 : 0 ≤ b) : ∃ n : Nat, (n : Int) = b := ⟨b.toNat, Int.toNat_of_nonneg h0⟩
theorem pick5 {h0 h : Heap} {v : Value} {j : Nat} {D0 D1 D2 D3 D4 : Addr} {a0 a1 a2 a3 a4 b0 b1 b2 b3 b4 : Tok} (hv : [Value.ref D0, .ref D1, .ref D2, .ref D3, .ref D4][j]? = some v)
    (f0 : h0.get? D0 = none) (f1 : h0.get? D1 = none) (f2 : h0.get? D2 = none) (f3 : h0.get? D3 = none) (f4 : h0.get? D4 = none)
    (e0 : h.get? D0 = some (tupO (.int 1000 a0) (.str (Str.ofString "text") b0))) (e1 : h.get? D1 = some (tupO (.int 1070 a1) (.str (Str.ofString "7") b1))) (e2 : h.get? D2 = some (tupO (.int 1040 a2) (.str (Str.ofString "1.5") b2)))
    (e3 : h.get? D3 = some (tupO (.int 1071 a3) (.str (Str.ofString "9") b3))) (e4 : h.get? D4 = some (tupO (.int 1000 a4) (.str (Str.ofString "t2") b4))) : ∃ r ∈ inMenu, NewTups h0 h [v] [r] := by
  match j, hv with
  | 0, hv => simp at hv; subst hv; exact ⟨_, by simp [inMenu], NewTups.one f0 e0⟩
  | 1, hv => simp at hv; subst hv; exact ⟨_, by simp [inMenu], NewTups.one f1 e1⟩
  | 2, hv => simp at hv; subst hv; exact ⟨_, by simp [inMenu], NewTups.one f2 e2⟩
  | 3, hv => simp at hv; subst hv; exact ⟨_, by simp [inMenu], NewTups.one f3 e3⟩
  | 4, hv => simp at hv; subst hv; exact ⟨_, by simp [inMenu], NewTups.one f4 e4⟩
  | j + 5, hv => simp at hv
theorem NewTups.hide {h0 h : Heap} {vs : List Value} {rows : List Row} {Z : List Addr} (t : NewTups h0 h vs rows) (hz : ∀ z ∈ Z, ∃ o, h.get? z = some o ∧ ∀ v1 v2, o ≠ tupO v1 v2) : NewTups h0 (hideAll h Z) vs rows :=
  t.keep fun a v1 v2 e => hideAll_get _ e fun m => by
    obtain ⟨o, e', hn⟩ := hz a m
    rw [e] at e'
    exact hn v1 v2 (Option.some.inj e').symm
theorem ns_notTup {g h : Heap} {L : Addr} {m : Str → Option Value} (F : Fr g L h m) : ∃ o, h.get? L = some o ∧ ∀ v1 v2, o ≠ tupO v1 v2 := by
  obtain ⟨oL, es, ep, hL, hLd, _⟩ := F.ns
  exact ⟨oL, hL, fun v1 v2 e => by rw [e] at hLd; cases hLd⟩
theorem list_notTup {vs : Array Value} {n : Nat} : ∀ v1 v2, listOf vs n ≠ tupO v1 v2 := fun v1 v2 e => by
  have := congrArg Obj.cls e
  simp at this
/-- the end of a turn of _law_inside -/
theorem inside_end {g h9 h0 hs : Heap} {L l c I : Addr} {m : Str → Option Value} {news tl : List (Addr × Obj)} {vs us : List Value} {rows rws : List Row} {n : Nat} {oc oI : Obj} (F : Fr g L h9 m) (N : News g L h9 news) (snap : Snap g tl hs) (sub : ∀ p ∈ tl, p ∈ news)
    (ml : (l, listOf (vs ++ us).toArray n) ∈ news) (mc : (c, oc) ∈ news) (mI : (I, oI) ∈ news) (hoc : ∀ v1 v2, oc ≠ tupO v1 v2) (hoI : ∀ v1 v2, oI ≠ tupO v1 v2) (hlI : @Ne Nat l I) (hcI : @Ne Nat c I) (nt : NewTups h0 hs vs rows) (nu : NewTups h0 h9 us rws) :
    ∃ tl' hs', News g L h9 ((I, oI) :: (l, listOf (vs ++ us).toArray n) :: (c, oc) :: tl') ∧ Snap g tl' hs' ∧ NewTups h0 hs' (vs ++ us) (rows ++ rws) ∧ NeAll l tl' ∧ NeAll c tl' ∧ NeAll I ((l, listOf (vs ++ us).toArray n) :: (c, oc) :: tl') := by
  obtain ⟨tl', Ntl, hNe, snap'⟩ := rebase F (Z := [L, l, c, I]) (.head _)
  have nt9 : NewTups h0 h9 vs rows := nt.keep fun a v1 v2 e => snap.at_ F N sub _ _ e
  refine ⟨tl', _, fun p hp => ?_, snap', (nt9.app nu).hide (fun z hz => ?_), hNe l (by simp), hNe c (by simp), fun p hp => ?_⟩
  · rcases List.mem_cons.mp hp with rfl | hp
    · exact N _ mI
    rcases List.mem_cons.mp hp with rfl | hp
    · exact N _ ml
    rcases List.mem_cons.mp hp with rfl | hp
    · exact N _ mc
    · exact Ntl p hp
  · simp only [List.mem_cons, List.not_mem_nil, or_false] at hz
    rcases hz with rfl | rfl | rfl | rfl
    · exact ns_notTup F
    · exact ⟨_, (N _ ml).1, list_notTup⟩
    · exact ⟨_, (N _ mc).1, hoc⟩
    · exact ⟨_, (N _ mI).1, hoI⟩
  · rcases List.mem_cons.mp hp with rfl | hp
    · exact hlI
    rcases List.mem_cons.mp hp with rfl | hp
    · exact hcI
    · exact hNe I (by simp) p hp
theorem big_ne {h : Heap} {a c sc : Addr} {vs : List Value} {x0 x1 x2 x3 : Value} {i v : Int} {ti tv : Tok} {ep : Nat} (e1 : h.get? a = some (listOf (vs ++ [x0, x1, x2, x3]).toArray 0)) (e2 : h.get? c = some (cObj sc i v ti tv ep)) : @Ne Nat a c := fun q => by
  change a = c at q
  rw [q, e2] at e1
  have h1 := congrArg Obj.data (Option.some.inj e1)
  simp only [Data.seq.injEq] at h1
  have h2 := congrArg Array.size h1.1
  simp at h2
theorem cls_ne {h : Heap} {a b : Addr} {o1 o2 : Obj} (e1 : h.get? a = some o1) (e2 : h.get? b = some o2) (hc : o1.cls ≠ o2.cls) : @Ne Nat a b := fun q => by
  change a = b at q
  rw [q, e2] at e1
  exact hc (congrArg Obj.cls (Option.some.inj e1).symm)
end
local macro_rules | `(tactic| walk_at "call ref") => `(tactic| (k_here; (with_reducible show wpAny _ _ (call (Value.ref 512) _) _ _ _); k_dflt ((refine' take_K ?hf ?hk ?B ?F ?N ?X ?T ?U ?l ?sc ?i ?n ?h0 ?h1 ?v0 ?v1 ?k0 ?k1 ?hd ?hu ?_; (case hf => rfl); (case hk => rfl); (case F => k_asm); (case N => k_asm); (case B => k_asm); (case X => k_asm); (case T => k_asm); (case U => k_updF); (case l => exact isList_keep (by assumption) (by k_offL)); (case sc => assumption); (case i => assumption); (case n => assumption); (case h0 => omega); (case h1 => omega); (case v0 => omega); (case v1 => omega); (case k0 => omega); (case k1 => omega); (case hd => ktr_room); (case hu => ktr_units); k_whole); intro d9 i9 v9 t9 u9 w9 e9 h9 tk9 p1 p2 p3 p4 p5 p6 F9 N9; (try dsimp only at N9); (try dsimp only); (try k_sweep))))
local macro_rules | `(tactic| walk_at "subscriptTail") => `(tactic| (k_here; (with_reducible show wpAny _ _ (subscriptTail _ _ (Value.ref _) (Value.int _ _)) _ _ _); k_dflt ((refine' item_led ?N ?m ?a ?b ?z ?_ ?s; (case N => k_asm); (case m => k_mem); (case a => omega); (case b => (simp only [List.length_cons, List.length_nil]; omega)); (case z => (simp; done)); (case s => with_unfolding_all rfl); k_whole); intro v9 hv9)))
local macro_rules | `(tactic| walk_at "callWith") => `(tactic| (k_here; (with_reducible show wpAny _ _ (callWith _ _ _ (backTo _ (starEach (Expr.Subscript _ _ _ :: _) _)) _) _ _ _); (try dsimp only); k_dflt (refine callWith_method1 ?_)))
local macro_rules | `(tactic| walk_at "call builtin:list.append") => `(tactic| (k_here; (with_reducible show wpAny _ _ (call (Value.builtin _) [Value.ref _, _]) _ _ _); k_dflt ((refine' append_K ?k1 ?k2 ?k3 ?_ ?z; (case k1 => k_asm); (case k2 => k_asm); (case k3 => k_upd); (case z => (rw [sizeLine_eq]; simp only [List.size_toArray]; omega)); k_whole); intro h9 F9 N9; (try k_sweep))))
section
theorem nil_ne {h : Heap} {a c sc : Addr} {n : Nat} {i v : Int} {ti tv : Tok} {ep : Nat} (e1 : h.get? a = some (listOf #[] n)) (e2 : h.get? c = some (cObj sc i v ti tv ep)) : @Ne Nat a c := fun q => by
  change a = c at q
  rw [q, e2] at e1
  have h1 := congrArg Obj.data (Option.some.inj e1)
  simp only [Data.seq.injEq] at h1
  have h2 := congrArg Array.size h1.1
  simp at h2
theorem inside_c {w : World} {A : Around} {s : Shared} {Q E : Value → Shared → Prop} {dp un : Nat} {c sc : Addr} {svs : List Value} {ns : List Int} {i v : Int} {ti tv : Tok} {ep : Nat} {deep : Bool}
  (R : Rd w s.heap [c] dp un A) (hc : s.heap.get? c = some (cObj sc i v ti tv ep)) (hl : (hideAll s.heap [c]).IsList sc svs.toArray) (hsc : @Ne Nat sc c) (hi : IntsAre svs ns) (hn : ns.length ≤ 63) (h0 : 0 ≤ i) (h1 : i ≤ 90000) (hv0 : 0 ≤ v) (hv1 : v < 999983)
  (hd : dp + 5 < recursionLimit) (hu : un + 100 < cLine)
  (hret : ∀ (l : Addr) (vs : List Value) (rows : List Row) (n : Nat) (i' v' : Int) (ti' tv' : Tok) (ep' : Nat) (h' : Heap) (tk' : Nat), Keep [c] s.heap h' → 0 ≤ i' → i' ≤ i + 4 → 0 ≤ v' → v' < 999983 → h'.get? c = some (cObj sc i' v' ti' tv' ep') →
    s.heap.get? l = none → h'.get? l = some (listOf vs.toArray n) → NewTups s.heap h' vs rows → InR deep rows → rows.length ≤ 12 → Q (.ref l) { s with heap := h', toks := tk' }) :
  wpAny (model PG w) A (call (.ref 519) [.ref c, .bool deep]) Q E s := by
  cases R with
  | mk hf hkk B F X T hS =>
  rename_i gd env outer A₀ base h₀ L m p loose mean mg mb
  have N : News h₀ L s.heap [(c, cObj sc i v ti tv ep)] := fun p hp => by
    rw [List.mem_singleton.mp hp]; exact ⟨hc, (hS c (by simp)).2, (hS c (by simp)).1⟩
  refine wpAny_call ?_
  k_dflt cell_enter
  intro g L' h' hg hh F' N' B' X' T' lt'
  (try dsimp only)
  k_fold
  have hzg : (hideAll s.heap [c]).StaysIn g := fun a ob e => hg a ob (of_hideAll _ e) fun q => by rw [hideAll_none _ (by simpa using q)] at e; cases e
  have hl' : g.IsList sc svs.toArray := isList_keep hl hzg
  k_lt lt'
  k_steps
  (with_reducible rename IsRange _ _ _ _ _ _ _ _ => kR)
  (with_reducible rename News g L' _ _ => kN)
  (with_reducible rename Fr g L' _ _ => kF)
  have b1 := kN _ (.head _)
  have b2 := kN _ (.tail _ (.head _))
  obtain ⟨n9, hn9⟩ := range_n kR (by omega)
  refine ⟨⟨_, _, _, _, _, _, n9, _, _, fun k m news gs => gs = s.gens ∧ ∃ (l : Addr) (vs : List Value) (n : Nat) (i' v' : Int) (ti' tv' : Tok) (ep' : Nat) (rows : List Row) (tl : List (Addr × Obj)) (hs : Heap), m (Str.ofString "found") = some (.ref l) ∧ m (Str.ofString "c") = some (.ref c) ∧ m (Str.ofString "deep") = some (.bool deep) ∧
     news = (l, listOf vs.toArray n) :: (c, cObj sc i' v' ti' tv' ep') :: tl ∧ Snap g tl hs ∧ NewTups s.heap hs vs rows ∧ InR deep rows ∧ rows.length ≤ 4 * k ∧ @Ne Nat l c ∧ NeAll l tl ∧ NeAll c tl ∧ 0 ≤ i' ∧ i' ≤ i + 1 + k ∧ 0 ≤ v' ∧ v' < 999983 ∧ s.heap.get? l = none, rfl, kR, small_one (by omega) (by omega) (by omega) (by omega), rsize _ _ _ (by omega), kF, kN, ?_, ?_, ?_⟩⟩
  · refine ⟨rfl, _, [], _, _, _, _, _, _, [], [], g, by cell_ties, by cell_ties, by cell_ties, rfl, ⟨fun _ k _ => k⟩, NewTups.nil, .nil, Nat.zero_le _, ?_, fun _ h => (nomatch h), fun _ h => (nomatch h), by omega, by omega, by omega, by omega, ?_⟩
    · exact nil_ne b1.1 b2.1
    · exact fresh_of (S := [c]) hg b1.2.2 (nin1 (nil_ne b1.1 b2.1))
  · rintro I k t m₁ news₁ h tk gs hk ne ⟨rfl, l, vs, n, i', v', ti', tv', ep', rows, tl, hs, m1, m2, m3, rfl, snap, nt, inr, hlen, hlc, nel, nec, hi0, hi1, hv0', hv1', hlf⟩ F₁ N₁
    have ni := List.forall_mem_cons.mp ne
    have ni2 := List.forall_mem_cons.mp ni.2
    have nI1 : @Ne Nat l I := ni.1
    have nI2 : @Ne Nat c I := ni2.1
    have nI3 : NeAll I tl := ni2.2
    clear ne ni ni2
    have hvl : vs.length ≤ 100 := by have := nt.1; omega
    cases deep
    · k_steps
      all_goals
        (with_reducible rename News g L' _ _ => kN)
        (with_reducible rename Fr g L' _ _ => kF)
        (with_reducible rename ([_, _, _, _, _] : List Value)[_]? = some _ => kv)
        simp only [List.push_toArray] at kN
        obtain ⟨r, hr, nu⟩ := pick5 kv (fresh_of (S := [c]) hg (kN _ (.tail _ (.tail _ (.tail _ (.tail _ (.tail _ (.head _))))))).2.2 (nin1 (by omega))) (fresh_of (S := [c]) hg (kN _ (.tail _ (.tail _ (.tail _ (.tail _ (.head _)))))).2.2 (nin1 (by omega))) (fresh_of (S := [c]) hg (kN _ (.tail _ (.tail _ (.tail _ (.head _))))).2.2 (nin1 (by omega))) (fresh_of (S := [c]) hg (kN _ (.tail _ (.tail _ (.head _)))).2.2 (nin1 (by omega))) (fresh_of (S := [c]) hg (kN _ (.tail _ (.head _))).2.2 (nin1 (by omega)))
          (kN _ (.tail _ (.tail _ (.tail _ (.tail _ (.tail _ (.head _))))))).1 (kN _ (.tail _ (.tail _ (.tail _ (.tail _ (.head _)))))).1 (kN _ (.tail _ (.tail _ (.tail _ (.head _))))).1 (kN _ (.tail _ (.tail _ (.head _)))).1 (kN _ (.tail _ (.head _))).1
        obtain ⟨tl2, hs2, N2, snap2, nt2, q1, q2, q3⟩ := inside_end kF kN snap (by k_subL) (by k_mem) (.tail _ (.tail _ (.tail _ (.tail _ (.tail _ (.tail _ (.tail _ (.tail _ (.head _))))))))) (.tail _ (.tail _ (.tail _ (.tail _ (.tail _ (.tail _ (.head _))))))) list_notTup (fun v1 v2 e => by have := congrArg Obj.cls e; simp at this) nI1 nI2 nt nu
        refine EndC.put _ kF N2 (.head _) (fun p hp => .tail _ hp) q3 ⟨rfl, l, _, _, _, _, _, _, _, _, tl2, hs2, by cell_ties, by cell_ties, by cell_ties, rfl, snap2, nt2, .one inr hr, by simp; omega, hlc, q1, q2, by omega, by omega, by omega, by omega, hlf⟩
    · k_steps
      · (with_reducible rename News g L' _ _ => kN)
        (with_reducible rename Fr g L' _ _ => kF)
        have w0 := kN _ (.tail _ (.tail _ (.tail _ (.tail _ (.tail _ (.head _))))))
        have w1 := kN _ (.tail _ (.tail _ (.tail _ (.tail _ (.head _)))))
        have w2 := kN _ (.tail _ (.tail _ (.tail _ (.head _))))
        have w3 := kN _ (.tail _ (.tail _ (.head _)))
        have wl := kN _ (.head _)
        have wI := kN _ (.tail _ (.tail _ (.tail _ (.tail _ (.tail _ (.tail _ (.head _)))))))
        have wc := kN _ (.tail _ (.tail _ (.tail _ (.tail _ (.tail _ (.tail _ (.tail _ (.tail _ (.head _)))))))))
        have l2c := big_ne wl.1 wc.1
        have l2I := cls_ne wl.1 wI.1 (by simp)
        have l2f := fresh_of (S := [c]) hg wl.2.2 (nin1 l2c)
        have nu : NewTups s.heap _ [_, _, _, _] blkB := (NewTups.one (fresh_of (S := [c]) hg w0.2.2 (nin1 (by omega))) w0.1).app ((NewTups.one (fresh_of (S := [c]) hg w1.2.2 (nin1 (by omega))) w1.1).app ((NewTups.one (fresh_of (S := [c]) hg w2.2.2 (nin1 (by omega))) w2.1).app (NewTups.one (fresh_of (S := [c]) hg w3.2.2 (nin1 (by omega))) w3.1)))
        obtain ⟨tl2, hs2, N2, snap2, nt2, q1, q2, q3⟩ := inside_end kF kN snap (by k_subL) (.head _) (.tail _ (.tail _ (.tail _ (.tail _ (.tail _ (.tail _ (.tail _ (.tail _ (.head _))))))))) (.tail _ (.tail _ (.tail _ (.tail _ (.tail _ (.tail _ (.head _))))))) list_notTup (fun v1 v2 e => by have := congrArg Obj.cls e; simp at this) l2I nI2 nt nu
        refine EndC.put _ kF N2 (.head _) (fun p hp => .tail _ hp) q3 ⟨rfl, _, _, _, _, _, _, _, _, _, tl2, hs2, by cell_ties, by cell_ties, by cell_ties, rfl, snap2, nt2, .blk rfl inr, by simp [blkB]; omega, l2c, q1, q2, by omega, by omega, by omega, by omega, l2f⟩
      · (with_reducible rename News g L' _ _ => kN)
        (with_reducible rename Fr g L' _ _ => kF)
        (with_reducible rename ([_, _, _, _, _] : List Value)[_]? = some _ => kv)
        simp only [List.push_toArray] at kN
        obtain ⟨r, hr, nu⟩ := pick5 kv (fresh_of (S := [c]) hg (kN _ (.tail _ (.tail _ (.tail _ (.tail _ (.tail _ (.head _))))))).2.2 (nin1 (by omega))) (fresh_of (S := [c]) hg (kN _ (.tail _ (.tail _ (.tail _ (.tail _ (.head _)))))).2.2 (nin1 (by omega))) (fresh_of (S := [c]) hg (kN _ (.tail _ (.tail _ (.tail _ (.head _))))).2.2 (nin1 (by omega))) (fresh_of (S := [c]) hg (kN _ (.tail _ (.tail _ (.head _)))).2.2 (nin1 (by omega))) (fresh_of (S := [c]) hg (kN _ (.tail _ (.head _))).2.2 (nin1 (by omega)))
          (kN _ (.tail _ (.tail _ (.tail _ (.tail _ (.tail _ (.head _))))))).1 (kN _ (.tail _ (.tail _ (.tail _ (.tail _ (.head _)))))).1 (kN _ (.tail _ (.tail _ (.tail _ (.head _))))).1 (kN _ (.tail _ (.tail _ (.head _)))).1 (kN _ (.tail _ (.head _))).1
        obtain ⟨tl2, hs2, N2, snap2, nt2, q1, q2, q3⟩ := inside_end kF kN snap (by k_subL) (by k_mem) (.tail _ (.tail _ (.tail _ (.tail _ (.tail _ (.tail _ (.tail _ (.tail _ (.head _))))))))) (.tail _ (.tail _ (.tail _ (.tail _ (.tail _ (.tail _ (.head _))))))) list_notTup (fun v1 v2 e => by have := congrArg Obj.cls e; simp at this) nI1 nI2 nt nu
        refine EndC.put _ kF N2 (.head _) (fun p hp => .tail _ hp) q3 ⟨rfl, l, _, _, _, _, _, _, _, _, tl2, hs2, by cell_ties, by cell_ties, by cell_ties, rfl, snap2, nt2, .one inr hr, by simp; omega, hlc, q1, q2, by omega, by omega, by omega, by omega, hlf⟩
  · rintro m₁ news₁ h tk gs ⟨rfl, l, vs, n, i', v', ti', tv', ep', rows, tl, hs, m1, m2, m3, rfl, snap, nt, inr, hlen, hlc, nel, nec, hi0, hi1, hv0', hv1', hlf⟩ F₁ N₁
    k_steps
    have wl := N₁ _ (.head _)
    have wc := N₁ _ (.tail _ (.head _))
    exact hret _ vs rows _ _ _ _ _ _ _ _ (keep_fin (S := [c]) hg F₁.keep) hi0 (by omega) hv0' hv1' wc.1 hlf wl.1 (nt.keep fun a v1 v2 e => snap.at_ F₁ N₁ (by k_subL) _ _ e) inr (by omega)
end
section
section
variable {prog : Program} {w : World} {A : Around} {E : Value → Shared → Prop} {s : Shared} {env : Env}
/-- a list comprehension over the items vs of the sequence at l, read by the iterator I: J tells of the world after each turn, whatever becomes of the iterator, the list and the block's namespace -/
structure LcWork (prog : Program) (w : World) (A : Around) (elt tgt : PySem.Expr) (scope : Scope) (cl : List (Str × Addr)) (env : Env) (s₂ : Shared) (I l : Addr) (vs : List Value) (J : List Value → Shared → Prop) : Prop where
  len : vs.length ≤ sizeLine
  it : s₂.heap.IsListIter I l 0
  go : ∀ v (s : Shared) (Q : Unit → Shared → Prop) (E : Value → Shared → Prop) i, s.heap.IsListIter I l i → J [] s₂ → Q () s → v ∈ vs → wpAny (model prog w) A (letOwnedTupleGo tgt (.ref I) v) Q E s
  zero : ∀ h', (∀ a o, s₂.heap.get? a = some o → h'.get? a = some o) → J [] { s₂ with heap := h' }
  stay : ∀ ys (s' : Shared) h', J ys s' → (∀ a o, a ≠ I → a ≠ s₂.heap.objs.size → a ≠ s₂.heap.objs.size + 1 → s'.heap.get? a = some o → h'.get? a = some o) → J ys { s' with heap := h' }
  seq : ∀ ys s', J ys s' → SeqAt s'.heap l vs
  step : ∀ ys v (s' : Shared) m' oI (E' : Value → Shared → Prop), vs[ys.length]? = some v → J ys s' → s'.heap.get? I = some oI → s'.heap.get? s₂.heap.objs.size = some (LCg.lst ys) → s'.heap.Ns (s₂.heap.objs.size + 1) m' →
    wpAny (model prog w) A (assign tgt (compEnvC scope cl (s₂.heap.objs.size + 1) env) v) (fun _ s₃ => wpAny (model prog w) A (eval elt (compEnvC scope cl (s₂.heap.objs.size + 1) env)) (fun y s₄ => J (ys ++ [y]) s₄ ∧ s₄.heap.get? I = some oI ∧ s₄.heap.get? s₂.heap.objs.size = some (LCg.lst ys) ∧ ∃ m'', s₄.heap.Ns (s₂.heap.objs.size + 1) m'') E' s₃) E' s'
theorem lc_block {elt iter tgt : PySem.Expr} {scope : Scope} {cl : List (Str × Addr)} {pos : Pos} {s₂ : Shared} {I l : Addr} {vs : List Value} {J : List Value → Shared → Prop} {RR : Value → Addr → Result → Shared → Prop}
    (hh : A.handled = none) (hcell : ∀ y ∈ scope.names, y.2 ≠ .cell) (hkind : scope.kind = .function) (W : LcWork prog w A elt tgt scope cl env s₂ I l vs J)
    (fin : ∀ ys (s' : Shared) m', ys.length = vs.length → J ys s' → s'.heap.get? s₂.heap.objs.size = some (LCg.lst ys) → s'.heap.Ns (s₂.heap.objs.size + 1) m' → RR (.ref s₂.heap.objs.size) (s₂.heap.objs.size + 1) (.ok .next) s') :
    wpAny (model prog w) A (newList []) (fun acc s₃ => wpAny (model prog w) A (newFunctionEnv scope env.globals cl [] env.qual none .none (some env)) (fun cenv s₄ =>
      codeAny (model prog w) A (.compStart (.ListComp elt [⟨tgt, iter, [], 0⟩] scope pos) 0 (.ref I) acc { cenv with scope := relabel scope env }) (RR acc cenv.locals) s₄) E s₃) E s₂ := by
  refine wpAny_newObj_type (wpAny_newFunctionEnv hcell (by intro y hy; simp at hy) (fun h₁ hns₁ hsb₁ => ?_) hkind)
  dsimp only at hns₁ hsb₁ ⊢
  generalize hH2 : s₂.heap.push { cls := .type "list", dict := none, data := .seq ([] : List Value).toArray } = H2 at hns₁ hsb₁ ⊢
  have hC : H2.objs.size = s₂.heap.objs.size + 1 := by rw [← hH2, Heap.size_push]
  have hDC : s₂.heap.objs.size ≠ H2.objs.size := by rw [hC]; exact Nat.ne_of_lt (Nat.lt_succ_self _)
  have below : ∀ b, b < s₂.heap.objs.size → b ≠ H2.objs.size ∧ b ≠ s₂.heap.objs.size := fun b hb => ⟨by rw [hC]; exact Nat.ne_of_lt (Nat.lt_succ_of_lt hb), Nat.ne_of_lt hb⟩
  have hIlt : I < s₂.heap.objs.size := by obtain ⟨_, e, _⟩ := W.it; exact Heap.lt_size e
  have old : ∀ b o, s₂.heap.get? b = some o → h₁.get? b = some o := fun b o e => hsb₁.extBut b o (below b (Heap.lt_size e)).1 (Heap.get?_push_of_some _ (hH2 ▸ Heap.get?_push_of_some _ e))
  have hacc : h₁.get? s₂.heap.objs.size = some (LCg.lst []) := hsb₁.extBut _ _ hDC (Heap.get?_push_of_some _ (hH2 ▸ Heap.get?_push_size _ rfl))
  have hCI : I ≠ s₂.heap.objs.size + 1 := hC ▸ (below I hIlt).1
  have hDI : I ≠ s₂.heap.objs.size := (below I hIlt).2
  have hit₁ : h₁.IsListIter I l 0 := by
    obtain ⟨o, e, r⟩ := W.it
    exact ⟨o, old _ _ e, r⟩
  have hz : J [] s₂ := W.zero s₂.heap fun _ _ e => e
  have loop : ∀ s₃ : Shared, s₃ = { s₂ with heap := h₁, toks := s₂.toks + ([] : List (Str × Value)).length } →
      codeAny (model prog w) A (.compLoop (.ListComp elt [⟨tgt, iter, [], 0⟩] scope pos) 0 (.ref I) (.ref s₂.heap.objs.size) (compEnvC scope cl H2.objs.size env))
        (RR (.ref s₂.heap.objs.size) H2.objs.size) s₃ := by
    rintro s₃ rfl
    rw [hC] at hns₁ ⊢
    refine kcp_loop (fun k s' => ∃ ys m', k = vs.length + 1 - ys.length ∧ ys.length ≤ vs.length ∧ J ys s' ∧ s'.heap.IsListIter I l ys.length ∧ s'.heap.get? s₂.heap.objs.size = some (LCg.lst ys) ∧ s'.heap.Ns (s₂.heap.objs.size + 1) m') ?_ (vs.length + 1)
      ⟨[], _, rfl, Nat.zero_le _, W.zero _ old, hit₁, hacc, hns₁⟩
    rintro k s' ⟨ys, m', rfl, hle, hJ, hI, hD, hn⟩
    by_cases hlt : ys.length < vs.length
    · refine next_item hI (W.seq _ _ hJ) (List.getElem?_eq_getElem hlt) fun h2 hI2 hs2 => ?_
      refine W.go _ _ _ _ _ hI2 hz ?_ (List.getElem_mem hlt)
      obtain ⟨oI, heI, hoI⟩ : ∃ oI : Obj, h2.get? I = some oI ∧ ∀ h : Heap, h.get? I = some oI → h.IsListIter I l (ys.length + 1) := by
        obtain ⟨o, e, r⟩ := hI2
        exact ⟨o, e, fun h e' => ⟨o, e', r⟩⟩
      refine wpAny_mono (W.step ys _ { s' with heap := h2 } m' oI _ (List.getElem?_eq_getElem hlt) (W.stay _ _ _ hJ fun a o h1 h2 h3 e => hs2.extBut a o h1 e) heI (hs2.extBut _ _ (Ne.symm hDI) hD) (hn.at' fun o e => hs2.extBut _ o (Ne.symm hCI) e)) (fun _ s₃ h₃ => ?_) fun _ _ e => e
      refine wpAny_mono h₃ (fun y s₄ h₄ => ?_) fun _ _ e => e
      obtain ⟨hJ4, eI, eD, m'', hn4⟩ := h₄
      refine append_at (hsz := by show ys.toArray.size ≤ sizeLine; rw [List.size_toArray]; exact Nat.le_trans hle W.len) eD fun h₅ hs₅ hD₅ => ?_
      refine ⟨vs.length + 1 - (ys.length + 1), by omega, ys ++ [y], m'', by simp, by simp; omega, W.stay _ _ _ hJ4 fun a o h1 h2 h3 e => hs₅.extBut a o h2 e, ?_, hD₅.trans (congrArg some (LCg.lst_snoc ys y)), hn4.at' fun o e => hs₅.extBut _ o (Nat.succ_ne_self _) e⟩
      rw [List.length_append]
      exact hoI _ (hs₅.extBut _ _ hDI eI)
    · have e : ys.length = vs.length := Nat.le_antisymm hle (Nat.not_lt.mp hlt)
      refine next_end hh hI (W.seq _ _ hJ) (by rw [List.getElem?_eq_none_iff]; omega) fun h2 he2 => ?_
      exact fin ys { s' with heap := h2 } m' e (W.stay _ _ _ hJ fun a o h1 h2 h3 q => he2 a o h1 q) (he2 _ _ (Ne.symm hDI) hD) (hn.at' fun o q => he2 _ o (Ne.symm hCI) q)
  refine codeAny_compStart_list (loop _ rfl) ?_
  exact wpAny_pyIter_listiter hit₁ (loop _ rfl)
/-- what is to be shown once the iterator stands -/
def LcIt (prog : Program) (w : World) (A : Around) (elt tgt : PySem.Expr) (scope : Scope) (cl : List (Str × Addr)) (env : Env) (Q : Value → Shared → Prop) (it : Value) (s₂ : Shared) : Prop :=
  ∃ (I l : Addr) (vs : List Value) (J : List Value → Shared → Prop), it = .ref I ∧ LcWork prog w A elt tgt scope cl env s₂ I l vs J ∧
      ∀ ys (s' : Shared), ys.length = vs.length → J ys s' → s'.heap.get? s₂.heap.objs.size = some (LCg.lst ys) → Q (.ref s₂.heap.objs.size) s'
theorem lc_eval {elt iter tgt : PySem.Expr} {scope : Scope} {cl : List (Str × Addr)} {pos : Pos} {Q : Value → Shared → Prop} (hh : A.handled = none)
    (hclos : closureFor scope env = pure cl) (hcell : ∀ y ∈ scope.names, y.2 ≠ .cell) (hkind : scope.kind = .function)
    (hnames : ∀ y ∈ scope.names, y.2 = .local → scope.names.lookup y.1 = some .local)
    (h : wpAny (model prog w) A (eval iter env) (fun xv s₁ => wpAny (model prog w) A (pyIter xv) (LcIt prog w A elt tgt scope cl env Q) E s₁) E s)
    (hs : ∀ x, foldedSetIterable iter env x = pure x := by intro _; rfl) :
    wpAny (model prog w) A (eval (.ListComp elt [⟨tgt, iter, [], 0⟩] scope pos) env) Q E s := by
  rw [eval_ListComp]
  refine wpAny_comprehension_free (use := none) rfl hs hclos hkind hnames (wpAny_mono h (fun xv s₁ h₁ => wpAny_mono h₁ (fun it s₂ h₂ => ?_) fun _ _ e => e) fun _ _ e => e)
  obtain ⟨I, l, vs, J, rfl, W, fin⟩ := h₂
  refine lc_block hh hcell hkind W fun ys s' m' e hJ hD hn => ⟨m', hn, fun h' hs' => ?_⟩
  exact fin ys { s' with heap := h' } e (W.stay _ _ _ hJ fun a o h1 h2 h3 q => hs'.extBut a o h3 q) (hs'.extBut _ _ (Nat.succ_ne_self _).symm hD)
end
end
section
section
variable {prog : Program} {w : World} {A : Around} {E : Value → Shared → Prop} {s : Shared} {env : Env} {h₀ : Heap} {L : Addr} {m : Str → Option Value}
/-- what a comprehension's turns keep, as the ledger tells it -/
def LcJ (h₀ : Heap) (L : Addr) (m : Str → Option Value) (s₂ : Shared) (I : Addr) (P : List Value → List (Addr × Obj) → Prop) (ys : List Value) (s' : Shared) : Prop :=
  ∃ h tk news', s' = { s₂ with heap := h, toks := tk } ∧ Fr h₀ L h m ∧ News h₀ L h news' ∧ LCg.Off3 I (s₂.heap.objs.size + 1) s₂.heap.objs.size news' ∧ P ys news'
theorem lc_fr {elt tgt : PySem.Expr} {scope : Scope} {cl : List (Str × Addr)} {s₂ : Shared} {I l : Addr} {vs : List Value} {news : List (Addr × Obj)} {P : List Value → List (Addr × Obj) → Prop} {S : List Value → Value → (Str → Option Value) → Prop}
    (F : Fr h₀ L s₂.heap m) (N : News h₀ L s₂.heap news) (hlen : vs.length ≤ sizeLine) (hit : s₂.heap.IsListIter I l 0) (hIL : L ≠ I) (hI₀ : h₀.get? I = none) (off : ∀ p ∈ news, p.1 ≠ I) (hP : P [] news)
    (hseq : ∀ ys h news', Fr h₀ L h m → News h₀ L h news' → P ys news' → SeqAt h l vs)
    (go : ∀ v (s : Shared) (Q : Unit → Shared → Prop) (E : Value → Shared → Prop) i, s.heap.IsListIter I l i → Q () s → v ∈ vs → wpAny (model prog w) A (letOwnedTupleGo tgt (.ref I) v) Q E s)
    (asg : ∀ ys v news' C (s' : Shared) m' (Q : Unit → Shared → Prop) (E : Value → Shared → Prop), vs[ys.length]? = some v → Fr h₀ L s'.heap m → News h₀ L s'.heap news' → P ys news' → s'.heap.Ns C m' →
      (∀ h' tk' m₂, h'.Ns C m₂ → S ys v m₂ → (∀ c o, c ≠ C → s'.heap.get? c = some o → h'.get? c = some o) → Q () { s' with heap := h', toks := tk' }) → wpAny (model prog w) A (assign tgt (compEnvC scope cl C env) v) Q E s')
    (step : ∀ ys v news' oI C oC D m₂ h tk (E' : Value → Shared → Prop), vs[ys.length]? = some v → P ys news' → LCg.NsObj oC m₂ → S ys v m₂ → Fr h₀ L h m → News h₀ L h ((I, oI) :: (C, oC) :: (D, LCg.lst ys) :: news') → LCg.Off3 I C D news' → ((@Ne Nat I C) ∧ (@Ne Nat I D) ∧ (@Ne Nat C D)) →
      wpAny (model prog w) A (eval elt (compEnvC scope cl C env)) (LCg.CompEnd h₀ L m { s₂ with heap := h, toks := tk } I oI C oC D (LCg.lst ys) (fun _ => True) (fun y news'' => P (ys ++ [y]) news'')) E' { s₂ with heap := h, toks := tk }) :
    LcWork prog w A elt tgt scope cl env s₂ I l vs (LcJ h₀ L m s₂ I P) where
  len := hlen
  it := hit
  go := fun v s Q E i e _ q hv => go v s Q E i e q hv
  zero := fun h' k => by
    refine ⟨h', s₂.toks, news, rfl, F.keeps k, N.grown k, LCg.Off3.of fun p hp => ⟨off p hp, ?_, ?_⟩, hP⟩
    · exact Nat.ne_of_lt (Nat.lt_succ_of_lt (Heap.lt_size (N p hp).1))
    · exact Nat.ne_of_lt (Heap.lt_size (N p hp).1)
  stay := fun ys s' h' ⟨h, tk, news', e, F', N', o, p⟩ k => by
    subst e
    have nL : L < s₂.heap.objs.size := F.ns.lt
    have fr : ∀ c, s₂.heap.objs.size ≤ c → h₀.get? c = none := fun c hc => by
      cases q : h₀.get? c with
      | none => rfl
      | some ob => exact absurd (Heap.lt_size (F.keep _ _ q)) (Nat.not_lt.mpr hc)
    have om := o.mem
    refine ⟨h', tk, news', rfl, ⟨F'.ns.at' fun o e => k _ o hIL (Nat.ne_of_lt nL) (Nat.ne_of_lt (Nat.lt_succ_of_lt nL)) e, fun b o e => k b o (fun q => by rw [q, hI₀] at e; cases e) (fun q => by rw [q, fr _ (Nat.le_refl _)] at e; cases e) (fun q => by rw [q, fr _ (Nat.le_succ _)] at e; cases e) (F'.keep _ _ e), F'.above⟩,
      fun p hp => ⟨k _ _ (om p hp).1 (om p hp).2.2 (om p hp).2.1 (N' p hp).1, (N' p hp).2⟩, o, p⟩
  seq := fun ys s' ⟨h, tk, news', e, F', N', o, p⟩ => by
    subst e
    exact hseq ys h news' F' N' p
  step := fun ys v s' m' oI E' hv ⟨h, tk, news', e, F', N', o, p⟩ eI eD hn => by
    subst e
    have nL : L < s₂.heap.objs.size := F.ns.lt
    have nI : I < s₂.heap.objs.size := by obtain ⟨_, e, _⟩ := hit; exact Heap.lt_size e
    have fr : ∀ c, s₂.heap.objs.size ≤ c → h₀.get? c = none := fun c hc => by
      cases q : h₀.get? c with
      | none => rfl
      | some ob => exact absurd (Heap.lt_size (F.keep _ _ q)) (Nat.not_lt.mpr hc)
    have om := o.mem
    refine asg ys v news' _ _ m' _ _ hv F' N' p hn fun h' tk' m₂ hn2 hS k => ?_
    obtain ⟨oC, heC, hoC⟩ := LCg.ns_obj hn2
    have F2 : Fr h₀ L h' m := ⟨F'.ns.at' fun o e => k _ o (Nat.ne_of_lt (Nat.lt_succ_of_lt nL)) e, fun b o e => k b o (fun q => by rw [q, fr _ (Nat.le_succ _)] at e; cases e) (F'.keep _ _ e), F'.above⟩
    refine wpAny_mono (step ys v news' oI _ oC s₂.heap.objs.size m₂ h' tk' E' hv p hoC hS F2 (fun q hq => ?_) o ⟨Nat.ne_of_lt (Nat.lt_succ_of_lt nI), Nat.ne_of_lt nI, Nat.succ_ne_self _⟩) (fun y s₄ h₄ => ?_) fun _ _ e => e
    · rcases List.mem_cons.mp hq with rfl | hq
      · exact ⟨k _ _ (Nat.ne_of_lt (Nat.lt_succ_of_lt nI)) eI, Ne.symm hIL, hI₀⟩
      rcases List.mem_cons.mp hq with rfl | hq
      · exact ⟨heC, Ne.symm (Nat.ne_of_lt (Nat.lt_succ_of_lt nL)), fr _ (Nat.le_succ _)⟩
      rcases List.mem_cons.mp hq with rfl | hq
      · exact ⟨k _ _ (Nat.succ_ne_self _).symm eD, Ne.symm (Nat.ne_of_lt nL), fr _ (Nat.le_refl _)⟩
      · exact ⟨k _ _ (om q hq).2.1 (N' q hq).1, (N' q hq).2⟩
    · obtain ⟨h4, tk4, news4, rfl, F4, N4, o4, _, p4⟩ := h₄
      exact ⟨⟨h4, tk4, news4, rfl, F4, fun q hq => N4 q (.tail _ (.tail _ (.tail _ hq))), o4, p4⟩, (N4 _ (.head _)).1, (N4 _ (.tail _ (.tail _ (.head _)))).1, _, hoC.ns (N4 _ (.tail _ (.head _))).1⟩
end
end
section
section
variable {prog : Program} {w : World} {A : Around} {E : Value → Shared → Prop} {s : Shared} {env : Env} {h₀ : Heap} {L : Addr} {m : Str → Option Value}
theorem lc_go_name {x : Str} {px : Pos} {it v : Value} {Q : Unit → Shared → Prop} (h : Q () s) : wpAny (model prog w) A (letOwnedTupleGo (.Name x px) it v) Q E s := wpAny_pure h
theorem lc_asg_name {x : Str} {px : Pos} {scope : Scope} {cl : List (Str × Addr)} {C : Addr} {v : Value} {m' : Str → Option Value} {Q : Unit → Shared → Prop} (hx : scope.names.lookup x = some .local) (hkind : scope.kind = .function) (hn : s.heap.Ns C m')
    (h : ∀ h' tk' m₂, h'.Ns C m₂ → m₂ x = some v → (∀ c o, c ≠ C → s.heap.get? c = some o → h'.get? c = some o) → Q () { s with heap := h', toks := tk' }) : wpAny (model prog w) A (assign (.Name x px) (compEnvC scope cl C env) v) Q E s := by
  refine wpAny_assign_Name (wpAny_storeName_local (lookup_relabel_local hx) hn (fun h₃ hn₃ hs₃ => ?_) (by simp [compEnvC, relabel, hkind]))
  exact h h₃ _ _ hn₃ (by simp) fun c o hc e => hs₃.extBut c o hc e
theorem lc_asg_pair {a b : Str} {pa pb tp : Pos} {kk : Nat} {scope : Scope} {cl : List (Str × Addr)} {C T : Addr} {x y : Value} {m' : Str → Option Value} {Q : Unit → Shared → Prop} (hh : A.handled = none) (hxa : scope.names.lookup a = some .local) (hxb : scope.names.lookup b = some .local) (hab : ¬ a = b) (hkind : scope.kind = .function)
    (hT : s.heap.IsTuple T #[x, y]) (hn : s.heap.Ns C m')
    (h : ∀ h' tk' m₂, h'.Ns C m₂ → (m₂ a = some x ∧ m₂ b = some y) → (∀ c o, c ≠ C → s.heap.get? c = some o → h'.get? c = some o) → Q () { s with heap := h', toks := tk' }) :
    wpAny (model prog w) A (assign (.Tuple [.Name a pa, .Name b pb] kk tp) (compEnvC scope cl C env) (.ref T)) Q E s := by
  refine kcp_assign (env := compEnvC scope cl C env) hh hT (lookup_relabel_local hxa) (lookup_relabel_local hxb) (by simp [compEnvC, relabel, hkind]) hn fun h' tk' hn' k => ?_
  exact h h' tk' _ hn' ⟨by simp [hab], by simp⟩ k
/-- from the iterable on: l holds vs (a list, or tags) -/
theorem lc_src {elt tgt : PySem.Expr} {scope : Scope} {cl : List (Str × Addr)} {l : Addr} {vs : List Value} {news : List (Addr × Obj)} {P : List Value → List (Addr × Obj) → Prop} {S : List Value → Value → (Str → Option Value) → Prop} {Q : Value → Shared → Prop}
    (pit : ∀ (Q : Value → Shared → Prop), Q (.ref s.heap.objs.size) { s with heap := s.heap.push { cls := .type "list_iterator", data := .fields #[.ref l, .int 0 0] } } → wpAny (model prog w) A (pyIter (.ref l)) Q E s)
    (F : Fr h₀ L s.heap m) (N : News h₀ L s.heap news) (hlen : vs.length ≤ sizeLine) (hP : P [] news)
    (hseq : ∀ ys h news', Fr h₀ L h m → News h₀ L h news' → P ys news' → SeqAt h l vs)
    (go : ∀ I v (s : Shared) (Q : Unit → Shared → Prop) (E : Value → Shared → Prop) i, s.heap.IsListIter I l i → Q () s → v ∈ vs → wpAny (model prog w) A (letOwnedTupleGo tgt (.ref I) v) Q E s)
    (asg : ∀ ys v news' C (s' : Shared) m' (Q : Unit → Shared → Prop) (E : Value → Shared → Prop), vs[ys.length]? = some v → Fr h₀ L s'.heap m → News h₀ L s'.heap news' → P ys news' → s'.heap.Ns C m' →
      (∀ h' tk' m₂, h'.Ns C m₂ → S ys v m₂ → (∀ c o, c ≠ C → s'.heap.get? c = some o → h'.get? c = some o) → Q () { s' with heap := h', toks := tk' }) → wpAny (model prog w) A (assign tgt (compEnvC scope cl C env) v) Q E s')
    (step : ∀ ys v news' I oI C oC D m₂ h tk (E' : Value → Shared → Prop), vs[ys.length]? = some v → P ys news' → LCg.NsObj oC m₂ → S ys v m₂ → Fr h₀ L h m → News h₀ L h ((I, oI) :: (C, oC) :: (D, LCg.lst ys) :: news') → LCg.Off3 I C D news' → ((@Ne Nat I C) ∧ (@Ne Nat I D) ∧ (@Ne Nat C D)) →
      wpAny (model prog w) A (eval elt (compEnvC scope cl C env)) (LCg.CompEnd h₀ L m { s with heap := h, toks := tk } I oI C oC D (LCg.lst ys) (fun _ => True) (fun y news'' => P (ys ++ [y]) news'')) E' { s with heap := h, toks := tk })
    (fin : ∀ D ys h tk news', ys.length = vs.length → Fr h₀ L h m → News h₀ L h ((D, LCg.lst ys) :: news') → LCg.Off1 D news' → P ys news' → Q (.ref D) { s with heap := h, toks := tk }) :
    wpAny (model prog w) A (pyIter (.ref l)) (LcIt prog w A elt tgt scope cl env Q) E s := by
  refine pit _ ?_
  have up : ∀ b o, s.heap.get? b = some o → (s.heap.push { cls := .type "list_iterator", data := .fields #[.ref l, .int 0 0] }).get? b = some o := fun b o e => Heap.get?_push_of_some _ e
  have nL : L < s.heap.objs.size := F.ns.lt
  have fr : ∀ c, s.heap.objs.size ≤ c → h₀.get? c = none := fun c hc => by
    cases q : h₀.get? c with
    | none => rfl
    | some ob => exact absurd (Heap.lt_size (F.keep _ _ q)) (Nat.not_lt.mpr hc)
  refine ⟨_, l, vs, _, rfl, lc_fr (P := P) (S := S) (F.keeps up) (N.grown up) hlen ⟨_, Heap.get?_push_size _ rfl, rfl, rfl⟩ (Nat.ne_of_lt nL) (fr _ (Nat.le_refl _)) (fun p hp => Nat.ne_of_lt (Heap.lt_size (N p hp).1)) hP hseq (go _) asg ?_, ?_⟩
  · intro ys v news' oI C oC D m₂ h tk E' a b c d e f g i
    exact step ys v news' _ oI C oC D m₂ h tk E' a b c d e f g i
  · rintro ys s' hy ⟨h, tk, news', rfl, F', N', o, p⟩ eD
    refine fin _ ys h tk news' hy F' (fun q hq => ?_) o.one p
    rcases List.mem_cons.mp hq with rfl | hq
    · refine ⟨eD, Ne.symm (Nat.ne_of_lt ?_), fr _ ?_⟩
      · rw [Heap.size_push]; exact Nat.lt_succ_of_lt nL
      · rw [Heap.size_push]; exact Nat.le_succ _
    · exact N' q hq
end
end
section
section
variable {prog : Program} {w : World} {A : Around} {E : Value → Shared → Prop} {s : Shared} {env : Env} {h₀ : Heap} {L : Addr} {m : Str → Option Value}
/-- a list comprehension with a pair of names over rows: one bool for each -/
theorem lc_rows {elt : PySem.Expr} {a b : Str} {pa pb tp : Pos} {kk : Nat} {scope : Scope} {cl : List (Str × Addr)} {l : Addr} {vs : List Value} {rows : List Row} {news : List (Addr × Obj)} {f : Row → Bool} {Q : Value → Shared → Prop}
    (hh : A.handled = none) (hxa : scope.names.lookup a = some .local) (hxb : scope.names.lookup b = some .local) (hab : ¬ a = b) (hkind : scope.kind = .function)
    (F : Fr h₀ L s.heap m) (N : News h₀ L s.heap news) (hlen : vs.length ≤ 1000)
    (hl : ∀ h, Fr h₀ L h m → News h₀ L h news → h.IsList l vs.toArray) (hr : ∀ h, Fr h₀ L h m → News h₀ L h news → TupRows h vs rows)
    (step : ∀ (r : Row) (t1 t2 : Tok) I oI C oC D oD m₂ h tk (E' : Value → Shared → Prop), r ∈ rows → LCg.NsObj oC m₂ → m₂ a = some (.int r.1 t1) → m₂ b = some (.str r.2 t2) → Fr h₀ L h m → News h₀ L h ((I, oI) :: (C, oC) :: (D, oD) :: news) → LCg.Off3 I C D news → ((@Ne Nat I C) ∧ (@Ne Nat I D) ∧ (@Ne Nat C D)) →
      wpAny (model prog w) A (eval elt (compEnvC scope cl C env)) (LCg.CompEnd h₀ L m { s with heap := h, toks := tk } I oI C oC D oD (fun _ => True) (fun y news'' => y = .bool (f r) ∧ news'' = news)) E' { s with heap := h, toks := tk })
    (fin : ∀ D h tk, Fr h₀ L h m → News h₀ L h ((D, LCg.lst (rows.map fun r => .bool (f r))) :: news) → LCg.Off1 D news → Q (.ref D) { s with heap := h, toks := tk }) :
    wpAny (model prog w) A (pyIter (.ref l)) (LcIt prog w A elt (.Tuple [.Name a pa, .Name b pb] kk tp) scope cl env Q) E s := by
  have hvr : vs.length = rows.length := (hr _ F N).1
  refine lc_src (vs := vs) (news := news) (P := fun ys nw => nw = news ∧ ys = (rows.take ys.length).map fun r => .bool (f r))
    (S := fun ys v m₂ => ∃ r t1 t2, rows[ys.length]? = some r ∧ m₂ a = some (.int r.1 t1) ∧ m₂ b = some (.str r.2 t2))
    (fun Q q => wpAny_pyIter_list (hl _ F N) q) F N (Nat.le_trans hlen (by rw [PySem.sizeLine_eq]; omega)) ⟨rfl, by simp⟩ (fun ys h nw F' N' p => ?_) (fun I v s Q E i hI q hv => ?_) (fun ys v nw C s' m' Q E hv F' N' p hn k => ?_) (fun ys v nw I oI C oC D m₂ h tk E' hv p hC hS F' N' o ne => ?_) (fun D ys h tk nw hy F' N' o p => ?_)
  · obtain ⟨rfl, -⟩ := p
    exact .of_list (hl _ F' N')
  · obtain ⟨i, hi⟩ := List.mem_iff_getElem?.mp hv
    have hir : i < rows.length := by
      obtain ⟨q, _⟩ := List.getElem?_eq_some_iff.mp hi; omega
    obtain ⟨T, t1, t2, rfl, -⟩ := ((hr _ F N).2 i v rows[i] hi (List.getElem?_eq_getElem hir)).at_
    exact wpAny_letOwnedTupleGo_listiter hI q
  · obtain ⟨rfl, -⟩ := p
    have hir : ys.length < rows.length := by
      obtain ⟨q, _⟩ := List.getElem?_eq_some_iff.mp hv; omega
    obtain ⟨T, t1, t2, rfl, hT⟩ := ((hr _ F' N').2 _ v _ hv (List.getElem?_eq_getElem hir)).at_
    obtain ⟨ob, e1, e2, n, e3⟩ := hT
    exact lc_asg_pair hh hxa hxb hab hkind ⟨ob, e1, e2, n, e3⟩ hn fun h' tk' m₂ x y z => k h' tk' m₂ x ⟨_, _, _, List.getElem?_eq_getElem hir, y⟩ z
  · obtain ⟨rfl, py⟩ := p
    obtain ⟨r, t1, t2, hr1, hm1, hm2⟩ := hS
    refine wpAny_mono (step r t1 t2 I oI C oC D _ m₂ h tk E' (List.mem_of_getElem? hr1) hC hm1 hm2 F' N' o ne) (fun y s₄ h₄ => ?_) fun _ _ e => e
    obtain ⟨h4, tk4, n4, e4, F4, N4, o4, t4, rfl, rfl⟩ := h₄
    refine ⟨h4, tk4, _, e4, F4, N4, o4, t4, rfl, ?_⟩
    obtain ⟨hlt, hget⟩ := List.getElem?_eq_some_iff.mp hr1
    rw [List.length_append, List.length_singleton, List.take_succ_eq_append_getElem hlt, List.map_append, ← py, hget]
    rfl
  · obtain ⟨rfl, py⟩ := p
    have e : ys = rows.map fun r => .bool (f r) := by rw [py, List.take_of_length_le (by omega)]
    rw [e] at N'
    exact fin D h tk F' N' o
end
end
section
theorem bools_map (rows : List Row) (f : Row → Bool) : LSm.BoolsAre (rows.map fun r => .bool (f r)) (rows.map f) := by
  induction rows with
  | nil => exact .nil
  | cons r rs ih => exact .cons _ ih
def six (r : Row) : Bool := ([1000, 1001, 1002, 1040, 1070, 1071] : List Int).any fun x => x == r.1
theorem any_six (rows : List Row) : (rows.map fun r => !six r).any id = !(rows.all six) := by
  induction rows with
  | nil => rfl
  | cons r rs ih => simp only [List.map_cons, List.any_cons, List.all_cons, ih, id_eq, Bool.not_and]
theorem pos_ne {vs : List Value} {rows : List Row} (e : vs.isEmpty = false) (h : vs.length = rows.length) : 0 < rows.length := by
  cases vs with
  | nil => cases e
  | cons v vs => rw [← h]; simp
local macro_rules | `(tactic| walk_at "subscriptTail") => `(tactic| (k_here; (with_reducible rename List.isEmpty _ = false => e9); (have p9 := pos_ne e9 (by assumption)); k_dflt (refine' sub_rows ?F ?hl ?hr ?ho ?hn ?h0 ?h1 ?_ ?hs; (case F => k_asm); (case hl => assumption); (case hr => assumption); (case ho => assumption); (case hn => omega); (case h0 => omega); (case h1 => omega); (case hs => with_unfolding_all rfl); k_whole)))
theorem TupRows.cons {h : Heap} {a : Addr} {k : Int} {n : Str} {t1 t2 : Tok} {vs : List Value} {rows : List Row} (t : TupAt h a (.int k t1) (.str n t2)) (r : TupRows h vs rows) : TupRows h (.ref a :: vs) ((k, n) :: rows) := by
  refine ⟨by simp [r.1], fun i v r' e1 e2 => ?_⟩
  cases i with
  | zero =>
    simp at e1 e2
    subst e1 e2
    exact ⟨⟨_, _, _, rfl, t⟩⟩
  | succ i => exact r.2 i v r' (by simpa using e1) (by simpa using e2)
section
variable {prog : Program} {w : World} {A : Around} {E : Value → Shared → Prop} {s : Shared} {env : Env} {h₀ : Heap} {L : Addr} {m : Str → Option Value}
theorem lc_rowsF {elt : PySem.Expr} {a b : Str} {pa pb tp : Pos} {kk : Nat} {scope : Scope} {cl : List (Str × Addr)} {l T : Addr} {vs : List Value} {rows : List Row} {p2 : Addr × Obj} {rest : List (Addr × Obj)} {k : Int} {ap : Str} {t1 t2 : Tok} {n : Nat} {f : Row → Bool} {Q : Value → Shared → Prop}
    (hh : A.handled = none) (hxa : scope.names.lookup a = some .local) (hxb : scope.names.lookup b = some .local) (hab : ¬ a = b) (hkind : scope.kind = .function)
    (F : Fr h₀ L s.heap m) (N : News h₀ L s.heap ((l, listOf (.ref T :: vs).toArray n) :: p2 :: (T, tupO (.int k t1) (.str ap t2)) :: rest)) (hlen : vs.length ≤ 900) (hr : TupRows h₀ vs rows)
    (step : ∀ (r : Row) (u1 u2 : Tok) I oI C oC D oD m₂ h tk (E' : Value → Shared → Prop), r ∈ (k, ap) :: rows → LCg.NsObj oC m₂ → m₂ a = some (.int r.1 u1) → m₂ b = some (.str r.2 u2) → Fr h₀ L h m → News h₀ L h ((I, oI) :: (C, oC) :: (D, oD) :: (l, listOf (.ref T :: vs).toArray n) :: p2 :: (T, tupO (.int k t1) (.str ap t2)) :: rest) → LCg.Off3 I C D ((l, listOf (.ref T :: vs).toArray n) :: p2 :: (T, tupO (.int k t1) (.str ap t2)) :: rest) → ((@Ne Nat I C) ∧ (@Ne Nat I D) ∧ (@Ne Nat C D)) →
      wpAny (model prog w) A (eval elt (compEnvC scope cl C env)) (LCg.CompEnd h₀ L m { s with heap := h, toks := tk } I oI C oC D oD (fun _ => True) (fun y news'' => y = .bool (f r) ∧ news'' = ((l, listOf (.ref T :: vs).toArray n) :: p2 :: (T, tupO (.int k t1) (.str ap t2)) :: rest))) E' { s with heap := h, toks := tk })
    (fin : ∀ D h tk, TupRows h (.ref T :: vs) ((k, ap) :: rows) → Fr h₀ L h m → News h₀ L h ((D, LCg.lst (((k, ap) :: rows).map fun r => .bool (f r))) :: (l, listOf (.ref T :: vs).toArray n) :: p2 :: (T, tupO (.int k t1) (.str ap t2)) :: rest) → LCg.Off1 D ((l, listOf (.ref T :: vs).toArray n) :: p2 :: (T, tupO (.int k t1) (.str ap t2)) :: rest) → Q (.ref D) { s with heap := h, toks := tk }) :
    wpAny (model prog w) A (pyIter (.ref l)) (LcIt prog w A elt (.Tuple [.Name a pa, .Name b pb] kk tp) scope cl env Q) E s :=
  lc_rows (vs := .ref T :: vs) (rows := (k, ap) :: rows) hh hxa hxb hab hkind F N (by simp; omega) (fun h F N => isList_led N (.head _)) (fun h F N => TupRows.cons (tupO_at (N _ (.tail _ (.tail _ (.head _)))).1) (hr.keeps F.keep)) step
    (fun D h tk F3 N3 o3 => fin D h tk (TupRows.cons (tupO_at (N3 _ (.tail _ (.tail _ (.tail _ (.head _))))).1) (hr.keeps F3.keep)) F3 N3 o3)
end
theorem ne_dict {w : World} {h : Heap} {a d : Addr} {oa o : Obj} {kvs : List (Str × Value)} (ea : h.get? a = some oa) (ed : h.get? d = some o) (hc : oa.cls = .type "list") (ho : o.IsDictOf (PySem.strKind PG w) kvs) : @Ne Nat a d := by
  obtain ⟨es, ep, e, _⟩ := ho
  exact cls_ne ea ed (by rw [hc, e.1]; decide)
local macro_rules | `(tactic| walk_at "call builtin:any") => `(tactic| (k_here; k_dflt (refine LSm.any_bools (by k_asm) (by k_asm) (by rfl) (isList_led (by k_asm) (by k_mem)) (bools_map _ _) ?_; intro h' tk' F' N'; rw [any_six])))
local macro_rules | `(tactic| walk_at "eval ListComp") => `(tactic| (k_here; refine cut ?_))
theorem ne_dict' {w : World} {h : Heap} {a d : Addr} {oa o : Obj} {kvs : List (Str × Value)} (ea : h.get? a = some oa) (ed : h.get? d = some o) (hc : oa.cls = .type "tuple") (ho : o.IsDictOf (PySem.strKind PG w) kvs) : @Ne Nat a d := by
  obtain ⟨es, ep, e, _⟩ := ho
  exact cls_ne ea ed (by rw [hc, e.1]; decide)
theorem marked_nil {ap : Str} {rows : List Row} (h : rows.length = 0) : marked ap rows = (1001, ap) :: rows := if_pos (.inl h)
theorem keep_nil {s h g : Heap} {md : Addr} {o : Obj} (e : s.get? md = some o) (hg : ∀ a ob, s.get? a = some ob → a ∉ List.map (fun x : Addr × Obj => x.1) [(md, o)] → g.get? a = some ob) (k : g.StaysIn h) (e' : h.get? md = some o) : Keep [] s h := fun a ob q _ => by
  by_cases c : a = md
  · rw [c] at q ⊢
    rw [e] at q
    rw [← q]; exact e'
  · exact k _ _ (hg a ob q (by simpa using c))
theorem emp_len {vs : List Value} {rows : List Row} (e : vs.isEmpty = true) (h : vs.length = rows.length) : rows.length = 0 := by
  cases vs with
  | nil => exact h.symm
  | cons v vs => cases e
theorem marked_is {ap : Str} {rows : List Row} (h : 0 < rows.length) (e : ((rowAt rows 0).1 == 1001 && (rowAt rows 0).2 == ap) = true) : marked ap rows = rows := by
  rw [Bool.and_eq_true] at e
  refine if_neg fun q => ?_
  rcases q with q | q
  · omega
  · exact q (Prod.ext (eq_of_beq e.1) (eq_of_beq e.2))
theorem row_ap {ap : Str} {rows : List Row} (e : ((rowAt rows 0).1 == 1001 && (rowAt rows 0).2 == ap) = true) : (rowAt rows 0).2 = ap := by
  rw [Bool.and_eq_true] at e
  exact eq_of_beq e.2
theorem marked_not {ap : Str} {rows : List Row} (e : ((rowAt rows 0).1 == 1001 && (rowAt rows 0).2 == ap) = false) : marked ap rows = (1001, ap) :: rows := by
  refine if_pos (.inr fun q => ?_)
  rw [q] at e
  simp at e
theorem md_in {a md : Addr} {o : Obj} {Z : List Addr} (q : a ∈ List.map (fun x : Addr × Obj => x.1) [(md, o)]) (hZ : md ∈ Z) : a ∈ Z := by
  have e : a = md := by simpa using q
  rw [e]; exact hZ
theorem addedm_c {w : World} {A : Around} {s : Shared} {Q E : Value → Shared → Prop} {dp un : Nat} {md q : Addr} {Z : List Addr} {o : Obj} {kvs : List (Str × Value)} {vs : List Value} {rows : List Row} {ap : Str} {ta : Tok}
  (R : Rd w s.heap [md] dp un A) (hmd : s.heap.get? md = some o) (ho : o.IsDictOf (PySem.strKind PG w) kvs) (hlo : (md == sysModules) = false) (hkl : kvs.length ≤ 10) (hZ : md ∈ Z) (hZe : ∀ z ∈ Z, ∃ o, s.heap.get? z = some o)
  (hq : (hideAll s.heap Z).IsList q vs.toArray) (hr : TupRows (hideAll s.heap Z) vs rows) (hro : RowsOk rows) (hlen : rows.length ≤ 390)
  (hap : PyData.strOk ap = true) (hd : dp + 5 < recursionLimit) (hu : un + 150 < cLine)
  (hret1 : (marked ap rows).all six = true → ∀ (S : Addr) (vs' : List Value) (o' : Obj) (h' : Heap) (tk' : Nat), Keep [md] s.heap h' → h'.get? md = some o' → o'.IsDictOf (PySem.strKind PG w) (stored kvs ap (.ref S)) → (hideAll h' Z).IsList S vs'.toArray → TupRows (hideAll h' Z) vs' (marked ap rows) → Q (.bool true) { s with heap := h', toks := tk' })
  (hret2 : (marked ap rows).all six = false → ∀ (h' : Heap) (tk' : Nat), Keep [] s.heap h' → Q (.bool false) { s with heap := h', toks := tk' }) :
  wpAny (model PG w) A (call (.ref 531) [.ref md, .str ap ta, .ref q]) Q E s := by
  cases R with
  | mk hf hkk B F X T hS =>
  rename_i h₀ L m p loose mean mg mb
  have N : News h₀ L s.heap [(md, o)] := fun p hp => by
    rw [List.mem_singleton.mp hp]; exact ⟨hmd, (hS _ (by simp)).2, (hS _ (by simp)).1⟩
  refine wpAny_call ?_
  k_dflt cell_enter
  intro g L' h' hg hh F' N' B' X' T' lt'
  (try dsimp only)
  k_fold
  have hgz : (hideAll s.heap Z).StaysIn g := fun a ob e => hg a ob (of_hideAll _ e) fun q => by rw [hideAll_none _ (md_in q hZ)] at e; cases e
  have hq' := isList_keep hq hgz
  have hr' := hr.keeps hgz
  have hvl : vs.length = rows.length := hr.1
  have hZ9 : ∀ h9 : Heap, g.StaysIn h9 → (hideAll s.heap Z).StaysIn (hideAll h9 Z) := fun h9 k a ob e => hideAll_get _ (k _ _ (hgz a ob e)) fun m => by rw [hideAll_none _ m] at e; cases e
  have hoff : ∀ a, g.get? a = none → @Ne Nat a md → a ∉ Z := fun a e n m => by
    obtain ⟨oz, ez⟩ := hZe a m
    rw [hg a oz ez (by simpa using n)] at e
    cases e
  k_steps
  all_goals
    refine Stop.mk ?_
    refine lc_eval rfl rfl (by decide) rfl (by decide) ?_
    k_steps
    (with_reducible rename News g L' _ _ => kN)
    (with_reducible rename Fr g L' _ _ => kF)
  · (with_reducible rename List.isEmpty _ = true => e9)
    have hm9 : marked ap rows = (1001, ap) :: rows := marked_nil (emp_len e9 hvl)
    refine' lc_rowsF (f := fun r => !six r) ?hh ?hxa ?hxb ?hab ?hkind ?F ?N ?hlen ?hr ?step ?fin
    case F => exact kF
    case N => exact kN
    case hh => rfl
    case hxa => rfl
    case hxb => rfl
    case hkind => rfl
    case hab => decide
    case hlen => omega
    case hr => exact hr'
    case step =>
      intro r t1 t2 I oI C oC D oD m₂ h tk E' hrm hC hm1 hm2 F3 N3 o3 ne3
      k_steps
      (with_reducible rename News g L' _ _ => kN)
      (with_reducible rename Fr g L' _ _ => kF)
      exact LCg.CompEnd.intro kF kN _ (fun p hp => .tail _ hp) o3 trivial ⟨rfl, rfl⟩
    case fin =>
      intro D h tk hTR F3 N3 o3
      have n1 := ne_dict (N3 _ (.tail _ (.head _))).1 (N3 _ (.tail _ (.tail _ (.tail _ (.tail _ (.head _)))))).1 rfl ho
      have nT := ne_dict' (N3 _ (.tail _ (.tail _ (.tail _ (.head _))))).1 (N3 _ (.tail _ (.tail _ (.tail _ (.tail _ (.head _)))))).1 rfl ho
      have n2 := ne_dict (N3 _ (.head _)).1 (N3 _ (.tail _ (.tail _ (.tail _ (.tail _ (.head _)))))).1 rfl ho
      k_steps
      · (with_reducible rename News g L' _ _ => kN)
        (with_reducible rename Fr g L' _ _ => kF)
        (with_reducible rename Obj.IsDictOf _ _ (stored _ _ _) => kD)
        (with_reducible rename List.all _ _ = true => kA)
        have el := kN _ (.tail _ (.head _))
        have eT := kN _ (.tail _ (.tail _ (.tail _ (.head _))))
        refine hret1 (by rw [hm9]; exact kA) _ _ _ _ _ (keep_fin (S := [md]) hg kF.keep) (kN _ (.tail _ (.tail _ (.tail _ (.tail _ (.head _)))))).1 kD ⟨_, hideAll_get _ el.1 (hoff _ el.2.2 n1), rfl, _, rfl⟩ ?_
        rw [hm9]
        exact TupRows.cons (tupO_at (hideAll_get _ eT.1 (hoff _ eT.2.2 nT))) (hr.keeps (hZ9 _ kF.keep))
      · (with_reducible rename News g L' _ _ => kN)
        (with_reducible rename Fr g L' _ _ => kF)
        (with_reducible rename List.all _ _ = false => kA)
        exact hret2 (by rw [hm9]; exact kA) _ _ (keep_nil hmd hg kF.keep (kN _ (.tail _ (.tail _ (.tail _ (.tail _ (.head _)))))).1)
  · (with_reducible rename (_ && _) = true => eM)
    have hm9 : marked ap rows = rows := marked_is (by assumption) eM
    have rap := row_ap eM
    refine' lc_rows (vs := vs) (rows := rows) (f := fun r => !six r) ?hh ?hxa ?hxb ?hab ?hkind ?F ?N ?hlen ?hl ?hr ?step ?fin
    case F => exact kF
    case N => exact kN
    case hh => rfl
    case hxa => rfl
    case hxb => rfl
    case hkind => rfl
    case hab => decide
    case hlen => omega
    case hl => exact fun h F N => isList_keep hq' F.keep
    case hr => exact fun h F N => hr'.keeps F.keep
    case step =>
      intro r t1 t2 I oI C oC D oD m₂ h tk E' hrm hC hm1 hm2 F3 N3 o3 ne3
      k_steps
      (with_reducible rename News g L' _ _ => kN)
      (with_reducible rename Fr g L' _ _ => kF)
      exact LCg.CompEnd.intro kF kN _ (fun p hp => .tail _ hp) o3 trivial ⟨rfl, rfl⟩
    case fin =>
      intro D h tk F3 N3 o3
      have n2 := ne_dict (N3 _ (.head _)).1 (N3 _ (.tail _ (.tail _ (.head _)))).1 rfl ho
      k_steps
      · (with_reducible rename News g L' _ _ => kN)
        (with_reducible rename Fr g L' _ _ => kF)
        (with_reducible rename Obj.IsDictOf _ _ (stored _ _ _) => kD)
        (with_reducible rename List.all _ _ = true => kA)
        rw [rap] at kD
        refine hret1 (by rw [hm9]; exact kA) _ vs _ _ _ (keep_fin (S := [md]) hg kF.keep) (kN _ (.tail _ (.tail _ (.head _)))).1 kD (isList_keep hq (hZ9 _ kF.keep)) ?_
        rw [hm9]
        exact hr.keeps (hZ9 _ kF.keep)
      · (with_reducible rename News g L' _ _ => kN)
        (with_reducible rename Fr g L' _ _ => kF)
        (with_reducible rename List.all _ _ = false => kA)
        exact hret2 (by rw [hm9]; exact kA) _ _ (keep_nil hmd hg kF.keep (kN _ (.tail _ (.tail _ (.head _)))).1)
  · (with_reducible rename (_ && _) = false => eM)
    have hm9 : marked ap rows = (1001, ap) :: rows := marked_not eM
    refine' lc_rowsF (f := fun r => !six r) ?hh ?hxa ?hxb ?hab ?hkind ?F ?N ?hlen ?hr ?step ?fin
    case F => exact kF
    case N => exact kN
    case hh => rfl
    case hxa => rfl
    case hxb => rfl
    case hkind => rfl
    case hab => decide
    case hlen => omega
    case hr => exact hr'
    case step =>
      intro r t1 t2 I oI C oC D oD m₂ h tk E' hrm hC hm1 hm2 F3 N3 o3 ne3
      k_steps
      (with_reducible rename News g L' _ _ => kN)
      (with_reducible rename Fr g L' _ _ => kF)
      exact LCg.CompEnd.intro kF kN _ (fun p hp => .tail _ hp) o3 trivial ⟨rfl, rfl⟩
    case fin =>
      intro D h tk hTR F3 N3 o3
      have n1 := ne_dict (N3 _ (.tail _ (.head _))).1 (N3 _ (.tail _ (.tail _ (.tail _ (.tail _ (.tail _ (.head _))))))).1 rfl ho
      have nT := ne_dict' (N3 _ (.tail _ (.tail _ (.tail _ (.head _))))).1 (N3 _ (.tail _ (.tail _ (.tail _ (.tail _ (.tail _ (.head _))))))).1 rfl ho
      have n2 := ne_dict (N3 _ (.head _)).1 (N3 _ (.tail _ (.tail _ (.tail _ (.tail _ (.tail _ (.head _))))))).1 rfl ho
      k_steps
      · (with_reducible rename News g L' _ _ => kN)
        (with_reducible rename Fr g L' _ _ => kF)
        (with_reducible rename Obj.IsDictOf _ _ (stored _ _ _) => kD)
        (with_reducible rename List.all _ _ = true => kA)
        have el := kN _ (.tail _ (.head _))
        have eT := kN _ (.tail _ (.tail _ (.tail _ (.head _))))
        refine hret1 (by rw [hm9]; exact kA) _ _ _ _ _ (keep_fin (S := [md]) hg kF.keep) (kN _ (.tail _ (.tail _ (.tail _ (.tail _ (.tail _ (.head _))))))).1 kD ⟨_, hideAll_get _ el.1 (hoff _ el.2.2 n1), rfl, _, rfl⟩ ?_
        rw [hm9]
        exact TupRows.cons (tupO_at (hideAll_get _ eT.1 (hoff _ eT.2.2 nT))) (hr.keeps (hZ9 _ kF.keep))
      · (with_reducible rename News g L' _ _ => kN)
        (with_reducible rename Fr g L' _ _ => kF)
        (with_reducible rename List.all _ _ = false => kA)
        exact hret2 (by rw [hm9]; exact kA) _ _ (keep_nil hmd hg kF.keep (kN _ (.tail _ (.tail _ (.tail _ (.tail _ (.tail _ (.head _))))))).1)
end
section
/-- the name of a list of the law -/
def isNm (r : Row) : Prop := r = (1000, Str.ofString "A") ∨ r = (1000, Str.ofString "B")
def Plain (r : Row) : Prop := ¬ isNm r ∧ r ≠ obr ∧ r ≠ cbr
/-- rows in which each name stands before an opening bracket, and each list closes -/
inductive Wf : List Row → Prop
  | nil : Wf []
  | row {r : Row} {rs : List Row} : Plain r → Wf rs → Wf (r :: rs)
  | blk {r : Row} {ins rs : List Row} : isNm r → Wf ins → Wf rs → Wf (r :: obr :: (ins ++ cbr :: rs))
theorem Wf.app {a b : List Row} (x : Wf a) (y : Wf b) : Wf (a ++ b) := by
  induction x with
  | nil => exact y
  | row p _ ih => exact .row p ih
  | @blk r ins rs n i _ _ ih2 =>
    have e : (r :: obr :: (ins ++ cbr :: rs)) ++ b = r :: obr :: (ins ++ cbr :: (rs ++ b)) := by simp
    rw [e]
    exact .blk n i ih2
theorem obr_ne_cbr : obr ≠ cbr := by decide
theorem nm_ne_obr {r : Row} (h : isNm r) : r ≠ obr := by
  rcases h with rfl | rfl <;> decide
theorem nm_ne_cbr {r : Row} (h : isNm r) : r ≠ cbr := by
  rcases h with rfl | rfl <;> decide
theorem row_beq_false {r q : Row} (h : r ≠ q) : (r == q) = false := by
  cases e : r == q with
  | false => rfl
  | true => exact absurd (eq_of_beq e) h
theorem lvl_zero {r : Row} (h1 : r ≠ obr) (h2 : r ≠ cbr) : lvl r = 0 := by
  unfold lvl
  rw [row_beq_false h1, row_beq_false h2]
  rfl
theorem lvl_obr : lvl obr = 1 := by decide
theorem lvl_cbr : lvl cbr = -1 := by decide
theorem close_app {ins : List Row} (x : Wf ins) : ∀ (tl : List Row) (lv : Int) (k : Nat), 1 ≤ lv → closeFrom (ins ++ tl) lv k = closeFrom tl lv (k + ins.length) := by
  induction x with
  | nil => intro tl lv k _; rfl
  | @row r rs p _ ih =>
    intro tl lv k h
    show (if lv + lvl r = 0 then some k else closeFrom (rs ++ tl) (lv + lvl r) (k + 1)) = _
    rw [lvl_zero p.2.1 p.2.2, Int.add_zero, if_neg (by omega), ih _ _ _ h]
    congr 1
    simp; omega
  | @blk r ins rs n i _ ih1 ih2 =>
    intro tl lv k h
    have e : (r :: obr :: (ins ++ cbr :: rs)) ++ tl = r :: obr :: (ins ++ (cbr :: (rs ++ tl))) := by simp
    rw [e]
    show (if lv + lvl r = 0 then some k else if lv + lvl r + lvl obr = 0 then some (k + 1) else closeFrom (ins ++ (cbr :: (rs ++ tl))) (lv + lvl r + lvl obr) (k + 1 + 1)) = _
    rw [lvl_zero (nm_ne_obr n) (nm_ne_cbr n), Int.add_zero, lvl_obr, if_neg (by omega), if_neg (by omega), ih1 _ _ _ (by omega)]
    show (if lv + 1 + lvl cbr = 0 then some (k + 1 + 1 + ins.length) else closeFrom (rs ++ tl) (lv + 1 + lvl cbr) (k + 1 + 1 + ins.length + 1)) = _
    rw [lvl_cbr, if_neg (by omega), show lv + 1 + -1 = lv by omega, ih2 _ _ _ h]
    congr 1
    simp; omega
theorem close_blk {ins rs : List Row} (x : Wf ins) (k : Nat) : closeFrom (obr :: (ins ++ cbr :: rs)) 0 k = some (k + 1 + ins.length) := by
  show (if (0 : Int) + lvl obr = 0 then some k else closeFrom (ins ++ cbr :: rs) (0 + lvl obr) (k + 1)) = _
  rw [lvl_obr, if_neg (by omega), close_app x _ _ _ (by omega)]
  show (if (0 : Int) + 1 + lvl cbr = 0 then some (k + 1 + ins.length) else _) = _
  rw [lvl_cbr, if_pos (by omega)]
theorem names_at {rows : List Row} (x : Wf rows) : ∀ (t : List Row) (i : Nat) (r : Row), rows[i]? = some r → isNm r → ∃ ins rs, Wf ins ∧ (rows ++ t).drop i = r :: obr :: (ins ++ cbr :: rs) := by
  induction x with
  | nil => intro t i r h; simp at h
  | @row r0 rs p _ ih =>
    intro t i r h n
    cases i with
    | zero => simp at h; subst h; exact absurd n p.1
    | succ i => exact ih t i r (by simpa using h) n
  | @blk r0 ins rs n0 hi hr ih1 ih2 =>
    intro t i r h n
    match i, h with
    | 0, h =>
      simp at h; subst h
      exact ⟨ins, rs ++ t, hi, by simp⟩
    | 1, h => simp at h; subst h; exact absurd rfl (nm_ne_obr n)
    | i + 2, h =>
      have h' : (ins ++ cbr :: rs)[i]? = some r := by simpa using h
      by_cases c1 : i < ins.length
      · rw [List.getElem?_append_left c1] at h'
        obtain ⟨ins', rs', w, e⟩ := ih1 (cbr :: (rs ++ t)) i r h' n
        refine ⟨ins', rs', w, ?_⟩
        rw [← e]
        simp
      · rw [List.getElem?_append_right (by omega)] at h'
        cases hj : i - ins.length with
        | zero => rw [hj] at h'; simp at h'; subst h'; exact absurd rfl (nm_ne_cbr n)
        | succ j =>
          rw [hj] at h'
          obtain ⟨ins', rs', w, e⟩ := ih2 t j r (by simpa using h') n
          refine ⟨ins', rs', w, ?_⟩
          rw [← e]
          have e2 : (r0 :: obr :: (ins ++ cbr :: rs)) ++ t = (r0 :: obr :: (ins ++ [cbr])) ++ (rs ++ t) := by simp
          have e3 : i + 2 = (r0 :: obr :: (ins ++ [cbr])).length + j := by simp; omega
          rw [e2, e3, List.drop_append]
          simp
theorem Wf.names {rows : List Row} {nm : Str} (x : Wf rows) (hn : isNm (1000, nm)) : NamesOk nm rows := by
  have key : ∀ i : Nat, i < rows.length → ((rowAt rows i).1 == 1000 && (rowAt rows i).2 == nm) = true → ∃ ins rs, Wf ins ∧ rows.drop i = (1000, nm) :: obr :: (ins ++ cbr :: rs) := fun i hi h => by
    have e := rowAt_some (rows := rows) (k := (i : Int)) (by simp) hi
    have e2 : rowAt rows i = (1000, nm) := by
      rw [Bool.and_eq_true] at h
      exact Prod.ext (eq_of_beq h.1) (eq_of_beq h.2)
    obtain ⟨ins, rs, w, q⟩ := names_at x [] i _ e (by rw [e2]; exact hn)
    rw [List.append_nil, e2] at q
    exact ⟨ins, rs, w, q⟩
  refine ⟨fun i hi h => ?_, fun i hi h _ => ?_⟩
  · obtain ⟨ins, rs, w, q⟩ := key i hi h
    have := congrArg List.length q
    simp at this
    omega
  · obtain ⟨ins, rs, w, q⟩ := key i (by omega) h
    have e : rows.drop (i + 1) = obr :: (ins ++ cbr :: rs) := by
      rw [← List.drop_drop, q]
      rfl
    rw [e, close_blk w]
    simp
theorem span_skip {nm : Str} {r : Row} {l : List Row} {k : Nat} (h : r ≠ (1000, nm)) : spanFrom nm (r :: l) k = spanFrom nm l (k + 1) := by
  cases l with
  | nil => simp [spanFrom]
  | cons r' rs =>
    rw [spanFrom, row_beq_false h]
    simp
theorem span_hit {nm : Str} {ins rs : List Row} {k : Nat} (x : Wf ins) : spanFrom nm ((1000, nm) :: obr :: (ins ++ cbr :: rs)) k = some (k, k + ins.length + 3) := by
  rw [spanFrom]
  have e : (((1000, nm) : Row) == (1000, nm) && obr == obr) = true := by simp
  rw [if_pos e, close_blk x]
  simp only [Option.some.injEq, Prod.mk.injEq, true_and]
  omega
theorem span_nil {nm : Str} {k : Nat} : spanFrom nm [] k = none := by simp [spanFrom]
theorem obr_ne_nm {nm : Str} (hn : isNm (1000, nm)) : obr ≠ (1000, nm) := fun e => nm_ne_obr hn e.symm
theorem cbr_ne_nm {nm : Str} (hn : isNm (1000, nm)) : cbr ≠ (1000, nm) := fun e => nm_ne_cbr hn e.symm
theorem span_app {nm : Str} (hn : isNm (1000, nm)) {rows : List Row} (x : Wf rows) : ∀ (tl : List Row) (k : Nat), spanFrom nm (rows ++ tl) k = match spanFrom nm rows k with | some y => some y | none => spanFrom nm tl (k + rows.length) := by
  induction x with
  | nil => intro tl k; rw [span_nil]; rfl
  | @row r rs p _ ih =>
    intro tl k
    have h : r ≠ (1000, nm) := fun e => p.1 (e ▸ hn)
    show spanFrom nm (r :: (rs ++ tl)) k = _
    rw [span_skip h, span_skip h, ih]
    simp only [List.length_cons, Nat.add_assoc, Nat.add_comm 1]
  | @blk r ins rs n hi hr ih1 ih2 =>
    intro tl k
    have e : (r :: obr :: (ins ++ cbr :: rs)) ++ tl = r :: obr :: (ins ++ (cbr :: (rs ++ tl))) := by simp
    rw [e]
    by_cases h : r = (1000, nm)
    · subst h
      rw [span_hit hi, span_hit hi]
    · rw [span_skip h, span_skip h, span_skip (obr_ne_nm hn), span_skip (obr_ne_nm hn), ih1 (cbr :: (rs ++ tl)), ih1 (cbr :: rs)]
      cases spanFrom nm ins (k + 1 + 1) with
      | some y => rfl
      | none =>
        show spanFrom nm (cbr :: (rs ++ tl)) _ = match spanFrom nm (cbr :: rs) _ with | some y => some y | none => _
        rw [span_skip (cbr_ne_nm hn), span_skip (cbr_ne_nm hn), ih2]
        have e9 : k + 1 + 1 + ins.length + 1 + rs.length = k + (r :: obr :: (ins ++ cbr :: rs)).length := by simp; omega
        rw [e9]
/-- a span that is found is a list, and what stands around it is well formed -/
theorem span_parts {nm : Str} (hn : isNm (1000, nm)) {rows : List Row} (x : Wf rows) : ∀ (k a b : Nat), spanFrom nm rows k = some (a, b) → ∃ p ins q, rows = p ++ ((1000, nm) :: obr :: (ins ++ cbr :: q)) ∧ a = k + p.length ∧ b = a + ins.length + 3 ∧ Wf ins ∧ Wf (p ++ q) := by
  induction x with
  | nil => intro k a b h; rw [span_nil] at h; cases h
  | @row r rs pl _ ih =>
    intro k a b h
    have c : r ≠ (1000, nm) := fun e => pl.1 (by rw [e]; exact hn)
    rw [span_skip c] at h
    obtain ⟨p, ins, q, e, ha, hb, w1, w2⟩ := ih _ _ _ h
    refine ⟨r :: p, ins, q, by rw [e]; rfl, by simp; omega, hb, w1, .row pl w2⟩
  | @blk r ins rs n hi hr ih1 ih2 =>
    intro k a b h
    by_cases c : r = (1000, nm)
    · subst c
      rw [span_hit hi] at h
      cases h
      exact ⟨[], ins, rs, rfl, rfl, rfl, hi, hr⟩
    · rw [span_skip c, span_skip (obr_ne_nm hn), span_app hn hi] at h
      cases hs : spanFrom nm ins (k + 1 + 1) with
      | some y =>
        rw [hs] at h
        cases h
        obtain ⟨p, i2, q, e, ha, hb, w1, w2⟩ := ih1 _ _ _ hs
        refine ⟨r :: obr :: p, i2, q ++ cbr :: rs, by rw [e]; simp, by simp; omega, hb, w1, ?_⟩
        have := Wf.blk n w2 hr
        simpa using this
      | none =>
        rw [hs] at h
        dsimp only at h
        rw [span_skip (cbr_ne_nm hn)] at h
        obtain ⟨p, i2, q, e, ha, hb, w1, w2⟩ := ih2 _ _ _ h
        refine ⟨r :: obr :: (ins ++ cbr :: p), i2, q, by rw [e]; simp, by simp; omega, hb, w1, ?_⟩
        have := Wf.blk n hi w2
        simpa using this
theorem Wf.cut {nm : Str} (hn : isNm (1000, nm)) {rows : List Row} (x : Wf rows) {a b : Nat} (h : spanFrom nm rows 0 = some (a, b)) : Wf (cutSpan rows a b) := by
  obtain ⟨p, ins, q, e, ha, hb, _, w⟩ := span_parts hn x _ _ _ h
  have e1 : rows.take a = p := by rw [e, ha]; simp
  have e2 : rows.drop b = q := by
    have : b = (p ++ ((1000, nm) :: obr :: (ins ++ [cbr]))).length := by simp; omega
    have e3 : rows = (p ++ ((1000, nm) :: obr :: (ins ++ [cbr]))) ++ q := by rw [e]; simp
    rw [this, e3, List.drop_left]
  unfold cutSpan
  rw [e1, e2]
  exact w
theorem Wf.rest {nm : Str} (hn : isNm (1000, nm)) {rows : List Row} (x : Wf rows) : Wf (restRows nm rows) := by
  unfold restRows
  split
  · exact x
  · rename_i e; exact x.cut hn e
theorem Wf.xl {nm : Str} (hn : isNm (1000, nm)) {rows : List Row} (x : Wf rows) : Wf (xlRows nm rows) := by
  have := Wf.blk hn x .nil
  simpa [xlRows] using this
theorem mark_plain {ap : Str} : Plain (1001, ap) := by
  refine ⟨fun h => ?_, fun h => ?_, fun h => ?_⟩
  · rcases h with h | h <;> simp at h
  · simp [obr] at h
  · simp [cbr] at h
theorem Wf.mark {ap : Str} {rows : List Row} (x : Wf rows) : Wf (marked ap rows) := by
  unfold marked
  split
  · exact .row mark_plain x
  · exact x
end
section
def sA : Str := Str.ofString "A"
def sB : Str := Str.ofString "B"
def sAPP : Str := Str.ofString "APP"
def sOTHER : Str := Str.ofString "OTHER"
/-- all rows that the law makes -/
def vocab : List Row := [(1001, sAPP), (1001, sOTHER), (1000, sA), (1000, sB), obr, cbr, (1070, Str.ofString "1"), (1070, Str.ofString "3"), (1000, Str.ofString "text"), (1070, Str.ofString "7"), (1040, Str.ofString "1.5"), (1071, Str.ofString "9"), (1000, Str.ofString "t2"), (70, Str.ofString "1")]
theorem vocab_ok : ∀ r ∈ vocab, PyData.strOk r.2 = true ∧ ((rowD r).showable = true ∧ (rowD r).shown.length ≤ 60) ∧ validC r.1 = six r := by decide +kernel
structure Good (n : Nat) (rows : List Row) : Prop where
  wf : Wf rows
  voc : ∀ r ∈ rows, r ∈ vocab
  len : rows.length ≤ n
theorem Good.ok {n : Nat} {rows : List Row} (g : Good n rows) : RowsOk rows := fun r h => (vocab_ok r (g.voc r h)).1
theorem Good.sh {n : Nat} {rows : List Row} (g : Good n rows) : RowsSh rows := fun r h => (vocab_ok r (g.voc r h)).2.1
theorem Good.six_valid {n : Nat} {rows : List Row} (g : Good n rows) : rows.all (fun r => validC r.1) = rows.all six := by
  have v := g.voc
  clear g
  induction rows with
  | nil => rfl
  | cons r rs ih =>
    rw [List.all_cons, List.all_cons, (vocab_ok r (v r (.head _))).2.2, ih fun x h => v x (.tail _ h)]
theorem Good.mono {n k : Nat} {rows : List Row} (g : Good n rows) (h : n ≤ k) : Good k rows := ⟨g.wf, g.voc, Nat.le_trans g.len h⟩
theorem Good.app {n k : Nat} {a b : List Row} (x : Good n a) (y : Good k b) : Good (n + k) (a ++ b) := ⟨x.wf.app y.wf, app_all x.voc y.voc, by rw [List.length_append]; have := x.len; have := y.len; omega⟩
theorem Good.mark {n : Nat} {rows : List Row} {ap : Str} (g : Good n rows) (h : ((1001, ap) : Row) ∈ vocab) : Good (n + 1) (marked ap rows) := by
  refine ⟨g.wf.mark, ?_, ?_⟩
  · unfold marked
    split
    · intro r hr
      rcases List.mem_cons.mp hr with rfl | hr
      · exact h
      · exact g.voc r hr
    · exact g.voc
  · unfold marked
    have := g.len
    split
    · simp; omega
    · omega
theorem Good.xl {n : Nat} {rows : List Row} {nm : Str} (g : Good n rows) (hn : isNm (1000, nm)) : Good (n + 3) (xlRows nm rows) := by
  refine ⟨g.wf.xl hn, xl_all ?_ (by decide) (by decide) g.voc, by rw [xl_len]; have := g.len; omega⟩
  rcases hn with h | h <;> rw [h] <;> decide
theorem cut_mem' {rows : List Row} {a b : Nat} : ∀ r ∈ cutSpan rows a b, r ∈ rows := fun r h => by
  unfold cutSpan at h
  rcases List.mem_append.mp h with h | h
  · exact List.mem_of_mem_take h
  · exact List.mem_of_mem_drop h
theorem Good.cut {n : Nat} {rows : List Row} {nm : Str} {a b : Nat} (g : Good n rows) (hn : isNm (1000, nm)) (h : spanFrom nm rows 0 = some (a, b)) : Good n (cutSpan rows a b) :=
  ⟨g.wf.cut hn h, fun r hr => g.voc r (cut_mem' r hr), Nat.le_trans (cut_le (span_lt h)) g.len⟩
theorem Good.rest {n : Nat} {rows : List Row} {nm : Str} (g : Good n rows) (hn : isNm (1000, nm)) : Good n (restRows nm rows) :=
  ⟨g.wf.rest hn, fun r hr => g.voc r (rest_mem r hr), Nat.le_trans rest_le g.len⟩
theorem all_mark {ap : Str} {rows : List Row} : (marked ap rows).all six = rows.all six := by
  unfold marked
  split
  · rfl
  · rfl
theorem six_sub {a b : List Row} (h : ∀ r ∈ a, r ∈ b) (x : b.all six = true) : a.all six = true := List.all_eq_true.mpr fun r hr => List.all_eq_true.mp x r (h r hr)
theorem all_xl {nm : Str} {rows : List Row} (x : rows.all six = true) : (xlRows nm rows).all six = true := by
  simp only [xlRows, List.cons_append, List.all_cons, List.all_append, x, List.all_nil]
  rfl
/-- what a deed tells -/
inductive Told
  | nothing
  | refused
  | rows (r : List Row)
/-- what a deed does to the rows of its application -/
inductive Upd
  | same
  | put (r : List Row)
  | del
/-- the law's plain deed: cur are the rows of the application -/
def stepR (k : Int) (ap nm : Str) (rows : List Row) (cur : Option (List Row)) : Told × Upd :=
  if k = 0 then (if (marked ap rows).all six then (.nothing, .put (marked ap rows)) else (.refused, .same))
  else if k = 1 then (.nothing, .del)
  else if k = 2 then (match cur with
    | none => (.nothing, .put (marked ap (xlRows nm rows)))
    | some r => (.nothing, .put (marked ap (restRows nm r ++ xlRows nm rows))))
  else if k = 3 then (match cur with
    | none => (.refused, .same)
    | some r => (.nothing, .put (marked ap (restRows nm r ++ xlRows nm rows))))
  else if k = 4 then (match cur with
    | none => (.nothing, .same)
    | some r => match spanFrom nm r 0 with
      | none => (.nothing, .same)
      | some (a, b) => (.nothing, .put (marked ap (cutSpan r a b))))
  else (match cur with
    | none => (.refused, .same)
    | some r => match spanFrom nm r 0 with
      | none => (.refused, .same)
      | some (a, b) => (.rows ((r.take b).drop a), .same))
theorem good_step {n : Nat} {k : Int} {ap nm : Str} {rows r : List Row} {cur : Option (List Row)} (hap : ((1001, ap) : Row) ∈ vocab) (hn : isNm (1000, nm)) (hr : Good 18 rows) (hv : k ≠ 0 → rows.all six = true)
    (hc : ∀ r, cur = some r → Good n r ∧ r.all six = true) (h : (stepR k ap nm rows cur).2 = .put r) : Good (n + 22) r ∧ r.all six = true := by
  unfold stepR at h
  split at h
  · split at h
    · rename_i q
      cases h
      exact ⟨(hr.mark hap).mono (by omega), q⟩
    · cases h
  rename_i k0
  split at h
  · cases h
  split at h
  · split at h
    · cases h
      exact ⟨((hr.xl hn).mark hap).mono (by omega), by rw [all_mark]; exact all_xl (hv k0)⟩
    · rename_i rr
      cases h
      obtain ⟨g1, g2⟩ := hc _ rfl
      refine ⟨(((g1.rest hn).app (hr.xl hn)).mark hap).mono (by omega), ?_⟩
      rw [all_mark, List.all_append, six_sub rest_mem g2, all_xl (hv k0)]
      rfl
  split at h
  · split at h
    · cases h
    · rename_i rr
      cases h
      obtain ⟨g1, g2⟩ := hc _ rfl
      refine ⟨(((g1.rest hn).app (hr.xl hn)).mark hap).mono (by omega), ?_⟩
      rw [all_mark, List.all_append, six_sub rest_mem g2, all_xl (hv k0)]
      rfl
  split at h
  · split at h
    · cases h
    · split at h
      · cases h
      · rename_i rr _ a b e
        cases h
        obtain ⟨g1, g2⟩ := hc _ rfl
        refine ⟨((g1.cut hn e).mark hap).mono (by omega), ?_⟩
        rw [all_mark]
        exact six_sub cut_mem' g2
  · split at h
    · cases h
    · split at h <;> cases h
theorem menu_plain : ∀ r ∈ inMenu, r ∈ vocab ∧ six r = true ∧ r ≠ obr ∧ r ≠ cbr ∧ r ≠ (1000, sA) ∧ r ≠ (1000, sB) := by decide +kernel
theorem isNmA : isNm (1000, sA) := .inl rfl
theorem isNmB : isNm (1000, sB) := .inr rfl
theorem blkB_good : Good 4 blkB := by
  refine ⟨?_, by decide, by decide⟩
  have h : Plain (1070, Str.ofString "3") := ⟨fun e => by rcases e with e | e <;> revert e <;> decide, by decide, by decide⟩
  exact Wf.blk (r := (1000, Str.ofString "B")) (.inr rfl) (.row h .nil) .nil
def blkA : List Row := [(1000, Str.ofString "A"), (1002, Str.ofString "{"), (1070, Str.ofString "1"), (1002, Str.ofString "}")]
theorem blkA_good : Good 4 blkA := by
  refine ⟨?_, by decide, by decide⟩
  have h : Plain (1070, Str.ofString "1") := ⟨fun e => by rcases e with e | e <;> revert e <;> decide, by decide, by decide⟩
  exact Wf.blk (r := (1000, Str.ofString "A")) (.inl rfl) (.row h .nil) .nil
theorem InR.good {deep : Bool} {rows : List Row} (x : InR deep rows) : Wf rows ∧ (∀ r ∈ rows, r ∈ vocab) ∧ rows.all six = true := by
  induction x with
  | nil => exact ⟨.nil, fun r h => (nomatch h), rfl⟩
  | @one rows r _ hr ih =>
    obtain ⟨a, b, c, d, e, f⟩ := menu_plain r hr
    have p : Plain r := ⟨fun q => q.elim e f, c, d⟩
    refine ⟨ih.1.app (.row p .nil), app_all ih.2.1 fun q hq => by rw [List.mem_singleton.mp hq]; exact a, ?_⟩
    rw [List.all_append, ih.2.2]
    simp [b]
  | @blk rows _ _ ih =>
    refine ⟨ih.1.app blkB_good.wf, app_all ih.2.1 blkB_good.voc, ?_⟩
    rw [List.all_append, ih.2.2]
    decide
end
section
/-- what a deed told, as a value -/
inductive TellsV (h0 h' : Heap) : Told → Value → Prop
  | nothing (t : Tok) : TellsV h0 h' .nothing (.str (Str.ofString "") t)
  | refused (t : Tok) : TellsV h0 h' .refused (.str (Str.ofString "refused") t)
  | rows {r : List Row} (l : Addr) (vs : List Value) (n : Nat) : h0.get? l = none → h'.get? l = some (listOf vs.toArray n) → TupRows h' vs r → TellsV h0 h' (.rows r) (.ref l)
/-- what became of the model's dict -/
inductive MOut (w : World) (Z : List Addr) (md : Addr) (kvs : List (Str × Value)) (ap : Str) (h0 h' : Heap) : Upd → Prop
  | same : Keep [] h0 h' → MOut w Z md kvs ap h0 h' .same
  | put {r : List Row} (S : Addr) (vs' : List Value) (o' : Obj) : Keep [md] h0 h' → h'.get? md = some o' → o'.IsDictOf (PySem.strKind PG w) (stored kvs ap (.ref S)) → (hideAll h' Z).IsList S vs'.toArray → TupRows (hideAll h' Z) vs' r → MOut w Z md kvs ap h0 h' (.put r)
  | del (o' : Obj) : Keep [md] h0 h' → h'.get? md = some o' → o'.IsDictOf (PySem.strKind PG w) (without kvs ap) → MOut w Z md kvs ap h0 h' .del
section
variable {prog : Program} {w : World} {A : Around} {E : Value → Shared → Prop} {s : Shared} {g : Heap} {L d y l : Addr} {m : Str → Option Value} {news : List (Addr × Obj)} {o oy : Obj} {kvs : List (Str × Value)} {k : Str} {t : Tok} {v : Value} {n : Nat}
theorem led_dict (N : News g L s.heap news) (hm : (d, o) ∈ news) (ho : o.IsDictOf (PySem.strKind prog w) kvs) : s.heap.DictOf (PySem.strKind prog w) d kvs := Heap.dictOf_iff.mpr ⟨o, (N _ hm).1, ho⟩
theorem led_item {value slice : PySem.Expr} {Q : Value → Shared → Prop} (N : News g L s.heap news) (hm : (d, o) ∈ news) (ho : o.IsDictOf (PySem.strKind prog w) kvs) (hl : valueAt kvs k = some v) (h : Q v { s with toks := s.toks + 1 })
    (hs : subscripted slice false (.ref d) (.str k t) = operate [.ref d, .str k t] (getItem (.ref d) (.str k t))) :
    wpAny (model prog w) A (subscriptTail value slice (.ref d) (.str k t)) Q E s :=
  have hD := led_dict N hm ho
  tail_any hD.typeIs slot_dict_getitem.lookup (wpAny_getItem_of (strKind_is _ _ _ _) hD.mapOf hl h) hs
theorem led_in {b : Bool} {Q : Value → Shared → Prop} (N : News g L s.heap news) (hm : (d, o) ∈ news) (ho : o.IsDictOf (PySem.strKind prog w) kvs) (lo : (d == sysModules) = false) (hb : (valueAt kvs k).isSome = b) (h : Q (.bool b) { s with toks := s.toks + 1 }) :
    wpAny (model prog w) A (compareOp .In (.str k t) (.ref d)) Q E s := wpAny_in_of (strKind_is _ _ _ _) lo (led_dict N hm ho).mapOf (by rw [hb]; exact h)
theorem led_notin {b : Bool} {Q : Value → Shared → Prop} (N : News g L s.heap news) (hm : (d, o) ∈ news) (ho : o.IsDictOf (PySem.strKind prog w) kvs) (lo : (d == sysModules) = false) (hb : (valueAt kvs k).isSome = b) (h : Q (.bool (!b)) { s with toks := s.toks + 1 }) :
    wpAny (model prog w) A (compareOp .NotIn (.str k t) (.ref d)) Q E s := wpAny_notIn_of (strKind_is _ _ _ _) lo (led_dict N hm ho).mapOf (by rw [hb]; exact h)
theorem led_pop_none {dflt : Value} {Q : Value → Shared → Prop} (N : News g L s.heap news) (hm : (d, o) ∈ news) (ho : o.IsDictOf (PySem.strKind prog w) kvs) (lo : (d == sysModules) = false) (hl : valueAt kvs k = none) (h : Q dflt { s with toks := s.toks + 1 }) :
    wpAny (model prog w) A (call (.builtin "dict.pop") [.ref d, .str k t, dflt]) Q E s :=
  have hD := led_dict N hm ho
  call_meetsIn PySem.F.slot_dict_pop hD.typeIs PySem.F.entry_dict_pop (PySem.F.args_dict_pop_3 _ _ _) (meets_dict_pop_default (PySem.strKind prog w) d (strKind_is _ _ _ _) lo (by rfl) dflt) ⟨kvs, hD, hl, h⟩
theorem tup2_item {value slice : PySem.Expr} {Q : Value → Shared → Prop} {v0 v1 : Value} {i : Int} {u : Tok} (N : News g L s.heap news) (hm : (y, oy) ∈ news) (hc : oy.cls = .type "tuple") (hd : oy.data = .seq #[v0, v1] n) (h : Q (if i = 0 then v0 else v1) s) (hi : i = 0 ∨ i = 1)
    (hs : subscripted slice false (.ref y) (.int i u) = operate [.ref y, .int i u] (getItem (.ref y) (.int i u))) :
    wpAny (model prog w) A (subscriptTail value slice (.ref y) (.int i u)) Q E s := by
  have ht : IsTup s.heap y #[v0, v1] := ⟨oy, (N _ hm).1, hc, n, hd⟩
  rcases hi with rfl | rfl
  · exact tail_any ht.typeIs PySem.F.slot_tuple_getitem.lookup (getItem_tuple (k := 0) ht (by omega) (by omega) (by rfl) (by rfl) h) hs
  · exact tail_any ht.typeIs PySem.F.slot_tuple_getitem.lookup (getItem_tuple (k := 1) ht (by omega) (by omega) (by rfl) (by rfl) h) hs
theorem pick_to {vs : List Value} {a : Nat} (h : a ≤ vs.length) : slicePick vs.toArray none (some (a : Int)) none = (vs.take a).toArray := by
  rw [slicePick_plain]
  simp only [Option.elim, clipAt_nat, List.drop_zero, Nat.sub_zero, List.size_toArray, Nat.min_eq_left h]
theorem pick_from {vs : List Value} {b : Nat} (h : b ≤ vs.length) : slicePick vs.toArray (some (b : Int)) none none = (vs.drop b).toArray := by
  rw [slicePick_plain]
  simp only [Option.elim, clipAt_nat, List.size_toArray, Nat.min_eq_left h]
  rw [List.take_of_length_le (by rw [List.length_drop]; omega)]
theorem pick_in {vs : List Value} {a b : Nat} (ha : a ≤ b) (h : b ≤ vs.length) : slicePick vs.toArray (some (a : Int)) (some (b : Int)) none = ((vs.take b).drop a).toArray := by
  rw [slicePick_plain]
  simp only [Option.elim, clipAt_nat, List.size_toArray, Nat.min_eq_left h, Nat.min_eq_left (Nat.le_trans ha h)]
  rw [List.drop_take]
theorem led_add {a b : Addr} {X Y : List Value} {Q : Value → Shared → Prop} (F : Fr g L s.heap m) (N : News g L s.heap news) (ha : s.heap.IsList a X.toArray) (hb : s.heap.IsList b Y.toArray) (hz : X.length + Y.length ≤ 2000)
    (h : ∀ D h', Fr g L h' m → News g L h' ((D, listOf (X ++ Y).toArray 0) :: news) → (∀ p ∈ news, p.1 < D) → Q (.ref D) { s with heap := h' }) : wpAny (model prog w) A (binaryOp .Add (.ref a) (.ref b)) Q E s :=
  kmk_add_lit F N ha hb rfl h (by rw [PySem.sizeLine_eq]; simp only [List.toList_toArray]; omega)
variable {vs : List Value} {value slice : PySem.Expr} {Q : Value → Shared → Prop} {a b : Nat} {ta tb : Tok}
theorem sl_to (F : Fr g L s.heap m) (N : News g L s.heap news) (hl : s.heap.IsList l vs.toArray) (ha : a ≤ vs.length) (hz : vs.length ≤ 1000)
    (h : ∀ D h', Fr g L h' m → News g L h' ((D, listOf (vs.take a).toArray 0) :: news) → (∀ p ∈ news, p.1 < D) → Q (.ref D) { s with heap := h' })
    (hs : subscripted slice false (.ref l) (.ref s.heap.objs.size) = operate [.ref s.heap.objs.size, .ref l] (getItem (.ref l) (.ref s.heap.objs.size))) (ht : ∀ r, letTemporaryGo value (.ref l) r = pure ()) :
    wpAny (model prog w) A (subscriptTail value slice (.ref l) (.ref s.heap.objs.size)) Q E { s with heap := s.heap.push { cls := .type "slice", data := .fields #[.none, .int a ta, .none] } } :=
  kmk_slice F N hl IsPart.none (IsPart.int _ _) (fun D h' F' N' l1 => h D h' F' (by rw [pick_to ha] at N'; exact N') l1) hs ht (by rw [PySem.sizeLine_eq, List.size_toArray]; omega)
theorem sl_from (F : Fr g L s.heap m) (N : News g L s.heap news) (hl : s.heap.IsList l vs.toArray) (ha : b ≤ vs.length) (hz : vs.length ≤ 1000)
    (h : ∀ D h', Fr g L h' m → News g L h' ((D, listOf (vs.drop b).toArray 0) :: news) → (∀ p ∈ news, p.1 < D) → Q (.ref D) { s with heap := h' })
    (hs : subscripted slice false (.ref l) (.ref s.heap.objs.size) = operate [.ref s.heap.objs.size, .ref l] (getItem (.ref l) (.ref s.heap.objs.size))) (ht : ∀ r, letTemporaryGo value (.ref l) r = pure ()) :
    wpAny (model prog w) A (subscriptTail value slice (.ref l) (.ref s.heap.objs.size)) Q E { s with heap := s.heap.push { cls := .type "slice", data := .fields #[.int b tb, .none, .none] } } :=
  kmk_slice F N hl (IsPart.int _ _) IsPart.none (fun D h' F' N' l1 => h D h' F' (by rw [pick_from ha] at N'; exact N') l1) hs ht (by rw [PySem.sizeLine_eq, List.size_toArray]; omega)
theorem sl_in (F : Fr g L s.heap m) (N : News g L s.heap news) (hl : s.heap.IsList l vs.toArray) (hab : a ≤ b) (ha : b ≤ vs.length) (hz : vs.length ≤ 1000)
    (h : ∀ D h', Fr g L h' m → News g L h' ((D, listOf ((vs.take b).drop a).toArray 0) :: news) → (∀ p ∈ news, p.1 < D) → Q (.ref D) { s with heap := h' })
    (hs : subscripted slice false (.ref l) (.ref s.heap.objs.size) = operate [.ref s.heap.objs.size, .ref l] (getItem (.ref l) (.ref s.heap.objs.size))) (ht : ∀ r, letTemporaryGo value (.ref l) r = pure ()) :
    wpAny (model prog w) A (subscriptTail value slice (.ref l) (.ref s.heap.objs.size)) Q E { s with heap := s.heap.push { cls := .type "slice", data := .fields #[.int a ta, .int b tb, .none] } } :=
  kmk_slice F N hl (IsPart.int _ _) (IsPart.int _ _) (fun D h' F' N' l1 => h D h' F' (by rw [pick_in hab ha] at N'; exact N') l1) hs ht (by rw [PySem.sizeLine_eq, List.size_toArray]; omega)
end
section
variable {w : World} {dp un : Nat} {l : List Env} {env : Env} {gd : Option (List Code)} {A₀ : Around} {g base : Heap} {L q md : Addr} {m : Str → Option Value} {news : List (Addr × Obj)} {gN : Obj → List (Addr × Obj)} {p : Program} {loose : List Str} {mean : ExcName → Option Value} {mg mb : Str → Option Value} {E Q : Value → Shared → Prop} {s : Shared}
theorem span_K {vs : List Value} {rows : List Row} {nm : Str} {tn : Tok} (hf : env.frame = some L) (hk : env.scope.kind = .function) (B : Below A₀ base l g) (F : Fr g L s.heap m) (N : News g L s.heap news) (X : (Mine.mkK.heap_1 w.params).In g) (T : Top p loose mean mg mb g)
  (hq : s.heap.IsList q vs.toArray) (hr : TupRows s.heap vs rows) (ho : RowsOk rows) (hn : PyData.strOk nm = true) (hlen : rows.length ≤ 300) (hd : dp + 3 < recursionLimit) (hu : un + 100 < cLine)
  (hnone : spanFrom nm rows 0 = none → ∀ h' tk', Fr g L h' m → News g L h' news → Q .none { s with heap := h', toks := tk' })
  (hsome : ∀ a b, spanFrom nm rows 0 = some (a, b) → ∀ y oy t1 t2 n h' tk', Fr g L h' m → News g L h' ((y, oy) :: news) → NeAll y news → oy.cls = .type "tuple" → oy.data = .seq #[.int a t1, .int b t2] n → Q (.ref y) { s with heap := h', toks := tk' }) :
  wpAny (model PG w) ⟨none, dp, some (env :: l), gd, un⟩ (call (.ref 526) [.ref q, .str nm tn]) Q E s := by
  refine span_c (Rd.mk hf hk B F X T (fun _ h => nomatch h)) hq hr ho hn hlen hd hu fun v h' tk' kp e => ?_
  have F' := Mine.Fr.after F kp (fun _ h => nomatch h)
  have N' := News.after0 N kp
  cases hs : spanFrom nm rows 0 with
  | none =>
    rw [hs] at e
    subst e
    exact hnone hs _ _ F' N'
  | some ab =>
    obtain ⟨a, b⟩ := ab
    rw [hs] at e
    obtain ⟨y, t1, t2, rfl, yf, oy, e1, e2, n, e3⟩ := e
    refine hsome a b hs y oy t1 t2 n h' tk' F' (fun z hz => ?_) (fun z hz q => ?_) e2 e3
    · rcases List.mem_cons.mp hz with rfl | hz
      · refine ⟨e1, fun q => ?_, ?_⟩
        · obtain ⟨oL, _, _, hL, _⟩ := F.ns
          have q' : y = L := q
          rw [q', hL] at yf; cases yf
        · cases c : g.get? y with
          | none => rfl
          | some ob => rw [F.keep _ _ c] at yf; cases yf
      · exact N' z hz
    · have := (N z hz).1
      rw [q, yf] at this; cases this
theorem addedm_K {Z : List Addr} {o : Obj} {kvs : List (Str × Value)} {vs : List Value} {rows : List Row} {ap : Str} {ta : Tok} (hf : env.frame = some L) (hk : env.scope.kind = .function) (B : Below A₀ base l g) (F : Fr g L s.heap m) (N : News g L s.heap news) (X : (Mine.mkK.heap_1 w.params).In g) (T : Top p loose mean mg mb g)
  (U : UpdF md o news gN) (ho : o.IsDictOf (PySem.strKind PG w) kvs) (hlo : (md == sysModules) = false) (hkl : kvs.length ≤ 10) (hZ : md ∈ Z) (hZe : ∀ z ∈ Z, ∃ o, s.heap.get? z = some o)
  (hq : (hideAll s.heap Z).IsList q vs.toArray) (hr : TupRows (hideAll s.heap Z) vs rows) (hro : RowsOk rows) (hlen : rows.length ≤ 390)
  (hap : PyData.strOk ap = true) (hd : dp + 5 < recursionLimit) (hu : un + 150 < cLine)
  (hret1 : (marked ap rows).all six = true → ∀ (S : Addr) (vs' : List Value) (o' : Obj) (h' : Heap) (tk' : Nat), Fr g L h' m → News g L h' (gN o') → Keep [md] s.heap h' → o'.IsDictOf (PySem.strKind PG w) (stored kvs ap (.ref S)) → (hideAll h' Z).IsList S vs'.toArray → TupRows (hideAll h' Z) vs' (marked ap rows) → Q (.bool true) { s with heap := h', toks := tk' })
  (hret2 : (marked ap rows).all six = false → ∀ (h' : Heap) (tk' : Nat), Fr g L h' m → News g L h' news → Keep [] s.heap h' → Q (.bool false) { s with heap := h', toks := tk' }) :
  wpAny (model PG w) ⟨none, dp, some (env :: l), gd, un⟩ (call (.ref 531) [.ref md, .str ap ta, .ref q]) Q E s := by
  obtain ⟨hx, hS⟩ := updF_in N U
  refine addedm_c (Rd.mk hf hk B F X T hS) hx ho hlo hkl hZ hZe hq hr hro hlen hap hd hu (fun a1 S vs' o' h' tk' kp e1 e2 e3 e4 => ?_) fun a1 h' tk' kp => ?_
  · exact hret1 a1 S vs' o' h' tk' (Mine.Fr.after F kp hS) (news_updF N kp U e1) kp e2 e3 e4
  · exact hret2 a1 h' tk' (Mine.Fr.after F kp (fun _ h => nomatch h)) (News.after0 N kp) kp
end
end
local macro_rules | `(tactic| walk_at "compareOp In str ref") => `(tactic| (k_here; k_dflt (refine' led_in ?N ?m ?o ?l ?b ?_; (case N => k_asm); (case m => k_mem); (case o => assumption); (case l => assumption); (case b => assumption); k_whole)))
local macro_rules | `(tactic| walk_at "compareOp NotIn str ref") => `(tactic| (k_here; k_dflt (refine' led_notin ?N ?m ?o ?l ?b ?_; (case N => k_asm); (case m => k_mem); (case o => assumption); (case l => assumption); (case b => assumption); k_whole)))
local macro_rules | `(tactic| walk_at "subscriptTail") => `(tactic| (k_here; (with_reducible show wpAny _ _ (subscriptTail _ _ (Value.ref _) (Value.str _ _)) _ _ _); k_dflt (refine' led_item ?N ?m ?o ?l ?_ ?s; (case N => k_asm); (case m => k_mem); (case o => assumption); (case l => assumption); (case s => with_unfolding_all rfl); k_whole)))
local macro_rules | `(tactic| walk_at "subscriptTail") => `(tactic| (k_here; (with_reducible show wpAny _ _ (subscriptTail _ _ (Value.ref _) (Value.int _ _)) _ _ _); k_dflt (refine' tup2_item ?N ?m ?c ?d ?_ ?i ?s; (case N => k_asm); (case m => k_mem); (case c => assumption); (case d => assumption); (case i => decide); (case s => with_unfolding_all rfl); (simp only [if_true, if_false, Int.reduceEq]); k_whole)))
local macro_rules | `(tactic| walk_at "call builtin:dict.pop") => `(tactic| (k_here; (with_reducible show wpAny _ _ (call (Value.builtin "dict.pop") [Value.ref _, Value.str _ _, _]) _ _ _); k_dflt (first
  | (refine' led_pop_none ?N ?m ?o ?lo ?l ?_; (case N => k_asm); (case m => k_mem); (case o => assumption); (case lo => assumption); (case l => assumption); k_whole)
  | (refine' kob_pop (knd := PySem.strKind _ _) (more := [_]) ?F ?N ?U ?d (strKind_is _ _ _ _) (.inr ⟨_, rfl⟩) (by rfl) (PySem.F.args_dict_pop_3 _ _ _) ?l ?z ?_; (case F => k_asm); (case N => k_asm); (case U => k_updF); (case d => assumption); (case l => assumption); (case z => (rw [sizeLine_eq]; omega)); k_whole; intro h' o' F' N' hd'; (try dsimp only at N')))))
local macro_rules | `(tactic| walk_at "call ref") => `(tactic| (k_here; (with_reducible show wpAny _ _ (call (Value.ref 531) _) _ _ _); refine cut ?_))
section
theorem TupRows.app {h : Heap} {vs us : List Value} {rows rws : List Row} (t : TupRows h vs rows) (u : TupRows h us rws) : TupRows h (vs ++ us) (rows ++ rws) := by
  refine ⟨by simp [t.1, u.1], fun i v r a b => ?_⟩
  have e := t.1
  by_cases hi : i < vs.length
  · rw [List.getElem?_append_left hi] at a
    rw [List.getElem?_append_left (by omega)] at b
    exact t.2 i v r a b
  · rw [List.getElem?_append_right (by omega)] at a
    rw [List.getElem?_append_right (by omega), ← e] at b
    exact u.2 _ v r a b
theorem TupRows.nil {h : Heap} : TupRows h [] [] := ⟨rfl, fun i v r a => by simp at a⟩
theorem TupRows.take {h : Heap} {vs : List Value} {rows : List Row} {n : Nat} (t : TupRows h vs rows) : TupRows h (vs.take n) (rows.take n) := by
  refine ⟨by simp [t.1], fun i v r a b => ?_⟩
  rw [List.getElem?_take] at a b
  split at a
  · rename_i c
    rw [if_pos c] at b
    exact t.2 i v r a b
  · cases a
theorem TupRows.drop {h : Heap} {vs : List Value} {rows : List Row} {n : Nat} (t : TupRows h vs rows) : TupRows h (vs.drop n) (rows.drop n) := by
  refine ⟨by simp [t.1], fun i v r a b => ?_⟩
  rw [List.getElem?_drop] at a b
  exact t.2 _ v r a b
theorem put_list {h g : Heap} {L l : Addr} {Z : List Addr} {news : List (Addr × Obj)} {X : List Value} {n : Nat} (N : News g L h news) (hl : (l, listOf X.toArray n) ∈ news) (nl : l ∉ Z) : (hideAll h Z).IsList l X.toArray := ⟨_, hideAll_get _ (N _ hl).1 nl, rfl, n, rfl⟩
theorem rest_none {nm : Str} {rows : List Row} (e : spanFrom nm rows 0 = none) : restRows nm rows = rows := by unfold restRows; rw [e]
theorem rest_some {nm : Str} {rows : List Row} {a b : Nat} (e : spanFrom nm rows 0 = some (a, b)) : restRows nm rows = cutSpan rows a b := by unfold restRows; rw [e]
/-- the list «whole» of _law_plain in the ledger -/
theorem whole_led {h g : Heap} {L l a b c : Addr} {Z : List Addr} {news : List (Addr × Obj)} {vs : List Value} {rows : List Row} {nm : Str} {n : Nat} {u1 u2 u3 u4 u5 u6 : Tok} (N : News g L h news) (hl : (l, listOf ([Value.ref a, Value.ref b] ++ vs ++ [Value.ref c]).toArray n) ∈ news)
    (ha : (a, tupO (.int 1000 u1) (.str nm u2)) ∈ news) (hb : (b, tupO (.int 1002 u3) (.str (Str.ofString "{") u4)) ∈ news) (hc : (c, tupO (.int 1002 u5) (.str (Str.ofString "}") u6)) ∈ news) (nl : l ∉ Z) (na : a ∉ Z) (nb : b ∉ Z) (nc : c ∉ Z) (hr : TupRows (hideAll h Z) vs rows) :
    (hideAll h Z).IsList l ([Value.ref a, Value.ref b] ++ vs ++ [Value.ref c]).toArray ∧ TupRows (hideAll h Z) ([Value.ref a, Value.ref b] ++ vs ++ [Value.ref c]) (xlRows nm rows) := by
  refine ⟨⟨_, hideAll_get _ (N _ hl).1 nl, rfl, n, rfl⟩, ?_⟩
  have e : xlRows nm rows = ([(1000, nm), obr] ++ rows) ++ [cbr] := by simp [xlRows]
  rw [e]
  exact ((TupRows.cons (tupO_at (hideAll_get _ (N _ ha).1 na)) (TupRows.cons (tupO_at (hideAll_get _ (N _ hb).1 nb)) .nil)).app hr).app (TupRows.cons (tupO_at (hideAll_get _ (N _ hc).1 nc)) .nil)
theorem z_live {s h g : Heap} {md : Addr} {o o' : Obj} {Z : List Addr} (hZe : ∀ z ∈ Z, ∃ o, s.get? z = some o) (hg : ∀ a ob, s.get? a = some ob → a ∉ List.map (fun x : Addr × Obj => x.1) [(md, o)] → g.get? a = some ob) (k : g.StaysIn h) (e' : h.get? md = some o') : ∀ z ∈ Z, ∃ o, h.get? z = some o := fun z hz => by
  by_cases c : z = md
  · exact ⟨o', by rw [c]; exact e'⟩
  · obtain ⟨oz, ez⟩ := hZe z hz
    exact ⟨oz, k _ _ (hg z oz ez (by simpa using c))⟩
theorem cut_tups {h : Heap} {ws : List Value} {rws : List Row} {nm : Str} {a b : Nat} (e : spanFrom nm rws 0 = some (a, b)) (t : TupRows h ws rws) : TupRows h (ws.take a ++ ws.drop b) (restRows nm rws) := by
  rw [rest_some e]
  exact t.take.app t.drop
theorem step5 {k : Int} {ap nm : Str} {rows rws : List Row} {a b : Nat} (k0 : k ≠ 0) (k1 : k ≠ 1) (k2 : k ≠ 2) (k3 : k ≠ 3) (k4 : k ≠ 4) (e : spanFrom nm rws 0 = some (a, b)) : stepR k ap nm rows (some rws) = (.rows ((rws.take b).drop a), .same) := by
  rw [stepR, if_neg k0, if_neg k1, if_neg k2, if_neg k3, if_neg k4]
  simp only [e]
theorem plain_n {w : World} {A : Around} {s : Shared} {Q E : Value → Shared → Prop} {dp un : Nat} {md q : Addr} {Z : List Addr} {o : Obj} {kvs : List (Str × Value)} {vs : List Value} {rows : List Row} {k : Int} {tk0 : Tok} {ap nm : Str} {ta tn : Tok}
  (R : Rd w s.heap [md] dp un A) (hmd : s.heap.get? md = some o) (ho : o.IsDictOf (PySem.strKind PG w) kvs) (hlo : (md == sysModules) = false) (hkl : kvs.length ≤ 10) (hZ : md ∈ Z) (hZe : ∀ z ∈ Z, ∃ o, s.heap.get? z = some o)
  (hq : (hideAll s.heap Z).IsList q vs.toArray) (hr : TupRows (hideAll s.heap Z) vs rows) (hro : RowsOk rows) (hlen : rows.length ≤ 50) (hv : valueAt kvs ap = none)
  (h6 : k ≠ 0 → rows.all six = true) (hap : PyData.strOk ap = true) (hn : PyData.strOk nm = true) (hd : dp + 15 < recursionLimit) (hu : un + 350 < cLine)
  (hret : ∀ v h' tk', TellsV s.heap h' (stepR k ap nm rows none).1 v → MOut w Z md kvs ap s.heap h' (stepR k ap nm rows none).2 → Q v { s with heap := h', toks := tk' }) :
  wpAny (model PG w) A (call (.ref 538) [.ref md, .int k tk0, .str ap ta, .str nm tn, .ref q]) Q E s := by
  cases R with
  | mk hf hkk B F X T hS =>
  rename_i h₀ L m p loose mean mg mb
  have N : News h₀ L s.heap [(md, o)] := fun p hp => by
    rw [List.mem_singleton.mp hp]; exact ⟨hmd, (hS _ (by simp)).2, (hS _ (by simp)).1⟩
  refine wpAny_call ?_
  k_dflt cell_enter
  intro g L' h' hg hh F' N' B' X' T' lt'
  (try dsimp only)
  k_fold
  have hgz : (hideAll s.heap Z).StaysIn g := fun a ob e => hg a ob (of_hideAll _ e) fun q => by rw [hideAll_none _ (md_in q hZ)] at e; cases e
  have hq' := isList_keep hq hgz
  have hr' := hr.keeps hgz
  have hvl : vs.length = rows.length := hr.1
  have hvn : (valueAt kvs ap).isSome = false := by rw [hv]; rfl
  have hZ9 : ∀ h9 : Heap, g.StaysIn h9 → (hideAll s.heap Z).StaysIn (hideAll h9 Z) := fun h9 k a ob e => hideAll_get _ (k _ _ (hgz a ob e)) fun m => by rw [hideAll_none _ m] at e; cases e
  have hoff : ∀ a, g.get? a = none → @Ne Nat a md → a ∉ Z := fun a e n m => by
    obtain ⟨oz, ez⟩ := hZe a m
    rw [hg a oz ez (by simpa using n)] at e
    cases e
  k_steps
  · -- kind 0
    refine Stop.mk ?_
    (with_reducible rename News g L' _ _ => kN)
    (with_reducible rename Fr g L' _ _ => kF)
    (with_reducible rename k = 0 => k0)
    have eM := (kN (md, o) (by k_mem)).1
    k_dflt ((refine' addedm_K (vs := vs) (rows := rows) ?hf_1 ?hk_1 ?B_1 ?F_1 ?N_1 ?X_1 ?T_1 ?U_1 ?ho_1 ?hlo_1 ?hkl_1 ?hZ_1 ?hZe_1 ?hq_1 ?hr_1 ?hro_1 ?hlen_1 ?hap_1 ?hd_1 ?hu_1 ?_ ?_); (case hf_1 => rfl); (case hk_1 => rfl); (case F_1 => k_asm); (case N_1 => k_asm); (case B_1 => k_asm); (case X_1 => k_asm); (case T_1 => k_asm); (case U_1 => k_updF); (case ho_1 => assumption); (case hlo_1 => assumption); (case hkl_1 => assumption); (case hq_1 => exact (isList_keep hq (hZ9 _ kF.keep))); (case hr_1 => exact (hr.keeps (hZ9 _ kF.keep))); (case hZ_1 => assumption); (case hZe_1 => exact (z_live hZe hg kF.keep eM)); (case hro_1 => exact hro); (case hlen_1 => exact (by omega)); (case hap_1 => assumption); (case hd_1 => ktr_room); (case hu_1 => ktr_units); k_whole)
    · intro a1 S vs' o' h9 tk9 F9 N9 kp9 e2 e3 e4
      (try dsimp only at N9)
      k_steps
      have eR : stepR k ap nm rows none = (.nothing, .put (marked ap rows)) := by rw [stepR, if_pos k0, if_pos a1]
      exact hret _ _ _ (by rw [eR]; exact .nothing _) (by rw [eR]; exact .put S vs' o' (keep_fin (S := [md]) hg F9.keep) (N9 (md, o') (by k_mem)).1 e2 e3 e4)
    · intro a1 h9 tk9 F9 N9 kp9
      (try dsimp only at N9)
      k_steps
      have eR : stepR k ap nm rows none = (.refused, .same) := by rw [stepR, if_pos k0, if_neg (by rw [a1]; decide)]
      exact hret _ _ _ (by rw [eR]; exact .refused _) (by rw [eR]; exact .same (keep_nil hmd hg F9.keep (N9 (md, o) (by k_mem)).1))
  · -- kind 1
    (with_reducible rename News g L' _ _ => kN)
    (with_reducible rename Fr g L' _ _ => kF)
    (with_reducible rename k ≠ 0 => k0)
    (with_reducible rename k = 1 => k1)
    have eR : stepR k ap nm rows none = (.nothing, .del) := by rw [stepR, if_neg k0, if_pos k1]
    exact hret _ _ _ (by rw [eR]; exact .nothing _) (by rw [eR]; exact .del o (keep_fin (S := [md]) hg kF.keep) (kN (md, o) (by k_mem)).1 (by rw [without_none hv]; exact ho))
  · -- kind 2
    refine Stop.mk ?_
    (with_reducible rename News g L' _ _ => kN)
    (with_reducible rename Fr g L' _ _ => kF)
    (with_reducible rename k ≠ 0 => k0)
    (with_reducible rename k ≠ 1 => k1)
    (with_reducible rename k = 2 => k2)
    dsimp only at kN
    have eM := (kN (md, o) (by k_mem)).1
    have x0 := kN _ (.head _)
    have x2 := kN _ (.tail _ (.tail _ (.head _)))
    have x5 := kN _ (.tail _ (.tail _ (.tail _ (.tail _ (.tail _ (.head _))))))
    have x6 := kN _ (.tail _ (.tail _ (.tail _ (.tail _ (.tail _ (.tail _ (.head _)))))))
    have n0 := ne_dict x0.1 eM rfl ho
    have n3 := ne_dict (kN _ (.tail _ (.tail _ (.tail _ (.head _))))).1 eM rfl ho
    have n2 := ne_dict' x2.1 eM rfl ho
    have n5 := ne_dict' x5.1 eM rfl ho
    have n6 := ne_dict' x6.1 eM rfl ho
    dsimp only at n0 n2 n3 n5 n6
    obtain ⟨hlW, hrW⟩ := whole_led (Z := Z) kN (.head _) (.tail _ (.tail _ (.tail _ (.tail _ (.tail _ (.tail _ (.head _))))))) (.tail _ (.tail _ (.tail _ (.tail _ (.tail _ (.head _)))))) (.tail _ (.tail _ (.head _)))
      (hoff _ x0.2.2 n0) (hoff _ x6.2.2 n6) (hoff _ x5.2.2 n5) (hoff _ x2.2.2 n2) (hr.keeps (hZ9 _ kF.keep))
    have a6 : (marked ap (xlRows nm rows)).all six = true := by rw [all_mark]; exact all_xl (h6 k0)
    have eR : stepR k ap nm rows none = (.nothing, .put (marked ap (xlRows nm rows))) := by rw [stepR, if_neg k0, if_neg k1, if_pos k2]
    k_dflt ((refine' addedm_K (vs := _) (rows := (xlRows nm rows)) ?hf_2 ?hk_2 ?B_2 ?F_2 ?N_2 ?X_2 ?T_2 ?U_2 ?ho_2 ?hlo_2 ?hkl_2 ?hZ_2 ?hZe_2 ?hq_2 ?hr_2 ?hro_2 ?hlen_2 ?hap_2 ?hd_2 ?hu_2 ?_ ?_); (case hf_2 => rfl); (case hk_2 => rfl); (case F_2 => k_asm); (case N_2 => k_asm); (case B_2 => k_asm); (case X_2 => k_asm); (case T_2 => k_asm); (case U_2 => k_updF); (case ho_2 => assumption); (case hlo_2 => assumption); (case hkl_2 => assumption); (case hq_2 => exact hlW); (case hr_2 => exact hrW); (case hZ_2 => assumption); (case hZe_2 => exact (z_live hZe hg kF.keep eM)); (case hro_2 => exact (xl_all (p := fun r => PyData.strOk r.2 = true) hn (by show PyData.strOk obr.2 = true; decide +kernel) (by show PyData.strOk cbr.2 = true; decide +kernel) hro)); (case hlen_2 => exact (by rw [xl_len]; omega)); (case hap_2 => assumption); (case hd_2 => ktr_room); (case hu_2 => ktr_units); k_whole)
    · intro a1 S vs' o' h9 tk9 F9 N9 kp9 e2 e3 e4
      (try dsimp only at N9)
      k_steps
      exact hret _ _ _ (by rw [eR]; exact .nothing _) (by rw [eR]; exact .put S vs' o' (keep_fin (S := [md]) hg F9.keep) (N9 (md, o') (by k_mem)).1 e2 e3 e4)
    · intro a1 h9 tk9 F9 N9 kp9
      rw [a6] at a1; cases a1
  · -- kind 3
    (with_reducible rename News g L' _ _ => kN)
    (with_reducible rename Fr g L' _ _ => kF)
    (with_reducible rename k ≠ 0 => k0)
    (with_reducible rename k ≠ 1 => k1)
    (with_reducible rename k ≠ 2 => k2)
    (with_reducible rename k = 3 => k3)
    have eR : stepR k ap nm rows none = (.refused, .same) := by rw [stepR, if_neg k0, if_neg k1, if_neg k2, if_pos k3]
    exact hret _ _ _ (by rw [eR]; exact .refused _) (by rw [eR]; exact .same (keep_nil hmd hg kF.keep (kN (md, o) (by k_mem)).1))
  · -- kind 4
    (with_reducible rename News g L' _ _ => kN)
    (with_reducible rename Fr g L' _ _ => kF)
    (with_reducible rename k ≠ 0 => k0)
    (with_reducible rename k ≠ 1 => k1)
    (with_reducible rename k ≠ 2 => k2)
    (with_reducible rename k ≠ 3 => k3)
    (with_reducible rename k = 4 => k4)
    have eR : stepR k ap nm rows none = (.nothing, .same) := by rw [stepR, if_neg k0, if_neg k1, if_neg k2, if_neg k3, if_pos k4]
    exact hret _ _ _ (by rw [eR]; exact .nothing _) (by rw [eR]; exact .same (keep_nil hmd hg kF.keep (kN (md, o) (by k_mem)).1))
  · -- kind 5
    (with_reducible rename News g L' _ _ => kN)
    (with_reducible rename Fr g L' _ _ => kF)
    (with_reducible rename k ≠ 0 => k0)
    (with_reducible rename k ≠ 1 => k1)
    (with_reducible rename k ≠ 2 => k2)
    (with_reducible rename k ≠ 3 => k3)
    (with_reducible rename k ≠ 4 => k4)
    have eR : stepR k ap nm rows none = (.refused, .same) := by rw [stepR, if_neg k0, if_neg k1, if_neg k2, if_neg k3, if_neg k4]
    exact hret _ _ _ (by rw [eR]; exact .refused _) (by rw [eR]; exact .same (keep_nil hmd hg kF.keep (kN (md, o) (by k_mem)).1))
end
local macro_rules | `(tactic| walk_at "call ref") => `(tactic| (k_here; (with_reducible show wpAny _ _ (call (Value.ref 526) _) _ _ _); k_dflt ((refine' span_K ?hf ?hk ?B ?F ?N ?X ?T ?q ?r ?o ?n ?l ?hd ?hu ?_ ?_); (case hf => rfl); (case hk => rfl); (case F => k_asm); (case N => k_asm); (case B => k_asm); (case X => k_asm); (case T => k_asm); (case q => exact isList_keep (by assumption) (Fr.keep (by k_asm))); (case r => exact TupRows.keeps (by assumption) (Fr.keep (by k_asm))); (case o => assumption); (case n => assumption); (case l => assumption); (case hd => ktr_room); (case hu => ktr_units); k_whole); all_goals (first | (intro a9 b9 e9 y9 oy9 t9 u9 n9 h9 tk9 F9 N9 ne9 c9 d9; (have lt9 := span_lt e9); (have le9 := span_le e9 (by assumption)); (k_dflt (have ne9' := allNe_of ne9)); clear ne9; (try simp only [AllNe, and_true] at ne9'); (try k_sweep)) | (intro e9 h9 tk9 F9 N9; (try k_sweep)))))
local macro_rules | `(tactic| walk_at "subscriptTail Name Slice ref ref") => `(tactic| (k_here; k_dflt (first
  | (refine' sl_to ?F ?N ?l ?a ?z ?_ ?s ?t; (case F => k_asm); (case N => k_asm); (case l => exact isList_keep (by assumption) (Fr.keep (by k_asm))); (case a => omega); (case z => omega); (case s => with_unfolding_all rfl); (case t => kmk_pure))
  | (refine' sl_from ?F ?N ?l ?a ?z ?_ ?s ?t; (case F => k_asm); (case N => k_asm); (case l => exact isList_keep (by assumption) (Fr.keep (by k_asm))); (case a => omega); (case z => omega); (case s => with_unfolding_all rfl); (case t => kmk_pure))
  | (refine' sl_in ?F ?N ?l ?b ?a ?z ?_ ?s ?t; (case F => k_asm); (case N => k_asm); (case l => exact isList_keep (by assumption) (Fr.keep (by k_asm))); (case b => omega); (case a => omega); (case z => omega); (case s => with_unfolding_all rfl); (case t => kmk_pure))); intro D' h' F' N' l1; (try k_lt l1); (try k_sweep)))
local macro_rules | `(tactic| walk_at "binaryOp Add ref ref") => `(tactic| (k_here; (with_reducible show wpAny _ _ (binaryOp _ (Value.ref _) (Value.ref _)) _ _ _); k_dflt ((refine' led_add ?F ?N ?a ?b ?z ?_; (case F => k_asm); (case N => k_asm); (case a => first | exact isList_led (by k_asm) (by k_mem) | exact isList_keep (by assumption) (Fr.keep (by k_asm))); (case b => first | exact isList_led (by k_asm) (by k_mem) | exact isList_keep (by assumption) (Fr.keep (by k_asm))); (case z => (simp only [List.length_append, List.length_cons, List.length_nil, List.length_take, List.length_drop]; omega))); intro D' h' F' N' l1; (try k_lt l1); (try k_sweep))))
section
theorem plain_p {w : World} {A : Around} {s : Shared} {Q E : Value → Shared → Prop} {dp un : Nat} {md q : Addr} {Z : List Addr} {o : Obj} {kvs : List (Str × Value)} {vs : List Value} {rows : List Row} {S : Addr} {ws : List Value} {rws : List Row} {k : Int} {tk0 : Tok} {ap nm : Str} {ta tn : Tok}
  (R : Rd w s.heap [md] dp un A) (hmd : s.heap.get? md = some o) (ho : o.IsDictOf (PySem.strKind PG w) kvs) (hlo : (md == sysModules) = false) (hkl : kvs.length ≤ 10) (hZ : md ∈ Z) (hZe : ∀ z ∈ Z, ∃ o, s.heap.get? z = some o)
  (hq : (hideAll s.heap Z).IsList q vs.toArray) (hr : TupRows (hideAll s.heap Z) vs rows) (hro : RowsOk rows) (hlen : rows.length ≤ 50) (hv : valueAt kvs ap = some (.ref S)) (hSl : (hideAll s.heap Z).IsList S ws.toArray) (hSr : TupRows (hideAll s.heap Z) ws rws) (hro2 : RowsOk rws) (hlen2 : rws.length ≤ 300) (h62 : rws.all six = true)
  (h6 : k ≠ 0 → rows.all six = true) (hap : PyData.strOk ap = true) (hn : PyData.strOk nm = true) (hd : dp + 15 < recursionLimit) (hu : un + 350 < cLine)
  (hret : ∀ v h' tk', TellsV s.heap h' (stepR k ap nm rows (some rws)).1 v → MOut w Z md kvs ap s.heap h' (stepR k ap nm rows (some rws)).2 → Q v { s with heap := h', toks := tk' }) :
  wpAny (model PG w) A (call (.ref 538) [.ref md, .int k tk0, .str ap ta, .str nm tn, .ref q]) Q E s := by
  cases R with
  | mk hf hkk B F X T hS =>
  rename_i h₀ L m p loose mean mg mb
  have N : News h₀ L s.heap [(md, o)] := fun p hp => by
    rw [List.mem_singleton.mp hp]; exact ⟨hmd, (hS _ (by simp)).2, (hS _ (by simp)).1⟩
  refine wpAny_call ?_
  k_dflt cell_enter
  intro g L' h' hg hh F' N' B' X' T' lt'
  (try dsimp only)
  k_fold
  have hgz : (hideAll s.heap Z).StaysIn g := fun a ob e => hg a ob (of_hideAll _ e) fun q => by rw [hideAll_none _ (md_in q hZ)] at e; cases e
  have hq' := isList_keep hq hgz
  have hr' := hr.keeps hgz
  have hvl : vs.length = rows.length := hr.1
  have hvn : (valueAt kvs ap).isSome = true := by rw [hv]; rfl
  have hSl' := isList_keep hSl hgz
  have hSr' := hSr.keeps hgz
  have hwl : ws.length = rws.length := hSr.1
  have hZ9 : ∀ h9 : Heap, g.StaysIn h9 → (hideAll s.heap Z).StaysIn (hideAll h9 Z) := fun h9 k a ob e => hideAll_get _ (k _ _ (hgz a ob e)) fun m => by rw [hideAll_none _ m] at e; cases e
  have hoff : ∀ a, g.get? a = none → @Ne Nat a md → a ∉ Z := fun a e n m => by
    obtain ⟨oz, ez⟩ := hZe a m
    rw [hg a oz ez (by simpa using n)] at e
    cases e
  k_steps
  · -- kind 0
    refine Stop.mk ?_
    (with_reducible rename News g L' _ _ => kN)
    (with_reducible rename Fr g L' _ _ => kF)
    (with_reducible rename k = 0 => k0)
    have eM := (kN (md, o) (by k_mem)).1
    k_dflt ((refine' addedm_K (vs := vs) (rows := rows) ?hf_3 ?hk_3 ?B_3 ?F_3 ?N_3 ?X_3 ?T_3 ?U_3 ?ho_3 ?hlo_3 ?hkl_3 ?hZ_3 ?hZe_3 ?hq_3 ?hr_3 ?hro_3 ?hlen_3 ?hap_3 ?hd_3 ?hu_3 ?_ ?_); (case hf_3 => rfl); (case hk_3 => rfl); (case F_3 => k_asm); (case N_3 => k_asm); (case B_3 => k_asm); (case X_3 => k_asm); (case T_3 => k_asm); (case U_3 => k_updF); (case ho_3 => assumption); (case hlo_3 => assumption); (case hkl_3 => assumption); (case hq_3 => exact (isList_keep hq (hZ9 _ kF.keep))); (case hr_3 => exact (hr.keeps (hZ9 _ kF.keep))); (case hZ_3 => assumption); (case hZe_3 => exact (z_live hZe hg kF.keep eM)); (case hro_3 => exact hro); (case hlen_3 => exact (by omega)); (case hap_3 => assumption); (case hd_3 => ktr_room); (case hu_3 => ktr_units); k_whole)
    · intro a1 S' vs' o' h9 tk9 F9 N9 kp9 e2 e3 e4
      (try dsimp only at N9)
      k_steps
      have eR : stepR k ap nm rows (some rws) = (.nothing, .put (marked ap rows)) := by rw [stepR, if_pos k0, if_pos a1]
      exact hret _ _ _ (by rw [eR]; exact .nothing _) (by rw [eR]; exact .put S' vs' o' (keep_fin (S := [md]) hg F9.keep) (N9 (md, o') (by k_mem)).1 e2 e3 e4)
    · intro a1 h9 tk9 F9 N9 kp9
      (try dsimp only at N9)
      k_steps
      have eR : stepR k ap nm rows (some rws) = (.refused, .same) := by rw [stepR, if_pos k0, if_neg (by rw [a1]; decide)]
      exact hret _ _ _ (by rw [eR]; exact .refused _) (by rw [eR]; exact .same (keep_nil hmd hg F9.keep (N9 (md, o) (by k_mem)).1))
  · -- kind 1
    (with_reducible rename News g L' _ _ => kN)
    (with_reducible rename Fr g L' _ _ => kF)
    (with_reducible rename k ≠ 0 => k0)
    (with_reducible rename k = 1 => k1)
    (with_reducible rename Obj.IsDictOf _ _ (without _ _) => kD)
    have eR : stepR k ap nm rows (some rws) = (.nothing, .del) := by rw [stepR, if_neg k0, if_pos k1]
    exact hret _ _ _ (by rw [eR]; exact .nothing _) (by rw [eR]; exact .del _ (keep_fin (S := [md]) hg kF.keep) (kN (md, _) (by k_mem)).1 kD)
  · -- kind 2, no span
    refine Stop.mk ?_
    (with_reducible rename News g L' _ _ => kN)
    (with_reducible rename Fr g L' _ _ => kF)
    (with_reducible rename k ≠ 0 => k0)
    (with_reducible rename k ≠ 1 => k1)
    (with_reducible rename k = 2 => k2)
    (with_reducible rename spanFrom _ _ _ = none => e9)
    (try dsimp only at kN)
    have eM := (kN (md, o) (by k_mem)).1
    have xD := kN _ (.head _)
    have x0 := kN _ (.tail _ (.head _))
    have x2 := kN _ (.tail _ (.tail _ (.tail _ (.head _))))
    have x5 := kN _ (.tail _ (.tail _ (.tail _ (.tail _ (.tail _ (.tail _ (.head _)))))))
    have x6 := kN _ (.tail _ (.tail _ (.tail _ (.tail _ (.tail _ (.tail _ (.tail _ (.head _))))))))
    have nD := ne_dict xD.1 eM rfl ho
    have n0 := ne_dict x0.1 eM rfl ho
    have n2 := ne_dict' x2.1 eM rfl ho
    have n5 := ne_dict' x5.1 eM rfl ho
    have n6 := ne_dict' x6.1 eM rfl ho
    try dsimp only at nD n0 n2 n5 n6
    obtain ⟨-, hrW⟩ := whole_led (Z := Z) kN (.tail _ (.head _)) (.tail _ (.tail _ (.tail _ (.tail _ (.tail _ (.tail _ (.tail _ (.head _)))))))) (.tail _ (.tail _ (.tail _ (.tail _ (.tail _ (.tail _ (.head _))))))) (.tail _ (.tail _ (.tail _ (.head _))))
      (hoff _ x0.2.2 n0) (hoff _ x6.2.2 n6) (hoff _ x5.2.2 n5) (hoff _ x2.2.2 n2) (hr.keeps (hZ9 _ kF.keep))
    have hlW := put_list (Z := Z) kN (.head _) (hoff _ xD.2.2 nD)
    have a6 : (marked ap (restRows nm rws ++ xlRows nm rows)).all six = true := by rw [all_mark, List.all_append, six_sub rest_mem h62, all_xl (h6 k0)]; rfl
    have eR : stepR k ap nm rows (some rws) = (.nothing, .put (marked ap (restRows nm rws ++ xlRows nm rows))) := by rw [stepR, if_neg k0, if_neg k1, if_pos k2]
    have eT := (hSr.keeps (hZ9 _ kF.keep)).app hrW
    have eOk : RowsOk (restRows nm rws ++ xlRows nm rows) := app_all (fun r h => hro2 r (rest_mem r h)) (xl_all (p := fun r => PyData.strOk r.2 = true) hn (by show PyData.strOk obr.2 = true; decide +kernel) (by show PyData.strOk cbr.2 = true; decide +kernel) hro)
    have eLen : (restRows nm rws ++ xlRows nm rows).length ≤ 390 := by rw [List.length_append, xl_len]; have := rest_le (nm := nm) (rows := rws); omega
    k_dflt ((refine' addedm_K (vs := _) (rows := (restRows nm rws ++ xlRows nm rows)) ?hf_4 ?hk_4 ?B_4 ?F_4 ?N_4 ?X_4 ?T_4 ?U_4 ?ho_4 ?hlo_4 ?hkl_4 ?hZ_4 ?hZe_4 ?hq_4 ?hr_4 ?hro_4 ?hlen_4 ?hap_4 ?hd_4 ?hu_4 ?_ ?_); (case hf_4 => rfl); (case hk_4 => rfl); (case F_4 => k_asm); (case N_4 => k_asm); (case B_4 => k_asm); (case X_4 => k_asm); (case T_4 => k_asm); (case U_4 => k_updF); (case ho_4 => assumption); (case hlo_4 => assumption); (case hkl_4 => assumption); (case hq_4 => exact hlW); (case hr_4 => exact (by rw [rest_none e9]; exact eT)); (case hZ_4 => assumption); (case hZe_4 => exact (z_live hZe hg kF.keep eM)); (case hro_4 => exact eOk); (case hlen_4 => exact eLen); (case hap_4 => assumption); (case hd_4 => ktr_room); (case hu_4 => ktr_units); k_whole)
    · intro a1 S' vs' o' h9 tk9 F9 N9 kp9 e2 e3 e4
      (try dsimp only at N9)
      k_steps
      exact hret _ _ _ (by rw [eR]; exact .nothing _) (by rw [eR]; exact .put S' vs' o' (keep_fin (S := [md]) hg F9.keep) (N9 (md, o') (by k_mem)).1 e2 e3 e4)
    · intro a1 h9 tk9 F9 N9 kp9
      rw [a6] at a1; cases a1
  · -- kind 3, no span
    refine Stop.mk ?_
    (with_reducible rename News g L' _ _ => kN)
    (with_reducible rename Fr g L' _ _ => kF)
    (with_reducible rename k ≠ 0 => k0)
    (with_reducible rename k ≠ 1 => k1)
    (with_reducible rename k ≠ 2 => k2)
    (with_reducible rename k = 3 => k3)
    (with_reducible rename spanFrom _ _ _ = none => e9)
    (try dsimp only at kN)
    have eM := (kN (md, o) (by k_mem)).1
    have xD := kN _ (.head _)
    have x0 := kN _ (.tail _ (.head _))
    have x2 := kN _ (.tail _ (.tail _ (.tail _ (.head _))))
    have x5 := kN _ (.tail _ (.tail _ (.tail _ (.tail _ (.tail _ (.tail _ (.head _)))))))
    have x6 := kN _ (.tail _ (.tail _ (.tail _ (.tail _ (.tail _ (.tail _ (.tail _ (.head _))))))))
    have nD := ne_dict xD.1 eM rfl ho
    have n0 := ne_dict x0.1 eM rfl ho
    have n2 := ne_dict' x2.1 eM rfl ho
    have n5 := ne_dict' x5.1 eM rfl ho
    have n6 := ne_dict' x6.1 eM rfl ho
    try dsimp only at nD n0 n2 n5 n6
    obtain ⟨-, hrW⟩ := whole_led (Z := Z) kN (.tail _ (.head _)) (.tail _ (.tail _ (.tail _ (.tail _ (.tail _ (.tail _ (.tail _ (.head _)))))))) (.tail _ (.tail _ (.tail _ (.tail _ (.tail _ (.tail _ (.head _))))))) (.tail _ (.tail _ (.tail _ (.head _))))
      (hoff _ x0.2.2 n0) (hoff _ x6.2.2 n6) (hoff _ x5.2.2 n5) (hoff _ x2.2.2 n2) (hr.keeps (hZ9 _ kF.keep))
    have hlW := put_list (Z := Z) kN (.head _) (hoff _ xD.2.2 nD)
    have a6 : (marked ap (restRows nm rws ++ xlRows nm rows)).all six = true := by rw [all_mark, List.all_append, six_sub rest_mem h62, all_xl (h6 k0)]; rfl
    have eR : stepR k ap nm rows (some rws) = (.nothing, .put (marked ap (restRows nm rws ++ xlRows nm rows))) := by rw [stepR, if_neg k0, if_neg k1, if_neg k2, if_pos k3]
    have eT := (hSr.keeps (hZ9 _ kF.keep)).app hrW
    have eOk : RowsOk (restRows nm rws ++ xlRows nm rows) := app_all (fun r h => hro2 r (rest_mem r h)) (xl_all (p := fun r => PyData.strOk r.2 = true) hn (by show PyData.strOk obr.2 = true; decide +kernel) (by show PyData.strOk cbr.2 = true; decide +kernel) hro)
    have eLen : (restRows nm rws ++ xlRows nm rows).length ≤ 390 := by rw [List.length_append, xl_len]; have := rest_le (nm := nm) (rows := rws); omega
    k_dflt ((refine' addedm_K (vs := _) (rows := (restRows nm rws ++ xlRows nm rows)) ?hf_5 ?hk_5 ?B_5 ?F_5 ?N_5 ?X_5 ?T_5 ?U_5 ?ho_5 ?hlo_5 ?hkl_5 ?hZ_5 ?hZe_5 ?hq_5 ?hr_5 ?hro_5 ?hlen_5 ?hap_5 ?hd_5 ?hu_5 ?_ ?_); (case hf_5 => rfl); (case hk_5 => rfl); (case F_5 => k_asm); (case N_5 => k_asm); (case B_5 => k_asm); (case X_5 => k_asm); (case T_5 => k_asm); (case U_5 => k_updF); (case ho_5 => assumption); (case hlo_5 => assumption); (case hkl_5 => assumption); (case hq_5 => exact hlW); (case hr_5 => exact (by rw [rest_none e9]; exact eT)); (case hZ_5 => assumption); (case hZe_5 => exact (z_live hZe hg kF.keep eM)); (case hro_5 => exact eOk); (case hlen_5 => exact eLen); (case hap_5 => assumption); (case hd_5 => ktr_room); (case hu_5 => ktr_units); k_whole)
    · intro a1 S' vs' o' h9 tk9 F9 N9 kp9 e2 e3 e4
      (try dsimp only at N9)
      k_steps
      exact hret _ _ _ (by rw [eR]; exact .nothing _) (by rw [eR]; exact .put S' vs' o' (keep_fin (S := [md]) hg F9.keep) (N9 (md, o') (by k_mem)).1 e2 e3 e4)
    · intro a1 h9 tk9 F9 N9 kp9
      rw [a6] at a1; cases a1
  · -- kind 4
    (with_reducible rename News g L' _ _ => kN)
    (with_reducible rename Fr g L' _ _ => kF)
    (with_reducible rename k ≠ 0 => k0)
    (with_reducible rename k ≠ 1 => k1)
    (with_reducible rename k ≠ 2 => k2)
    (with_reducible rename k ≠ 3 => k3)
    (with_reducible rename k = 4 => k4)
    (with_reducible rename spanFrom _ _ _ = none => e9)
    have eR : stepR k ap nm rows (some rws) = (.nothing, .same) := by rw [stepR, if_neg k0, if_neg k1, if_neg k2, if_neg k3, if_pos k4]; simp only [e9]
    exact hret _ _ _ (by rw [eR]; exact .nothing _) (by rw [eR]; exact .same (keep_nil hmd hg kF.keep (kN (md, o) (by k_mem)).1))
  · -- kind 5
    (with_reducible rename News g L' _ _ => kN)
    (with_reducible rename Fr g L' _ _ => kF)
    (with_reducible rename k ≠ 0 => k0)
    (with_reducible rename k ≠ 1 => k1)
    (with_reducible rename k ≠ 2 => k2)
    (with_reducible rename k ≠ 3 => k3)
    (with_reducible rename k ≠ 4 => k4)
    (with_reducible rename spanFrom _ _ _ = none => e9)
    have eR : stepR k ap nm rows (some rws) = (.refused, .same) := by rw [stepR, if_neg k0, if_neg k1, if_neg k2, if_neg k3, if_neg k4]; simp only [e9]
    exact hret _ _ _ (by rw [eR]; exact .refused _) (by rw [eR]; exact .same (keep_nil hmd hg kF.keep (kN (md, o) (by k_mem)).1))
  · -- kind 2, a span
    refine Stop.mk ?_
    (with_reducible rename News g L' _ _ => kN)
    (with_reducible rename Fr g L' _ _ => kF)
    (with_reducible rename k ≠ 0 => k0)
    (with_reducible rename k ≠ 1 => k1)
    (with_reducible rename k = 2 => k2)
    (with_reducible rename spanFrom _ _ _ = some _ => e9)
    (try dsimp only at kN)
    have eM := (kN (md, o) (by k_mem)).1
    have xD := kN _ (.head _)
    have x0 := kN _ (.tail _ (.tail _ (.tail _ (.tail _ (.head _)))))
    have x2 := kN _ (.tail _ (.tail _ (.tail _ (.tail _ (.tail _ (.tail _ (.head _)))))))
    have x5 := kN _ (.tail _ (.tail _ (.tail _ (.tail _ (.tail _ (.tail _ (.tail _ (.tail _ (.tail _ (.head _))))))))))
    have x6 := kN _ (.tail _ (.tail _ (.tail _ (.tail _ (.tail _ (.tail _ (.tail _ (.tail _ (.tail _ (.tail _ (.head _)))))))))))
    have nD := ne_dict xD.1 eM rfl ho
    have n0 := ne_dict x0.1 eM rfl ho
    have n2 := ne_dict' x2.1 eM rfl ho
    have n5 := ne_dict' x5.1 eM rfl ho
    have n6 := ne_dict' x6.1 eM rfl ho
    try dsimp only at nD n0 n2 n5 n6
    obtain ⟨-, hrW⟩ := whole_led (Z := Z) kN (.tail _ (.tail _ (.tail _ (.tail _ (.head _))))) (.tail _ (.tail _ (.tail _ (.tail _ (.tail _ (.tail _ (.tail _ (.tail _ (.tail _ (.tail _ (.head _))))))))))) (.tail _ (.tail _ (.tail _ (.tail _ (.tail _ (.tail _ (.tail _ (.tail _ (.tail _ (.head _)))))))))) (.tail _ (.tail _ (.tail _ (.tail _ (.tail _ (.tail _ (.head _)))))))
      (hoff _ x0.2.2 n0) (hoff _ x6.2.2 n6) (hoff _ x5.2.2 n5) (hoff _ x2.2.2 n2) (hr.keeps (hZ9 _ kF.keep))
    have hlW := put_list (Z := Z) kN (.head _) (hoff _ xD.2.2 nD)
    have a6 : (marked ap (restRows nm rws ++ xlRows nm rows)).all six = true := by rw [all_mark, List.all_append, six_sub rest_mem h62, all_xl (h6 k0)]; rfl
    have eR : stepR k ap nm rows (some rws) = (.nothing, .put (marked ap (restRows nm rws ++ xlRows nm rows))) := by rw [stepR, if_neg k0, if_neg k1, if_pos k2]
    have eT := (cut_tups e9 (hSr.keeps (hZ9 _ kF.keep))).app hrW
    have eOk : RowsOk (restRows nm rws ++ xlRows nm rows) := app_all (fun r h => hro2 r (rest_mem r h)) (xl_all (p := fun r => PyData.strOk r.2 = true) hn (by show PyData.strOk obr.2 = true; decide +kernel) (by show PyData.strOk cbr.2 = true; decide +kernel) hro)
    have eLen : (restRows nm rws ++ xlRows nm rows).length ≤ 390 := by rw [List.length_append, xl_len]; have := rest_le (nm := nm) (rows := rws); omega
    k_dflt ((refine' addedm_K (vs := _) (rows := (restRows nm rws ++ xlRows nm rows)) ?hf_6 ?hk_6 ?B_6 ?F_6 ?N_6 ?X_6 ?T_6 ?U_6 ?ho_6 ?hlo_6 ?hkl_6 ?hZ_6 ?hZe_6 ?hq_6 ?hr_6 ?hro_6 ?hlen_6 ?hap_6 ?hd_6 ?hu_6 ?_ ?_); (case hf_6 => rfl); (case hk_6 => rfl); (case F_6 => k_asm); (case N_6 => k_asm); (case B_6 => k_asm); (case X_6 => k_asm); (case T_6 => k_asm); (case U_6 => k_updF); (case ho_6 => assumption); (case hlo_6 => assumption); (case hkl_6 => assumption); (case hq_6 => exact hlW); (case hr_6 => exact eT); (case hZ_6 => assumption); (case hZe_6 => exact (z_live hZe hg kF.keep eM)); (case hro_6 => exact eOk); (case hlen_6 => exact eLen); (case hap_6 => assumption); (case hd_6 => ktr_room); (case hu_6 => ktr_units); k_whole)
    · intro a1 S' vs' o' h9 tk9 F9 N9 kp9 e2 e3 e4
      (try dsimp only at N9)
      k_steps
      exact hret _ _ _ (by rw [eR]; exact .nothing _) (by rw [eR]; exact .put S' vs' o' (keep_fin (S := [md]) hg F9.keep) (N9 (md, o') (by k_mem)).1 e2 e3 e4)
    · intro a1 h9 tk9 F9 N9 kp9
      rw [a6] at a1; cases a1
  · -- kind 3, a span
    refine Stop.mk ?_
    (with_reducible rename News g L' _ _ => kN)
    (with_reducible rename Fr g L' _ _ => kF)
    (with_reducible rename k ≠ 0 => k0)
    (with_reducible rename k ≠ 1 => k1)
    (with_reducible rename k ≠ 2 => k2)
    (with_reducible rename k = 3 => k3)
    (with_reducible rename spanFrom _ _ _ = some _ => e9)
    (try dsimp only at kN)
    have eM := (kN (md, o) (by k_mem)).1
    have xD := kN _ (.head _)
    have x0 := kN _ (.tail _ (.tail _ (.tail _ (.tail _ (.head _)))))
    have x2 := kN _ (.tail _ (.tail _ (.tail _ (.tail _ (.tail _ (.tail _ (.head _)))))))
    have x5 := kN _ (.tail _ (.tail _ (.tail _ (.tail _ (.tail _ (.tail _ (.tail _ (.tail _ (.tail _ (.head _))))))))))
    have x6 := kN _ (.tail _ (.tail _ (.tail _ (.tail _ (.tail _ (.tail _ (.tail _ (.tail _ (.tail _ (.tail _ (.head _)))))))))))
    have nD := ne_dict xD.1 eM rfl ho
    have n0 := ne_dict x0.1 eM rfl ho
    have n2 := ne_dict' x2.1 eM rfl ho
    have n5 := ne_dict' x5.1 eM rfl ho
    have n6 := ne_dict' x6.1 eM rfl ho
    try dsimp only at nD n0 n2 n5 n6
    obtain ⟨-, hrW⟩ := whole_led (Z := Z) kN (.tail _ (.tail _ (.tail _ (.tail _ (.head _))))) (.tail _ (.tail _ (.tail _ (.tail _ (.tail _ (.tail _ (.tail _ (.tail _ (.tail _ (.tail _ (.head _))))))))))) (.tail _ (.tail _ (.tail _ (.tail _ (.tail _ (.tail _ (.tail _ (.tail _ (.tail _ (.head _)))))))))) (.tail _ (.tail _ (.tail _ (.tail _ (.tail _ (.tail _ (.head _)))))))
      (hoff _ x0.2.2 n0) (hoff _ x6.2.2 n6) (hoff _ x5.2.2 n5) (hoff _ x2.2.2 n2) (hr.keeps (hZ9 _ kF.keep))
    have hlW := put_list (Z := Z) kN (.head _) (hoff _ xD.2.2 nD)
    have a6 : (marked ap (restRows nm rws ++ xlRows nm rows)).all six = true := by rw [all_mark, List.all_append, six_sub rest_mem h62, all_xl (h6 k0)]; rfl
    have eR : stepR k ap nm rows (some rws) = (.nothing, .put (marked ap (restRows nm rws ++ xlRows nm rows))) := by rw [stepR, if_neg k0, if_neg k1, if_neg k2, if_pos k3]
    have eT := (cut_tups e9 (hSr.keeps (hZ9 _ kF.keep))).app hrW
    have eOk : RowsOk (restRows nm rws ++ xlRows nm rows) := app_all (fun r h => hro2 r (rest_mem r h)) (xl_all (p := fun r => PyData.strOk r.2 = true) hn (by show PyData.strOk obr.2 = true; decide +kernel) (by show PyData.strOk cbr.2 = true; decide +kernel) hro)
    have eLen : (restRows nm rws ++ xlRows nm rows).length ≤ 390 := by rw [List.length_append, xl_len]; have := rest_le (nm := nm) (rows := rws); omega
    k_dflt ((refine' addedm_K (vs := _) (rows := (restRows nm rws ++ xlRows nm rows)) ?hf_7 ?hk_7 ?B_7 ?F_7 ?N_7 ?X_7 ?T_7 ?U_7 ?ho_7 ?hlo_7 ?hkl_7 ?hZ_7 ?hZe_7 ?hq_7 ?hr_7 ?hro_7 ?hlen_7 ?hap_7 ?hd_7 ?hu_7 ?_ ?_); (case hf_7 => rfl); (case hk_7 => rfl); (case F_7 => k_asm); (case N_7 => k_asm); (case B_7 => k_asm); (case X_7 => k_asm); (case T_7 => k_asm); (case U_7 => k_updF); (case ho_7 => assumption); (case hlo_7 => assumption); (case hkl_7 => assumption); (case hq_7 => exact hlW); (case hr_7 => exact eT); (case hZ_7 => assumption); (case hZe_7 => exact (z_live hZe hg kF.keep eM)); (case hro_7 => exact eOk); (case hlen_7 => exact eLen); (case hap_7 => assumption); (case hd_7 => ktr_room); (case hu_7 => ktr_units); k_whole)
    · intro a1 S' vs' o' h9 tk9 F9 N9 kp9 e2 e3 e4
      (try dsimp only at N9)
      k_steps
      exact hret _ _ _ (by rw [eR]; exact .nothing _) (by rw [eR]; exact .put S' vs' o' (keep_fin (S := [md]) hg F9.keep) (N9 (md, o') (by k_mem)).1 e2 e3 e4)
    · intro a1 h9 tk9 F9 N9 kp9
      rw [a6] at a1; cases a1
  · -- kind 4, a span
    refine Stop.mk ?_
    (with_reducible rename News g L' _ _ => kN)
    (with_reducible rename Fr g L' _ _ => kF)
    (with_reducible rename k ≠ 0 => k0)
    (with_reducible rename k ≠ 1 => k1)
    (with_reducible rename k ≠ 2 => k2)
    (with_reducible rename k ≠ 3 => k3)
    (with_reducible rename k = 4 => k4)
    (with_reducible rename spanFrom _ _ _ = some _ => e9)
    (try dsimp only at kN)
    have eM := (kN (md, o) (by k_mem)).1
    have xD := kN _ (.head _)
    have nD := ne_dict xD.1 eM rfl ho
    try dsimp only at nD
    have hlW := put_list (Z := Z) kN (.head _) (hoff _ xD.2.2 nD)
    have a6 : (marked ap (restRows nm rws)).all six = true := by rw [all_mark]; exact six_sub rest_mem h62
    have eR : stepR k ap nm rows (some rws) = (.nothing, .put (marked ap (restRows nm rws))) := by rw [stepR, if_neg k0, if_neg k1, if_neg k2, if_neg k3, if_pos k4, rest_some e9]; simp only [e9]
    have eT := cut_tups e9 (hSr.keeps (hZ9 _ kF.keep))
    have eLen : (restRows nm rws).length ≤ 390 := by have := rest_le (nm := nm) (rows := rws); omega
    k_dflt ((refine' addedm_K (vs := _) (rows := (restRows nm rws)) ?hf_8 ?hk_8 ?B_8 ?F_8 ?N_8 ?X_8 ?T_8 ?U_8 ?ho_8 ?hlo_8 ?hkl_8 ?hZ_8 ?hZe_8 ?hq_8 ?hr_8 ?hro_8 ?hlen_8 ?hap_8 ?hd_8 ?hu_8 ?_ ?_); (case hf_8 => rfl); (case hk_8 => rfl); (case F_8 => k_asm); (case N_8 => k_asm); (case B_8 => k_asm); (case X_8 => k_asm); (case T_8 => k_asm); (case U_8 => k_updF); (case ho_8 => assumption); (case hlo_8 => assumption); (case hkl_8 => assumption); (case hq_8 => exact hlW); (case hr_8 => exact eT); (case hZ_8 => assumption); (case hZe_8 => exact (z_live hZe hg kF.keep eM)); (case hro_8 => exact (fun r h => hro2 r (rest_mem r h))); (case hlen_8 => exact eLen); (case hap_8 => assumption); (case hd_8 => ktr_room); (case hu_8 => ktr_units); k_whole)
    · intro a1 S' vs' o' h9 tk9 F9 N9 kp9 e2 e3 e4
      (try dsimp only at N9)
      k_steps
      exact hret _ _ _ (by rw [eR]; exact .nothing _) (by rw [eR]; exact .put S' vs' o' (keep_fin (S := [md]) hg F9.keep) (N9 (md, o') (by k_mem)).1 e2 e3 e4)
    · intro a1 h9 tk9 F9 N9 kp9
      rw [a6] at a1; cases a1
  · -- kind 5, a span
    (with_reducible rename News g L' _ _ => kN)
    (with_reducible rename Fr g L' _ _ => kF)
    (with_reducible rename k ≠ 0 => k0)
    (with_reducible rename k ≠ 1 => k1)
    (with_reducible rename k ≠ 2 => k2)
    (with_reducible rename k ≠ 3 => k3)
    (with_reducible rename k ≠ 4 => k4)
    (with_reducible rename spanFrom _ _ _ = some _ => e9)
    have xD := kN _ (.head _)
    have eM := (kN (md, o) (by k_mem)).1
    have eR := step5 (ap := ap) (rows := rows) k0 k1 k2 k3 k4 e9
    have nD := ne_dict xD.1 eM rfl ho
    exact hret _ _ _ (by rw [eR]; exact .rows _ _ _ (fresh_of (S := [md]) hg xD.2.2 (nin1 nD)) xD.1 (hSr'.keeps kF.keep).take.drop) (by rw [eR]; exact .same (keep_nil hmd hg kF.keep eM))
end
section
/-- what became of data's dict: S is what a deed may change -/
inductive DOut (w : World) (S fs : List Addr) (dd : Addr) (kvs : List (Str × Value)) (ap : Str) (h0 h' : Heap) : Upd → Prop
  | same : KeepF [384, 444] fs h0 h' → DOut w S fs dd kvs ap h0 h' .same
  | put {r : List Row} (T d : Addr) (n : Nat) (vs' : List Value) (o' : Obj) : KeepF S fs h0 h' → h'.get? dd = some o' → o'.IsDictOf (PySem.strKind PG w) (stored kvs ap (.ref T)) → h0.get? T = none → h0.get? d = none → h'.get? T = some (tg d vs' n) → h'.get? d = some emptyDict → NewRows h0 h' vs' r → DOut w S fs dd kvs ap h0 h' (.put r)
  | del (o' : Obj) : KeepF [dd] fs h0 h' → h'.get? dd = some o' → o'.IsDictOf (PySem.strKind PG w) (without kvs ap) → DOut w S fs dd kvs ap h0 h' .del
theorem KeepF.mono {S S' fs : List Addr} {h h' : Heap} (k : KeepF S fs h h') (hs : ∀ a ∈ S, a ∈ S') : KeepF S' fs h h' := ⟨fun a o e n m => k.keep a o e (fun q => n (hs a q)) m, fun a o e n m => k.up a o e (fun q => n (hs a q)) m⟩
theorem marked_xl {ap nm : Str} {rows : List Row} : marked ap ((1001, ap) :: xlRows nm rows) = marked ap (xlRows nm rows) := by
  have e1 : marked ap ((1001, ap) :: xlRows nm rows) = (1001, ap) :: xlRows nm rows := if_neg (by
    intro q
    rcases q with q | q
    · simp at q
    · exact q rfl)
  have e2 : marked ap (xlRows nm rows) = (1001, ap) :: xlRows nm rows := if_pos (.inr (by
    show ((1000, nm) : Row) ≠ (1001, ap)
    intro q
    have := congrArg Prod.fst q
    simp at this))
  rw [e1, e2]
theorem marked_six {ap : Str} {rows : List Row} (h : rows.all (fun r => validC r.1) = rows.all six) : (marked ap rows).all (fun r => validC r.1) = (marked ap rows).all six := by
  rw [all_mark, ← h]
  unfold marked
  split
  · rfl
  · rfl
theorem keepF_cell {S fs : List Addr} {h h' : Heap} {d : Addr} {o : Obj} (k : KeepF (d :: S) fs h h') (e : h.get? d = some o) (e' : h'.get? d = some o) : KeepF S fs h h' := by
  refine ⟨fun a ob q n m => ?_, fun a ob q n m => ?_⟩
  · by_cases c : a = d
    · rw [c, e] at q; cases q; rw [c]; exact e'
    · exact k.keep a ob q (fun z => (List.mem_cons.mp z).elim c n) m
  · by_cases c : a = d
    · rw [c, e] at q; cases q; rw [c]; exact ⟨o.slots, e'⟩
    · exact k.up a ob q (fun z => (List.mem_cons.mp z).elim c n) m
theorem raisedS_base {base h h' : Heap} {l : List Env} {e t : Addr} {cls : Value} {vs : List Value} {news : List (Addr × Obj)} (R : RaisedS base h l e cls t vs news h') : base.StaysIn h' ∧ ∀ p ∈ news, h'.get? p.1 = some p.2 := by
  obtain ⟨⟨B1, k0, _, k2, hfl, _⟩, _⟩ := R
  exact ⟨fun b o e => hfl.1 _ _ (k0 b o e), fun p hp => hfl.1 _ _ (k2 p hp).1⟩
theorem split3 {dd : Addr} {o op op4 op' op4' : Obj} (h1 : @Ne Nat dd 384) (h2 : @Ne Nat dd 444) : ∀ p ∈ [(dd, o), ((384 : Addr), op'), ((444 : Addr), op4')], p ∈ [((384 : Addr), op'), ((444 : Addr), op4')] ∨ p ∈ [(dd, o), ((384 : Addr), op), ((444 : Addr), op4)] ∧ p.1 ∉ [(384 : Addr), 444] := by
  intro p hp
  rcases List.mem_cons.mp hp with rfl | hp
  · exact .inr ⟨.head _, nin2 h1 h2⟩
  · exact .inl hp
theorem split4 {dd q : Addr} {o oq op op4 op' op4' : Obj} (h1 : @Ne Nat dd 384) (h2 : @Ne Nat dd 444) (h3 : @Ne Nat q 384) (h4 : @Ne Nat q 444) : ∀ p ∈ [(dd, o), (q, oq), ((384 : Addr), op'), ((444 : Addr), op4')], p ∈ [((384 : Addr), op'), ((444 : Addr), op4')] ∨ p ∈ [(dd, o), (q, oq), ((384 : Addr), op), ((444 : Addr), op4)] ∧ p.1 ∉ [(384 : Addr), 444] := by
  intro p hp
  rcases List.mem_cons.mp hp with rfl | hp
  · exact .inr ⟨.head _, nin2 h1 h2⟩
  rcases List.mem_cons.mp hp with rfl | hp
  · exact .inr ⟨.tail _ (.head _), nin2 h3 h4⟩
  · exact .inl hp
theorem cells2 {op' op4' : Obj} : ∀ p ∈ [((384 : Addr), op'), ((444 : Addr), op4')], p.1 ∈ [(384 : Addr), 444] := by
  intro p hp
  rcases List.mem_cons.mp hp with rfl | hp
  · exact .head _
  · rw [List.mem_singleton.mp hp]; exact .tail _ (.head _)
theorem cin3 {dd : Addr} {o op op4 : Obj} : ∀ c ∈ [(384 : Addr), 444], c ∈ [(dd, o), ((384 : Addr), op), ((444 : Addr), op4)].map (·.1) := by
  intro c hc
  exact .tail _ hc
theorem cin4 {dd q : Addr} {o oq op op4 : Obj} : ∀ c ∈ [(384 : Addr), 444], c ∈ [(dd, o), (q, oq), ((384 : Addr), op), ((444 : Addr), op4)].map (·.1) := by
  intro c hc
  exact .tail _ (.tail _ hc)
end
section
local macro_rules | `(tactic| walk_at "call ref") => `(tactic| (k_here; (with_reducible show wpAny _ _ (call (Value.ref 449) _) _ _ _); refine cut ?_))
local macro_rules | `(tactic| walk_at "call ref") => `(tactic| (k_here; (with_reducible show wpAny _ _ (call (Value.ref 463) _) _ _ _); refine cut ?_))
local macro_rules | `(tactic| walk_at "call ref") => `(tactic| (k_here; (with_reducible show wpAny _ _ (call (Value.ref 484) _) _ _ _); refine cut ?_))
local macro_rules | `(tactic| walk_at "call ref") => `(tactic| (k_here; (with_reducible show wpAny _ _ (call (Value.ref 491) _) _ _ _); refine cut ?_))
local macro_rules | `(tactic| walk_at "call ref") => `(tactic| (k_here; (with_reducible show wpAny _ _ (call (Value.ref 477) _) _ _ _); refine cut ?_))
theorem done_n {w : World} {A : Around} {s : Shared} {Q E : Value → Shared → Prop} {dp un : Nat} {x xi dd q2 : Addr} {o : Obj} {kvs : List (Str × Value)} {k : Int} {tk0 : Tok} {ap nm : Str} {ta tn : Tok} {rws : List Row} {us : List Value} {ps ps4 : Array Value}
  (R : Rc w s.heap [dd, 384, 444] dp un A) (hx : XdAt w (hideAll s.heap ([dd, 384, 444] ++ frs A)) x xi dd) (hdd : s.heap.get? dd = some o) (ho : o.IsDictOf (PySem.strKind PG w) kvs) (hlo : (dd == sysModules) = false) (hkl : kvs.length ≤ 10) (hv : valueAt kvs ap = none)
  (hd384 : @Ne Nat dd 384) (hd444 : @Ne Nat dd 444) (hc8 : IsCT s.heap 388 384 ps) (hc4 : IsCT s.heap 448 444 ps4) (hn : PyData.strOk nm = true) (hap : PyData.strOk ap = true) (hsa : (rowD (1001, ap)).showable = true ∧ (rowD (1001, ap)).shown.length ≤ 60) (hgd : A.guards = some []) (hd : dp + 100 < recursionLimit) (hu : un + 1200 < cLine)
  (hq2 : (hideAll s.heap ([dd, 384, 444] ++ frs A)).IsList q2 us.toArray) (hr2 : TupRows (hideAll s.heap ([dd, 384, 444] ++ frs A)) us rws) (hro2 : RowsOk rws) (hsh2 : RowsSh rws) (hsv : rws.all (fun r => validC r.1) = rws.all six) (h6 : k ≠ 0 → rws.all six = true) (hlen2 : rws.length ≤ 50)
  (hn0 : 0 < nm.length) (hn2 : nm.length < 100) (ha2 : ap.length < 100) (hsn : (rowD (1000, nm)).showable = true ∧ (rowD (1000, nm)).shown.length ≤ 60)
  (hret : ∀ v h' tk' (gs' : Array GenState) (ps' ps4' : Array Value), TellsV s.heap h' (stepR k ap nm rws none).1 v → DOut w [dd, 384, 444] (frs A) dd kvs ap s.heap h' (stepR k ap nm rws none).2 → IsCT h' 388 384 ps' → IsCT h' 448 444 ps4' → GN s.gens gs' → Q v { s with heap := h', toks := tk', gens := gs' }) :
  wpAny (model PG w) A (call (.ref 543) [.ref x, .int k tk0, .str ap ta, .str nm tn, .ref q2]) Q E s := by
  have R0 := R
  cases R with
  | mk hf hkk B F X T XB TB D hS =>
  rename_i gd env outer A₀ base h₀ L m p loose mean mg mb
  cases hgd
  obtain ⟨op, h384⟩ := code_tab hc8
  obtain ⟨op4, h444⟩ := code_tab hc4
  have N : News h₀ L s.heap [(dd, o), (384, op), (444, op4)] := fun p hp => by
    simp only [List.mem_cons, List.not_mem_nil, or_false] at hp
    rcases hp with rfl | rfl | rfl
    · exact ⟨hdd, (hS _ (by simp)).2, (hS _ (by simp)).1⟩
    · exact ⟨h384, (hS _ (by simp)).2, (hS _ (by simp)).1⟩
    · exact ⟨h444, (hS _ (by simp)).2, (hS _ (by simp)).1⟩
  have hb : (valueAt kvs ap).isSome = false := by rw [hv]; rfl
  have hvl2 : us.length = rws.length := hr2.1
  obtain ⟨oc8, hoc8, hcd8⟩ : ∃ oc, h₀.get? 388 = some oc ∧ ∃ vs, oc.data = .fields vs := ⟨_, X _ _ (by k_is), _, rfl⟩
  obtain ⟨oc4, hoc4, hcd4⟩ : ∃ oc, h₀.get? 448 = some oc ∧ ∃ vs, oc.data = .fields vs := ⟨_, X _ _ (by k_is), _, rfl⟩
  refine wpAny_call ?_
  k_dflt kc_enter
  intro g L' h' hg hh F' N' B' X' T' XB' TB' D' lt'
  (try dsimp only)
  k_fold
  have hgz := hz_ground (S := [dd, 384, 444]) (fs := frs ⟨none, dp, some (env :: outer), some [], un⟩) hg (fun a h => h)
  have hzg : (hideAll s.heap ([dd, 384, 444] ++ frs ⟨none, dp, some (env :: outer), some [], un⟩)).StaysIn g := fun a ob e => (hgz a ob e).1
  have hg0 : h₀.StaysIn g := fun a ob e => hg a ob (F.keep _ _ e) fun q => by
    obtain ⟨z, hz, rfl⟩ := List.mem_map.mp q
    rw [(N z hz).2.2] at e; cases e
  have tab8 := (TabOk.of_code (g := h₀) hc8 F.keep hoc8 h384).mono hg0
  have tab4 := (TabOk.of_code (g := h₀) hc4 F.keep hoc4 h444).mono hg0
  have hx' := hx.keeps hzg
  have hq2' : g.IsList q2 us.toArray := isList_keep hq2 hzg
  have hr2' : TupRows g us rws := hr2.keeps hzg
  obtain ⟨t, hx1, hx2⟩ := id hx'.at_
  k_lt lt'
  have fr0 : frs ⟨none, dp, some (env :: outer), some [], un⟩ = (env :: outer).filterMap (·.frame) := rfl
  obtain ⟨ocb8, hocb8⟩ : ∃ oc, Heap.get? _ 388 = some oc := ⟨_, XB' _ _ (by k_is)⟩
  obtain ⟨ocb4, hocb4⟩ : ∃ oc, Heap.get? _ 448 = some oc := ⟨_, XB' _ _ (by k_is)⟩
  k_steps
  · -- kind 0
    refine Stop.mk ?_
    (with_reducible rename News g L' _ _ => kN)
    (with_reducible rename Fr g L' _ _ => kF)
    have c1 := kN _ (.head _)
    have c3 := kN _ (.tail _ (.head _))
    have c4 := kN _ (.tail _ (.tail _ (.head _)))
    have hS' : ∀ c ∈ [dd, 384, 444], g.get? c = none ∧ c ≠ L' := fun c hc => by
      simp only [List.mem_cons, List.not_mem_nil, or_false] at hc
      rcases hc with rfl | rfl | rfl
      · exact ⟨c1.2.2, c1.2.1⟩
      · exact ⟨c3.2.2, c3.2.1⟩
      · exact ⟨c4.2.2, c4.2.1⟩
    obtain ⟨ps8, hc8'⟩ := tab_code tab8 kF.keep c3.1
    obtain ⟨ps44, hc4'⟩ := tab_code tab4 kF.keep c4.1
    have gi := ground_in (Z := [dd, 384, 444]) kF (fun c hc => (hS' c hc).1)
    have fr9 := fresh9 hg kF.keep c1.1 c3.1 c4.1
    (with_reducible rename k = 0 => k0)
    (k_dflt (refine' add_c (Rd.mk rfl rfl B' kF X' T' hS') (hx'.keeps gi) c1.1 ho hlo hkl hd384 hd444 hc8' hc4' (.inl (isList_keep hq2' gi)) ((ItemRows.of_tups hr2').keeps gi) hro2 hsh2 (by omega) hap hsa rfl ?hd ?hu (fun a1 S' d' n' vs' o' h3 tk3 gs3 ps3 ps5 kp3 edd edict e8 e4 egn fS' fd' eS' ed' nr => ?_) (fun a1 e9 op' op4' h3 tk3 gs3 ps3 ps5 fl e8 e4 egn => ?_); (case hd => ktr_room); (case hu => ktr_units)))
    · have F3 := Mine.Fr.after kF kp3 hS'
      have N3 := news_nilF F3
      clear kF kN
      k_steps
      have eR : stepR k ap nm rws none = (.nothing, .put (marked ap rws)) := by rw [stepR, if_pos k0, if_pos (by rw [← marked_six hsv]; exact a1)]
      exact hret _ _ _ _ _ _ (by rw [eR]; exact .nothing _) (by rw [eR]; exact .put S' d' n' vs' o' (Keep.toF (keep_fin (S := [dd, 384, 444]) hg F3.keep)) edd edict (fr9 _ fS') (fr9 _ fd') eS' ed' (nr.monoF fr9)) e8 e4 egn
    · obtain ⟨t9, vs9, R9, U9, F9⟩ := flown_SN (news' := [(dd, o), (384, op'), (444, op4')]) B' kF kN rfl rfl fl (split3 hd384 hd444) cells2 cin3
      obtain ⟨kb, kn⟩ := raisedS_base R9
      have tb8 := TabOk.of_code e8 kb hocb8 (kn (384, op') (.tail _ (.head _)))
      have tb4 := TabOk.of_code e4 kb hocb4 (kn (444, op4') (.tail _ (.tail _ (.head _))))
      clear kF kN
      k_steps
      (with_reducible rename KtsTurn _ g _ => kT9)
      (with_reducible rename Fr _ L' _ _ => kF9)
      (with_reducible rename News _ L' _ _ => kN9)
      have kf9 := keepF_cell (keepF_fin (S := [dd, 384, 444]) hg kT9 kF9.keep) hdd (kN9 (dd, o) (by k_mem)).1
      (with_reducible rename Below _ _ _ _ => kB9)
      have eR : stepR k ap nm rws none = (.refused, .same) := by rw [stepR, if_pos k0, if_neg (by rw [← marked_six hsv, a1]; decide)]
      obtain ⟨ps8', hc8''⟩ := tab_code (tb8.mono kB9.stays) kF9.keep (kN9 (384, op') (by k_mem)).1
      obtain ⟨ps44', hc4''⟩ := tab_code (tb4.mono kB9.stays) kF9.keep (kN9 (444, op4') (by k_mem)).1
      exact hret _ _ _ _ _ _ (by rw [eR]; exact .refused _) (by rw [eR]; exact .same kf9) hc8'' hc4'' egn
  · -- kind 1
    refine Stop.mk ?_
    (with_reducible rename News g L' _ _ => kN)
    (with_reducible rename Fr g L' _ _ => kF)
    have c1 := kN _ (.head _)
    have c3 := kN _ (.tail _ (.head _))
    have c4 := kN _ (.tail _ (.tail _ (.head _)))
    have hS' : ∀ c ∈ [dd, 384, 444], g.get? c = none ∧ c ≠ L' := fun c hc => by
      simp only [List.mem_cons, List.not_mem_nil, or_false] at hc
      rcases hc with rfl | rfl | rfl
      · exact ⟨c1.2.2, c1.2.1⟩
      · exact ⟨c3.2.2, c3.2.1⟩
      · exact ⟨c4.2.2, c4.2.1⟩
    obtain ⟨ps8, hc8'⟩ := tab_code tab8 kF.keep c3.1
    obtain ⟨ps44, hc4'⟩ := tab_code tab4 kF.keep c4.1
    have gi := ground_in (Z := [dd, 384, 444]) kF (fun c hc => (hS' c hc).1)
    have fr9 := fresh9 hg kF.keep c1.1 c3.1 c4.1
    (with_reducible rename k ≠ 0 => k0)
    (with_reducible rename k = 1 => k1)
    have gi1 := ground_in (Z := [dd]) kF (fun c hc => (hS' c (by simp at hc; simp [hc])).1)
    (k_dflt (refine' discard_c (Rd.mk rfl rfl B' kF X' T' (fun c hc => hS' c (by simp at hc; simp [hc]))) (hx'.keeps gi1) c1.1 ho hlo hkl ?hd ?hu (fun o' h3 tk3 kp3 edd edict => ?_); (case hd => ktr_room); (case hu => ktr_units)))
    have F3 := Mine.Fr.after kF kp3 (fun c hc => hS' c (by simp at hc; simp [hc]))
    have N3 := news_nilF F3
    have x3 := kp3 _ _ c3.1 (nin1 hd384.symm)
    have x4 := kp3 _ _ c4.1 (nin1 hd444.symm)
    clear kF kN
    k_steps
    have eR : stepR k ap nm rws none = (.nothing, .del) := by rw [stepR, if_neg k0, if_pos k1]
    obtain ⟨ps8', hc8''⟩ := tab_code tab8 F3.keep x3
    obtain ⟨ps44', hc4''⟩ := tab_code tab4 F3.keep x4
    have kf3 : KeepF [dd] (frs ⟨none, dp, some (env :: outer), some [], un⟩) s.heap h3 := by
      refine keepF_cell (keepF_cell (d := 384) (KeepF.mono (S' := [384, 444, dd]) (Keep.toF (keep_fin (S := [dd, 384, 444]) hg F3.keep)) (fun a ha => ?_)) h384 x3) h444 x4
      simp only [List.mem_cons, List.not_mem_nil, or_false] at ha ⊢
      rcases ha with h | h | h
      · exact .inr (.inr h)
      · exact .inl h
      · exact .inr (.inl h)
    exact hret _ _ _ _ _ _ (by rw [eR]; exact .nothing _) (by rw [eR]; exact .del o' kf3 edd edict) hc8'' hc4'' (GN.refl _)
  · -- kind 2
    refine Stop.mk ?_
    (with_reducible rename News g L' _ _ => kN)
    (with_reducible rename Fr g L' _ _ => kF)
    have c1 := kN _ (.head _)
    have c3 := kN _ (.tail _ (.head _))
    have c4 := kN _ (.tail _ (.tail _ (.head _)))
    have hS' : ∀ c ∈ [dd, 384, 444], g.get? c = none ∧ c ≠ L' := fun c hc => by
      simp only [List.mem_cons, List.not_mem_nil, or_false] at hc
      rcases hc with rfl | rfl | rfl
      · exact ⟨c1.2.2, c1.2.1⟩
      · exact ⟨c3.2.2, c3.2.1⟩
      · exact ⟨c4.2.2, c4.2.1⟩
    obtain ⟨ps8, hc8'⟩ := tab_code tab8 kF.keep c3.1
    obtain ⟨ps44, hc4'⟩ := tab_code tab4 kF.keep c4.1
    have gi := ground_in (Z := [dd, 384, 444]) kF (fun c hc => (hS' c hc).1)
    have fr9 := fresh9 hg kF.keep c1.1 c3.1 c4.1
    (with_reducible rename k ≠ 0 => k0)
    (with_reducible rename k ≠ 1 => k1)
    (with_reducible rename k = 2 => k2)
    (k_dflt (refine' sxl_n (Rd.mk rfl rfl B' kF X' T' hS') (hx'.keeps gi) c1.1 ho hlo hkl hv hd384 hd444 hc8' hc4' hn hap hsa rfl ?hd ?hu (isList_keep hq2' gi) (hr2'.keeps gi) hro2 hsh2 (by rw [hsv]; exact h6 k0) hlen2 hn0 hn2 hsn (fun S' d' n' vs' o' h3 tk3 gs3 ps3 ps5 kp3 edd edict e8 e4 egn fS' fd' eS' ed' nr => ?_); (case hd => ktr_room); (case hu => ktr_units)))
    have F3 := Mine.Fr.after kF kp3 hS'
    have N3 := news_nilF F3
    clear kF kN
    k_steps
    have eR : stepR k ap nm rws none = (.nothing, .put (marked ap (xlRows nm rws))) := by rw [stepR, if_neg k0, if_neg k1, if_pos k2]
    rw [marked_xl] at nr
    exact hret _ _ _ _ _ _ (by rw [eR]; exact .nothing _) (by rw [eR]; exact .put S' d' n' vs' o' (Keep.toF (keep_fin (S := [dd, 384, 444]) hg F3.keep)) edd edict (fr9 _ fS') (fr9 _ fd') eS' ed' (nr.monoF fr9)) e8 e4 egn
  · -- kind 3
    refine Stop.mk ?_
    (with_reducible rename News g L' _ _ => kN)
    (with_reducible rename Fr g L' _ _ => kF)
    have c1 := kN _ (.head _)
    have c3 := kN _ (.tail _ (.head _))
    have c4 := kN _ (.tail _ (.tail _ (.head _)))
    have hS' : ∀ c ∈ [dd, 384, 444], g.get? c = none ∧ c ≠ L' := fun c hc => by
      simp only [List.mem_cons, List.not_mem_nil, or_false] at hc
      rcases hc with rfl | rfl | rfl
      · exact ⟨c1.2.2, c1.2.1⟩
      · exact ⟨c3.2.2, c3.2.1⟩
      · exact ⟨c4.2.2, c4.2.1⟩
    obtain ⟨ps8, hc8'⟩ := tab_code tab8 kF.keep c3.1
    obtain ⟨ps44, hc4'⟩ := tab_code tab4 kF.keep c4.1
    have gi := ground_in (Z := [dd, 384, 444]) kF (fun c hc => (hS' c hc).1)
    have fr9 := fresh9 hg kF.keep c1.1 c3.1 c4.1
    (with_reducible rename k ≠ 0 => k0)
    (with_reducible rename k ≠ 1 => k1)
    (with_reducible rename k ≠ 2 => k2)
    (with_reducible rename k = 3 => k3)
    have hgh := kF.keep
    (k_dflt (refine' rpl_n (Rc.mk rfl rfl B' kF X' T' XB' TB' D' (fun _ h => nomatch h)) (hx'.keeps kF.keep) c1.1 ho hlo hv ?hd ?hu (fun e9 h3 tk3 fl => ?_); (case hd => ktr_room); (case hu => ktr_units)))
    obtain ⟨t9, vs9, R9, U9, F9⟩ := flown_S B' kF kN rfl rfl fl
    clear kF kN
    k_steps
    (with_reducible rename KtsTurn _ g _ => kT9)
    (with_reducible rename Fr _ L' _ _ => kF9)
    (with_reducible rename News _ L' _ _ => kN9)
    have kf9 := keepF_cell (keepF_fin (S := [dd, 384, 444]) hg kT9 kF9.keep) hdd (kN9 (dd, o) (by k_mem)).1
    have eR : stepR k ap nm rws none = (.refused, .same) := by rw [stepR, if_neg k0, if_neg k1, if_neg k2, if_pos k3]
    obtain ⟨ps8', hc8''⟩ := tab_code (tab_turn tab8 (hg0 _ _ hoc8) hcd8 kT9 D') kF9.keep (kN9 (384, op) (by k_mem)).1
    obtain ⟨ps44', hc4''⟩ := tab_code (tab_turn tab4 (hg0 _ _ hoc4) hcd4 kT9 D') kF9.keep (kN9 (444, op4) (by k_mem)).1
    exact hret _ _ _ _ _ _ (by rw [eR]; exact .refused _) (by rw [eR]; exact .same kf9) hc8'' hc4'' (GN.refl _)
  · -- kind 4
    refine Stop.mk ?_
    (with_reducible rename News g L' _ _ => kN)
    (with_reducible rename Fr g L' _ _ => kF)
    have c1 := kN _ (.head _)
    have c3 := kN _ (.tail _ (.head _))
    have c4 := kN _ (.tail _ (.tail _ (.head _)))
    have hS' : ∀ c ∈ [dd, 384, 444], g.get? c = none ∧ c ≠ L' := fun c hc => by
      simp only [List.mem_cons, List.not_mem_nil, or_false] at hc
      rcases hc with rfl | rfl | rfl
      · exact ⟨c1.2.2, c1.2.1⟩
      · exact ⟨c3.2.2, c3.2.1⟩
      · exact ⟨c4.2.2, c4.2.1⟩
    obtain ⟨ps8, hc8'⟩ := tab_code tab8 kF.keep c3.1
    obtain ⟨ps44, hc4'⟩ := tab_code tab4 kF.keep c4.1
    have gi := ground_in (Z := [dd, 384, 444]) kF (fun c hc => (hS' c hc).1)
    have fr9 := fresh9 hg kF.keep c1.1 c3.1 c4.1
    (with_reducible rename k ≠ 0 => k0)
    (with_reducible rename k ≠ 1 => k1)
    (with_reducible rename k ≠ 2 => k2)
    (with_reducible rename k ≠ 3 => k3)
    (with_reducible rename k = 4 => k4)
    (k_dflt (refine' dxl_n (Rc.mk rfl rfl B' kF X' T' XB' TB' D' (fun _ h => nomatch h)) (hx'.keeps kF.keep) c1.1 ho hlo hv ?hd ?hu (fun h3 tk3 kf => ?_); (case hd => ktr_room); (case hu => ktr_units)))
    obtain ⟨g3, a3⟩ := after_F B' kF XB' TB' D' kf (fun _ h => nomatch h)
    have N3 := a3.led (news_F kN B' kf (fun _ _ h => nomatch h))
    have F3 := a3.F
    have B3 := a3.B
    have X3 := a3.X
    have T3 := a3.T
    have D3 := a3.D
    have T0 := a3.T0
    clear kF kN
    k_steps
    (with_reducible rename KtsTurn _ g _ => kT9)
    (with_reducible rename Fr _ L' _ _ => kF9)
    (with_reducible rename News _ L' _ _ => kN9)
    have kf9 := keepF_cell (keepF_fin (S := [dd, 384, 444]) hg kT9 kF9.keep) hdd (kN9 (dd, o) (by k_mem)).1
    have eR : stepR k ap nm rws none = (.nothing, .same) := by rw [stepR, if_neg k0, if_neg k1, if_neg k2, if_neg k3, if_pos k4]
    obtain ⟨ps8', hc8''⟩ := tab_code (tab_turn tab8 (hg0 _ _ hoc8) hcd8 kT9 D') kF9.keep (kN9 (384, op) (by k_mem)).1
    obtain ⟨ps44', hc4''⟩ := tab_code (tab_turn tab4 (hg0 _ _ hoc4) hcd4 kT9 D') kF9.keep (kN9 (444, op4) (by k_mem)).1
    exact hret _ _ _ _ _ _ (by rw [eR]; exact .nothing _) (by rw [eR]; exact .same kf9) hc8'' hc4'' (GN.refl _)
  · -- kind 5
    refine Stop.mk ?_
    (with_reducible rename News g L' _ _ => kN)
    (with_reducible rename Fr g L' _ _ => kF)
    have c1 := kN _ (.head _)
    have c3 := kN _ (.tail _ (.head _))
    have c4 := kN _ (.tail _ (.tail _ (.head _)))
    have hS' : ∀ c ∈ [dd, 384, 444], g.get? c = none ∧ c ≠ L' := fun c hc => by
      simp only [List.mem_cons, List.not_mem_nil, or_false] at hc
      rcases hc with rfl | rfl | rfl
      · exact ⟨c1.2.2, c1.2.1⟩
      · exact ⟨c3.2.2, c3.2.1⟩
      · exact ⟨c4.2.2, c4.2.1⟩
    obtain ⟨ps8, hc8'⟩ := tab_code tab8 kF.keep c3.1
    obtain ⟨ps44, hc4'⟩ := tab_code tab4 kF.keep c4.1
    have gi := ground_in (Z := [dd, 384, 444]) kF (fun c hc => (hS' c hc).1)
    have fr9 := fresh9 hg kF.keep c1.1 c3.1 c4.1
    (with_reducible rename k ≠ 0 => k0)
    (with_reducible rename k ≠ 1 => k1)
    (with_reducible rename k ≠ 2 => k2)
    (with_reducible rename k ≠ 3 => k3)
    (with_reducible rename k ≠ 4 => k4)
    (k_dflt (refine' gxl_c (vs := []) (rows := []) (q := 0) (Rc.mk rfl rfl B' kF X' T' XB' TB' D' (fun _ h => nomatch h)) (hx'.keeps kF.keep) c1.1 ho hlo (.inl hv) (fun z => absurd (hv.symm.trans z) (by simp)) hn hn2 ha2 ?hd ?hu (fun _ e9 h3 tk3 fl => ?_) (fun _ _ z => absurd (hv.symm.trans z) (by simp)); (case hd => ktr_room); (case hu => ktr_units)))
    obtain ⟨t9, vs9, R9, U9, F9⟩ := flown_S B' kF kN rfl rfl fl
    clear kF kN
    k_steps
    (with_reducible rename KtsTurn _ g _ => kT9)
    (with_reducible rename Fr _ L' _ _ => kF9)
    (with_reducible rename News _ L' _ _ => kN9)
    have kf9 := keepF_cell (keepF_fin (S := [dd, 384, 444]) hg kT9 kF9.keep) hdd (kN9 (dd, o) (by k_mem)).1
    have eR : stepR k ap nm rws none = (.refused, .same) := by rw [stepR, if_neg k0, if_neg k1, if_neg k2, if_neg k3, if_neg k4]
    obtain ⟨ps8', hc8''⟩ := tab_code (tab_turn tab8 (hg0 _ _ hoc8) hcd8 kT9 D') kF9.keep (kN9 (384, op) (by k_mem)).1
    obtain ⟨ps44', hc4''⟩ := tab_code (tab_turn tab4 (hg0 _ _ hoc4) hcd4 kT9 D') kF9.keep (kN9 (444, op4) (by k_mem)).1
    exact hret _ _ _ _ _ _ (by rw [eR]; exact .refused _) (by rw [eR]; exact .same kf9) hc8'' hc4'' (GN.refl _)
end
section
/-- tuples made in turn, as the ledger has them -/
inductive TupsLed : List Value → List Row → List (Addr × Obj) → Prop
  | nil : TupsLed [] [] []
  | snoc {ys : List Value} {rs : List Row} {tl : List (Addr × Obj)} {a : Addr} {r : Row} {u1 u2 : Tok} : TupsLed ys rs tl → TupsLed (ys ++ [.ref a]) (rs ++ [r]) ((a, tupO (.int r.1 u1) (.str r.2 u2)) :: tl)
theorem TupsLed.rows {h : Heap} {ys : List Value} {rs : List Row} {tl : List (Addr × Obj)} (t : TupsLed ys rs tl) (k : ∀ p ∈ tl, h.get? p.1 = some p.2) : TupRows h ys rs := by
  induction t with
  | nil => exact .nil
  | snoc _ ih => exact (ih fun p hp => k p (.tail _ hp)).app (TupRows.cons (tupO_at (k _ (.head _))) .nil)
section
variable {w : World} {A : Around} {E : Value → Shared → Prop} {s : Shared} {env : Env} {h₀ hs : Heap} {L : Addr} {m : Str → Option Value}
/-- a list comprehension over a Tags: a pair for each tag -/
theorem lc_tags {elt : PySem.Expr} {x : Str} {px : Pos} {scope : Scope} {cl : List (Str × Addr)} {l : Addr} {vs : List Value} {rows : List Row} {news : List (Addr × Obj)} {Q : Value → Shared → Prop}
    (hx : scope.names.lookup x = some .local) (hkind : scope.kind = .function) (F : Fr h₀ L s.heap m) (N : News h₀ L s.heap news) (X : (Mine.mkK.heap_1 w.params).In h₀) (hlen : vs.length ≤ 1000)
    (hl : ∀ h, Fr h₀ L h m → News h₀ L h news → TagsAt h l vs) (hr : TagRows hs vs rows)
    (step : ∀ (r : Row) (tg : Addr) (t1 t2 : Tok) I oI C oC D oD nw m₂ h tk (E' : Value → Shared → Prop), r ∈ rows → TagAt hs tg (.int r.1 t1) (.str r.2 t2) → (∀ p ∈ news, p ∈ nw) → LCg.NsObj oC m₂ → m₂ x = some (.ref tg) → Fr h₀ L h m → News h₀ L h ((I, oI) :: (C, oC) :: (D, oD) :: nw) → LCg.Off3 I C D nw → ((@Ne Nat I C) ∧ (@Ne Nat I D) ∧ (@Ne Nat C D)) →
      wpAny (model PG w) A (eval elt (compEnvC scope cl C env)) (LCg.CompEnd h₀ L m { s with heap := h, toks := tk } I oI C oC D oD (fun _ => True) (fun y nw' => ∃ a u1 u2, y = .ref a ∧ nw' = (a, tupO (.int r.1 u1) (.str r.2 u2)) :: nw)) E' { s with heap := h, toks := tk })
    (fin : ∀ D ys tl h tk, TupsLed ys rows tl → Fr h₀ L h m → News h₀ L h ((D, LCg.lst ys) :: (tl ++ news)) → LCg.Off1 D (tl ++ news) → Q (.ref D) { s with heap := h, toks := tk }) :
    wpAny (model PG w) A (pyIter (.ref l)) (LcIt PG w A elt (.Name x px) scope cl env Q) E s := by
  have hvr : vs.length = rows.length := hr.1
  refine lc_src (vs := vs) (news := news) (P := fun ys nw => ∃ tl, nw = tl ++ news ∧ TupsLed ys (rows.take ys.length) tl)
    (S := fun ys v m₂ => m₂ x = some v) (fun Q q => ts_iter (X.keeps F.keep) (hl _ F N) q) F N (Nat.le_trans hlen (by rw [PySem.sizeLine_eq]; omega)) ⟨[], rfl, by simpa using TupsLed.nil⟩
    (fun ys h nw F' N' p => ?_) (fun I v s Q E i hI q hv => lc_go_name q) (fun ys v nw C s' m' Q E hv F' N' p hn k => lc_asg_name hx hkind hn k) (fun ys v nw I oI C oC D m₂ h tk E' hv p hC hS F' N' o ne => ?_) (fun D ys h tk nw hy F' N' o p => ?_)
  · obtain ⟨tl, rfl, -⟩ := p
    exact .of_tags (hl _ F' fun q hq => N' q (List.mem_append_right _ hq))
  · obtain ⟨tl, rfl, pt⟩ := p
    have hir : ys.length < rows.length := by
      obtain ⟨q, _⟩ := List.getElem?_eq_some_iff.mp hv; omega
    obtain ⟨tg, t1, t2, rfl, hT⟩ := (hr.2 _ v _ hv (List.getElem?_eq_getElem hir)).at_
    refine wpAny_mono (step _ tg t1 t2 I oI C oC D _ _ m₂ h tk E' (List.getElem_mem hir) hT (fun q hq => List.mem_append_right _ hq) hC hS F' N' o ne) (fun y s₄ h₄ => ?_) fun _ _ e => e
    obtain ⟨h4, tk4, n4, e4, F4, N4, o4, t4, a, u1, u2, rfl, rfl⟩ := h₄
    refine ⟨h4, tk4, _, e4, F4, N4, o4, t4, _ :: tl, rfl, ?_⟩
    rw [List.length_append, List.length_singleton, List.take_succ_eq_append_getElem hir]
    exact pt.snoc
  · obtain ⟨tl, rfl, pt⟩ := p
    rw [List.take_of_length_le (by omega)] at pt
    exact fin D ys tl h tk pt F' N' o
end
theorem rest5 {k : Int} {ap nm : Str} {rows rws : List Row} (k0 : k ≠ 0) (k1 : k ≠ 1) (k2 : k ≠ 2) (k3 : k ≠ 3) (k4 : k ≠ 4) (e : spanFrom nm rws 0 = none) : stepR k ap nm rows (some rws) = (.refused, .same) := by
  rw [stepR, if_neg k0, if_neg k1, if_neg k2, if_neg k3, if_neg k4]
  simp only [e]
theorem step4 {k : Int} {ap nm : Str} {rows rws : List Row} {a b : Nat} (k4 : k = 4) (e : spanFrom nm rws 0 = some (a, b)) : stepR k ap nm rows (some rws) = (.nothing, .put (marked ap (cutSpan rws a b))) := by
  subst k4
  rw [stepR, if_neg (by decide), if_neg (by decide), if_neg (by decide), if_neg (by decide), if_pos rfl]
  simp only [e]
theorem step4n {k : Int} {ap nm : Str} {rows rws : List Row} (k4 : k = 4) (e : spanFrom nm rws 0 = none) : stepR k ap nm rows (some rws) = (.nothing, .same) := by
  subst k4
  rw [stepR, if_neg (by decide), if_neg (by decide), if_neg (by decide), if_neg (by decide), if_pos rfl]
  simp only [e]
section
variable {prog : Program} {w : World} {A : Around} {E : Value → Shared → Prop} {s : Shared} {env : Env}
/-- after a comprehension whose list is stored at once -/
def AsgQ (env : Env) (y : Str) (Q : Flow → Shared → Prop) (v : Value) (s' : Shared) : Prop :=
  ∃ m, s'.heap.Ns env.locals m ∧ ∀ h₃ tk, h₃.Ns env.locals (fun z => if z = y then some v else m z) → (∀ a o, a ≠ env.locals → s'.heap.get? a = some o → h₃.get? a = some o) → Q .next { s' with heap := h₃, toks := tk }
theorem AsgQ.intro {h₀ h : Heap} {L : Addr} {m : Str → Option Value} {news : List (Addr × Obj)} {y : Str} {v : Value} {tk : Nat} {Q : Flow → Shared → Prop} (hL : env.locals = L) (F : Fr h₀ L h m) (N : News h₀ L h news)
    (q : ∀ h₃ tk₃, Fr h₀ L h₃ (fun z => if z = y then some v else m z) → News h₀ L h₃ news → Q .next { s with heap := h₃, toks := tk₃ }) : AsgQ env y Q v { s with heap := h, toks := tk } := by
  subst hL
  refine ⟨m, F.ns, fun h₃ tk₃ hn k => q h₃ tk₃ ⟨hn, fun b o e => k b o (fun z => ?_) (F.keep b o e), F.above⟩ fun p hp => ⟨k _ _ (N p hp).2.1 (N p hp).1, (N p hp).2⟩⟩
  rw [z] at e
  exact Nat.lt_irrefl _ (Nat.lt_of_lt_of_le (Heap.lt_size e) F.above)
theorem lc_assign {elt iter tgt : PySem.Expr} {y : Str} {py : Pos} {scope : Scope} {cl : List (Str × Addr)} {pos spos : Pos} {Q : Flow → Shared → Prop} (hh : A.handled = none)
    (hsw : swapsWith (.ListComp elt [⟨tgt, iter, [], 0⟩] scope pos) (some (.Name y py)) spos.line env = pure true)
    (hclos : closureFor scope env = pure cl) (hcell : ∀ y ∈ scope.names, y.2 ≠ .cell) (hkind : scope.kind = .function)
    (hnames : ∀ y ∈ scope.names, y.2 = .local → scope.names.lookup y.1 = some .local)
    (hy : env.kindOf y = some .local) (hp : (env.scope.kind == .class || (env.scope.kind == .module && env.locals != env.globals)) = false)
    (h : wpAny (model prog w) A (eval iter env) (fun xv s₁ => wpAny (model prog w) A (pyIter xv) (LcIt prog w A elt tgt scope cl env (AsgQ env y Q)) E s₁) E s)
    (hs : ∀ x, foldedSetIterable iter env x = pure x := by intro _; rfl) :
    wpAny (model prog w) A (exec (.Assign [.Name y py] (.ListComp elt [⟨tgt, iter, [], 0⟩] scope pos) spos) env) Q E s := by
  rw [exec_Assign_Name_used _ _ _ _ hsw]
  refine wpAny_bind (wpAny_standAt (wpAny_bind ?_))
  show wpAny _ A (do let _ ← comprehension (.ListComp elt [⟨tgt, iter, [], 0⟩] scope pos) scope env _ (newList []) false (eval iter env) (some (assign (.Name y py) env))) _ _ s
  refine wpAny_bind (wpAny_mono (wpAny_comprehension_free (use := some (assign (.Name y py) env)) (Q := fun _ s' => Q .next s') rfl hs hclos hkind hnames
    (wpAny_mono h (fun xv s₁ h₁ => wpAny_mono h₁ (fun it s₂ h₂ => ?_) fun _ _ e => e) fun _ _ e => e)) (fun _ s' hq => wpAny_pure (wpAny_pure hq)) fun _ _ e => e)
  obtain ⟨I, l, vs, J, rfl, W, fin⟩ := h₂
  refine lc_block (RR := fun acc C => compPost (model prog w) A E (some (assign (.Name y py) env)) (fun _ s' => Q .next s') acc C) hh hcell hkind W fun ys s' m' e hJ hD hn => ?_
  have hDC : s₂.heap.objs.size ≠ s₂.heap.objs.size + 1 := (Nat.succ_ne_self _).symm
  obtain ⟨m, hm, go⟩ := fin ys { s' with heap := hideAll s'.heap [s₂.heap.objs.size + 1] } e (W.stay _ _ _ hJ fun a o h1 h2 h3 q => hideAll_get _ q (by simpa using h3)) (hideAll_get _ hD (by simpa using hDC))
  have hm' : s'.heap.Ns env.locals m := by
    obtain ⟨o, es, ep, a, b⟩ := hm
    exact ⟨o, es, ep, of_hideAll _ a, b⟩
  have hLC : env.locals ≠ s₂.heap.objs.size + 1 := fun z => by
    obtain ⟨o, es, ep, a, b⟩ := hm
    rw [hideAll_none _ (by simp [z])] at a; cases a
  show wpAny _ A (assign (.Name y py) env (.ref s₂.heap.objs.size)) _ _ _
  refine wpAny_assign_Name (wpAny_storeName_local hy hm' (fun h₂ hn₂ hs₂ => ?_) hp)
  refine ⟨m', hn.sameBut hs₂ (Ne.symm hLC), fun h₃ hs₃ => ?_⟩
  refine go h₃ _ (hn₂.sameBut hs₃ hLC) fun a o hne q => ?_
  have nC : a ≠ s₂.heap.objs.size + 1 := fun z => by
    rw [hideAll_none _ (by simp [z])] at q; cases q
  exact hs₃.extBut a o nC (hs₂.extBut a o hne (of_hideAll _ q))
end
theorem off1_mem {D : Addr} : ∀ {l : List (Addr × Obj)}, LCg.Off1 D l → ∀ p ∈ l, @Ne Nat p.1 D
  | [], _, _, h => nomatch h
  | _ :: _, x, p, h => by
    rcases List.mem_cons.mp h with rfl | h
    · exact x.1
    · exact off1_mem x.2 p h
theorem TagRows.cut {h : Heap} {vs : List Value} {rows : List Row} {a b : Nat} (t : TagRows h vs rows) : TagRows h ((vs.drop a).take (b - a)) ((rows.take b).drop a) := by
  rw [List.drop_take]
  refine ⟨by simp [t.1], fun i v r e1 e2 => ?_⟩
  rw [List.getElem?_take] at e1 e2
  split at e1
  · rename_i c
    rw [if_pos c] at e2
    rw [List.getElem?_drop] at e1 e2
    exact t.2 _ v r e1 e2
  · cases e1
theorem sub_swap {a b c d : Addr × Obj} {l : List (Addr × Obj)} : ∀ p ∈ b :: c :: d :: a :: l, p ∈ a :: b :: c :: d :: l := fun p hp => by
  simp only [List.mem_cons] at hp ⊢
  rcases hp with h | h | h | h | h
  · exact .inr (.inl h)
  · exact .inr (.inr (.inl h))
  · exact .inr (.inr (.inr (.inl h)))
  · exact .inl h
  · exact .inr (.inr (.inr (.inr h)))
end
section
local macro_rules | `(tactic| walk_at "exec Assign cons ListComp") => `(tactic| (k_here; refine cut ?_))
local macro_rules | `(tactic| walk_at "call ref") => `(tactic| (k_here; (with_reducible show wpAny _ _ (call (Value.ref 449) _) _ _ _); refine cut ?_))
local macro_rules | `(tactic| walk_at "call ref") => `(tactic| (k_here; (with_reducible show wpAny _ _ (call (Value.ref 463) _) _ _ _); refine cut ?_))
local macro_rules | `(tactic| walk_at "call ref") => `(tactic| (k_here; (with_reducible show wpAny _ _ (call (Value.ref 484) _) _ _ _); refine cut ?_))
local macro_rules | `(tactic| walk_at "call ref") => `(tactic| (k_here; (with_reducible show wpAny _ _ (call (Value.ref 491) _) _ _ _); refine cut ?_))
local macro_rules | `(tactic| walk_at "call ref") => `(tactic| (k_here; (with_reducible show wpAny _ _ (call (Value.ref 477) _) _ _ _); refine cut ?_))
theorem done_p {w : World} {A : Around} {s : Shared} {Q E : Value → Shared → Prop} {dp un : Nat} {x xi dd q d q2 : Addr} {o : Obj} {kvs : List (Str × Value)} {k : Int} {tk0 : Tok} {ap nm : Str} {ta tn : Tok} {rws rows : List Row} {us vs : List Value} {n : Nat} {ps ps4 : Array Value}
  (R : Rc w s.heap [dd, q, 384, 444] dp un A) (hx : XdAt w (hideAll s.heap ([dd, q, 384, 444] ++ frs A)) x xi dd) (hdd : s.heap.get? dd = some o) (ho : o.IsDictOf (PySem.strKind PG w) kvs) (hlo : (dd == sysModules) = false) (hkl : kvs.length ≤ 10) (hv : valueAt kvs ap = some (.ref q))
  (hdq : @Ne Nat dd q) (hq384 : @Ne Nat q 384) (hq444 : @Ne Nat q 444) (hqo : s.heap.get? q = some (tg d vs n)) (hqd : (hideAll s.heap ([dd, q, 384, 444] ++ frs A)).get? d = some emptyDict) (hr : TagRows (hideAll s.heap ([dd, q, 384, 444] ++ frs A)) vs rows) (hro : RowsOk rows) (hsh : RowsSh rows) (hlen : rows.length ≤ 300) (hok : NamesOk nm rows) (hall : rows.all (fun r => validC r.1) = true)
  (hd384 : @Ne Nat dd 384) (hd444 : @Ne Nat dd 444) (hc8 : IsCT s.heap 388 384 ps) (hc4 : IsCT s.heap 448 444 ps4) (hn : PyData.strOk nm = true) (hap : PyData.strOk ap = true) (hsa : (rowD (1001, ap)).showable = true ∧ (rowD (1001, ap)).shown.length ≤ 60) (hgd : A.guards = some []) (hd : dp + 100 < recursionLimit) (hu : un + 1200 < cLine)
  (hq2 : (hideAll s.heap ([dd, q, 384, 444] ++ frs A)).IsList q2 us.toArray) (hr2 : TupRows (hideAll s.heap ([dd, q, 384, 444] ++ frs A)) us rws) (hro2 : RowsOk rws) (hsh2 : RowsSh rws) (hsv : rws.all (fun r => validC r.1) = rws.all six) (h6 : k ≠ 0 → rws.all six = true) (hlen2 : rws.length ≤ 50)
  (hn0 : 0 < nm.length) (hn2 : nm.length < 100) (ha2 : ap.length < 100) (hsn : (rowD (1000, nm)).showable = true ∧ (rowD (1000, nm)).shown.length ≤ 60)
  (hret : ∀ v h' tk' (gs' : Array GenState) (ps' ps4' : Array Value), TellsV s.heap h' (stepR k ap nm rws (some rows)).1 v → DOut w [dd, q, 384, 444] (frs A) dd kvs ap s.heap h' (stepR k ap nm rws (some rows)).2 → IsCT h' 388 384 ps' → IsCT h' 448 444 ps4' → GN s.gens gs' → Q v { s with heap := h', toks := tk', gens := gs' }) :
  wpAny (model PG w) A (call (.ref 543) [.ref x, .int k tk0, .str ap ta, .str nm tn, .ref q2]) Q E s := by
  have R0 := R
  cases R with
  | mk hf hkk B F X T XB TB D hS =>
  rename_i gd env outer A₀ base h₀ L m p loose mean mg mb
  cases hgd
  obtain ⟨op, h384⟩ := code_tab hc8
  obtain ⟨op4, h444⟩ := code_tab hc4
  have N : News h₀ L s.heap [(dd, o), (q, tg d vs n), (384, op), (444, op4)] := fun p hp => by
    simp only [List.mem_cons, List.not_mem_nil, or_false] at hp
    rcases hp with rfl | rfl | rfl | rfl
    · exact ⟨hdd, (hS _ (by simp)).2, (hS _ (by simp)).1⟩
    · exact ⟨hqo, (hS _ (by simp)).2, (hS _ (by simp)).1⟩
    · exact ⟨h384, (hS _ (by simp)).2, (hS _ (by simp)).1⟩
    · exact ⟨h444, (hS _ (by simp)).2, (hS _ (by simp)).1⟩
  have hb : (valueAt kvs ap).isSome = true := by rw [hv]; rfl
  have hvl2 : us.length = rws.length := hr2.1
  obtain ⟨oc8, hoc8, hcd8⟩ : ∃ oc, h₀.get? 388 = some oc ∧ ∃ vs, oc.data = .fields vs := ⟨_, X _ _ (by k_is), _, rfl⟩
  obtain ⟨oc4, hoc4, hcd4⟩ : ∃ oc, h₀.get? 448 = some oc ∧ ∃ vs, oc.data = .fields vs := ⟨_, X _ _ (by k_is), _, rfl⟩
  refine wpAny_call ?_
  k_dflt kc_enter
  intro g L' h' hg hh F' N' B' X' T' XB' TB' D' lt'
  (try dsimp only)
  k_fold
  have hgz := hz_ground (S := [dd, q, 384, 444]) (fs := frs ⟨none, dp, some (env :: outer), some [], un⟩) hg (fun a h => h)
  have hzg : (hideAll s.heap ([dd, q, 384, 444] ++ frs ⟨none, dp, some (env :: outer), some [], un⟩)).StaysIn g := fun a ob e => (hgz a ob e).1
  have hg0 : h₀.StaysIn g := fun a ob e => hg a ob (F.keep _ _ e) fun q => by
    obtain ⟨z, hz, rfl⟩ := List.mem_map.mp q
    rw [(N z hz).2.2] at e; cases e
  have tab8 := (TabOk.of_code (g := h₀) hc8 F.keep hoc8 h384).mono hg0
  have tab4 := (TabOk.of_code (g := h₀) hc4 F.keep hoc4 h444).mono hg0
  have hx' := hx.keeps hzg
  have hqd' := hzg _ _ hqd
  have hr' : TagRows g vs rows := hr.keeps hzg
  have hq2' : g.IsList q2 us.toArray := isList_keep hq2 hzg
  have hr2' : TupRows g us rws := hr2.keeps hzg
  have hvl : vs.length = rows.length := hr.1
  obtain ⟨t, hx1, hx2⟩ := id hx'.at_
  k_lt lt'
  obtain ⟨ocb8, hocb8⟩ : ∃ oc, Heap.get? _ 388 = some oc := ⟨_, XB' _ _ (by k_is)⟩
  obtain ⟨ocb4, hocb4⟩ : ∃ oc, Heap.get? _ 448 = some oc := ⟨_, XB' _ _ (by k_is)⟩
  k_steps
  · -- kind 0
    refine Stop.mk ?_
    (with_reducible rename News g L' _ _ => kN)
    (with_reducible rename Fr g L' _ _ => kF)
    have c1 := kN _ (.head _)
    have c2 := kN _ (.tail _ (.head _))
    have c3 := kN _ (.tail _ (.tail _ (.head _)))
    have c4 := kN _ (.tail _ (.tail _ (.tail _ (.head _))))
    have hS' : ∀ c ∈ [dd, q, 384, 444], g.get? c = none ∧ c ≠ L' := fun c hc => by
      simp only [List.mem_cons, List.not_mem_nil, or_false] at hc
      rcases hc with rfl | rfl | rfl | rfl
      · exact ⟨c1.2.2, c1.2.1⟩
      · exact ⟨c2.2.2, c2.2.1⟩
      · exact ⟨c3.2.2, c3.2.1⟩
      · exact ⟨c4.2.2, c4.2.1⟩
    have hS3 : ∀ c ∈ [dd, 384, 444], g.get? c = none ∧ c ≠ L' := fun c hc => hS' c (by
      simp only [List.mem_cons, List.not_mem_nil, or_false] at hc ⊢
      rcases hc with h | h | h
      · exact .inl h
      · exact .inr (.inr (.inl h))
      · exact .inr (.inr (.inr h)))
    obtain ⟨ps8, hc8'⟩ := tab_code tab8 kF.keep c3.1
    obtain ⟨ps44, hc4'⟩ := tab_code tab4 kF.keep c4.1
    have gi := ground_in (Z := [dd, 384, 444]) kF (fun c hc => (hS3 c hc).1)
    have fr9 := fresh_cells hg kF.keep (fun z hz => by
      simp only [List.map_cons, List.map_nil, List.mem_cons, List.not_mem_nil, or_false] at hz
      rcases hz with rfl | rfl | rfl | rfl
      · exact ⟨_, c1.1⟩
      · exact ⟨_, c2.1⟩
      · exact ⟨_, c3.1⟩
      · exact ⟨_, c4.1⟩)
    (with_reducible rename k = 0 => k0)
    (k_dflt (refine' add_c (Rd.mk rfl rfl B' kF X' T' hS3) (hx'.keeps gi) c1.1 ho hlo hkl hd384 hd444 hc8' hc4' (.inl (isList_keep hq2' gi)) ((ItemRows.of_tups hr2').keeps gi) hro2 hsh2 (by omega) hap hsa rfl ?hd ?hu (fun a1 S' d' n' vs' o' h3 tk3 gs3 ps3 ps5 kp3 edd edict e8 e4 egn fS' fd' eS' ed' nr => ?_) (fun a1 e9 op' op4' h3 tk3 gs3 ps3 ps5 fl e8 e4 egn => ?_); (case hd => ktr_room); (case hu => ktr_units)))
    · have F3 := Mine.Fr.after kF kp3 hS3
      have N3 := news_nilF F3
      clear kF kN
      k_steps
      have eR : stepR k ap nm rws (some rows) = (.nothing, .put (marked ap rws)) := by rw [stepR, if_pos k0, if_pos (by rw [← marked_six hsv]; exact a1)]
      exact hret _ _ _ _ _ _ (by rw [eR]; exact .nothing _) (by rw [eR]; exact .put S' d' n' vs' o' (Keep.toF (keep_fin (S := [dd, q, 384, 444]) hg F3.keep)) edd edict (fr9 _ fS') (fr9 _ fd') eS' ed' (nr.monoF fr9)) e8 e4 egn
    · obtain ⟨t9, vs9, R9, U9, F9⟩ := flown_SN (news' := [(dd, o), (q, tg d vs n), (384, op'), (444, op4')]) B' kF kN rfl rfl fl (split4 hd384 hd444 hq384 hq444) cells2 cin4
      obtain ⟨kb, kn⟩ := raisedS_base R9
      have tb8 := TabOk.of_code e8 kb hocb8 (kn (384, op') (.tail _ (.tail _ (.head _))))
      have tb4 := TabOk.of_code e4 kb hocb4 (kn (444, op4') (.tail _ (.tail _ (.tail _ (.head _)))))
      clear kF kN
      k_steps
      (with_reducible rename KtsTurn _ g _ => kT9)
      (with_reducible rename Fr _ L' _ _ => kF9)
      (with_reducible rename News _ L' _ _ => kN9)
      have kf9 := keepF_cell (keepF_cell (keepF_fin (S := [dd, q, 384, 444]) hg kT9 kF9.keep) hdd (kN9 (dd, o) (by k_mem)).1) hqo (kN9 (q, tg d vs n) (by k_mem)).1
      (with_reducible rename Below _ _ _ _ => kB9)
      have eR : stepR k ap nm rws (some rows) = (.refused, .same) := by rw [stepR, if_pos k0, if_neg (by rw [← marked_six hsv, a1]; decide)]
      obtain ⟨ps8', hc8''⟩ := tab_code (tb8.mono kB9.stays) kF9.keep (kN9 (384, op') (by k_mem)).1
      obtain ⟨ps44', hc4''⟩ := tab_code (tb4.mono kB9.stays) kF9.keep (kN9 (444, op4') (by k_mem)).1
      exact hret _ _ _ _ _ _ (by rw [eR]; exact .refused _) (by rw [eR]; exact .same kf9) hc8'' hc4'' egn
  · -- kind 1
    refine Stop.mk ?_
    (with_reducible rename News g L' _ _ => kN)
    (with_reducible rename Fr g L' _ _ => kF)
    have c1 := kN _ (.head _)
    have c2 := kN _ (.tail _ (.head _))
    have c3 := kN _ (.tail _ (.tail _ (.head _)))
    have c4 := kN _ (.tail _ (.tail _ (.tail _ (.head _))))
    have hS' : ∀ c ∈ [dd, q, 384, 444], g.get? c = none ∧ c ≠ L' := fun c hc => by
      simp only [List.mem_cons, List.not_mem_nil, or_false] at hc
      rcases hc with rfl | rfl | rfl | rfl
      · exact ⟨c1.2.2, c1.2.1⟩
      · exact ⟨c2.2.2, c2.2.1⟩
      · exact ⟨c3.2.2, c3.2.1⟩
      · exact ⟨c4.2.2, c4.2.1⟩
    have hS3 : ∀ c ∈ [dd, 384, 444], g.get? c = none ∧ c ≠ L' := fun c hc => hS' c (by
      simp only [List.mem_cons, List.not_mem_nil, or_false] at hc ⊢
      rcases hc with h | h | h
      · exact .inl h
      · exact .inr (.inr (.inl h))
      · exact .inr (.inr (.inr h)))
    obtain ⟨ps8, hc8'⟩ := tab_code tab8 kF.keep c3.1
    obtain ⟨ps44, hc4'⟩ := tab_code tab4 kF.keep c4.1
    have gi := ground_in (Z := [dd, 384, 444]) kF (fun c hc => (hS3 c hc).1)
    have fr9 := fresh_cells hg kF.keep (fun z hz => by
      simp only [List.map_cons, List.map_nil, List.mem_cons, List.not_mem_nil, or_false] at hz
      rcases hz with rfl | rfl | rfl | rfl
      · exact ⟨_, c1.1⟩
      · exact ⟨_, c2.1⟩
      · exact ⟨_, c3.1⟩
      · exact ⟨_, c4.1⟩)
    (with_reducible rename k ≠ 0 => k0)
    (with_reducible rename k = 1 => k1)
    have gi1 := ground_in (Z := [dd]) kF (fun c hc => (hS' c (by simp at hc; simp [hc])).1)
    (k_dflt (refine' discard_c (Rd.mk rfl rfl B' kF X' T' (fun c hc => hS' c (by simp at hc; simp [hc]))) (hx'.keeps gi1) c1.1 ho hlo hkl ?hd ?hu (fun o' h3 tk3 kp3 edd edict => ?_); (case hd => ktr_room); (case hu => ktr_units)))
    have F3 := Mine.Fr.after kF kp3 (fun c hc => hS' c (by simp at hc; simp [hc]))
    have N3 := news_nilF F3
    have x2 := kp3 _ _ c2.1 (nin1 hdq.symm)
    have x3 := kp3 _ _ c3.1 (nin1 hd384.symm)
    have x4 := kp3 _ _ c4.1 (nin1 hd444.symm)
    clear kF kN
    k_steps
    have eR : stepR k ap nm rws (some rows) = (.nothing, .del) := by rw [stepR, if_neg k0, if_pos k1]
    obtain ⟨ps8', hc8''⟩ := tab_code tab8 F3.keep x3
    obtain ⟨ps44', hc4''⟩ := tab_code tab4 F3.keep x4
    have kf3 : KeepF [dd] (frs ⟨none, dp, some (env :: outer), some [], un⟩) s.heap h3 := by
      refine keepF_cell (keepF_cell (d := 384) (keepF_cell (d := q) (KeepF.mono (S' := [q, 384, 444, dd]) (Keep.toF (keep_fin (S := [dd, q, 384, 444]) hg F3.keep)) (fun a ha => ?_)) hqo x2) h384 x3) h444 x4
      simp only [List.mem_cons, List.not_mem_nil, or_false] at ha ⊢
      rcases ha with h | h | h | h
      · exact .inr (.inr (.inr h))
      · exact .inl h
      · exact .inr (.inl h)
      · exact .inr (.inr (.inl h))
    exact hret _ _ _ _ _ _ (by rw [eR]; exact .nothing _) (by rw [eR]; exact .del o' kf3 edd edict) hc8'' hc4'' (GN.refl _)
  · -- kind 2
    refine Stop.mk ?_
    (with_reducible rename News g L' _ _ => kN)
    (with_reducible rename Fr g L' _ _ => kF)
    have c1 := kN _ (.head _)
    have c2 := kN _ (.tail _ (.head _))
    have c3 := kN _ (.tail _ (.tail _ (.head _)))
    have c4 := kN _ (.tail _ (.tail _ (.tail _ (.head _))))
    have hS' : ∀ c ∈ [dd, q, 384, 444], g.get? c = none ∧ c ≠ L' := fun c hc => by
      simp only [List.mem_cons, List.not_mem_nil, or_false] at hc
      rcases hc with rfl | rfl | rfl | rfl
      · exact ⟨c1.2.2, c1.2.1⟩
      · exact ⟨c2.2.2, c2.2.1⟩
      · exact ⟨c3.2.2, c3.2.1⟩
      · exact ⟨c4.2.2, c4.2.1⟩
    have hS3 : ∀ c ∈ [dd, 384, 444], g.get? c = none ∧ c ≠ L' := fun c hc => hS' c (by
      simp only [List.mem_cons, List.not_mem_nil, or_false] at hc ⊢
      rcases hc with h | h | h
      · exact .inl h
      · exact .inr (.inr (.inl h))
      · exact .inr (.inr (.inr h)))
    obtain ⟨ps8, hc8'⟩ := tab_code tab8 kF.keep c3.1
    obtain ⟨ps44, hc4'⟩ := tab_code tab4 kF.keep c4.1
    have gi := ground_in (Z := [dd, 384, 444]) kF (fun c hc => (hS3 c hc).1)
    have fr9 := fresh_cells hg kF.keep (fun z hz => by
      simp only [List.map_cons, List.map_nil, List.mem_cons, List.not_mem_nil, or_false] at hz
      rcases hz with rfl | rfl | rfl | rfl
      · exact ⟨_, c1.1⟩
      · exact ⟨_, c2.1⟩
      · exact ⟨_, c3.1⟩
      · exact ⟨_, c4.1⟩)
    have hLg := kts_self kF
    have hzz := hz_call hgz kF.keep hLg
    have k19 : ∀ z ob, s.heap.get? z = some ob → Heap.get? _ z = some ob := fun z ob e => by
      by_cases m : z ∈ [dd, q, 384, 444]
      · simp only [List.mem_cons, List.not_mem_nil, or_false] at m
        rcases m with rfl | rfl | rfl | rfl
        · rw [hdd] at e; cases e; exact c1.1
        · rw [hqo] at e; cases e; exact c2.1
        · rw [h384] at e; cases e; exact c3.1
        · rw [h444] at e; cases e; exact c4.1
      · exact kF.keep _ _ (hg z ob e m)
    have hL0 : s.heap.get? L' = none := by
      cases e : s.heap.get? L' with
      | none => rfl
      | some ob =>
        exfalso
        by_cases m : L' ∈ [dd, q, 384, 444]
        · exact (hS' _ m).2 rfl
        · rw [hg L' ob e m] at hLg; cases hLg
    (with_reducible rename k ≠ 0 => k0)
    (with_reducible rename k ≠ 1 => k1)
    (with_reducible rename k = 2 => k2)
    (k_dflt (refine' sxl_p (Rc.mk rfl rfl B' kF X' T' XB' TB' D' hS') (hx.keeps hzz) c1.1 ho hlo hkl hv hdq hd384 hd444 hq384 hq444 hc8' hc4' c2.1 (hzz _ _ hqd) (hr.keeps hzz) hro hsh hlen hok hall hn hap hsa rfl ?hd ?hu (isList_keep hq2 hzz) (hr2.keeps hzz) hro2 hsh2 (by rw [hsv]; exact h6 k0) hlen2 hn0 hn2 hsn (fun S' d' n' vs' o' h3 tk3 gs3 ps3 ps5 kf edd edict e8 e4 egn fS' fd' eS' ed' nr => ?_); (case hd => ktr_room); (case hu => ktr_units)))
    obtain ⟨g3, a3⟩ := after_F B' kF XB' TB' D' kf hS'
    have N3 := news_nilF a3.F
    have F3 := a3.F
    have B3 := a3.B
    have X3 := a3.X
    have T3 := a3.T
    have D3 := a3.D
    have T0 := a3.T0
    clear kF kN
    k_steps
    have eR : stepR k ap nm rws (some rows) = (.nothing, .put (marked ap (restRows nm rows ++ xlRows nm rws))) := by rw [stepR, if_neg k0, if_neg k1, if_pos k2]
    exact hret _ _ _ _ _ _ (by rw [eR]; exact .nothing _) (by rw [eR]; exact .put S' d' n' vs' o' (keepF_call (A := ⟨none, dp, some (env :: outer), some [], un⟩) (g := g) rfl hL0 k19 kf) edd edict (fr9 _ fS') (fr9 _ fd') eS' ed' (nr.monoF fr9)) e8 e4 egn
  · -- kind 3
    refine Stop.mk ?_
    (with_reducible rename News g L' _ _ => kN)
    (with_reducible rename Fr g L' _ _ => kF)
    have c1 := kN _ (.head _)
    have c2 := kN _ (.tail _ (.head _))
    have c3 := kN _ (.tail _ (.tail _ (.head _)))
    have c4 := kN _ (.tail _ (.tail _ (.tail _ (.head _))))
    have hS' : ∀ c ∈ [dd, q, 384, 444], g.get? c = none ∧ c ≠ L' := fun c hc => by
      simp only [List.mem_cons, List.not_mem_nil, or_false] at hc
      rcases hc with rfl | rfl | rfl | rfl
      · exact ⟨c1.2.2, c1.2.1⟩
      · exact ⟨c2.2.2, c2.2.1⟩
      · exact ⟨c3.2.2, c3.2.1⟩
      · exact ⟨c4.2.2, c4.2.1⟩
    have hS3 : ∀ c ∈ [dd, 384, 444], g.get? c = none ∧ c ≠ L' := fun c hc => hS' c (by
      simp only [List.mem_cons, List.not_mem_nil, or_false] at hc ⊢
      rcases hc with h | h | h
      · exact .inl h
      · exact .inr (.inr (.inl h))
      · exact .inr (.inr (.inr h)))
    obtain ⟨ps8, hc8'⟩ := tab_code tab8 kF.keep c3.1
    obtain ⟨ps44, hc4'⟩ := tab_code tab4 kF.keep c4.1
    have gi := ground_in (Z := [dd, 384, 444]) kF (fun c hc => (hS3 c hc).1)
    have fr9 := fresh_cells hg kF.keep (fun z hz => by
      simp only [List.map_cons, List.map_nil, List.mem_cons, List.not_mem_nil, or_false] at hz
      rcases hz with rfl | rfl | rfl | rfl
      · exact ⟨_, c1.1⟩
      · exact ⟨_, c2.1⟩
      · exact ⟨_, c3.1⟩
      · exact ⟨_, c4.1⟩)
    have hLg := kts_self kF
    have hzz := hz_call hgz kF.keep hLg
    have k19 : ∀ z ob, s.heap.get? z = some ob → Heap.get? _ z = some ob := fun z ob e => by
      by_cases m : z ∈ [dd, q, 384, 444]
      · simp only [List.mem_cons, List.not_mem_nil, or_false] at m
        rcases m with rfl | rfl | rfl | rfl
        · rw [hdd] at e; cases e; exact c1.1
        · rw [hqo] at e; cases e; exact c2.1
        · rw [h384] at e; cases e; exact c3.1
        · rw [h444] at e; cases e; exact c4.1
      · exact kF.keep _ _ (hg z ob e m)
    have hL0 : s.heap.get? L' = none := by
      cases e : s.heap.get? L' with
      | none => rfl
      | some ob =>
        exfalso
        by_cases m : L' ∈ [dd, q, 384, 444]
        · exact (hS' _ m).2 rfl
        · rw [hg L' ob e m] at hLg; cases hLg
    (with_reducible rename k ≠ 0 => k0)
    (with_reducible rename k ≠ 1 => k1)
    (with_reducible rename k ≠ 2 => k2)
    (with_reducible rename k = 3 => k3)
    (k_dflt (refine' rpl_p (Rc.mk rfl rfl B' kF X' T' XB' TB' D' hS') (hx.keeps hzz) c1.1 ho hlo hkl hv hdq hd384 hd444 hq384 hq444 hc8' hc4' c2.1 (hzz _ _ hqd) (hr.keeps hzz) hro hsh hlen hok hall hn hap hsa rfl ?hd ?hu (isList_keep hq2 hzz) (hr2.keeps hzz) hro2 hsh2 (by rw [hsv]; exact h6 k0) hlen2 hn0 hn2 hsn (fun S' d' n' vs' o' h3 tk3 gs3 ps3 ps5 kf edd edict e8 e4 egn fS' fd' eS' ed' nr => ?_); (case hd => ktr_room); (case hu => ktr_units)))
    obtain ⟨g3, a3⟩ := after_F B' kF XB' TB' D' kf hS'
    have N3 := news_nilF a3.F
    have F3 := a3.F
    have B3 := a3.B
    have X3 := a3.X
    have T3 := a3.T
    have D3 := a3.D
    have T0 := a3.T0
    clear kF kN
    k_steps
    have eR : stepR k ap nm rws (some rows) = (.nothing, .put (marked ap (restRows nm rows ++ xlRows nm rws))) := by rw [stepR, if_neg k0, if_neg k1, if_neg k2, if_pos k3]
    exact hret _ _ _ _ _ _ (by rw [eR]; exact .nothing _) (by rw [eR]; exact .put S' d' n' vs' o' (keepF_call (A := ⟨none, dp, some (env :: outer), some [], un⟩) (g := g) rfl hL0 k19 kf) edd edict (fr9 _ fS') (fr9 _ fd') eS' ed' (nr.monoF fr9)) e8 e4 egn
  · -- kind 4
    refine Stop.mk ?_
    (with_reducible rename News g L' _ _ => kN)
    (with_reducible rename Fr g L' _ _ => kF)
    have c1 := kN _ (.head _)
    have c2 := kN _ (.tail _ (.head _))
    have c3 := kN _ (.tail _ (.tail _ (.head _)))
    have c4 := kN _ (.tail _ (.tail _ (.tail _ (.head _))))
    have hS' : ∀ c ∈ [dd, q, 384, 444], g.get? c = none ∧ c ≠ L' := fun c hc => by
      simp only [List.mem_cons, List.not_mem_nil, or_false] at hc
      rcases hc with rfl | rfl | rfl | rfl
      · exact ⟨c1.2.2, c1.2.1⟩
      · exact ⟨c2.2.2, c2.2.1⟩
      · exact ⟨c3.2.2, c3.2.1⟩
      · exact ⟨c4.2.2, c4.2.1⟩
    have hS3 : ∀ c ∈ [dd, 384, 444], g.get? c = none ∧ c ≠ L' := fun c hc => hS' c (by
      simp only [List.mem_cons, List.not_mem_nil, or_false] at hc ⊢
      rcases hc with h | h | h
      · exact .inl h
      · exact .inr (.inr (.inl h))
      · exact .inr (.inr (.inr h)))
    obtain ⟨ps8, hc8'⟩ := tab_code tab8 kF.keep c3.1
    obtain ⟨ps44, hc4'⟩ := tab_code tab4 kF.keep c4.1
    have gi := ground_in (Z := [dd, 384, 444]) kF (fun c hc => (hS3 c hc).1)
    have fr9 := fresh_cells hg kF.keep (fun z hz => by
      simp only [List.map_cons, List.map_nil, List.mem_cons, List.not_mem_nil, or_false] at hz
      rcases hz with rfl | rfl | rfl | rfl
      · exact ⟨_, c1.1⟩
      · exact ⟨_, c2.1⟩
      · exact ⟨_, c3.1⟩
      · exact ⟨_, c4.1⟩)
    have hLg := kts_self kF
    have hzz := hz_call hgz kF.keep hLg
    have k19 : ∀ z ob, s.heap.get? z = some ob → Heap.get? _ z = some ob := fun z ob e => by
      by_cases m : z ∈ [dd, q, 384, 444]
      · simp only [List.mem_cons, List.not_mem_nil, or_false] at m
        rcases m with rfl | rfl | rfl | rfl
        · rw [hdd] at e; cases e; exact c1.1
        · rw [hqo] at e; cases e; exact c2.1
        · rw [h384] at e; cases e; exact c3.1
        · rw [h444] at e; cases e; exact c4.1
      · exact kF.keep _ _ (hg z ob e m)
    have hL0 : s.heap.get? L' = none := by
      cases e : s.heap.get? L' with
      | none => rfl
      | some ob =>
        exfalso
        by_cases m : L' ∈ [dd, q, 384, 444]
        · exact (hS' _ m).2 rfl
        · rw [hg L' ob e m] at hLg; cases hLg
    (with_reducible rename k ≠ 0 => k0)
    (with_reducible rename k ≠ 1 => k1)
    (with_reducible rename k ≠ 2 => k2)
    (with_reducible rename k ≠ 3 => k3)
    (with_reducible rename k = 4 => k4)
    have gi4 := ground_in (Z := [dd, q, 384, 444]) kF (fun c hc => (hS' c hc).1)
    (k_dflt (refine' dxl_p (Rc.mk rfl rfl B' kF X' T' XB' TB' D' hS') (hx'.keeps gi4) c1.1 ho hlo hkl hv hdq hd384 hd444 hq384 hq444 hc8' hc4' c2.1 (gi4 _ _ hqd') (hr'.keeps gi4) hro hsh hlen hok hall hn hap hsa rfl ?hd ?hu (fun esp h3 tk3 kf => ?_) (fun a b esp S' d' n' vs' o' h3 tk3 gs3 ps3 ps5 kf edd edict e8 e4 egn fS' fd' eS' ed' nr => ?_); (case hd => ktr_room); (case hu => ktr_units)))
    · obtain ⟨g3, a3⟩ := after_F B' kF XB' TB' D' kf (fun _ h => nomatch h)
      have N3 := a3.led (news_F kN B' kf (fun _ _ h => nomatch h))
      have F3 := a3.F
      have B3 := a3.B
      have X3 := a3.X
      have T3 := a3.T
      have D3 := a3.D
      have T0 := a3.T0
      clear kF kN
      k_steps
      (with_reducible rename KtsTurn _ g _ => kT9)
      (with_reducible rename Fr _ L' _ _ => kF9)
      (with_reducible rename News _ L' _ _ => kN9)
      have kf9 := keepF_cell (keepF_cell (keepF_fin (S := [dd, q, 384, 444]) hg kT9 kF9.keep) hdd (kN9 (dd, o) (by k_mem)).1) hqo (kN9 (q, tg d vs n) (by k_mem)).1
      have eR : stepR k ap nm rws (some rows) = (.nothing, .same) := step4n k4 esp
      obtain ⟨ps8', hc8''⟩ := tab_code (tab_turn tab8 (hg0 _ _ hoc8) hcd8 kT9 D') kF9.keep (kN9 (384, op) (by k_mem)).1
      obtain ⟨ps44', hc4''⟩ := tab_code (tab_turn tab4 (hg0 _ _ hoc4) hcd4 kT9 D') kF9.keep (kN9 (444, op4) (by k_mem)).1
      exact hret _ _ _ _ _ _ (by rw [eR]; exact .nothing _) (by rw [eR]; exact .same kf9) hc8'' hc4'' (GN.refl _)
    · obtain ⟨g3, a3⟩ := after_F B' kF XB' TB' D' kf hS'
      have N3 := news_nilF a3.F
      have F3 := a3.F
      have B3 := a3.B
      have X3 := a3.X
      have T3 := a3.T
      have D3 := a3.D
      have T0 := a3.T0
      clear kF kN
      k_steps
      have eR := step4 (ap := ap) (rows := rws) k4 esp
      exact hret _ _ _ _ _ _ (by rw [eR]; exact .nothing _) (by rw [eR]; exact .put S' d' n' vs' o' (keepF_call (A := ⟨none, dp, some (env :: outer), some [], un⟩) (g := g) rfl hL0 k19 kf) edd edict (fr9 _ fS') (fr9 _ fd') eS' ed' (nr.monoF fr9)) e8 e4 egn
  · -- kind 5
    refine Stop.mk ?_
    refine lc_assign rfl rfl rfl (by decide) rfl (by decide) rfl rfl ?_
    k_steps
    refine Stop.mk ?_
    (with_reducible rename News g L' _ _ => kN)
    (with_reducible rename Fr g L' _ _ => kF)
    have c1 := kN _ (.head _)
    have c2 := kN _ (.tail _ (.head _))
    have c3 := kN _ (.tail _ (.tail _ (.head _)))
    have c4 := kN _ (.tail _ (.tail _ (.tail _ (.head _))))
    have hS' : ∀ c ∈ [dd, q, 384, 444], g.get? c = none ∧ c ≠ L' := fun c hc => by
      simp only [List.mem_cons, List.not_mem_nil, or_false] at hc
      rcases hc with rfl | rfl | rfl | rfl
      · exact ⟨c1.2.2, c1.2.1⟩
      · exact ⟨c2.2.2, c2.2.1⟩
      · exact ⟨c3.2.2, c3.2.1⟩
      · exact ⟨c4.2.2, c4.2.1⟩
    have hS3 : ∀ c ∈ [dd, 384, 444], g.get? c = none ∧ c ≠ L' := fun c hc => hS' c (by
      simp only [List.mem_cons, List.not_mem_nil, or_false] at hc ⊢
      rcases hc with h | h | h
      · exact .inl h
      · exact .inr (.inr (.inl h))
      · exact .inr (.inr (.inr h)))
    obtain ⟨ps8, hc8'⟩ := tab_code tab8 kF.keep c3.1
    obtain ⟨ps44, hc4'⟩ := tab_code tab4 kF.keep c4.1
    have gi := ground_in (Z := [dd, 384, 444]) kF (fun c hc => (hS3 c hc).1)
    have fr9 := fresh_cells hg kF.keep (fun z hz => by
      simp only [List.map_cons, List.map_nil, List.mem_cons, List.not_mem_nil, or_false] at hz
      rcases hz with rfl | rfl | rfl | rfl
      · exact ⟨_, c1.1⟩
      · exact ⟨_, c2.1⟩
      · exact ⟨_, c3.1⟩
      · exact ⟨_, c4.1⟩)
    (with_reducible rename k ≠ 0 => k0)
    (with_reducible rename k ≠ 1 => k1)
    (with_reducible rename k ≠ 2 => k2)
    (with_reducible rename k ≠ 3 => k3)
    (with_reducible rename k ≠ 4 => k4)
    cases hsp : spanFrom nm rows 0 with
    | none =>
      (k_dflt (refine' gxl_Sn rfl rfl B' kF kN X' T' XB' TB' D' (hx'.keeps kF.keep) c1.1 ho hlo (.inr hv) (fun _ => ⟨⟨some d, _, _, c2.1⟩, hr'.keeps kF.keep, hro, hlen, hok⟩) hn hn2 ha2 ?hd ?hu (.inr hsp) (fun e9 t9 vs9 h3 tk3 R9 U9 F9 => ?_); (case hd => ktr_room); (case hu => ktr_units)))
      clear kF kN
      k_steps
      (with_reducible rename KtsTurn _ g _ => kT9)
      (with_reducible rename Fr _ L' _ _ => kF9)
      (with_reducible rename News _ L' _ _ => kN9)
      have kf9 := keepF_cell (keepF_cell (keepF_fin (S := [dd, q, 384, 444]) hg kT9 kF9.keep) hdd (kN9 (dd, o) (by k_mem)).1) hqo (kN9 (q, tg d vs n) (by k_mem)).1
      have eR : stepR k ap nm rws (some rows) = (.refused, .same) := rest5 k0 k1 k2 k3 k4 hsp
      obtain ⟨ps8', hc8''⟩ := tab_code (tab_turn tab8 (hg0 _ _ hoc8) hcd8 kT9 D') kF9.keep (kN9 (384, op) (by k_mem)).1
      obtain ⟨ps44', hc4''⟩ := tab_code (tab_turn tab4 (hg0 _ _ hoc4) hcd4 kT9 D') kF9.keep (kN9 (444, op4) (by k_mem)).1
      exact hret _ _ _ _ _ _ (by rw [eR]; exact .refused _) (by rw [eR]; exact .same kf9) hc8'' hc4'' (GN.refl _)
    | some ab =>
      obtain ⟨a, b⟩ := ab
      have hab := span_lt hsp
      have hbl := span_le hsp hvl
      (k_dflt (refine' gxl_Ss rfl rfl B' kF kN X' T' XB' TB' D' (hx'.keeps kF.keep) c1.1 ho hlo hv (fun _ => ⟨⟨some d, _, _, c2.1⟩, hr'.keeps kF.keep, hro, hlen, hok⟩) hn hn2 ha2 ?hd ?hu hsp (fun S9 d9 n9 h3 tk3 F3 N3 ne9 a9 b9 kp9 => ?_); (case hd => ktr_room); (case hu => ktr_units)))
      clear kF kN
      (try simp only [AllNe, and_true] at a9 b9)
      k_steps
      (with_reducible rename News g L' _ _ => kN)
      (with_reducible rename Fr g L' _ _ => kF)
      refine' lc_tags (hs := g) ?hx ?hkind ?F ?N ?X ?hlen ?hl ?hr ?step ?fin
      case F => exact kF
      case N => exact kN
      case hx => rfl
      case hkind => rfl
      case X => k_asm
      case hr => exact hr'.cut (a := a) (b := b)
      case hl => exact fun h F N => ⟨_, _, _, (N _ (.head _)).1⟩
      case hlen => (simp only [List.length_take, List.length_drop]; omega)
      case step =>
        intro r tg t1 t2 I oI C oC D oD nw m₂ h tk E' hrm hT hsub hC hm1 F3 N3 o3 ne3
        k_steps
        (with_reducible rename News g L' _ _ => kN)
        (with_reducible rename Fr g L' _ _ => kF)
        exact LCg.CompEnd.intro kF kN _ sub_swap ⟨⟨by omega, by omega, by omega⟩, o3⟩ trivial ⟨_, _, _, rfl, rfl⟩
      case fin =>
        intro D ys tl h tk hTL F3 N3 o3
        refine AsgQ.intro rfl F3 N3 fun h4 tk4 F4 N4 => ?_
        k_steps
        have xdd := N4 (dd, o) (.tail _ (List.mem_append_right _ (.tail _ (.tail _ (.head _)))))
        have xq := N4 (q, Mine.tg d vs n) (.tail _ (List.mem_append_right _ (.tail _ (.tail _ (.tail _ (.head _))))))
        have x3 := N4 (384, op) (.tail _ (List.mem_append_right _ (.tail _ (.tail _ (.tail _ (.tail _ (.head _)))))))
        have x4 := N4 (444, op4) (.tail _ (List.mem_append_right _ (.tail _ (.tail _ (.tail _ (.tail _ (.tail _ (.head _))))))))
        have off := off1_mem o3
        have z1 := off (dd, o) (List.mem_append_right _ (.tail _ (.tail _ (.head _))))
        have z2 := off (q, Mine.tg d vs n) (List.mem_append_right _ (.tail _ (.tail _ (.tail _ (.head _)))))
        have z3 := off (384, op) (List.mem_append_right _ (.tail _ (.tail _ (.tail _ (.tail _ (.head _))))))
        have z4 := off (444, op4) (List.mem_append_right _ (.tail _ (.tail _ (.tail _ (.tail _ (.tail _ (.head _)))))))
        obtain ⟨ps8', hc8''⟩ := tab_code tab8 F4.keep x3.1
        obtain ⟨ps44', hc4''⟩ := tab_code tab4 F4.keep x4.1
        have eR := step5 (ap := ap) (rows := rws) k0 k1 k2 k3 k4 hsp
        exact hret _ _ _ _ _ _ (by rw [eR]; exact .rows D ys ys.length (fresh_of (S := [dd, q, 384, 444]) hg (N4 _ (.head _)).2.2 (nin4 z1.symm z2.symm z3.symm z4.symm)) (N4 _ (.head _)).1 (hTL.rows fun p hp => (N4 p (.tail _ (List.mem_append_left _ hp))).1)) (by rw [eR]; exact .same (keepF_cell (keepF_cell (Keep.toF (keep_fin (S := [dd, q, 384, 444]) hg F4.keep)) hdd xdd.1) hqo xq.1)) hc8'' hc4'' (GN.refl _)
end
section
theorem con_c {w : World} {A : Around} {s : Shared} {Q E : Value → Shared → Prop} {dp un : Nat} {x xi dd : Addr} {o : Obj} {kvs : List (Str × Value)} {ap : Str} {ta : Tok}
  (R : Rd w s.heap [] dp un A) (hx : XdAt w s.heap x xi dd) (hdd : s.heap.get? dd = some o) (ho : o.IsDictOf (PySem.strKind PG w) kvs) (hlo : (dd == sysModules) = false) (hd : dp + 5 < recursionLimit) (hu : un + 150 < cLine)
  (hret : ∀ (h' : Heap) (tk' : Nat), Keep [] s.heap h' → Q (.bool (valueAt kvs ap).isSome) { s with heap := h', toks := tk' }) :
  wpAny (model PG w) A (call (.ref 428) [.ref x, .str ap ta]) Q E s := by
  cases R with
  | mk hf hkk B F X T hS =>
  rename_i h₀ L m p loose mean mg mb
  have N : News h₀ L s.heap [] := News.none
  generalize hb : (valueAt kvs ap).isSome = b at hret
  refine wpAny_call ?_
  k_dflt cell_enter
  intro g L' h' hg hh F' N' B' X' T' lt'
  (try dsimp only)
  k_fold
  have hx' := hx.keeps fun b o e => hg b o e (by simp)
  have hdd' := hg _ _ hdd (by simp)
  obtain ⟨t, hx1, hx2⟩ := id hx'.at_
  k_steps
  (with_reducible rename Fr g _ _ _ => kF)
  exact hret _ _ (keep_fin (S := []) hg kF.keep)
local macro_rules | `(tactic| walk_at "call builtin:len") => `(tactic| (k_here; k_dflt (refine' call_len_dict (knd := PySem.strKind _ _) ?lo ?d ?z ?_; (case lo => assumption); (case d => exact sd_dict (by k_asm) (by assumption) (by assumption)); (case z => omega); k_whole)))
theorem lenxd_c {w : World} {A : Around} {s : Shared} {Q E : Value → Shared → Prop} {dp un : Nat} {x xi dd : Addr} {o : Obj} {kvs : List (Str × Value)}
  (R : Rd w s.heap [] dp un A) (hx : XdAt w s.heap x xi dd) (hdd : s.heap.get? dd = some o) (ho : o.IsDictOf (PySem.strKind PG w) kvs) (hlo : (dd == sysModules) = false) (hkl : kvs.length ≤ 10) (hd : dp + 5 < recursionLimit) (hu : un + 150 < cLine)
  (hret : ∀ (h' : Heap) (tk' : Nat) (t' : Tok), Keep [] s.heap h' → Q (.int kvs.length t') { s with heap := h', toks := tk' }) :
  wpAny (model PG w) A (call (.ref 421) [.ref x]) Q E s := by
  cases R with
  | mk hf hkk B F X T hS =>
  rename_i h₀ L m p loose mean mg mb
  have N : News h₀ L s.heap [] := News.none
  refine wpAny_call ?_
  k_dflt cell_enter
  intro g L' h' hg hh F' N' B' X' T' lt'
  (try dsimp only)
  k_fold
  have hx' := hx.keeps fun b o e => hg b o e (by simp)
  have hdd' := hg _ _ hdd (by simp)
  obtain ⟨t, hx1, hx2⟩ := id hx'.at_
  k_steps
  (with_reducible rename Fr g _ _ _ => kF)
  exact hret _ _ _ (keep_fin (S := []) hg kF.keep)
end
section
theorem rebase_ex {g h : Heap} {L : Addr} {m : Str → Option Value} {Z : List Addr} (F : Fr g L h m) (hL : L ∈ Z) : ∃ tl, News g L h tl ∧ (∀ c ∈ Z, NeAll c tl) ∧ Snap g tl (hideAll h Z) ∧ ∀ a o, (hideAll h Z).get? a = some o → g.get? a = some o ∨ (a, o) ∈ tl := by
  let f : Nat → Option (Addr × Obj) := fun a => if a ∈ Z ∨ (g.get? a).isSome = true then none else (h.get? a).map fun o => (a, o)
  have hmem : ∀ p : Addr × Obj, p ∈ (List.range h.objs.size).filterMap f ↔ (h.get? p.1 = some p.2 ∧ p.1 ∉ Z ∧ g.get? p.1 = none) := fun p => by
    rw [List.mem_filterMap]
    constructor
    · rintro ⟨a, ha, e⟩
      by_cases q : a ∈ Z ∨ (g.get? a).isSome = true
      · have : f a = none := if_pos q
        rw [this] at e; cases e
      · have e1 : f a = (h.get? a).map fun o => (a, o) := if_neg q
        rw [e1] at e
        obtain ⟨o, ho, rfl⟩ := Option.map_eq_some_iff.mp e
        refine ⟨ho, fun z => q (.inl z), ?_⟩
        cases z : g.get? a with
        | none => rfl
        | some o' => exact absurd (.inr (by rw [z]; rfl)) q
    · rintro ⟨e1, e2, e3⟩
      refine ⟨p.1, List.mem_range.mpr (Heap.lt_size e1), ?_⟩
      have : f p.1 = (h.get? p.1).map fun o => (p.1, o) := if_neg (by rintro (z | z); exact e2 z; rw [e3] at z; cases z)
      rw [this, e1]; rfl
  refine ⟨(List.range h.objs.size).filterMap f, fun p hp => ?_, fun c hc p hp z => ((hmem p).mp hp).2.1 (z ▸ hc), ⟨fun h' kg kt b o e => ?_⟩, fun b o e => ?_⟩
  · obtain ⟨a, b, c⟩ := (hmem p).mp hp
    exact ⟨a, fun z => b (z ▸ hL), c⟩
  · have nz : b ∉ Z := fun q => by rw [hideAll_none _ q] at e; cases e
    have e1 := of_hideAll _ e
    cases q : g.get? b with
    | none => exact kt (b, o) ((hmem (b, o)).mpr ⟨e1, nz, q⟩)
    | some o' =>
      have := F.keep _ _ q
      rw [e1] at this
      cases this
      exact kg _ _ q
  · have nz : b ∉ Z := fun q => by rw [hideAll_none _ q] at e; cases e
    have e1 := of_hideAll _ e
    cases q : g.get? b with
    | none => exact .inr ((hmem (b, o)).mpr ⟨e1, nz, q⟩)
    | some o' =>
      have := F.keep _ _ q
      rw [e1] at this
      cases this
      exact .inl rfl
def Zs (L c dd md : Addr) : List Addr := [L, c, dd, md, 384, 444, L + 1 + 1 + 1, L + 1 + 1, L + 1]
/-- what data and the model hold for the application ap -/
def StAt (hs G : Heap) (qs : List Addr) (kvs kvsM : List (Str × Value)) (k : Nat) (ap : Str) : Prop :=
  (valueAt kvs ap = none ∧ valueAt kvsM ap = none) ∨ ∃ q d vs n S ws rows, valueAt kvs ap = some (.ref q) ∧ valueAt kvsM ap = some (.ref S) ∧ q ∈ qs ∧ hs.get? q = some (tg d vs n) ∧ G.get? d = some emptyDict ∧
    TagRows G vs rows ∧ G.IsList S ws.toArray ∧ TupRows G ws rows ∧ Good (22 * k) rows ∧ rows.all six = true
/-- what stands between the law's turns, at a snapshot hs; qs are all Tags that may have changed -/
structure LawSt (w : World) (hs : Heap) (x xi dd : Addr) (kvs kvsM : List (Str × Value)) (qs : List Addr) (k : Nat) : Prop where
  xd : XdAt w (hideAll hs qs) x xi dd
  st : ∀ ap, ap = sAPP ∨ ap = sOTHER → StAt hs (hideAll hs qs) qs kvs kvsM k ap
  keys : kvs.map (·.1) = kvsM.map (·.1)
  only : ∀ a ∈ kvs.map (·.1), a = sAPP ∨ a = sOTHER
  inj : ∀ a b q, valueAt kvs a = some (.ref q) → valueAt kvs b = some (.ref q) → a = b
  live : ∀ q ∈ qs, ∃ o, hs.get? q = some o
theorem hide_mono {h h' : Heap} {qs : List Addr} (k : h.StaysIn h') : (hideAll h qs).StaysIn (hideAll h' qs) := fun a o e => hideAll_get _ (k _ _ (of_hideAll _ e)) fun m => by rw [hideAll_none _ m] at e; cases e
theorem StAt.keeps {hs hs' G G' : Heap} {qs : List Addr} {kvs kvsM : List (Str × Value)} {k : Nat} {ap : Str} (x : StAt hs G qs kvs kvsM k ap) (a : hs.StaysIn hs') (b : G.StaysIn G') : StAt hs' G' qs kvs kvsM k ap := by
  rcases x with x | ⟨q, d, vs, n, S, ws, rows, e1, e2, e3, e4, e5, e6, e7, e8, e9⟩
  · exact .inl x
  · exact .inr ⟨q, d, vs, n, S, ws, rows, e1, e2, e3, a _ _ e4, b _ _ e5, e6.keeps b, isList_keep e7 b, e8.keeps b, e9⟩
theorem LawSt.keeps {w : World} {hs hs' : Heap} {x xi dd : Addr} {kvs kvsM : List (Str × Value)} {qs : List Addr} {k : Nat} (a : LawSt w hs x xi dd kvs kvsM qs k) (b : hs.StaysIn hs') : LawSt w hs' x xi dd kvs kvsM qs k :=
  ⟨a.xd.keeps (hide_mono b), fun ap h => (a.st ap h).keeps b (hide_mono b), a.keys, a.only, a.inj, fun q h => let ⟨o, e⟩ := a.live q h; ⟨o, b _ _ e⟩⟩
/-- the ledger between the turns -/
abbrev lawLed (L sc c dd md : Addr) (i v : Int) (ti tv : Tok) (ep : Nat) (o om op op4 k1 k2 k3 : Obj) (tl : List (Addr × Obj)) : List (Addr × Obj) :=
  (c, cObj sc i v ti tv ep) :: (dd, o) :: (md, om) :: (384, op) :: (444, op4) :: (L + 1 + 1 + 1, k3) :: (L + 1 + 1, k2) :: (L + 1, k1) :: tl
structure LawInv (w : World) (g : Heap) (L c x xi dd md : Addr) (k : Nat) (o om op op4 k1 k2 k3 : Obj) (kvs kvsM : List (Str × Value)) (qs : List Addr) (tl : List (Addr × Obj)) (hs : Heap) : Prop where
  snap : Snap g tl hs
  ne : ∀ z ∈ Zs L c dd md, NeAll z tl
  out : ∀ z ∈ Zs L c dd md, hs.get? z = none
  ex : ∀ a o, hs.get? a = some o → g.get? a = some o ∨ (a, o) ∈ tl
  c1 : k1.data = .cell (some (.ref x))
  c2 : k2.data = .cell (some (.ref md))
  c3 : ∃ v, k3.data = .cell v
  ho : o.IsDictOf (PySem.strKind PG w) kvs
  hm : om.IsDictOf (PySem.strKind PG w) kvsM
  t8 : TabOk g 388 384 op
  t4 : TabOk g 448 444 op4
  st : LawSt w hs x xi dd kvs kvsM qs k
  qg : ∀ q ∈ qs, g.get? q = none
theorem cut_first {M : Model} {A : Around} {E : Value → Shared → Prop} {s : Shared} {a : Stmt} {rest : List Stmt} {env : Env} {Q : Flow → Shared → Prop} (Mid : Shared → Prop) (h1 : wpAny M A (exec a env) (fun f s' => f = .next ∧ Mid s') E s) (h2 : ∀ s', Mid s' → wpAny M A (execs rest env) Q E s') :
    wpAny M A (execs (a :: rest) env) Q E s := by
  rw [execs_cons]
  refine wpAny_bind (wpAny_mono h1 (fun f s' hf => ?_) fun _ _ e => e)
  obtain ⟨rfl, hm⟩ := hf
  exact h2 s' hm
theorem dictOf_nil {w : World} : (dictOf [] 0 : Obj).IsDictOf (PySem.strKind PG w) [] := by
  obtain ⟨o, e, h⟩ := Heap.dictOf_iff.mp (Heap.DictOf.new (knd := PySem.strKind PG w) (default : Heap))
  have e2 := Heap.get?_push_size (default : Heap) (o := { cls := .type "dict", data := .dict #[] }) rfl
  rw [e2] at e
  cases e
  exact h
structure Ord (L sc c xi x dd md : Nat) : Prop where
  o1 : 444 < L
  o0 : sc < L
  o2 : L + 3 < c
  o3 : c < xi
  o4 : xi < x
  o5 : x < dd
  o6 : dd < md
theorem law_init {w : World} {g h : Heap} {L sc c x xi dd md T : Addr} {m : Str → Option Value} {oT om op op4 k1 k2 k3 : Obj} {i v : Int} {ti tv t : Tok} {ep : Nat} (F : Fr g L h m)
    (N : News g L h [(T, oT), (md, om), (dd, dictOf [] 0), (x, instObj 501 xi), (xi, xdIn w t dd), (c, cObj sc i v ti tv ep), (L + 1 + 1 + 1, k3), (L + 1 + 1, k2), (L + 1, k1), (384, op), (444, op4)])
    (d1 : k1.data = .cell (some (.ref x))) (d2 : k2.data = .cell (some (.ref md))) (d3 : k3.data = .cell none) (hm : om.IsDictOf (PySem.strKind PG w) []) (t8 : TabOk g 388 384 op) (t4 : TabOk g 448 444 op4) (O : Ord L sc c xi x dd md) (hmc : m (Str.ofString "c") = some (.ref c)) :
    ∃ c x xi dd md om tl hs, m (Str.ofString "c") = some (.ref c) ∧ Ord L sc c xi x dd md ∧ News g L h (lawLed L sc c dd md i v ti tv ep (dictOf [] 0) om op op4 k1 k2 k3 tl) ∧ LawInv w g L c x xi dd md 0 (dictOf [] 0) om op op4 k1 k2 k3 [] [] [] tl hs := by
  obtain ⟨tl, Ntl, hNe, snap, hex⟩ := rebase_ex F (Z := Zs L c dd md) (.head _)
  have o := O
  obtain ⟨o1, o0, o2, o3, o4, o5, o6⟩ := O
  have nx : x ∉ Zs L c dd md := by
    intro h
    simp only [Zs, List.mem_cons, List.not_mem_nil, or_false] at h
    rcases h with h | h | h | h | h | h | h | h | h <;> (change @Eq Nat _ _ at h; omega)
  have nxi : xi ∉ Zs L c dd md := by
    intro h
    simp only [Zs, List.mem_cons, List.not_mem_nil, or_false] at h
    rcases h with h | h | h | h | h | h | h | h | h <;> (change @Eq Nat _ _ at h; omega)
  have a : ∀ p ∈ [(T, oT), (md, om), (dd, dictOf [] 0), (x, instObj 501 xi), (xi, xdIn w t dd), (c, cObj sc i v ti tv ep), (L + 1 + 1 + 1, k3), (L + 1 + 1, k2), (L + 1, k1), (384, op), (444, op4)], _ := N
  refine ⟨c, x, xi, dd, md, om, tl, _, hmc, o, fun p hp => ?_, ⟨snap, hNe, fun z hz => hideAll_none _ hz, hex, d1, d2, ⟨_, d3⟩, dictOf_nil, hm, t8, t4, ⟨?_, fun ap _ => .inl ⟨rfl, rfl⟩, rfl, fun a h => (nomatch h), fun a b q h => (nomatch h), fun q h => (nomatch h)⟩, fun q h => (nomatch h)⟩⟩
  · simp only [lawLed, List.mem_cons] at hp
    rcases hp with rfl | rfl | rfl | rfl | rfl | rfl | rfl | rfl | hp
    · exact N _ (by simp)
    · exact N _ (by simp)
    · exact N _ (by simp)
    · exact N _ (by simp)
    · exact N _ (by simp)
    · exact N _ (by simp)
    · exact N _ (by simp)
    · exact N _ (by simp)
    · exact Ntl p hp
  · exact ⟨t, hideAll_get _ (hideAll_get _ (N (x, instObj 501 xi) (by simp)).1 nx) (by simp), hideAll_get _ (hideAll_get _ (N (xi, xdIn w t dd) (by simp)).1 nxi) (by simp)⟩
def LawJ (w : World) (gens0 : Array GenState) (g : Heap) (L sc c x xi dd md : Addr) (k : Nat) (m : Str → Option Value) (news : List (Addr × Obj)) (gs : Array GenState) : Prop :=
  GN gens0 gs ∧ m (Str.ofString "c") = some (.ref c) ∧ ∃ (i v : Int) (ti tv : Tok) (ep : Nat) (o om op op4 k1 k2 k3 : Obj) (kvs kvsM : List (Str × Value)) (qs : List Addr) (tl : List (Addr × Obj)) (hs : Heap),
    news = lawLed L sc c dd md i v ti tv ep o om op op4 k1 k2 k3 tl ∧ 0 ≤ i ∧ i ≤ 1 + 10 * k ∧ 0 ≤ v ∧ v < 999983 ∧ LawInv w g L c x xi dd md k o om op op4 k1 k2 k3 kvs kvsM qs tl hs
theorem fr_keepF {g h h' : Heap} {L : Addr} {m : Str → Option Value} {S : List Addr} (F : Fr g L h m) (k : KeepF S [L] h h') (hS : ∀ c ∈ S, g.get? c = none ∧ c ≠ L) : Fr g L h' m := by
  refine ⟨ns_slots F.ns fun o e => k.up' e fun q => (hS L q).2 rfl, fun b o e => k.keep b o (F.keep b o e) (fun q => by rw [(hS b q).1] at e; cases e) fun q => ?_, F.above⟩
  rw [List.mem_singleton.mp q] at e
  exact Nat.lt_irrefl _ (Nat.lt_of_lt_of_le (Heap.lt_size e) F.above)
theorem news_keepF {g h h' : Heap} {L : Addr} {news : List (Addr × Obj)} {S : List Addr} (N : News g L h news) (k : KeepF S [L] h h') (hn : ∀ q ∈ news, q.1 ∉ S) : News g L h' news := fun q hq =>
  ⟨k.keep _ _ (N q hq).1 (hn q hq) (by simpa using (N q hq).2.1), (N q hq).2⟩
theorem LawInv.xd {w : World} {g : Heap} {L c x xi dd md : Addr} {k : Nat} {o om op op4 k1 k2 k3 : Obj} {kvs kvsM : List (Str × Value)} {qs : List Addr} {tl : List (Addr × Obj)} {hs : Heap} (I : LawInv w g L c x xi dd md k o om op op4 k1 k2 k3 kvs kvsM qs tl hs)
    {h : Heap} {m : Str → Option Value} {news : List (Addr × Obj)} (F : Fr g L h m) (N : News g L h news) (sub : ∀ p ∈ tl, p ∈ news) : XdAt w h x xi dd :=
  I.st.xd.keeps fun a ob e => I.snap.at_ F N sub _ _ (of_hideAll _ e)
theorem not_mod {dd : Addr} (h : @LT.lt Nat instLTNat 444 dd) : (dd == sysModules) = false := by
  have : dd ≠ sysModules := fun e => by
    rw [e] at h
    exact absurd h (by decide)
  simpa using this
theorem none_key {kvs : List (Str × Value)} {a : Str} (only : ∀ b ∈ kvs.map (·.1), b = sAPP ∨ b = sOTHER) (h1 : a ≠ sAPP) (h2 : a ≠ sOTHER) : valueAt kvs a = none := by
  refine valueAt_none_of_not_mem fun m => ?_
  rcases only a m with h | h
  · exact h1 h
  · exact h2 h
theorem inst_snap {w : World} {hs h : Heap} {x xi dd : Addr} {t : Tok} (a : hs.get? x = some (instObj 501 xi)) (b : hs.get? xi = some (xdIn w t dd)) (k : hs.StaysIn h) : InstAt h x (instObj 501 xi) 501 (some (xdIn w t dd)) := ⟨k _ _ a, rfl, rfl, k _ _ b⟩
theorem execs_app (env : Env) (rest : List Stmt) : ∀ xs : List Stmt, execs (xs ++ rest) env = (execs xs env >>= fun f => match f with | .next => execs rest env | f => pure f)
  | [] => by
    show execs rest env = ((pure Flow.next : Sem Flow) >>= _)
    rw [LawfulMonad.pure_bind]
  | x :: xs => by
    rw [List.cons_append, execs_cons, execs_cons, LawfulMonad.bind_assoc]
    congr 1
    funext f
    cases f with
    | next => exact execs_app env rest xs
    | _ => simp only [LawfulMonad.pure_bind]
theorem cut_three {M : Model} {A : Around} {E : Value → Shared → Prop} {s : Shared} {a b c : Stmt} {rest : List Stmt} {env : Env} {Q : Flow → Shared → Prop} (Mid : Shared → Prop) (h1 : wpAny M A (execs [a, b, c] env) (fun f s' => f = .next ∧ Mid s') E s)
    (h2 : ∀ s', Mid s' → wpAny M A (execs rest env) Q E s') : wpAny M A (execs (a :: b :: c :: rest) env) Q E s := by
  show wpAny M A (execs ([a, b, c] ++ rest) env) Q E s
  rw [execs_app]
  refine wpAny_bind (wpAny_mono h1 (fun f s' hf => ?_) fun _ _ e => e)
  obtain ⟨rfl, hm⟩ := hf
  exact h2 s' hm
/-- what stands before a deed -/
def LawB (w : World) (gens0 : Array GenState) (g : Heap) (L sc c x xi dd md I : Addr) (oI : Obj) (k : Nat) (m : Str → Option Value) (news : List (Addr × Obj)) (gs : Array GenState) : Prop :=
  GN gens0 gs ∧ m (Str.ofString "c") = some (.ref c) ∧ ∃ (k0 : Int) (t0 : Tok) (ap nm : Str) (ta tn : Tok) (l : Addr) (us : List Value) (rws : List Row) (i v : Int) (ti tv : Tok) (ep : Nat) (o om op op4 k1 k2 k3 : Obj) (kvs kvsM : List (Str × Value)) (qs : List Addr) (tl : List (Addr × Obj)) (hs : Heap),
    m (Str.ofString "kind") = some (.int k0 t0) ∧ 0 ≤ k0 ∧ k0 ≤ 5 ∧ m (Str.ofString "app") = some (.str ap ta) ∧ (ap = sAPP ∨ ap = sOTHER) ∧ m (Str.ofString "name") = some (.str nm tn) ∧ (nm = sA ∨ nm = sB) ∧ m (Str.ofString "rows") = some (.ref l) ∧
    news = (I, oI) :: lawLed L sc c dd md i v ti tv ep o om op op4 k1 k2 k3 tl ∧ NeAll I (lawLed L sc c dd md i v ti tv ep o om op op4 k1 k2 k3 tl) ∧ 0 ≤ i ∧ i ≤ 1 + 10 * (k + 1) ∧ 0 ≤ v ∧ v < 999983 ∧ LawInv w g L c x xi dd md k o om op op4 k1 k2 k3 kvs kvsM qs tl hs ∧
    (hideAll hs qs).IsList l us.toArray ∧ TupRows (hideAll hs qs) us rws ∧ Good 18 rws ∧ (k0 ≠ 0 → rws.all six = true)
section
variable {prog : Program} {w : World} {A : Around} {E : Value → Shared → Prop} {s : Shared} {g : Heap} {L D : Addr} {m : Str → Option Value} {news : List (Addr × Obj)} {n : Nat}
/-- one of two written texts -/
theorem item2s {value slice : Expr} {Q : Value → Shared → Prop} {a b : Str} {ta tb : Tok} {k : Int} {u : Tok} (N : News g L s.heap news) (hm : (D, listOf #[.str a ta, .str b tb] n) ∈ news) (h0 : 0 ≤ k) (h1 : k < 2)
    (h : ∀ v t, (v = a ∨ v = b) → Q (.str v t) s)
    (hs : subscripted slice false (.ref D) (.int k u) = operate [.ref D, .int k u] (getItem (.ref D) (.int k u)) := by with_unfolding_all rfl) :
    wpAny (model prog w) A (subscriptTail value slice (.ref D) (.int k u)) Q E s := by
  refine item_led (vs := [.str a ta, .str b tb]) N hm h0 h1 (by simp) (fun v e => ?_) hs
  have hk : k = 0 ∨ k = 1 := by omega
  rcases hk with rfl | rfl
  · simp at e; subst e; exact h a ta (.inl rfl)
  · simp at e; subst e; exact h b tb (.inr rfl)
end
theorem LawInv.noI {w : World} {g : Heap} {L c x xi dd md : Addr} {k : Nat} {o om op op4 k1 k2 k3 : Obj} {kvs kvsM : List (Str × Value)} {qs : List Addr} {tl : List (Addr × Obj)} {hs : Heap} (V : LawInv w g L c x xi dd md k o om op op4 k1 k2 k3 kvs kvsM qs tl hs)
    {I : Addr} (h1 : g.get? I = none) (h2 : NeAll I tl) : hs.get? I = none := by
  cases e : hs.get? I with
  | none => rfl
  | some ob =>
    rcases V.ex _ _ e with z | z
    · rw [h1] at z; cases z
    · exact absurd rfl (h2 _ z)
/-- a new snapshot behind a call that has changed c alone -/
theorem law_step {w : World} {g h h3 : Heap} {L c x xi dd md I : Addr} {k : Nat} {m : Str → Option Value} {o om op op4 k1 k2 k3 : Obj} {kvs kvsM : List (Str × Value)} {qs : List Addr} {tl : List (Addr × Obj)} {hs : Heap} {news : List (Addr × Obj)} (V : LawInv w g L c x xi dd md k o om op op4 k1 k2 k3 kvs kvsM qs tl hs)
    {oI : Obj} (F : Fr g L h m) (N : News g L h news) (sub : ∀ p ∈ tl, p ∈ news) (mI : (I, oI) ∈ news) (nI : NeAll I tl) (kp : Keep [c] h h3) (F3 : Fr g L h3 m) :
    ∃ tl3, News g L h3 tl3 ∧ NeAll I tl3 ∧ hs.StaysIn (hideAll h3 (I :: Zs L c dd md)) ∧ LawInv w g L c x xi dd md k o om op op4 k1 k2 k3 kvs kvsM qs tl3 (hideAll h3 (I :: Zs L c dd md)) := by
  obtain ⟨tl3, N3, hNe, snap3, hex⟩ := rebase_ex F3 (Z := I :: Zs L c dd md) (.tail _ (.head _))
  have up : hs.StaysIn (hideAll h3 (I :: Zs L c dd md)) := fun a ob e => by
    refine hideAll_get _ (kp _ _ (V.snap.at_ F N sub _ _ e) fun q => ?_) fun q => ?_
    · rw [List.mem_singleton.mp q, V.out c (by simp [Zs])] at e; cases e
    · rcases List.mem_cons.mp q with q | q
      · rw [q, V.noI (N _ mI).2.2 nI] at e; cases e
      · rw [V.out a q] at e; cases e
  exact ⟨tl3, N3, hNe I (.head _), up, ⟨snap3, fun z hz => hNe z (.tail _ hz), fun z hz => hideAll_none _ (.tail _ hz), hex, V.c1, V.c2, V.c3, V.ho, V.hm, V.t8, V.t4, V.st.keeps up, V.qg⟩⟩
theorem hide_two {h : Heap} {Z qs : List Addr} : (hideAll h (Z ++ qs)).StaysIn (hideAll (hideAll h Z) qs) := fun a o e => by
  have n : a ∉ Z ++ qs := fun m => by rw [hideAll_none _ m] at e; cases e
  exact hideAll_get _ (hideAll_get _ (of_hideAll _ e) fun m => n (List.mem_append_left _ m)) fun m => n (List.mem_append_right _ m)
theorem law_live {w : World} {g h : Heap} {L c x xi dd md I : Addr} {k : Nat} {m : Str → Option Value} {o om op op4 k1 k2 k3 oI oc : Obj} {kvs kvsM : List (Str × Value)} {qs : List Addr} {tl : List (Addr × Obj)} {hs : Heap} {news : List (Addr × Obj)} (V : LawInv w g L c x xi dd md k o om op op4 k1 k2 k3 kvs kvsM qs tl hs)
    (F : Fr g L h m) (N : News g L h news) (sub : ∀ p ∈ (I, oI) :: (c, oc) :: (dd, o) :: (md, om) :: (384, op) :: (444, op4) :: (L + 1 + 1 + 1, k3) :: (L + 1 + 1, k2) :: (L + 1, k1) :: tl, p ∈ news) : ∀ z ∈ (I :: Zs L c dd md) ++ qs, ∃ o, h.get? z = some o := fun z hz => by
  have M := fun p hp => (N p (sub p hp)).1
  rcases List.mem_append.mp hz with hz | hz
  · simp only [Zs, List.mem_cons, List.not_mem_nil, or_false] at hz
    rcases hz with rfl | rfl | rfl | rfl | rfl | rfl | rfl | rfl | rfl | rfl
    · exact ⟨oI, M _ (.head _)⟩
    · obtain ⟨oL, _, _, hL, _⟩ := F.ns
      exact ⟨oL, hL⟩
    · exact ⟨oc, M _ (.tail _ (.head _))⟩
    · exact ⟨o, M _ (.tail _ (.tail _ (.head _)))⟩
    · exact ⟨om, M _ (.tail _ (.tail _ (.tail _ (.head _))))⟩
    · exact ⟨op, M _ (.tail _ (.tail _ (.tail _ (.tail _ (.head _)))))⟩
    · exact ⟨op4, M _ (.tail _ (.tail _ (.tail _ (.tail _ (.tail _ (.head _))))))⟩
    · exact ⟨k3, M _ (.tail _ (.tail _ (.tail _ (.tail _ (.tail _ (.tail _ (.head _)))))))⟩
    · exact ⟨k2, M _ (.tail _ (.tail _ (.tail _ (.tail _ (.tail _ (.tail _ (.tail _ (.head _))))))))⟩
    · exact ⟨k1, M _ (.tail _ (.tail _ (.tail _ (.tail _ (.tail _ (.tail _ (.tail _ (.tail _ (.head _)))))))))⟩
  · obtain ⟨ob, e⟩ := V.st.live z hz
    exact ⟨ob, V.snap.at_ F N (fun p hp => sub p (by simp [hp])) _ _ e⟩
theorem law_new {h h3 : Heap} {l : Addr} {Z qs : List Addr} {us : List Value} {rws : List Row} {n : Nat} (live : ∀ z ∈ Z ++ qs, ∃ o, h.get? z = some o) (lf : h.get? l = none) (el : h3.get? l = some (listOf us.toArray n)) (nt : NewTups h h3 us rws) :
    (hideAll (hideAll h3 Z) qs).IsList l us.toArray ∧ TupRows (hideAll (hideAll h3 Z) qs) us rws := by
  refine ⟨⟨_, hide_two _ _ (hideAll_get _ el fun m => ?_), rfl, n, rfl⟩, (nt.rows live).keeps hide_two⟩
  obtain ⟨ob, e⟩ := live l m
  rw [lf] at e; cases e
theorem law_led {g h h3 : Heap} {L c dd md I : Addr} {o om op op4 k1 k2 k3 oI oc oc' : Obj} {tl tl3 news : List (Addr × Obj)} (N : News g L h news) (sub : ∀ p ∈ (I, oI) :: (c, oc) :: (dd, o) :: (md, om) :: (384, op) :: (444, op4) :: (L + 1 + 1 + 1, k3) :: (L + 1 + 1, k2) :: (L + 1, k1) :: tl, p ∈ news)
    (kp : Keep [c] h h3) (n1 : @Ne Nat I c) (n2 : @Ne Nat dd c) (n3 : @Ne Nat md c) (n4 : @Ne Nat 384 c) (n5 : @Ne Nat 444 c) (n6 : @Ne Nat (L + 1 + 1 + 1) c) (n7 : @Ne Nat (L + 1 + 1) c) (n8 : @Ne Nat (L + 1) c) (ec : h3.get? c = some oc') (N3 : News g L h3 tl3) :
    News g L h3 ((I, oI) :: (c, oc') :: (dd, o) :: (md, om) :: (384, op) :: (444, op4) :: (L + 1 + 1 + 1, k3) :: (L + 1 + 1, k2) :: (L + 1, k1) :: tl3) := fun p hp => by
  have key : ∀ z ∈ (I, oI) :: (c, oc) :: (dd, o) :: (md, om) :: (384, op) :: (444, op4) :: (L + 1 + 1 + 1, k3) :: (L + 1 + 1, k2) :: (L + 1, k1) :: tl, @Ne Nat z.1 c → h3.get? z.1 = some z.2 ∧ z.1 ≠ L ∧ g.get? z.1 = none := fun z hz nz => ⟨kp _ _ (N z (sub z hz)).1 (nin1 nz), (N z (sub z hz)).2⟩
  have kc := N _ (sub _ (.tail _ (.head _)))
  rcases List.mem_cons.mp hp with rfl | hp
  · exact key _ (.head _) n1
  rcases List.mem_cons.mp hp with rfl | hp
  · exact ⟨ec, kc.2⟩
  rcases List.mem_cons.mp hp with rfl | hp
  · exact key _ (.tail _ (.tail _ (.head _))) n2
  rcases List.mem_cons.mp hp with rfl | hp
  · exact key _ (.tail _ (.tail _ (.tail _ (.head _)))) n3
  rcases List.mem_cons.mp hp with rfl | hp
  · exact key _ (.tail _ (.tail _ (.tail _ (.tail _ (.head _))))) n4
  rcases List.mem_cons.mp hp with rfl | hp
  · exact key _ (.tail _ (.tail _ (.tail _ (.tail _ (.tail _ (.head _)))))) n5
  rcases List.mem_cons.mp hp with rfl | hp
  · exact key _ (.tail _ (.tail _ (.tail _ (.tail _ (.tail _ (.tail _ (.head _))))))) n6
  rcases List.mem_cons.mp hp with rfl | hp
  · exact key _ (.tail _ (.tail _ (.tail _ (.tail _ (.tail _ (.tail _ (.tail _ (.head _)))))))) n7
  rcases List.mem_cons.mp hp with rfl | hp
  · exact key _ (.tail _ (.tail _ (.tail _ (.tail _ (.tail _ (.tail _ (.tail _ (.tail _ (.head _))))))))) n8
  · exact N3 p hp
theorem neAll_of_all {d : Addr} : ∀ {l : List (Addr × Obj)}, AllNe d l → NeAll d l
  | [], _ => fun p h => nomatch h
  | _ :: _, x => fun p hp => by
    rcases List.mem_cons.mp hp with rfl | hp
    · exact x.1
    · exact neAll_of_all x.2 p hp
/-- the state before a deed, as the cut has it -/
def LawMid (w : World) (s : Shared) (g : Heap) (L sc c x xi dd md I : Addr) (oI : Obj) (k : Nat) (s' : Shared) : Prop :=
  ∃ h tk gs m news, s' = { s with heap := h, toks := tk, gens := gs } ∧ Fr g L h m ∧ News g L h news ∧ LawB w s.gens g L sc c x xi dd md I oI k m news gs
end
local macro_rules | `(tactic| k_inst) => `(tactic| exact inst_snap (by assumption) (by assumption) (by k_offL))
section
theorem vat_same {kvs : List (Str × Value)} {k : Str} {v : Value} : valueAt (stored kvs k v) k = some v := by
  unfold stored
  by_cases h : kvs.any (fun kv => kv.1 = k) = true
  · rw [if_pos h]
    induction kvs with
    | nil => simp at h
    | cons p r ih =>
      by_cases e : p.1 = k
      · simp [valueAt, e]
      · have h' : r.any (fun kv => kv.1 = k) = true := by simpa [e] using h
        have := ih h'
        simpa [valueAt, e] using this
  · rw [if_neg h]
    induction kvs with
    | nil => simp [valueAt]
    | cons p r ih =>
      have e : ¬ p.1 = k := fun e => h (by simp [e])
      have h' : ¬ r.any (fun kv => kv.1 = k) = true := fun q => h (by rw [List.any_cons, q]; simp)
      have := ih h'
      simpa [valueAt, e] using this
theorem vat_other {kvs : List (Str × Value)} {k a : Str} {v : Value} (n : a ≠ k) : valueAt (stored kvs k v) a = valueAt kvs a := by
  have n' : ¬ k = a := fun e => n e.symm
  unfold stored
  split
  · induction kvs with
    | nil => rfl
    | cons p r ih =>
      rename_i h
      by_cases e : p.1 = k
      · have e2 : ¬ p.1 = a := fun q => n (q.symm.trans e)
        have e3 : ∀ r : List (Str × Value), valueAt (r.map fun kv => if kv.1 = k then (kv.1, v) else kv) a = valueAt r a := fun r => by
          induction r with
          | nil => rfl
          | cons p r ih =>
            by_cases e : p.1 = k
            · have e2 : ¬ p.1 = a := fun q => n (q.symm.trans e)
              simp only [valueAt, List.map_cons, if_pos e, List.find?_cons, decide_eq_false e2] at ih ⊢
              exact ih
            · by_cases q : p.1 = a
              · simp only [valueAt, List.map_cons, if_neg e, List.find?_cons, decide_eq_true q]
              · simp only [valueAt, List.map_cons, if_neg e, List.find?_cons, decide_eq_false q] at ih ⊢
                exact ih
        exact e3 _
      · have h' : r.any (fun kv => kv.1 = k) = true := by simpa [e] using h
        have := ih h'
        by_cases q : p.1 = a
        · simp only [valueAt, List.map_cons, if_neg e, List.find?_cons, decide_eq_true q]
        · simp only [valueAt, List.map_cons, if_neg e, List.find?_cons, decide_eq_false q] at this ⊢
          exact this
  · induction kvs with
    | nil => simp [valueAt, n']
    | cons p r ih =>
      rename_i h
      have h' : ¬ r.any (fun kv => kv.1 = k) = true := fun q => h (by rw [List.any_cons, q]; simp)
      have := ih h'
      by_cases q : p.1 = a
      · simp only [valueAt, List.cons_append, List.find?_cons, decide_eq_true q]
      · simp only [valueAt, List.cons_append, List.find?_cons, decide_eq_false q] at this ⊢
        exact this
theorem vat_wo_same {kvs : List (Str × Value)} {k : Str} : valueAt (without kvs k) k = none := by
  refine valueAt_none_of_not_mem fun m => ?_
  obtain ⟨p, hp, e⟩ := List.mem_map.mp m
  exact of_decide_eq_true (List.mem_filter.mp hp).2 e
theorem vat_wo_other {kvs : List (Str × Value)} {k a : Str} (n : a ≠ k) : valueAt (without kvs k) a = valueAt kvs a := by
  induction kvs with
  | nil => rfl
  | cons p r ih =>
    by_cases e : p.1 = k
    · have e2 : ¬ p.1 = a := fun q => n (q.symm.trans e)
      simp only [valueAt, without, List.filter_cons, List.find?_cons, decide_eq_false e2] at ih ⊢
      rw [if_neg (by simp [e])]
      exact ih
    · rw [without, List.filter_cons, if_pos (by simpa using e)]
      by_cases q : p.1 = a
      · simp only [valueAt, List.find?_cons, decide_eq_true q]
      · simp only [valueAt, List.find?_cons, decide_eq_false q, without] at ih ⊢
        exact ih
theorem keys_stored {kvs : List (Str × Value)} {k : Str} {v : Value} : (stored kvs k v).map (·.1) = if k ∈ kvs.map (·.1) then kvs.map (·.1) else kvs.map (·.1) ++ [k] := by
  have key : (kvs.any (fun kv => kv.1 = k) = true) ↔ k ∈ kvs.map (·.1) := by
    simp only [List.any_eq_true, List.mem_map, decide_eq_true_eq]
  unfold stored
  by_cases h : k ∈ kvs.map (·.1)
  · rw [if_pos (key.mpr h), if_pos h, List.map_map]
    refine List.map_congr_left fun p _ => ?_
    show (if p.1 = k then (p.1, v) else p).1 = p.1
    split <;> rfl
  · rw [if_neg fun q => h (key.mp q), if_neg h, List.map_append]
    rfl
theorem keys_wo {kvs : List (Str × Value)} {k : Str} : (without kvs k).map (·.1) = (kvs.map (·.1)).filter fun a => decide (a ≠ k) := by
  induction kvs with
  | nil => rfl
  | cons p r ih =>
    simp only [without, List.filter_cons, List.map_cons] at ih ⊢
    split
    · rw [List.map_cons, ih]
    · exact ih
theorem keys_has {kvs : List (Str × Value)} {a : Str} : (valueAt kvs a).isSome = true ↔ a ∈ kvs.map (·.1) := by
  unfold valueAt
  rw [Option.isSome_map, List.find?_isSome]
  constructor
  · rintro ⟨p, hp, e⟩
    exact List.mem_map.mpr ⟨p, hp, of_decide_eq_true e⟩
  · rintro m
    obtain ⟨p, hp, e⟩ := List.mem_map.mp m
    exact ⟨p, hp, decide_eq_true e⟩
/-- the keys of the law's two dicts -/
theorem two_keys {l : List Str} (h : ∀ a ∈ l, a = sAPP ∨ a = sOTHER) (n : l.Nodup) : l = [] ∨ l = [sAPP] ∨ l = [sOTHER] ∨ l = [sAPP, sOTHER] ∨ l = [sOTHER, sAPP] := by
  cases l with
  | nil => exact .inl rfl
  | cons a r =>
    cases r with
    | nil => rcases h a (.head _) with rfl | rfl <;> simp
    | cons b t =>
      have e1 := h a (.head _)
      have e2 := h b (.tail _ (.head _))
      have nab : a ≠ b := fun e => (List.nodup_cons.mp n).1 (by rw [e]; exact .head _)
      cases t with
      | nil => rcases e1 with rfl | rfl <;> rcases e2 with rfl | rfl <;> first | exact absurd rfl nab | simp
      | cons c u =>
        have e3 := h c (.tail _ (.tail _ (.head _)))
        have nac : a ≠ c := fun e => (List.nodup_cons.mp n).1 (by rw [e]; exact .tail _ (.head _))
        have nbc : b ≠ c := fun e => (List.nodup_cons.mp (List.nodup_cons.mp n).2).1 (by rw [e]; exact .head _)
        rcases e1 with rfl | rfl <;> rcases e2 with rfl | rfl <;> rcases e3 with rfl | rfl <;> first | exact absurd rfl nab | exact absurd rfl nac | exact absurd rfl nbc
theorem dict_nodup {w : World} {o : Obj} {kvs : List (Str × Value)} (h : o.IsDictOf (PySem.strKind PG w) kvs) : (kvs.map (·.1)).Nodup := by
  obtain ⟨_, _, _, _, _, _, n⟩ := h
  exact n
theorem keys_le {l : List Str} (h : ∀ a ∈ l, a = sAPP ∨ a = sOTHER) (n : l.Nodup) : l.length ≤ 2 := by
  rcases two_keys h n with rfl | rfl | rfl | rfl | rfl <;> decide
/-- rows as data -/
theorem tupRows_reads {h : Heap} : ∀ {vs : List Value} {rows : List Row}, TupRows h vs rows → ReadsAll h vs (rows.map rowD) []
  | [], [], _ => .nil
  | [], _ :: _, t => by have := t.1; simp at this
  | _ :: _, [], t => by have := t.1; simp at this
  | v :: vs, r :: rows, t => by
    have t' : TupRows h vs rows := ⟨by have := t.1; simpa using this, fun i v r e1 e2 => t.2 (i + 1) v r (by simpa using e1) (by simpa using e2)⟩
    obtain ⟨a, t1, t2, rfl, ht⟩ := (t.2 0 v r rfl rfl).at_
    exact .cons (as := []) (bs := []) ht.reads (tupRows_reads t')
theorem rowsD_lay : ∀ {rows : List Row}, RowsOk rows → PyData.canLayAll0 (rows.map rowD) = true
  | [], _ => rfl
  | r :: rows, h => by
    have e := rowsD_lay (rows := rows) fun q hq => h q (.tail _ hq)
    have e1 := h r (.head _)
    simp [List.map_cons, PyData.canLayAll0, rowD, PyData.canLay0, e, e1]
theorem rowsD_depth : ∀ {rows : List Row}, PyData.depthAll (rows.map rowD) ≤ 1
  | [] => by simp [PyData.depthAll]
  | r :: rows => by
    have e := rowsD_depth (rows := rows)
    simp only [List.map_cons, PyData.depthAll, rowD, PyData.depth]
    omega
theorem rowsD_shaped {rows : List Row} (h : RowsOk rows) : SeqAt.shaped (.list (rows.map rowD)) = true := by
  have a := rowsD_lay h
  have b := rowsD_depth (rows := rows)
  have c : (PyData.list (rows.map rowD)).depth ≤ 64 := by
    show PyData.depthAll _ + 1 ≤ 64
    omega
  show (PyData.canLayAll0 _ && decide _) = true
  rw [a, decide_eq_true c]
  rfl
theorem rows_reads {h : Heap} {l : Addr} {vs : List Value} {rows : List Row} (hl : h.IsList l vs.toArray) (t : TupRows h vs rows) : ∃ as, Reads h (.ref l) (.list (rows.map rowD)) as := by
  obtain ⟨o, ho, hc, n, hd⟩ := hl
  exact ⟨_, .list ho hc hd (tupRows_reads t)⟩
section
variable {prog : Program} {w : World} {A : Around} {E : Value → Shared → Prop} {s : Shared} {Q : Value → Shared → Prop}
theorem ne_selves {a b : Value} {d : PyData} {as bs : List Addr} (ra : Reads s.heap a d as) (rb : Reads s.heap b d bs) (h : SeqAt.shaped d = true) (hu : A.units + 64 < cLine) (q : Q (.bool false) s) : wpAny (model prog w) A (compareOp .NotEq a b) Q E s :=
  ne_dataH ra rb h h hu (by rw [PySem.SeqAt.eqv_refl d (SeqAt.canLay_of_shaped h)]; exact q)
/-- two rows lists by the same rows -/
theorem ne_rows {a b : Addr} {vs ws : List Value} {rows : List Row} (ha : s.heap.IsList a vs.toArray) (hb : s.heap.IsList b ws.toArray) (ta : TupRows s.heap vs rows) (tb : TupRows s.heap ws rows) (ho : RowsOk rows) (hu : A.units + 64 < cLine) (q : Q (.bool false) s) :
    wpAny (model prog w) A (compareOp .NotEq (.ref a) (.ref b)) Q E s := by
  obtain ⟨as, ra⟩ := rows_reads ha ta
  obtain ⟨bs, rb⟩ := rows_reads hb tb
  exact ne_selves ra rb (rowsD_shaped ho) hu q
end
/-- what was told, as data -/
def toldD : Told → PyData
  | .nothing => .str (Str.ofString "")
  | .refused => .str (Str.ofString "refused")
  | .rows r => .list (r.map rowD)
theorem TellsV.reads {h0 h h' : Heap} {t : Told} {v : Value} (x : TellsV h0 h t v) (k : ∀ r, t = .rows r → h.StaysIn h') : ∃ as, Reads h' v (toldD t) as := by
  cases x with
  | nothing t => exact ⟨_, .str _ _⟩
  | refused t => exact ⟨_, .str _ _⟩
  | rows l vs n e1 e2 e3 =>
    have k := k _ rfl
    exact rows_reads (isList_keep ⟨_, e2, rfl, n, rfl⟩ k) (e3.keeps k)
theorem told_shaped {t : Told} (h : ∀ r, t = .rows r → RowsOk r) : SeqAt.shaped (toldD t) = true := by
  cases t with
  | nothing => decide +kernel
  | refused => decide +kernel
  | rows r => exact rowsD_shaped (h r rfl)
theorem told_rows {k : Int} {ap nm : Str} {rows : List Row} {cur : Option (List Row)} {r : List Row} (h : (stepR k ap nm rows cur).1 = .rows r) : (stepR k ap nm rows cur).2 = .same ∧ ∃ rc, cur = some rc ∧ ∀ q ∈ r, q ∈ rc := by
  unfold stepR at h ⊢
  split at h
  · split at h <;> cases h
  split at h
  · cases h
  split at h
  · cases cur <;> cases h
  split at h
  · cases cur <;> cases h
  split at h
  · cases cur with
    | none => cases h
    | some rc =>
      dsimp only at h
      split at h <;> cases h
  · cases cur with
    | none => cases h
    | some rc =>
      rename_i h0 h1 h2 h3 h4
      rw [if_neg h0, if_neg h1, if_neg h2, if_neg h3, if_neg h4]
      dsimp only at h ⊢
      split at h
      · cases h
      · rename_i e
        cases h
        exact ⟨rfl, rc, rfl, fun q hq => List.mem_of_mem_take (List.mem_of_mem_drop hq)⟩
end
section
theorem StAt.move {hs hs' G G' : Heap} {qs qs' : List Addr} {kvs kvsM kvs' kvsM' : List (Str × Value)} {k k' : Nat} {ap : Str} (x : StAt hs G qs kvs kvsM k ap)
    (hq : ∀ q, valueAt kvs ap = some (.ref q) → q ∈ qs → q ∈ qs' ∧ ∀ o, hs.get? q = some o → hs'.get? q = some o) (b : G.StaysIn G') (e : valueAt kvs' ap = valueAt kvs ap) (eM : valueAt kvsM' ap = valueAt kvsM ap) (hk : k ≤ k') : StAt hs' G' qs' kvs' kvsM' k' ap := by
  rcases x with ⟨x1, x2⟩ | ⟨q, d, vs, n, S, ws, rows, e1, e2, e3, e4, e5, e6, e7, e8, e9, e10⟩
  · exact .inl ⟨e.trans x1, eM.trans x2⟩
  · exact .inr ⟨q, d, vs, n, S, ws, rows, e.trans e1, eM.trans e2, (hq q e1 e3).1, (hq q e1 e3).2 _ e4, b _ _ e5, e6.keeps b, isList_keep e7 b, e8.keeps b, e9.mono (by omega), e10⟩
/-- what a deed makes of data's half of the state -/
inductive DSt (hs hs1 : Heap) (kvs kvs' : List (Str × Value)) (qs qs' : List Addr) (ap : Str) : Upd → Prop
  | same : kvs' = kvs → qs' = qs → hs.StaysIn hs1 → DSt hs hs1 kvs kvs' qs qs' ap .same
  | put {r : List Row} (T d : Addr) (vs : List Value) (n : Nat) : kvs' = stored kvs ap (.ref T) → T ∈ qs' → T ∉ qs → hs1.get? T = some (tg d vs n) → (hideAll hs1 qs').get? d = some emptyDict → TagRows (hideAll hs1 qs') vs r →
      (∀ q ∈ qs, valueAt kvs ap ≠ some (.ref q) → q ∈ qs' ∧ ∀ o, hs.get? q = some o → hs1.get? q = some o) → (∀ q ∈ qs', ∃ o, hs1.get? q = some o) → DSt hs hs1 kvs kvs' qs qs' ap (.put r)
  | del : kvs' = without kvs ap → qs' = qs → hs.StaysIn hs1 → DSt hs hs1 kvs kvs' qs qs' ap .del
/-- and of the model's -/
inductive MSt (G : Heap) (kvsM kvsM' : List (Str × Value)) (ap : Str) : Upd → Prop
  | same : kvsM' = kvsM → MSt G kvsM kvsM' ap .same
  | put {r : List Row} (S : Addr) (ws : List Value) : kvsM' = stored kvsM ap (.ref S) → G.IsList S ws.toArray → TupRows G ws r → MSt G kvsM kvsM' ap (.put r)
  | del : kvsM' = without kvsM ap → MSt G kvsM kvsM' ap .del
theorem LawSt.next {w : World} {hs hs1 hs2 : Heap} {x xi dd : Addr} {kvs kvs' kvsM kvsM' : List (Str × Value)} {qs qs' : List Addr} {k : Nat} {ap : Str} {u : Upd} (V : LawSt w hs x xi dd kvs kvsM qs k) (hap : ap = sAPP ∨ ap = sOTHER)
    (up : (hideAll hs qs).StaysIn (hideAll hs1 qs')) (D : DSt hs hs1 kvs kvs' qs qs' ap u) (up2 : hs1.StaysIn hs2) (M : MSt (hideAll hs2 qs') kvsM kvsM' ap u)
    (good : ∀ r, u = .put r → Good (22 * (k + 1)) r ∧ r.all six = true) : LawSt w hs2 x xi dd kvs' kvsM' qs' (k + 1) := by
  have upG : (hideAll hs1 qs').StaysIn (hideAll hs2 qs') := hide_mono up2
  have upA : (hideAll hs qs).StaysIn (hideAll hs2 qs') := fun a o e => upG _ _ (up _ _ e)
  have hne : ∀ a b, (a = sAPP ∨ a = sOTHER) → valueAt kvs a ≠ none → ∀ q, valueAt kvs a = some (.ref q) → valueAt kvs b = some (.ref q) → a = b := fun a b _ _ q e1 e2 => V.inj a b q e1 e2
  cases D with
  | same e1 e2 st =>
    cases M with
    | same e3 =>
      subst e1 e2 e3
      exact ⟨V.xd.keeps upA, fun ap h => (V.st ap h).move (fun q e m => ⟨m, fun o e => up2 _ _ (st _ _ e)⟩) upA rfl rfl (by omega), V.keys, V.only, V.inj, fun q h => let ⟨o, e⟩ := V.live q h; ⟨o, up2 _ _ (st _ _ e)⟩⟩
  | del e1 e2 st =>
    cases M with
    | del e3 =>
      subst e1 e2 e3
      refine ⟨V.xd.keeps upA, fun ap' h => ?_, by rw [keys_wo, keys_wo, V.keys], fun a h => ?_, fun a b q h1 h2 => ?_, fun q h => let ⟨o, e⟩ := V.live q h; ⟨o, up2 _ _ (st _ _ e)⟩⟩
      · by_cases q : ap' = ap
        · subst q
          exact .inl ⟨vat_wo_same, vat_wo_same⟩
        · exact (V.st ap' h).move (fun q e m => ⟨m, fun o e => up2 _ _ (st _ _ e)⟩) upA (vat_wo_other q) (vat_wo_other q) (by omega)
      · rw [keys_wo] at h
        exact V.only a (List.mem_filter.mp h).1
      · by_cases qa : a = ap
        · subst qa; rw [vat_wo_same] at h1; cases h1
        · by_cases qb : b = ap
          · subst qb; rw [vat_wo_same] at h2; cases h2
          · rw [vat_wo_other qa] at h1
            rw [vat_wo_other qb] at h2
            exact V.inj a b q h1 h2
  | @put r T d vs n e1 e2 nT hT hd hr hq hl =>
    cases M with
    | put S ws e3 hS hw =>
      subst e1 e3
      obtain ⟨gd, g6⟩ := good r rfl
      have inq : ∀ a q, valueAt kvs a = some (.ref q) → (a = sAPP ∨ a = sOTHER) → q ∈ qs := fun a q e h => by
        rcases V.st a h with ⟨x1, _⟩ | ⟨q', _, _, _, _, _, _, f1, _, f3, _⟩
        · rw [x1] at e; cases e
        · rw [f1] at e; cases e; exact f3
      have ina : ∀ a q, valueAt kvs a = some (.ref q) → (a = sAPP ∨ a = sOTHER) := fun a q e => V.only a (keys_has.mp (by rw [e]; rfl))
      refine ⟨V.xd.keeps upA, fun ap' h => ?_, by rw [keys_stored, keys_stored, V.keys], fun a h => ?_, fun a b q h1 h2 => ?_, fun q h => ?_⟩
      · by_cases q : ap' = ap
        · subst q
          exact .inr ⟨T, d, vs, n, S, ws, r, vat_same, vat_same, e2, up2 _ _ hT, upG _ _ hd, hr.keeps upG, hS, hw, gd, g6⟩
        · exact (V.st ap' h).move (fun q' e m => ⟨(hq q' m (fun z => q (V.inj ap' ap q' e z))).1, fun o e' => up2 _ _ ((hq q' m (fun z => q (V.inj ap' ap q' e z))).2 o e')⟩) upA (vat_other q) (vat_other q) (by omega)
      · rw [keys_stored] at h
        split at h
        · exact V.only a h
        · rcases List.mem_append.mp h with h | h
          · exact V.only a h
          · rw [List.mem_singleton.mp h]; exact hap
      · by_cases qa : a = ap
        · by_cases qb : b = ap
          · rw [qa, qb]
          · subst qa
            rw [vat_same] at h1
            rw [vat_other qb] at h2
            cases h1
            exact absurd (inq b T h2 (ina b T h2)) nT
        · by_cases qb : b = ap
          · subst qb
            rw [vat_same] at h2
            rw [vat_other qa] at h1
            cases h2
            exact absurd (inq a T h1 (ina a T h1)) nT
          · rw [vat_other qa] at h1
            rw [vat_other qb] at h2
            exact V.inj a b q h1 h2
      · obtain ⟨o, e⟩ := hl q h
        exact ⟨o, up2 _ _ e⟩
end
section
theorem tl_in {L sc c dd md : Addr} {i v : Int} {ti tv : Tok} {ep : Nat} {o om op op4 k1 k2 k3 : Obj} {tl : List (Addr × Obj)} {p : Addr × Obj} (hp : p ∈ tl) : p ∈ lawLed L sc c dd md i v ti tv ep o om op op4 k1 k2 k3 tl := by
  simp only [lawLed, List.mem_cons]
  exact .inr (.inr (.inr (.inr (.inr (.inr (.inr (.inr hp)))))))
theorem lawLed_mem {P : Addr × Obj → Prop} {L sc c dd md : Addr} {i v : Int} {ti tv : Tok} {ep : Nat} {o om op op4 k1 k2 k3 : Obj} {tl : List (Addr × Obj)} (h1 : P (c, cObj sc i v ti tv ep)) (h2 : P (dd, o)) (h3 : P (md, om)) (h4 : P (384, op)) (h5 : P (444, op4)) (h6 : P (L + 1 + 1 + 1, k3)) (h7 : P (L + 1 + 1, k2)) (h8 : P (L + 1, k1)) (h9 : ∀ p ∈ tl, P p) :
    ∀ p ∈ lawLed L sc c dd md i v ti tv ep o om op op4 k1 k2 k3 tl, P p := fun p hp => by
  simp only [lawLed, List.mem_cons] at hp
  rcases hp with rfl | rfl | rfl | rfl | rfl | rfl | rfl | rfl | hp
  · exact h1
  · exact h2
  · exact h3
  · exact h4
  · exact h5
  · exact h6
  · exact h7
  · exact h8
  · exact h9 p hp
theorem zs_cases {P : Addr → Prop} {I L c dd md : Addr} (h0 : P I) (h1 : P L) (h2 : P c) (h3 : P dd) (h4 : P md) (h5 : P 384) (h6 : P 444) (h7 : P (L + 1 + 1 + 1)) (h8 : P (L + 1 + 1)) (h9 : P (L + 1)) : ∀ z ∈ I :: Zs L c dd md, P z := fun z hz => by
  simp only [Zs, List.mem_cons, List.not_mem_nil, or_false] at hz
  rcases hz with rfl | rfl | rfl | rfl | rfl | rfl | rfl | rfl | rfl | rfl <;> assumption
/-- the state behind the deed on data, the deed on the model still to come -/
structure LawD (w : World) (g : Heap) (L c dd md I : Addr) (o' op' op4' : Obj) (kvs kvs' : List (Str × Value)) (qs qs' : List Addr) (ap : Str) (u : Upd) (tl1 : List (Addr × Obj)) (hs hs1 : Heap) : Prop where
  snap : Snap g tl1 hs1
  ne : ∀ z ∈ I :: Zs L c dd md, NeAll z tl1
  out : ∀ z ∈ I :: Zs L c dd md, hs1.get? z = none
  ex : ∀ a o, hs1.get? a = some o → g.get? a = some o ∨ (a, o) ∈ tl1
  ho : o'.IsDictOf (PySem.strKind PG w) kvs'
  t8 : TabOk g 388 384 op'
  t4 : TabOk g 448 444 op4'
  up : (hideAll hs qs).StaysIn (hideAll hs1 qs')
  D : DSt hs hs1 kvs kvs' qs qs' ap u
  qg : ∀ q ∈ qs', g.get? q = none
  live : ∀ q ∈ qs', ∃ o, hs1.get? q = some o
theorem TabOk.again {g h : Heap} {c P : Addr} {op op' : Obj} {ps : Array Value} (t : TabOk g c P op) (k : g.StaysIn h) (x : IsCT h c P ps) (e : h.get? P = some op') : TabOk g c P op' := by
  obtain ⟨_, oc, hc, _⟩ := t
  exact TabOk.of_code x k hc e
theorem law_data {w : World} {g h0 h1 : Heap} {L sc c x xi dd md I : Addr} {oI : Obj} {m : Str → Option Value} {k : Nat} {i v : Int} {ti tv : Tok} {ep : Nat} {o om op op4 k1 k2 k3 : Obj} {kvs kvsM : List (Str × Value)} {qs S : List Addr} {tl : List (Addr × Obj)} {hs : Heap} {ap : Str} {u : Upd} {ps8 ps4 : Array Value}
    (F : Fr g L h0 m) (N : News g L h0 ((I, oI) :: lawLed L sc c dd md i v ti tv ep o om op op4 k1 k2 k3 tl)) (nI : NeAll I (lawLed L sc c dd md i v ti tv ep o om op op4 k1 k2 k3 tl)) (V : LawInv w g L c x xi dd md k o om op op4 k1 k2 k3 kvs kvsM qs tl hs) (O : Ord L sc c xi x dd md)
    (hS : ∀ a ∈ S, a = dd ∨ a = 384 ∨ a = 444 ∨ (a ∈ qs ∧ valueAt kvs ap = some (.ref a))) (hS1 : ∀ a ∈ [dd, 384, 444], a ∈ S) (D : DOut w S [L] dd kvs ap h0 h1 u) (c8 : IsCT h1 388 384 ps8) (c4 : IsCT h1 448 444 ps4) :
    ∃ o' op' op4' kvs' qs' tl1, Fr g L h1 m ∧ News g L h1 ((I, oI) :: lawLed L sc c dd md i v ti tv ep o' om op' op4' k1 k2 k3 tl1) ∧ LawD w g L c dd md I o' op' op4' kvs kvs' qs qs' ap u tl1 hs (hideAll h1 (I :: Zs L c dd md)) := by
  obtain ⟨q1, q0, q2, q3, q4, q5, q6⟩ := O
  have NI := N _ (.head _)
  have Nc := N (c, cObj sc i v ti tv ep) (by simp [lawLed])
  have Nd := N (dd, o) (by simp [lawLed])
  have Nm := N (md, om) (by simp [lawLed])
  have N8 := N (384, op) (by simp [lawLed])
  have N4 := N (444, op4) (by simp [lawLed])
  have Nk3 := N (L + 1 + 1 + 1, k3) (by simp [lawLed])
  have Nk2 := N (L + 1 + 1, k2) (by simp [lawLed])
  have Nk1 := N (L + 1, k1) (by simp [lawLed])
  have hs0 : hs.StaysIn h0 := V.snap.at_ F N fun p hp => List.mem_cons_of_mem _ (tl_in hp)
  have nItl : NeAll I tl := fun p hp => nI p (tl_in hp)
  have oI' : hs.get? I = none := V.noI NI.2.2 nItl
  have out : ∀ z ∈ I :: Zs L c dd md, hs.get? z = none := fun z hz => by
    rcases List.mem_cons.mp hz with rfl | hz
    · exact oI'
    · exact V.out z hz
  have qlive : ∀ q ∈ qs, ∃ o, h0.get? q = some o := fun q hq => let ⟨o, e⟩ := V.st.live q hq; ⟨o, hs0 _ _ e⟩
  have nq : ∀ q ∈ qs, q ∉ I :: Zs L c dd md := fun q hq hz => by
    obtain ⟨o, e⟩ := V.st.live q hq
    rw [out q hz] at e; cases e
  have zlive : ∀ z ∈ I :: Zs L c dd md, ∃ o, h0.get? z = some o := by
    obtain ⟨oL, _, _, hL, _⟩ := F.ns
    exact zs_cases ⟨_, NI.1⟩ ⟨_, hL⟩ ⟨_, Nc.1⟩ ⟨_, Nd.1⟩ ⟨_, Nm.1⟩ ⟨_, N8.1⟩ ⟨_, N4.1⟩ ⟨_, Nk3.1⟩ ⟨_, Nk2.1⟩ ⟨_, Nk1.1⟩
  have kf : KeepF S [L] h0 h1 := by
    cases D with
    | same kf => exact kf.mono fun a h => hS1 a (.tail _ h)
    | put _ _ _ _ _ kf => exact kf
    | del _ kf => exact kf.mono fun a h => hS1 a (by rw [List.mem_singleton.mp h]; exact .head _)
  have hSg : ∀ c ∈ S, g.get? c = none ∧ c ≠ L := fun a ha => by
    rcases hS a ha with rfl | rfl | rfl | ⟨hq, _⟩
    · exact ⟨Nd.2.2, Nd.2.1⟩
    · exact ⟨N8.2.2, N8.2.1⟩
    · exact ⟨N4.2.2, N4.2.1⟩
    · exact ⟨V.qg a hq, fun e => nq a hq (by rw [e]; simp [Zs])⟩
  have F1 := fr_keepF F kf hSg
  obtain ⟨tl1, N1t, hNe, snap1, hex⟩ := rebase_ex F1 (Z := I :: Zs L c dd md) (.tail _ (.head _))
  have SZ : ∀ a ∈ S, a ∈ I :: Zs L c dd md ∨ a ∈ qs := fun a ha => by
    rcases hS a ha with rfl | rfl | rfl | ⟨hq, _⟩
    · exact .inl (by simp [Zs])
    · exact .inl (by simp [Zs])
    · exact .inl (by simp [Zs])
    · exact .inr hq
  have keepz : ∀ z o, h0.get? z = some o → z ∈ I :: Zs L c dd md → z ≠ L → z ≠ dd → z ≠ 384 → z ≠ 444 → h1.get? z = some o := fun z o e hz n1 n2 n3 n4 => kf.keep z o e (fun hzS => by
    rcases hS z hzS with e | e | e | ⟨e, _⟩
    · exact n2 e
    · exact n3 e
    · exact n4 e
    · exact nq z e hz) (by simpa using n1)
  obtain ⟨op', e8⟩ := code_tab c8
  obtain ⟨op4', e4⟩ := code_tab c4
  have mkN : ∀ o', h1.get? dd = some o' → News g L h1 ((I, oI) :: lawLed L sc c dd md i v ti tv ep o' om op' op4' k1 k2 k3 tl1) := fun o' ed p hp => by
    have n0 := fun z (h : z ∈ lawLed L sc c dd md i v ti tv ep o om op op4 k1 k2 k3 tl) => nI z h
    rcases List.mem_cons.mp hp with rfl | hp
    · exact ⟨keepz _ _ NI.1 (.head _) NI.2.1 (fun e => n0 (dd, o) (by simp [lawLed]) e.symm) (fun e => n0 (384, op) (by simp [lawLed]) e.symm) (fun e => n0 (444, op4) (by simp [lawLed]) e.symm), NI.2⟩
    · refine lawLed_mem (P := fun p => h1.get? p.1 = some p.2 ∧ p.1 ≠ L ∧ g.get? p.1 = none) ⟨keepz _ _ Nc.1 (by simp [Zs]) Nc.2.1 ?_ ?_ ?_, Nc.2⟩ ⟨ed, Nd.2⟩ ⟨keepz _ _ Nm.1 (by simp [Zs]) Nm.2.1 ?_ ?_ ?_, Nm.2⟩ ⟨e8, N8.2⟩ ⟨e4, N4.2⟩ ⟨keepz _ _ Nk3.1 (by simp [Zs]) Nk3.2.1 ?_ ?_ ?_, Nk3.2⟩ ⟨keepz _ _ Nk2.1 (by simp [Zs]) Nk2.2.1 ?_ ?_ ?_, Nk2.2⟩ ⟨keepz _ _ Nk1.1 (by simp [Zs]) Nk1.2.1 ?_ ?_ ?_, Nk1.2⟩ N1t p hp <;>
        (change @Ne Nat _ _; omega)
  have upS : ∀ a ob, hs.get? a = some ob → a ∉ S → (hideAll h1 (I :: Zs L c dd md)).get? a = some ob := fun a ob e nS => by
    have nz : a ∉ I :: Zs L c dd md := fun hz => by rw [out a hz] at e; cases e
    exact hideAll_get _ (kf.keep a ob (hs0 _ _ e) nS fun hL => nz (by rw [List.mem_singleton.mp hL]; simp [Zs])) nz
  have t8 := V.t8.again F1.keep c8 e8
  have t4 := V.t4.again F1.keep c4 e4
  have sub2 : ∀ (S' : List Addr), (∀ a ∈ S', a = dd ∨ a = 384 ∨ a = 444) → KeepF S' [L] h0 h1 → hs.StaysIn (hideAll h1 (I :: Zs L c dd md)) := fun S' hS' kf' a ob e => by
    have nz : a ∉ I :: Zs L c dd md := fun hz => by rw [out a hz] at e; cases e
    refine hideAll_get _ (kf'.keep a ob (hs0 _ _ e) (fun h => nz ?_) fun hL => nz (by rw [List.mem_singleton.mp hL]; simp [Zs])) nz
    rcases hS' a h with rfl | rfl | rfl <;> simp [Zs]
  cases D with
  | same kf' =>
    have st := sub2 _ (fun a h => by simpa using Or.inr h) kf'
    refine ⟨o, op', op4', kvs, qs, tl1, F1, mkN o (kf'.keep dd o Nd.1 (fun h => ?_) (fun h => Nd.2.1 (List.mem_singleton.mp h))), ⟨snap1, hNe, fun z hz => hideAll_none _ hz, hex, V.ho, t8, t4, hide_mono st, .same rfl rfl st, V.qg, fun q hq => let ⟨o, e⟩ := V.st.live q hq; ⟨o, st _ _ e⟩⟩⟩
    simp only [List.mem_cons, List.not_mem_nil, or_false] at h
    rcases h with h | h <;> (change @Eq Nat _ _ at h; omega)
  | del o' kf' ed ho =>
    have st := sub2 _ (fun a h => .inl (List.mem_singleton.mp h)) kf'
    exact ⟨o', op', op4', _, qs, tl1, F1, mkN o' ed, ⟨snap1, hNe, fun z hz => hideAll_none _ hz, hex, ho, t8, t4, hide_mono st, .del rfl rfl st, V.qg, fun q hq => let ⟨o, e⟩ := V.st.live q hq; ⟨o, st _ _ e⟩⟩⟩
  | @put r T d n vs o' kf' ed ho fT fd eT e5 nr =>
    have nTZ : T ∉ I :: Zs L c dd md := fun hz => by obtain ⟨ob, e⟩ := zlive T hz; rw [fT] at e; cases e
    have ndZ : d ∉ I :: Zs L c dd md := fun hz => by obtain ⟨ob, e⟩ := zlive d hz; rw [fd] at e; cases e
    have nTq : T ∉ qs := fun hz => by obtain ⟨ob, e⟩ := qlive T hz; rw [fT] at e; cases e
    have ndq : d ∉ qs := fun hz => by obtain ⟨ob, e⟩ := qlive d hz; rw [fd] at e; cases e
    have nTd : d ≠ T := fun e => by
      rw [e, eT] at e5
      have := congrArg (fun z : Option Obj => z.map (·.cls)) e5
      exact absurd this (by simp [tg, withSeq, tagsNew, emptyDict, dictOf])
    have qin : ∀ z, z ∈ T :: qs.filter (fun z => decide (z ∉ S)) ↔ z = T ∨ (z ∈ qs ∧ z ∉ S) := fun z => by
      rw [List.mem_cons, List.mem_filter, decide_eq_true_eq]
    have nqS : ∀ q ∈ qs, valueAt kvs ap ≠ some (.ref q) → q ∉ S := fun q hq n hzS => by
      rcases hS q hzS with rfl | rfl | rfl | ⟨_, e⟩
      · exact nq _ hq (by simp [Zs])
      · exact nq _ hq (by simp [Zs])
      · exact nq _ hq (by simp [Zs])
      · exact n e
    have live1 : ∀ q ∈ T :: qs.filter (fun z => decide (z ∉ S)), ∃ o, (hideAll h1 (I :: Zs L c dd md)).get? q = some o := fun q hq => by
      rcases (qin q).mp hq with rfl | ⟨hq, nS⟩
      · exact ⟨_, hideAll_get _ eT nTZ⟩
      · obtain ⟨ob, e⟩ := V.st.live q hq
        exact ⟨ob, upS q ob e nS⟩
    refine ⟨o', op', op4', _, T :: qs.filter (fun z => decide (z ∉ S)), tl1, F1, mkN o' ed, ⟨snap1, hNe, fun z hz => hideAll_none _ hz, hex, ho, t8, t4, fun a ob e => ?_, .put T d vs n rfl (.head _) nTq (hideAll_get _ eT nTZ) ?_ ?_ (fun q hq nn => ⟨(qin q).mpr (.inr ⟨hq, nqS q hq nn⟩), fun ob e => upS q ob e (nqS q hq nn)⟩) live1, fun q hq => ?_, live1⟩⟩
    · have nqs : a ∉ qs := fun m => by rw [hideAll_none _ m] at e; cases e
      have e' := of_hideAll _ e
      have nz : a ∉ I :: Zs L c dd md := fun hz => by rw [out a hz] at e'; cases e'
      have nS : a ∉ S := fun h => by
        rcases SZ a h with h | h
        · exact nz h
        · exact nqs h
      refine hideAll_get _ (upS a ob e' nS) fun hq => ?_
      rcases (qin a).mp hq with rfl | ⟨hq, _⟩
      · rw [hs0 _ _ e'] at fT; cases fT
      · exact nqs hq
    · refine hideAll_get _ (hideAll_get _ e5 ndZ) fun hq => ?_
      rcases (qin d).mp hq with e | ⟨hq, _⟩
      · exact nTd e
      · exact ndq hq
    · refine (NewRows.rows (Z := (I :: Zs L c dd md) ++ (T :: qs.filter fun z => decide (z ∉ S))) nr fun z hz => ?_).keeps hide_two
      rcases List.mem_append.mp hz with hz | hz
      · exact .inl (zlive z hz)
      · rcases (qin z).mp hz with rfl | ⟨hq, _⟩
        · exact .inr ⟨_, _, _, eT⟩
        · exact .inl (qlive z hq)
    · rcases (qin q).mp hq with rfl | ⟨hq, _⟩
      · cases e : g.get? q with
        | none => rfl
        | some ob => rw [F.keep _ _ e] at fT; cases fT
      · exact V.qg q hq
end
section
/-- the state behind both deeds -/
theorem law_model {w : World} {g h1 h2 : Heap} {L sc c x xi dd md I : Addr} {oI : Obj} {m : Str → Option Value} {k : Nat} {i v : Int} {ti tv : Tok} {ep : Nat} {o o' om op op4 op' op4' k1 k2 k3 : Obj} {kvs kvs' kvsM : List (Str × Value)} {qs qs' : List Addr} {tl tl1 : List (Addr × Obj)} {hs hs1 : Heap} {ap : Str} {u : Upd}
    (F : Fr g L h1 m) (N : News g L h1 ((I, oI) :: lawLed L sc c dd md i v ti tv ep o' om op' op4' k1 k2 k3 tl1)) (nI : NeAll I (lawLed L sc c dd md i v ti tv ep o om op op4 k1 k2 k3 tl)) (V : LawInv w g L c x xi dd md k o om op op4 k1 k2 k3 kvs kvsM qs tl hs) (O : Ord L sc c xi x dd md)
    (D : LawD w g L c dd md I o' op' op4' kvs kvs' qs qs' ap u tl1 hs hs1) (M : MOut w ((I :: Zs L c dd md) ++ qs') md kvsM ap h1 h2 u) (hap : ap = sAPP ∨ ap = sOTHER) (good : ∀ r, u = .put r → Good (22 * (k + 1)) r ∧ r.all six = true) :
    ∃ om' kvsM' tl2, Fr g L h2 m ∧ News g L h2 ((I, oI) :: lawLed L sc c dd md i v ti tv ep o' om' op' op4' k1 k2 k3 tl2) ∧ NeAll I tl2 ∧ LawInv w g L c x xi dd md (k + 1) o' om' op' op4' k1 k2 k3 kvs' kvsM' qs' tl2 (hideAll h2 (I :: Zs L c dd md)) := by
  obtain ⟨q1, q0, q2, q3, q4, q5, q6⟩ := O
  have Nm := N (md, om) (by simp [lawLed])
  have kp : Keep [md] h1 h2 := by
    cases M with
    | same kp => exact kp.mono fun _ h => nomatch h
    | put _ _ _ kp => exact kp
    | del _ kp => exact kp
  have F2 := Mine.Fr.after F kp fun c hc => by rw [List.mem_singleton.mp hc]; exact ⟨Nm.2.2, Nm.2.1⟩
  obtain ⟨tl2, N2t, hNe, snap2, hex⟩ := rebase_ex F2 (Z := I :: Zs L c dd md) (.tail _ (.head _))
  have hs1h : hs1.StaysIn h1 := D.snap.at_ F N fun p hp => List.mem_cons_of_mem _ (tl_in hp)
  have up2 : hs1.StaysIn (hideAll h2 (I :: Zs L c dd md)) := fun a ob e => by
    have nz : a ∉ I :: Zs L c dd md := fun hz => by rw [D.out a hz] at e; cases e
    exact hideAll_get _ (kp a ob (hs1h _ _ e) fun h => nz (by rw [List.mem_singleton.mp h]; simp [Zs])) nz
  have mkN : ∀ om', h2.get? md = some om' → News g L h2 ((I, oI) :: lawLed L sc c dd md i v ti tv ep o' om' op' op4' k1 k2 k3 tl2) := fun om' em p hp => by
    have n0 := fun z (h : z ∈ lawLed L sc c dd md i v ti tv ep o om op op4 k1 k2 k3 tl) => nI z h
    have kz : ∀ z : Addr × Obj, z ∈ (I, oI) :: lawLed L sc c dd md i v ti tv ep o' om op' op4' k1 k2 k3 tl1 → z.1 ≠ md → h2.get? z.1 = some z.2 ∧ z.1 ≠ L ∧ g.get? z.1 = none := fun z hz n => ⟨kp _ _ (N z hz).1 (by simpa using n), (N z hz).2⟩
    rcases List.mem_cons.mp hp with rfl | hp
    · exact kz _ (.head _) fun e => n0 (md, om) (by simp [lawLed]) e.symm
    · refine lawLed_mem (P := fun p => h2.get? p.1 = some p.2 ∧ p.1 ≠ L ∧ g.get? p.1 = none) (kz _ (by simp [lawLed]) ?_) (kz _ (by simp [lawLed]) ?_) ⟨em, Nm.2⟩ (kz _ (by simp [lawLed]) ?_) (kz _ (by simp [lawLed]) ?_) (kz _ (by simp [lawLed]) ?_) (kz _ (by simp [lawLed]) ?_) (kz _ (by simp [lawLed]) ?_) N2t p hp <;>
        (change @Ne Nat _ _; omega)
  have key : ∀ om' kvsM', h2.get? md = some om' → om'.IsDictOf (PySem.strKind PG w) kvsM' → MSt (hideAll (hideAll h2 (I :: Zs L c dd md)) qs') kvsM kvsM' ap u → ∃ om' kvsM' tl2, Fr g L h2 m ∧ News g L h2 ((I, oI) :: lawLed L sc c dd md i v ti tv ep o' om' op' op4' k1 k2 k3 tl2) ∧ NeAll I tl2 ∧ LawInv w g L c x xi dd md (k + 1) o' om' op' op4' k1 k2 k3 kvs' kvsM' qs' tl2 (hideAll h2 (I :: Zs L c dd md)) := fun om' kvsM' em ho' ms =>
    ⟨om', kvsM', tl2, F2, mkN om' em, hNe I (.head _), ⟨snap2, fun z hz => hNe z (.tail _ hz), fun z hz => hideAll_none _ (.tail _ hz), hex, V.c1, V.c2, V.c3, D.ho, ho', D.t8, D.t4, V.st.next hap D.up D.D up2 ms good, D.qg⟩⟩
  cases M with
  | same kp' => exact key om kvsM (kp' md om Nm.1 (fun h => nomatch h)) V.hm (.same rfl)
  | del om' kp' em ho' => exact key om' _ em ho' (.del rfl)
  | put S ws om' kp' em ho' hS hw => exact key om' _ em ho' (.put S ws rfl (isList_keep hS hide_two) (hw.keeps hide_two))
end
section
/-- the rows of the application ap, on both sides -/
def CurAt (hs G : Heap) (qs : List Addr) (kvs kvsM : List (Str × Value)) (k : Nat) (ap : Str) (cur : Option (List Row)) : Prop :=
  (valueAt kvs ap = none ∧ valueAt kvsM ap = none ∧ cur = none) ∨ ∃ q d vs n S ws rows, valueAt kvs ap = some (.ref q) ∧ valueAt kvsM ap = some (.ref S) ∧ q ∈ qs ∧ hs.get? q = some (tg d vs n) ∧ G.get? d = some emptyDict ∧
    TagRows G vs rows ∧ G.IsList S ws.toArray ∧ TupRows G ws rows ∧ Good (22 * k) rows ∧ rows.all six = true ∧ cur = some rows
theorem StAt.cur {hs G : Heap} {qs : List Addr} {kvs kvsM : List (Str × Value)} {k : Nat} {ap : Str} (x : StAt hs G qs kvs kvsM k ap) : ∃ cur, CurAt hs G qs kvs kvsM k ap cur := by
  rcases x with ⟨a, b⟩ | ⟨q, d, vs, n, S, ws, rows, e1, e2, e3, e4, e5, e6, e7, e8, e9, e10⟩
  · exact ⟨none, .inl ⟨a, b, rfl⟩⟩
  · exact ⟨some rows, .inr ⟨q, d, vs, n, S, ws, rows, e1, e2, e3, e4, e5, e6, e7, e8, e9, e10, rfl⟩⟩
theorem CurAt.good {hs G : Heap} {qs : List Addr} {kvs kvsM : List (Str × Value)} {k : Nat} {ap : Str} {cur : Option (List Row)} (x : CurAt hs G qs kvs kvsM k ap cur) : ∀ r, cur = some r → Good (22 * k) r ∧ r.all six = true := fun r e => by
  rcases x with ⟨_, _, a⟩ | ⟨q, d, vs, n, S, ws, rows, e1, e2, e3, e4, e5, e6, e7, e8, e9, e10, e11⟩
  · rw [a] at e; cases e
  · rw [e11] at e; cases e; exact ⟨e9, e10⟩
theorem inv_up {w : World} {g h0 : Heap} {L sc c x xi dd md I : Addr} {oI : Obj} {m : Str → Option Value} {k : Nat} {i v : Int} {ti tv : Tok} {ep : Nat} {o om op op4 k1 k2 k3 : Obj} {kvs kvsM : List (Str × Value)} {qs W : List Addr} {tl : List (Addr × Obj)} {hs : Heap}
    (F : Fr g L h0 m) (N : News g L h0 ((I, oI) :: lawLed L sc c dd md i v ti tv ep o om op op4 k1 k2 k3 tl)) (nI : NeAll I (lawLed L sc c dd md i v ti tv ep o om op op4 k1 k2 k3 tl)) (V : LawInv w g L c x xi dd md k o om op op4 k1 k2 k3 kvs kvsM qs tl hs)
    (hW : ∀ a ∈ W, a ∈ I :: Zs L c dd md ∨ a ∈ qs) : (hideAll hs qs).StaysIn (hideAll h0 W) := fun a ob e => by
  have nq : a ∉ qs := fun m => by rw [hideAll_none _ m] at e; cases e
  have e' := of_hideAll _ e
  refine hideAll_get _ (V.snap.at_ F N (fun p hp => List.mem_cons_of_mem _ (tl_in hp)) _ _ e') fun h => ?_
  rcases hW a h with h | h
  · rcases List.mem_cons.mp h with rfl | h
    · rw [V.noI (N _ (.head _)).2.2 (fun p hp => nI p (tl_in hp))] at e'; cases e'
    · rw [V.out a h] at e'; cases e'
  · exact nq h
theorem app_facts {ap : Str} (h : ap = sAPP ∨ ap = sOTHER) : ((1001, ap) : Row) ∈ vocab ∧ PyData.strOk ap = true ∧ ((rowD (1001, ap)).showable = true ∧ (rowD (1001, ap)).shown.length ≤ 60) ∧ ap.length < 100 := by
  have e : ((1001, ap) : Row) ∈ vocab := by rcases h with rfl | rfl <;> simp [vocab]
  obtain ⟨a, b, _⟩ := vocab_ok _ e
  exact ⟨e, a, b, by rcases h with rfl | rfl <;> decide⟩
theorem nm_facts {nm : Str} (h : nm = sA ∨ nm = sB) : PyData.strOk nm = true ∧ ((rowD (1000, nm)).showable = true ∧ (rowD (1000, nm)).shown.length ≤ 60) ∧ 0 < nm.length ∧ nm.length < 100 ∧ isNm (1000, nm) := by
  have e : ((1000, nm) : Row) ∈ vocab := by rcases h with rfl | rfl <;> simp [vocab]
  obtain ⟨a, b, _⟩ := vocab_ok _ e
  exact ⟨a, b, by rcases h with rfl | rfl <;> decide, by rcases h with rfl | rfl <;> decide, by rcases h with rfl | rfl; exact isNmA; exact isNmB⟩
theorem kvs_le {w : World} {o : Obj} {kvs : List (Str × Value)} (h : o.IsDictOf (PySem.strKind PG w) kvs) (only : ∀ a ∈ kvs.map (·.1), a = sAPP ∨ a = sOTHER) : kvs.length ≤ 2 := by
  have := keys_le only (dict_nodup h)
  simpa using this
section
variable {w : World} {dp un : Nat} {env : Env} {gd : Option (List Code)} {A₀ : Around} {g base hs : Heap} {L sc c x xi dd md I l : Addr} {oI : Obj} {m : Str → Option Value} {p : Program} {loose : List Str} {mean : ExcName → Option Value} {mg mb : Str → Option Value} {E Q : Value → Shared → Prop} {s : Shared}
  {k : Nat} {i v : Int} {ti tv : Tok} {ep : Nat} {o om op op4 k1 k2 k3 : Obj} {kvs kvsM : List (Str × Value)} {qs : List Addr} {tl : List (Addr × Obj)} {k0 : Int} {t0 ta tn : Tok} {ap nm : Str} {us : List Value} {rws : List Row} {cur : Option (List Row)}
theorem deed_K (hf : env.frame = some L) (hk : env.scope.kind = .function) (B : Below A₀ base [] g) (X : (Mine.mkK.heap_1 w.params).In g) (T : Top p loose mean mg mb g) (XB : (Mine.mkK.heap_1 w.params).In base) (TB : Top p loose mean mg mb base) (D0 : KtsDicts (([] : List Env).filterMap (·.frame)) g)
    (F : Fr g L s.heap m) (N : News g L s.heap ((I, oI) :: lawLed L sc c dd md i v ti tv ep o om op op4 k1 k2 k3 tl)) (nI : NeAll I (lawLed L sc c dd md i v ti tv ep o om op op4 k1 k2 k3 tl)) (V : LawInv w g L c x xi dd md k o om op op4 k1 k2 k3 kvs kvsM qs tl hs) (O : Ord L sc c xi x dd md)
    (hap : ap = sAPP ∨ ap = sOTHER) (hnm : nm = sA ∨ nm = sB) (hl : (hideAll hs qs).IsList l us.toArray) (hr : TupRows (hideAll hs qs) us rws) (hg : Good 18 rws) (h6 : k0 ≠ 0 → rws.all six = true) (hk11 : k ≤ 10) (hgd : gd = some []) (hd : dp + 100 < recursionLimit) (hu : un + 1200 < cLine)
    (hc : CurAt hs (hideAll hs qs) qs kvs kvsM k ap cur)
    (hret : ∀ val h1 tk1 gs1 o' op' op4' kvs' qs' tl1 hs1, TellsV s.heap h1 (stepR k0 ap nm rws cur).1 val → GN s.gens gs1 → Fr g L h1 m → News g L h1 ((I, oI) :: lawLed L sc c dd md i v ti tv ep o' om op' op4' k1 k2 k3 tl1) →
      LawD w g L c dd md I o' op' op4' kvs kvs' qs qs' ap (stepR k0 ap nm rws cur).2 tl1 hs hs1 → Q val { s with heap := h1, toks := tk1, gens := gs1 }) :
    wpAny (model PG w) ⟨none, dp, some [env], gd, un⟩ (call (.ref 543) [.ref x, .int k0 t0, .str ap ta, .str nm tn, .ref l]) Q E s := by
  have hfr : frs ⟨none, dp, some [env], gd, un⟩ = [L] := by simp [frs, hf]
  obtain ⟨av, a1, a2, a3⟩ := app_facts hap
  obtain ⟨n1, n2, n3, n4, n5⟩ := nm_facts hnm
  have O' := O
  obtain ⟨q1, q0, q2, q3, q4, q5, q6⟩ := O'
  have Nd := N (dd, o) (by simp [lawLed])
  have N8 := N (384, op) (by simp [lawLed])
  have N4 := N (444, op4) (by simp [lawLed])
  have z1 : dd ∈ I :: Zs L c dd md := by simp [Zs]
  have z2 : (384 : Addr) ∈ I :: Zs L c dd md := by simp [Zs]
  have z3 : (444 : Addr) ∈ I :: Zs L c dd md := by simp [Zs]
  have z4 : L ∈ I :: Zs L c dd md := by simp [Zs]
  have d8 : @Ne Nat dd 384 := by omega
  have d4 : @Ne Nat dd 444 := by omega
  obtain ⟨ps8, c8⟩ : ∃ ps, IsCT s.heap 388 384 ps := by obtain ⟨ps, oc, e1, e2⟩ := V.t8; exact ⟨ps, e2 _ (F.keep _ _ e1) N8.1⟩
  obtain ⟨ps4, c4⟩ : ∃ ps, IsCT s.heap 448 444 ps := by obtain ⟨ps, oc, e1, e2⟩ := V.t4; exact ⟨ps, e2 _ (F.keep _ _ e1) N4.1⟩
  have hlo : (dd == sysModules) = false := not_mod (by omega)
  have hkl : kvs.length ≤ 10 := by have := kvs_le V.ho V.st.only; omega
  have hS3 : ∀ a ∈ [dd, 384, 444], g.get? a = none ∧ a ≠ L := fun a ha => by
    simp only [List.mem_cons, List.not_mem_nil, or_false] at ha
    rcases ha with rfl | rfl | rfl
    · exact ⟨Nd.2.2, Nd.2.1⟩
    · exact ⟨N8.2.2, N8.2.1⟩
    · exact ⟨N4.2.2, N4.2.1⟩
  rcases hc with ⟨e1, e2, rfl⟩ | ⟨q, d, vs, n, S, ws, rows, e1, e2, e3, e4, e5, e6, e7, e8, e9, e10, rfl⟩
  · have up := inv_up F N nI V (W := [dd, 384, 444] ++ [L]) fun a ha => by
      simp only [List.cons_append, List.nil_append, List.mem_cons, List.not_mem_nil, or_false] at ha
      rcases ha with rfl | rfl | rfl | rfl
      · exact .inl z1
      · exact .inl z2
      · exact .inl z3
      · exact .inl z4
    rw [← hfr] at up
    refine done_n (Rc.mk hf hk B F X T XB TB D0 hS3) (V.st.xd.keeps up) Nd.1 V.ho hlo hkl e1 d8 d4 c8 c4 n1 a1 a2 hgd hd hu (isList_keep hl up) (hr.keeps up) hg.ok hg.sh hg.six_valid h6 (by have := hg.len; omega) n3 n4 a3 n2 fun val h' tk' gs' ps' ps4' tv' dout c8' c4' gn => ?_
    rw [hfr] at dout
    obtain ⟨o', op', op4', kvs', qs', tl1, F1, N1, LD⟩ := law_data F N nI V O (S := [dd, 384, 444]) (fun a ha => by simp only [List.mem_cons, List.not_mem_nil, or_false] at ha; rcases ha with rfl | rfl | rfl <;> simp) (fun a ha => ha) dout c8' c4'
    exact hret _ _ _ _ _ _ _ _ _ _ _ tv' gn F1 N1 LD
  · have q8 : @Ne Nat q 384 := fun e => by have := V.out 384 (by simp [Zs]); rw [e] at e4; rw [this] at e4; cases e4
    have q4 : @Ne Nat q 444 := fun e => by have := V.out 444 (by simp [Zs]); rw [e] at e4; rw [this] at e4; cases e4
    have qd : @Ne Nat dd q := fun e => by have := V.out dd (by simp [Zs]); rw [← e] at e4; rw [this] at e4; cases e4
    have qL : q ≠ L := fun e => by have := V.out L (by simp [Zs]); rw [e] at e4; rw [this] at e4; cases e4
    have up := inv_up F N nI V (W := [dd, q, 384, 444] ++ [L]) fun a ha => by
      simp only [List.cons_append, List.nil_append, List.mem_cons, List.not_mem_nil, or_false] at ha
      rcases ha with rfl | rfl | rfl | rfl | rfl
      · exact .inl z1
      · exact .inr e3
      · exact .inl z2
      · exact .inl z3
      · exact .inl z4
    rw [← hfr] at up
    have hS4 : ∀ a ∈ [dd, q, 384, 444], g.get? a = none ∧ a ≠ L := fun a ha => by
      simp only [List.mem_cons, List.not_mem_nil, or_false] at ha
      rcases ha with rfl | rfl | rfl | rfl
      · exact ⟨Nd.2.2, Nd.2.1⟩
      · exact ⟨V.qg _ e3, qL⟩
      · exact ⟨N8.2.2, N8.2.1⟩
      · exact ⟨N4.2.2, N4.2.1⟩
    have hq1 : s.heap.get? q = some (tg d vs n) := V.snap.at_ F N (fun p hp => List.mem_cons_of_mem _ (tl_in hp)) _ _ e4
    refine done_p (Rc.mk hf hk B F X T XB TB D0 hS4) (V.st.xd.keeps up) Nd.1 V.ho hlo hkl e1 qd q8 q4 hq1 (up _ _ e5) (e6.keeps up) e9.ok e9.sh (by have := e9.len; omega) (e9.wf.names n5) (e9.six_valid.trans e10) d8 d4 c8 c4 n1 a1 a2 hgd hd hu (isList_keep hl up) (hr.keeps up) hg.ok hg.sh hg.six_valid h6 (by have := hg.len; omega) n3 n4 a3 n2 fun val h' tk' gs' ps' ps4' tv' dout c8' c4' gn => ?_
    rw [hfr] at dout
    obtain ⟨o', op', op4', kvs', qs', tl1, F1, N1, LD⟩ := law_data F N nI V O (S := [dd, q, 384, 444]) (fun a ha => by
      simp only [List.mem_cons, List.not_mem_nil, or_false] at ha
      rcases ha with rfl | rfl | rfl | rfl
      · exact .inl rfl
      · exact .inr (.inr (.inr ⟨e3, e1⟩))
      · exact .inr (.inl rfl)
      · exact .inr (.inr (.inl rfl))) (fun a ha => by simp only [List.mem_cons, List.not_mem_nil, or_false] at ha ⊢; rcases ha with h | h | h; exact .inl h; exact .inr (.inr (.inl h)); exact .inr (.inr (.inr h))) dout c8' c4'
    exact hret _ _ _ _ _ _ _ _ _ _ _ tv' gn F1 N1 LD
theorem plain_K {kvs' : List (Str × Value)} {qs' : List Addr} {o' op' op4' : Obj} {tl1 : List (Addr × Obj)} {hs1 : Heap} (hf : env.frame = some L) (hk : env.scope.kind = .function) (B : Below A₀ base [] g) (X : (Mine.mkK.heap_1 w.params).In g) (T : Top p loose mean mg mb g)
    (F : Fr g L s.heap m) (N : News g L s.heap ((I, oI) :: lawLed L sc c dd md i v ti tv ep o' om op' op4' k1 k2 k3 tl1)) (nI : NeAll I (lawLed L sc c dd md i v ti tv ep o om op op4 k1 k2 k3 tl)) (V : LawInv w g L c x xi dd md k o om op op4 k1 k2 k3 kvs kvsM qs tl hs) (O : Ord L sc c xi x dd md)
    (LD : LawD w g L c dd md I o' op' op4' kvs kvs' qs qs' ap (stepR k0 ap nm rws cur).2 tl1 hs hs1)
    (hap : ap = sAPP ∨ ap = sOTHER) (hnm : nm = sA ∨ nm = sB) (hl : (hideAll hs qs).IsList l us.toArray) (hr : TupRows (hideAll hs qs) us rws) (hg : Good 18 rws) (h6 : k0 ≠ 0 → rws.all six = true) (hk11 : k ≤ 10) (hd : dp + 100 < recursionLimit) (hu : un + 1200 < cLine)
    (hc : CurAt hs (hideAll hs qs) qs kvs kvsM k ap cur)
    (hret : ∀ val h2 tk2 om' kvsM' tl2, TellsV s.heap h2 (stepR k0 ap nm rws cur).1 val → (∀ r, (stepR k0 ap nm rws cur).1 = .rows r → s.heap.StaysIn h2) → Fr g L h2 m → News g L h2 ((I, oI) :: lawLed L sc c dd md i v ti tv ep o' om' op' op4' k1 k2 k3 tl2) → NeAll I tl2 →
      LawInv w g L c x xi dd md (k + 1) o' om' op' op4' k1 k2 k3 kvs' kvsM' qs' tl2 (hideAll h2 (I :: Zs L c dd md)) → Q val { s with heap := h2, toks := tk2 }) :
    wpAny (model PG w) ⟨none, dp, some [env], gd, un⟩ (call (.ref 538) [.ref md, .int k0 t0, .str ap ta, .str nm tn, .ref l]) Q E s := by
  obtain ⟨av, a1, a2, a3⟩ := app_facts hap
  obtain ⟨n1, n2, n3, n4, n5⟩ := nm_facts hnm
  have O' := O
  obtain ⟨q1, q0, q2, q3, q4, q5, q6⟩ := O'
  have Nm := N (md, om) (by simp [lawLed])
  have hs1h : hs1.StaysIn s.heap := LD.snap.at_ F N fun p hp => List.mem_cons_of_mem _ (tl_in hp)
  have hS : ∀ a ∈ [md], g.get? a = none ∧ a ≠ L := fun a ha => by rw [List.mem_singleton.mp ha]; exact ⟨Nm.2.2, Nm.2.1⟩
  have hlo : (md == sysModules) = false := not_mod (by omega)
  have hkl : kvsM.length ≤ 10 := by have := kvs_le V.hm (V.st.keys ▸ V.st.only); omega
  have up : (hideAll hs qs).StaysIn (hideAll s.heap ((I :: Zs L c dd md) ++ qs')) := fun a ob e => by
    have e1 := LD.up _ _ e
    have nq : a ∉ qs' := fun m => by rw [hideAll_none _ m] at e1; cases e1
    have e2 := of_hideAll _ e1
    refine hideAll_get _ (hs1h _ _ e2) fun h => ?_
    rcases List.mem_append.mp h with h | h
    · rw [LD.out a h] at e2; cases e2
    · exact nq h
  have hZ : md ∈ (I :: Zs L c dd md) ++ qs' := List.mem_append_left _ (by simp [Zs])
  have hZe : ∀ z ∈ (I :: Zs L c dd md) ++ qs', ∃ o, s.heap.get? z = some o := fun z hz => by
    rcases List.mem_append.mp hz with hz | hz
    · obtain ⟨oL, _, _, hL, _⟩ := F.ns
      exact zs_cases (P := fun z => ∃ o, s.heap.get? z = some o) ⟨_, (N _ (.head _)).1⟩ ⟨_, hL⟩ ⟨_, (N (c, cObj sc i v ti tv ep) (by simp [lawLed])).1⟩ ⟨_, (N (dd, o') (by simp [lawLed])).1⟩ ⟨_, Nm.1⟩ ⟨_, (N (384, op') (by simp [lawLed])).1⟩ ⟨_, (N (444, op4') (by simp [lawLed])).1⟩ ⟨_, (N (L + 1 + 1 + 1, k3) (by simp [lawLed])).1⟩ ⟨_, (N (L + 1 + 1, k2) (by simp [lawLed])).1⟩ ⟨_, (N (L + 1, k1) (by simp [lawLed])).1⟩ z hz
    · obtain ⟨ob, e⟩ := LD.live z hz
      exact ⟨ob, hs1h _ _ e⟩
  have good := fun r (e : (stepR k0 ap nm rws cur).2 = .put r) => good_step (n := 22 * k) av n5 hg h6 hc.good e
  have fin : ∀ val h2 tk2, TellsV s.heap h2 (stepR k0 ap nm rws cur).1 val → MOut w ((I :: Zs L c dd md) ++ qs') md kvsM ap s.heap h2 (stepR k0 ap nm rws cur).2 → Q val { s with heap := h2, toks := tk2 } := fun val h2 tk2 tv' mo => by
    obtain ⟨om', kvsM', tl2, F2, N2, nI2, V2⟩ := law_model F N nI V O LD mo hap fun r e => ⟨(good r e).1.mono (by omega), (good r e).2⟩
    refine hret val h2 tk2 om' kvsM' tl2 tv' (fun r e => ?_) F2 N2 nI2 V2
    have e2 := (told_rows e).1
    rw [e2] at mo
    cases mo with
    | same kp => exact fun a ob e => kp a ob e fun h => nomatch h
  rcases hc with ⟨e1, e2, rfl⟩ | ⟨q, d, vs, n, S, ws, rows, e1, e2, e3, e4, e5, e6, e7, e8, e9, e10, rfl⟩
  · exact plain_n (Rd.mk hf hk B F X T hS) Nm.1 V.hm hlo hkl hZ hZe (isList_keep hl up) (hr.keeps up) hg.ok (by have := hg.len; omega) e2 h6 a1 n1 (by omega) (by omega) fin
  · exact plain_p (Rd.mk hf hk B F X T hS) Nm.1 V.hm hlo hkl hZ hZe (isList_keep hl up) (hr.keeps up) hg.ok (by have := hg.len; omega) e2 (isList_keep e7 up) (e8.keeps up) e9.ok (by have := e9.len; omega) e10 h6 a1 n1 (by omega) (by omega) fin
end
theorem tells_ne {w : World} {A : Around} {E Q : Value → Shared → Prop} {s : Shared} {h0 h1 : Heap} {v1 v2 : Value} {k0 : Int} {ap nm : Str} {rws : List Row} {cur : Option (List Row)} {k : Nat} (a : TellsV h0 h1 (stepR k0 ap nm rws cur).1 v1) (b : TellsV h1 s.heap (stepR k0 ap nm rws cur).1 v2) (st : ∀ r, (stepR k0 ap nm rws cur).1 = .rows r → h1.StaysIn s.heap)
    (hc : ∀ r, cur = some r → Good (22 * k) r ∧ r.all six = true) (hu : A.units + 64 < cLine) (q : Q (.bool false) s) : wpAny (model PG w) A (compareOp .NotEq v1 v2) Q E s := by
  obtain ⟨as, ra⟩ := a.reads st
  obtain ⟨bs, rb⟩ := b.reads (h' := s.heap) fun _ _ _ _ e => e
  refine ne_selves ra rb (told_shaped fun r e => ?_) hu q
  obtain ⟨_, rc, e1, e2⟩ := told_rows e
  have := (hc rc e1).1.ok
  exact fun z hz => this z (e2 z hz)
end
section
section
variable {prog : Program} {w : World} {A : Around} {E : Value → Shared → Prop} {s : Shared} {g : Heap} {L D d : Addr} {m : Str → Option Value} {news : List (Addr × Obj)} {Q : Value → Shared → Prop}
/-- list.sort of a list of texts that stands at the ledger's head -/
theorem strs_sort {vs : List Value} {ss : List Str} {n : Nat} (F : Fr g L s.heap m) (N : News g L s.heap ((D, listOf vs.toArray n) :: news)) (ne : ∀ q ∈ news, q.1 ≠ D) (hS : StrsAre vs ss) (h64 : vs.length < 64)
    (h : ∀ vs' ss' n' h', Fr g L h' m → News g L h' ((D, listOf vs'.toArray n') :: news) → StrsAre vs' ss' → ss'.Perm ss → PyProof.Rows.sortedS ss' = true → Q .none { s with heap := h' }) :
    wpAny (model prog w) A (call (.builtin "list.sort") [.ref D]) Q E s := by
  have z := N _ (.head _)
  refine wpAny_call_entry PyProof.Rows.slot_list_sort ⟨_, z.1, rfl⟩ PyProof.Rows.entry_list_sort (PyProof.Rows.list_sort_treeK PyProof.Rows.strKind_oneLt (n := n) (vs := vs) z.1 hS.keysOf (fun v₁ v₂ rest e => PyProof.Rows.keyKind_strs (by rw [← e]; exact hS)) h64 fun st' hp hs => ⟨.none, rfl, ?_⟩) (PyProof.Rows.args_list_sort _)
  obtain ⟨ss', h1, h2, h3⟩ := PyProof.Rows.sorted_out_str hS hp hs
  generalize (PyProof.Rows.arrOf st').map (·.2) = out at h1
  have N0 : News g L s.heap ([] ++ (D, listOf vs.toArray n) :: news) := N
  have F1 : Fr g L (s.heap.update D (Obj.mapSeq fun _ => (#[] : Array Value))) m := F.change (Heap.SameBut.update ..) z.2.1 z.2.2
  have N1 := ki_turn (fun _ => (#[] : Array Value)) (its' := #[]) N0 (fun _ h => nomatch h) ne rfl rfl
  have N2 := News.grown N1 fun _ _ e => Heap.get?_push_of_some (PyProof.Rows.seqObj "tuple" vs.toArray 0) e
  have N3 := News.grown N2 fun _ _ e => Heap.get?_push_of_some (PyProof.Rows.seqObj "list" #[] 0) e
  obtain ⟨n4, N4⟩ : ∃ n4, News g L _ ((D, listOf out n4) :: news) := ⟨_, ki_turn (fun _ => out) (its' := out) N3 (fun _ h => nomatch h) ne rfl rfl⟩
  have F4 : Fr g L ((((s.heap.update D (Obj.mapSeq fun _ => (#[] : Array Value))).push (PyProof.Rows.seqObj "tuple" vs.toArray 0)).push (PyProof.Rows.seqObj "list" #[] 0)).update D (Obj.mapSeq fun _ => out)) m :=
    ((F1.push (PyProof.Rows.seqObj "tuple" vs.toArray 0)).push (PyProof.Rows.seqObj "list" #[] 0)).change (Heap.SameBut.update ..) z.2.1 z.2.2
  exact h out.toList ss' n4 _ F4 (by rw [Array.toArray_toList]; exact N4) h1 h2 h3
def srt (l : List Str) : List Str := if l = [sOTHER, sAPP] then [sAPP, sOTHER] else l
theorem srt_of {l ss : List Str} (h : l = [] ∨ l = [sAPP] ∨ l = [sOTHER] ∨ l = [sAPP, sOTHER] ∨ l = [sOTHER, sAPP]) (p : ss.Perm l) (o : PyProof.Rows.sortedS ss = true) : ss = srt l := by
  have no : PyProof.Rows.sortedS [sOTHER, sAPP] = false := by decide +kernel
  have ab : sAPP ≠ sOTHER := by decide
  have nd : l.Nodup := by rcases h with rfl | rfl | rfl | rfl | rfl <;> simp [ab, ab.symm]
  have me : ∀ a ∈ l, a = sAPP ∨ a = sOTHER := by rcases h with rfl | rfl | rfl | rfl | rfl <;> simp
  have hs := two_keys (fun a ha => me a (p.mem_iff.mp ha)) (p.nodup_iff.mpr nd)
  have hl := p.length_eq
  have m1 : sAPP ∈ ss ↔ sAPP ∈ l := p.mem_iff
  have m2 : sOTHER ∈ ss ↔ sOTHER ∈ l := p.mem_iff
  rcases hs with rfl | rfl | rfl | rfl | rfl
  · rcases h with rfl | rfl | rfl | rfl | rfl <;> first | (simp at hl; done) | (simp [srt])
  · rcases h with rfl | rfl | rfl | rfl | rfl <;> first | (simp at hl; done) | (simp [srt, ab, ab.symm] at m1 m2 ⊢)
  · rcases h with rfl | rfl | rfl | rfl | rfl <;> first | (simp at hl; done) | (simp [srt, ab, ab.symm] at m1 m2 ⊢)
  · rcases h with rfl | rfl | rfl | rfl | rfl <;> first | (simp at hl; done) | (simp [srt, ab, ab.symm])
  · rw [no] at o; cases o
theorem strsAre_of : ∀ {vs : List Value} {ss : List Str}, vs.length = ss.length → (∀ (j : Nat) v, vs[j]? = some v → ∃ x t, ss[j]? = some x ∧ v = .str x t) → StrsAre vs ss
  | [], [], _, _ => .nil
  | [], _ :: _, e, _ => by simp at e
  | _ :: _, [], e, _ => by simp at e
  | v :: vs, x :: ss, e, h => by
    obtain ⟨y, t, e1, rfl⟩ := h 0 v rfl
    cases e1
    exact .cons x t (strsAre_of (by simpa using e) fun j v hv => h (j + 1) v (by simpa using hv))
theorem sorted_K {od : Obj} {kvs : List (Str × Value)} (hh : A.handled = none) (F : Fr g L s.heap m) (N : News g L s.heap news) (hm : (d, od) ∈ news) (ho : od.IsDictOf (PySem.strKind prog w) kvs) (lo : (d == sysModules) = false) (only : ∀ a ∈ kvs.map (·.1), a = sAPP ∨ a = sOTHER)
    (h : ∀ D vs n h' tk, Fr g L h' m → News g L h' ((D, listOf vs.toArray n) :: news) → (∀ q ∈ news, q.1 < D) → StrsAre vs (srt (kvs.map (·.1))) → Q (.ref D) { s with heap := h', toks := tk }) :
    wpAny (model prog w) A (call (.builtin "sorted") [.ref d]) Q E s := by
  have nd : (kvs.map (·.1)).Nodup := by obtain ⟨_, _, _, _, _, _, n⟩ := ho; exact n
  have hkl := keys_le only nd
  rw [List.length_map] at hkl
  have hD : s.heap.DictOf (PySem.strKind prog w) d kvs := Heap.dictOf_iff.mpr ⟨_, (N _ hm).1, ho⟩
  obtain ⟨ep, hat⟩ := hD.dictAt
  refine kdu_sorted (kdl_dict (knd := PySem.strKind prog w) (kvs := kvs) (ep := ep) lo) hh F N hat (kdl_size (by omega)) fun B h' tk vs F' N' l1 hl hv => ?_
  have hS : StrsAre vs (kvs.map (·.1)) := strsAre_of (by rw [hl, List.length_map]) fun j v e => by
    obtain ⟨k, x, e1, e2⟩ := hv j v e
    obtain ⟨t, rfl⟩ := Value.isStrOf_shape e2
    exact ⟨k, t, by rw [List.getElem?_map, e1]; rfl, rfl⟩
  refine strs_sort F' N' (fun q hq => Nat.ne_of_lt (l1 q hq)) hS (by rw [hl]; omega) fun vs' ss' n' h2 F2 N2 S2 p o => ?_
  have e := srt_of (two_keys only nd) p o
  subst e
  exact h B vs' n' h2 tk F2 N2 l1 S2
theorem ne_strs {a b : Addr} {vs ws : List Value} {ss : List Str} (ha : s.heap.IsList a vs.toArray) (hb : s.heap.IsList b ws.toArray) (ta : StrsAre vs ss) (tb : StrsAre ws ss) (hs : SeqAt.shaped (.list (ss.map .str)) = true) (hu : A.units + 64 < cLine) (q : Q (.bool false) s) :
    wpAny (model prog w) A (compareOp .NotEq (.ref a) (.ref b)) Q E s := by
  obtain ⟨o, ho, hc, n, hd⟩ := ha
  obtain ⟨o', ho', hc', n', hd'⟩ := hb
  exact ne_selves (.list ho hc hd (ta.reads _)) (.list ho' hc' hd' (tb.reads _)) hs hu q
theorem srt_shaped {l : List Str} (h : ∀ a ∈ l, a = sAPP ∨ a = sOTHER) (n : l.Nodup) : SeqAt.shaped (.list ((srt l).map .str)) = true := by
  rcases two_keys h n with rfl | rfl | rfl | rfl | rfl <;> decide +kernel
end
end
section
section
variable {prog : Program} {w : World} {A : Around} {E : Value → Shared → Prop} {s : Shared} {env : Env} {g : Heap} {L : Addr} {m : Str → Option Value} {news : List (Addr × Obj)}
/-- a name that a comprehension takes from a cell around it -/
theorem ld_comp {M : Model} {x : Str} {pos : Pos} {scope : Scope} {cl : List (Str × Addr)} {C c : Addr} {o : Obj} {v : Value} {Q : Value → Shared → Prop} (N : News g L s.heap news) (hl : (compEnvC scope cl C env).kindOf x = some .cell) (hk : (compEnvC scope cl C env).scope.kind = .function)
    (hc : cl.lookup x = some c) (hm : (c, o) ∈ news) (hd : o.data = .cell (some v)) (hdb : (x == ("__debug__" : Str)) = false) (h : Q v s) : wpAny M A (eval (.Name x pos) (compEnvC scope cl C env)) Q E s :=
  wpAny_Name (wpAny_loadName_cell hk hl hc ⟨o, N.get hm, hd⟩ h) hdb
/-- what a loop over a dict's keys wants, its target a cell's name -/
structure KeysGoal (prog : Program) (w : World) (A : Around) (E : Value → Shared → Prop) (env : Env) (g : Heap) (cN : Addr) (body : List Stmt) (Q : Flow → Shared → Prop) (xv : Value) (s₁ : Shared) : Prop where
  out : ∃ (d : Addr) (od : Obj) (kvs : List (Str × Value)) (m : Str → Option Value) (led : Obj → List (Addr × Obj)) (k0 : Obj) (v0 : Option Value),
    xv = .ref d ∧ Fr g env.locals s₁.heap m ∧ News g env.locals s₁.heap (led k0) ∧ (∀ k, (d, od) ∈ led k) ∧ k0.data = .cell v0 ∧ (∀ k, UpdF cN k (led k) led) ∧ od.IsDictOf (PySem.strKind prog w) kvs ∧ (d == sysModules) = false ∧
    (∀ (I : Addr) (oI k : Obj) (a : Str) (t : Tok) h tk, a ∈ kvs.map (·.1) → NeAll I (led k) → k.data = .cell (some (.str a t)) → Fr g env.locals h m → News g env.locals h ((I, oI) :: led k) →
      wpAny (model prog w) A (execs body env) (TurnG Q (fun s₃ => ∃ h' tk', s₃ = { s₁ with heap := h', toks := tk' } ∧ Fr g env.locals h' m ∧ News g env.locals h' ((I, oI) :: led k))) E { s₁ with heap := h, toks := tk }) ∧
    (∀ k v h tk, k.data = .cell v → Fr g env.locals h m → News g env.locals h (led k) → Q .next { s₁ with heap := h, toks := tk })
theorem for_keysC {x : Str} {px pos : Pos} {iter : Expr} {body : List Stmt} {cN : Addr} {Q : Flow → Shared → Prop} {m₀ : Str → Option Value} (F₀ : Fr g env.locals s.heap m₀) (hE : PassesOwn (model prog w) A env E) (hk : env.scope.kind = .function) (hx : env.kindOf x = some .cell) (hc : env.cells.lookup x = some cN) (hh : A.handled = none)
    (h : wpAny (model prog w) A (eval iter env) (KeysGoal prog w A E env g cN body Q) E s)
    (hs : ∀ x, foldedSetIterable iter env x = pure x) :
    wpAny (model prog w) A (exec (.For (.Name x px) iter body [] pos) env) Q E s := by
  let _ := F₀
  refine wpAny_For (wpAny_mono h (fun xv s₁ h₁ => ?_) fun _ _ e => e) hs
  obtain ⟨d, od, kvs, m, led, k0, v0, rfl, F, N, md, dk, U, ho, lo, turn, done⟩ := h₁
  have hD : s₁.heap.DictOf (PySem.strKind prog w) d kvs := Heap.dictOf_iff.mpr ⟨_, (N _ (md k0)).1, ho⟩
  obtain ⟨ep, hat⟩ := hD.dictAt
  refine wpAny_pyIter_dict lo hat ?_
  generalize hI0 : s₁.heap.objs.size = I
  have hI : g.get? I = none := by
    cases q : g.get? I with
    | none => rfl
    | some o => exact absurd (Heap.lt_size (F.keep _ _ q)) (by rw [hI0]; exact Nat.lt_irrefl _)
  have hLI : env.locals ≠ I := fun q => absurd F.ns.lt (by rw [q, hI0]; exact Nat.lt_irrefl _)
  have hne : d ≠ I := fun q => absurd hat.lt_size (by rw [q, hI0]; exact Nat.lt_irrefl _)
  have W := Walks.dictKeys (prog := prog) (w := w) (A := A) (knd := PySem.strKind prog w) hh I d hne kvs ep
  have hdL : d ≠ env.locals := (N _ (md k0)).2.1
  have neI : ∀ k, NeAll I (led k) := fun k p hp => by
    have key : ∀ q ∈ led k0, q.1 ≠ I := fun q hq e => absurd (Heap.lt_size (N q hq).1) (by rw [e, hI0]; exact Nat.lt_irrefl _)
    obtain ⟨pre, post, e1, e2, _, _⟩ := (U k0).split
    rw [e2 k] at hp
    rw [e1] at key
    rcases List.mem_append.mp hp with hp | hp
    · exact key p (List.mem_append_left _ hp)
    · rcases List.mem_cons.mp hp with rfl | hp
      · exact key (cN, k0) (List.mem_append_right _ (.head _))
      · exact key p (List.mem_append_right _ (.tail _ hp))
  have st0 : (s₁.heap.push { cls := .type "dict_keyiterator", data := .fields #[.ref d, .int 0 0, .int kvs.length 0, .int ep 0] }).IsKeyIter I d 0 kvs.length ep ∧ (s₁.heap.push { cls := .type "dict_keyiterator", data := .fields #[.ref d, .int 0 0, .int kvs.length 0, .int ep 0] }).DictAt (PySem.strKind prog w) d kvs ep :=
    ⟨⟨_, by rw [← hI0]; exact Heap.get?_push_size _ rfl, rfl, rfl⟩, hat.push _⟩
  have N0 : News g env.locals (s₁.heap.push { cls := .type "dict_keyiterator", data := .fields #[.ref d, .int 0 0, .int kvs.length 0, .int ep 0] }) (led k0) := fun p hp => ⟨Heap.get?_push_of_some _ (N p hp).1, (N p hp).2⟩
  have F0 : Fr g env.locals (s₁.heap.push { cls := .type "dict_keyiterator", data := .fields #[.ref d, .int 0 0, .int kvs.length 0, .int ep 0] }) m := F.push _
  refine codeAny_forLoop_any (fun n s' => ∃ i, i ≤ kvs.length ∧ n = kvs.length + 1 - i ∧ ∃ h tk k v, s' = { s₁ with heap := h, toks := tk } ∧ (h.IsKeyIter I d i kvs.length ep ∧ h.DictAt (PySem.strKind prog w) d kvs ep) ∧ k.data = .cell v ∧ Fr g env.locals h m ∧ News g env.locals h (led k)) ?_ (kvs.length + 1) ⟨0, Nat.zero_le _, rfl, _, _, k0, v0, rfl, st0, dk, F0, N0⟩
  rintro n s' ⟨i, hi, rfl, h, tk, k, v, rfl, st, dk', F', N'⟩
  have next : ∀ h₁ : Heap, (∀ b o, b ∉ [I] → h.get? b = some o → h₁.get? b = some o) → Fr g env.locals h₁ m ∧ News g env.locals h₁ (led k) := fun h₁ hk₁ =>
    ⟨⟨F'.ns.at' fun o e => hk₁ _ o (by simpa using hLI) e, fun b o e => hk₁ b o (by simp only [List.mem_singleton]; rintro rfl; rw [hI] at e; cases e) (F'.keep b o e), F'.above⟩,
      fun p hp => ⟨hk₁ _ _ (by simpa using neI k p hp) (N' p hp).1, (N' p hp).2⟩⟩
  by_cases hlt : i < kvs.length
  · refine W.item i _ _ _ hlt st fun kv h₁ tk₁ hP hst₁ hk₁ => ?_
    obtain ⟨a, xv, e1, e2⟩ := hP
    obtain ⟨t, rfl⟩ := Value.isStrOf_shape e2
    obtain ⟨F₁, N₁⟩ := next h₁ hk₁
    refine wpAny_of_eq (rfl : letOwnedTupleGo (.Name x px) (.ref I) (.str a t) = pure ()) ?_
    obtain ⟨oI, hoI, hoc, hod⟩ := hst₁.1
    obtain ⟨pre, post, c1, c2, c3, c4⟩ := (U k).split
    have N₁' : News g env.locals h₁ (pre ++ (cN, k) :: post) := c1 ▸ N₁
    have hmem := N₁' (cN, k) (List.mem_append_right _ (.head _))
    have nIc : I ≠ cN := fun e => neI k (cN, k) (by rw [c1]; exact List.mem_append_right _ (.head _)) e.symm
    have ndc : d ≠ cN := fun e => by
      have h1 := (N₁ _ (md k)).1
      rw [e] at h1
      have h2 := hmem.1
      dsimp only at h1 h2
      rw [h2] at h1
      obtain ⟨es, ep', _, hda, _⟩ := ho
      rw [← Option.some.inj h1, dk'] at hda
      cases hda
    refine wpAny_assign_Name (wpAny_storeName_cell hk hx hc ⟨k, hmem.1, dk'⟩ fun h₂ hv₂ hs₂ => ?_)
    obtain ⟨k', hk'₂, dk'₂⟩ := hv₂
    have F₂ : Fr g env.locals h₂ m := ⟨F₁.ns.sameBut hs₂ (Ne.symm hmem.2.1), fun b ob e => (hs₂.2 b (fun q => by rw [q, hmem.2.2] at e; cases e)).trans (F₁.keep b ob e), F₁.above⟩
    have N₂ : News g env.locals h₂ (led k') := by
      rw [c2 k']
      exact N₁'.setAt c3 c4 hs₂ hk'₂
    have hoI₂ : h₂.get? I = some oI := (hs₂.2 I nIc).trans hoI
    have NI₂ : News g env.locals h₂ ((I, oI) :: led k') := fun p hp => by
      rcases List.mem_cons.mp hp with rfl | hp
      · exact ⟨hoI₂, hLI.symm, hI⟩
      · exact N₂ p hp
    have st₂ : h₂.IsKeyIter I d (i + 1) kvs.length ep ∧ h₂.DictAt (PySem.strKind prog w) d kvs ep := W.frame _ _ _ hst₁ fun b hb o e => by
      refine (hs₂.2 b fun q => ?_).trans e
      simp only [List.mem_cons, List.not_mem_nil, or_false] at hb
      rcases hb with hb | hb
      · exact nIc (hb.symm.trans q)
      · exact ndc (hb.symm.trans q)
    have hin : a ∈ kvs.map (·.1) := List.mem_map.mpr ⟨_, List.mem_of_getElem? e1, rfl⟩
    refine wpAny_mono (wpAny_passesOwn hE (turn I oI k' a t h₂ _ hin (neI k') dk'₂ F₂ NI₂)) (fun f s₃ h₃ => ?_) fun _ _ e => e
    have fin : (∃ h' tk', s₃ = { s₁ with heap := h', toks := tk' } ∧ Fr g env.locals h' m ∧ News g env.locals h' ((I, oI) :: led k')) →
        ∃ mm, mm < kvs.length + 1 - i ∧ ∃ i, i ≤ kvs.length ∧ mm = kvs.length + 1 - i ∧ ∃ h tk k v, s₃ = { s₁ with heap := h, toks := tk } ∧ (h.IsKeyIter I d i kvs.length ep ∧ h.DictAt (PySem.strKind prog w) d kvs ep) ∧ k.data = .cell v ∧ Fr g env.locals h m ∧ News g env.locals h (led k) := by
      rintro ⟨h', tk', rfl, F₃, N₃⟩
      refine ⟨kvs.length + 1 - (i + 1), by omega, i + 1, hlt, rfl, h', tk', k', _, rfl, W.frame _ _ _ st₂ fun b hb o e => ?_, dk'₂, F₃, fun p hp => N₃ p (.tail _ hp)⟩
      simp only [List.mem_cons, List.not_mem_nil, or_false] at hb
      rcases hb with rfl | rfl
      · rw [hoI₂] at e
        rw [← e]
        exact (N₃ _ (.head _)).1
      · have e3 := (N₂ _ (md k')).1
        dsimp only at e3
        rw [e3] at e
        rw [← e]
        exact (N₃ _ (.tail _ (md k'))).1
    cases f with
    | ret v => exact h₃
    | brk => exact h₃
    | next => exact fin h₃
    | cont => exact fin h₃
  · have hin : i = kvs.length := by omega
    subst hin
    refine W.done _ _ _ st fun h₁ tk₁ hk₁ => wpAny_execs_nil ?_
    obtain ⟨F₁, N₁⟩ := next h₁ hk₁
    exact done k v h₁ tk₁ dk' F₁ N₁
end
end
section
/-- the law's own text, read off the program -/
def lawStmt : Stmt := PySem.Challenge.pw_fy0014_01.main.body.getLastD (.Pass ⟨0, 0, 0, 0⟩)
def lawScope : Scope := match lawStmt with
  | .FunctionDef _ _ _ _ _ _ scope _ _ _ => scope
  | _ => default
def lawTurn : List Stmt := match lawStmt with
  | .FunctionDef _ _ body _ _ _ _ _ _ _ => (match body.getD 2 (.Pass ⟨0, 0, 0, 0⟩) with
    | .For _ _ b _ _ => b
    | _ => [])
  | _ => []
def turnAt (i : Nat) : Stmt := lawTurn.getD i (.Pass ⟨0, 0, 0, 0⟩)
abbrev lawEnv (L : Addr) : Env := envOfC (Str.ofString "law") lawScope L 548 (.ref 547)
theorem turn_is : lawTurn = [turnAt 0, turnAt 1, turnAt 2, turnAt 3, turnAt 4, turnAt 5] := rfl
/-- the world in which the law's body runs -/
abbrev lawA (dp un : Nat) (L : Addr) : Around := Around.deeper ⟨none, dp, some [], some [], un⟩ (lawEnv L)
/-- what stands between the deeds and the turn's end -/
def LawPost (w : World) (s : Shared) (g : Heap) (L sc c x xi dd md I : Addr) (oI : Obj) (k : Nat) (s' : Shared) : Prop :=
  ∃ h tk gs m, s' = { s with heap := h, toks := tk, gens := gs } ∧ Fr g L h m ∧ GN s.gens gs ∧ m (Str.ofString "c") = some (.ref c) ∧ ∃ (i v : Int) (ti tv : Tok) (ep : Nat) (o om op op4 k1 k2 k3 : Obj) (kvs kvsM : List (Str × Value)) (qs : List Addr) (tl : List (Addr × Obj)) (hs : Heap),
    News g L h ((I, oI) :: lawLed L sc c dd md i v ti tv ep o om op op4 k1 k2 k3 tl) ∧ NeAll I (lawLed L sc c dd md i v ti tv ep o om op op4 k1 k2 k3 tl) ∧ 0 ≤ i ∧ i ≤ 1 + 10 * k ∧ 0 ≤ v ∧ v < 999983 ∧ LawInv w g L c x xi dd md k o om op op4 k1 k2 k3 kvs kvsM qs tl hs
theorem neAll_led {I L sc c dd md : Addr} {i v i' v' : Int} {ti tv ti' tv' : Tok} {ep ep' : Nat} {o om op op4 o' om' op' op4' k1 k2 k3 k3' : Obj} {tl tl' : List (Addr × Obj)} (h : NeAll I (lawLed L sc c dd md i v ti tv ep o om op op4 k1 k2 k3 tl)) (n : NeAll I tl') : NeAll I (lawLed L sc c dd md i' v' ti' tv' ep' o' om' op' op4' k1 k2 k3' tl') := by
  have a := fun z hz => h z hz
  refine lawLed_mem (P := fun p => p.1 ≠ I) (a (c, cObj sc i v ti tv ep) (by simp [lawLed])) (a (dd, o) (by simp [lawLed])) (a (md, om) (by simp [lawLed])) (a (384, op) (by simp [lawLed])) (a (444, op4) (by simp [lawLed])) (a (L + 1 + 1 + 1, k3) (by simp [lawLed])) (a (L + 1 + 1, k2) (by simp [lawLed])) (a (L + 1, k1) (by simp [lawLed])) n
end
section
section
variable {prog : Program} {w : World} {A : Around} {E : Value → Shared → Prop} {s : Shared} {env : Env} {g : Heap} {L T : Addr} {m : Str → Option Value} {news : List (Addr × Obj)}
theorem assign2 {v1 v2 : Value} {x y : Str} {pa pb pt : Pos} {kt : Nat} {Q : Unit → Shared → Prop} (hh : A.handled = none) (F : Fr g L s.heap m) (N : News g L s.heap news) (hm : (T, tupO v1 v2) ∈ news)
  (h : ∀ h', Fr g L h' m → News g L h' news → wpAny (model prog w) A (storeName env x v1) (fun _ s2 => wpAny (model prog w) A (storeName env y v2) Q E s2) E { s with heap := h' }) :
  wpAny (model prog w) A (assign (.Tuple [.Name x pa, .Name y pb] kt pt) env (.ref T)) Q E s := by
  refine wpAny_assign_Tuple hh (tupO_at (N _ hm).1) rfl rfl fun h1 hx1 => ?_
  have F1 : Fr g L h1 m := F.keeps fun b o e => hx1 b o (Nat.ne_of_lt (Heap.lt_size e)) e
  have N1 : News g L h1 news := N.grown fun b o e => hx1 b o (Nat.ne_of_lt (Heap.lt_size e)) e
  show wpAny _ _ (do holding [v2] (assign (.Name x pa) env v1); do holding [] (assign (.Name y pb) env v2); pure ()) _ _ _
  refine wpAny_bind (wpAny_holding (wpAny_assign_Name (wpAny_mono (h h1 F1 N1) (fun _ s2 h2 => ?_) fun _ _ e => e)))
  exact wpAny_bind (wpAny_holding (wpAny_assign_Name (wpAny_mono h2 (fun _ s3 h3 => wpAny_pure h3) fun _ _ e => e)))
theorem assign3 {v1 v2 v3 : Value} {x y z : Str} {pa pb pc pt : Pos} {kt n : Nat} {Q : Unit → Shared → Prop} (hh : A.handled = none) (F : Fr g L s.heap m) (N : News g L s.heap news) (hm : (T, { cls := .type "tuple", data := .seq #[v1, v2, v3] n }) ∈ news)
  (h : ∀ h', Fr g L h' m → News g L h' news → wpAny (model prog w) A (storeName env x v1) (fun _ s2 => wpAny (model prog w) A (storeName env y v2) (fun _ s3 => wpAny (model prog w) A (storeName env z v3) Q E s3) E s2) E { s with heap := h' }) :
  wpAny (model prog w) A (assign (.Tuple [.Name x pa, .Name y pb, .Name z pc] kt pt) env (.ref T)) Q E s := by
  refine wpAny_assign_Tuple hh (⟨_, (N _ hm).1, rfl, n, rfl⟩ : IsTup s.heap T #[v1, v2, v3]) rfl rfl fun h1 hx1 => ?_
  have F1 : Fr g L h1 m := F.keeps fun b o e => hx1 b o (Nat.ne_of_lt (Heap.lt_size e)) e
  have N1 : News g L h1 news := N.grown fun b o e => hx1 b o (Nat.ne_of_lt (Heap.lt_size e)) e
  show wpAny _ _ (do holding [v2, v3] (assign (.Name x pa) env v1); do holding [v3] (assign (.Name y pb) env v2); do holding [] (assign (.Name z pc) env v3); pure ()) _ _ _
  refine wpAny_bind (wpAny_holding (wpAny_assign_Name (wpAny_mono (h h1 F1 N1) (fun _ s2 h2 => ?_) fun _ _ e => e)))
  refine wpAny_bind (wpAny_holding (wpAny_assign_Name (wpAny_mono h2 (fun _ s3 h3 => ?_) fun _ _ e => e)))
  exact wpAny_bind (wpAny_holding (wpAny_assign_Name (wpAny_mono h3 (fun _ s4 h4 => wpAny_pure h4) fun _ _ e => e)))
end
section
variable {M : Model} {A : Around} {E : Value → Shared → Prop} {s : Shared} {name : Str} {scope : Scope} {L a : Addr} {cd : Value} {h₀ : Heap} {m : Str → Option Value} {news : List (Addr × Obj)} {gN : Obj → List (Addr × Obj)}
theorem st_cell {x : Str} {c : Addr} {o : Obj} {v₀ : Option Value} {v : Value} {Q : Unit → Shared → Prop} (hk : scope.kind = .function) (hl : (envOfC name scope L a cd).kindOf x = some .cell) (hc : (cellsFrom (L + 1) scope.names []).lookup x = some c)
    (F : Fr h₀ L s.heap m) (N : News h₀ L s.heap news) (U : UpdF c o news gN) (hd : o.data = .cell v₀)
    (h : ∀ h' o', Fr h₀ L h' m → News h₀ L h' (gN o') → o'.data = .cell (some v) → Q () { s with heap := h' }) : wpAny M A (storeName (envOfC name scope L a cd) x v) Q E s := by
  obtain ⟨own, rest, rfl, hg, h1, h2⟩ := U.split
  exact stCN F N hc hd h1 h2 (fun h' o' F' N' d' => h h' o' F' (hg o' ▸ N') d') hk hl
end
theorem below_top {g : Heap} {dp un : Nat} : Below ⟨none, dp, some [], some [], un⟩ g [] g := ⟨rfl, fun _ _ e => e, trivial⟩
theorem dicts_nil {g : Heap} : KtsDicts (([] : List Env).filterMap (·.frame)) g := fun b h => nomatch h
end
local macro_rules | `(tactic| walk_at "call ref") => `(tactic| (k_here; (with_reducible show wpAny _ _ (call (Value.ref 470) _) _ _ _); refine cut ?_))
local macro_rules | `(tactic| walk_at "call ref") => `(tactic| (k_here; (with_reducible show wpAny _ _ (call (Value.ref 428) _) _ _ _); refine cut ?_))
local macro_rules | `(tactic| walk_at "call ref") => `(tactic| (k_here; (with_reducible show wpAny _ _ (call (Value.ref 512) _) _ _ _); k_dflt (first | ((refine' take_K ?hf ?hk ?B ?F ?N ?X ?T ?U ?l ?sc ?i ?n ?h0 ?h1 ?v0 ?v1 ?k0 ?k1 ?hd ?hu ?_; (case hf => rfl); (case hk => rfl); (case F => k_asm); (case N => k_asm); (case B => k_asm); (case X => k_asm); (case T => k_asm); (case U => k_updF); (case l => exact Fr.lst (by k_asm) (by assumption)); (case sc => first | assumption | omega); (case i => assumption); (case n => assumption); (case h0 => omega); (case h1 => omega); (case v0 => omega); (case v1 => omega); (case k0 => omega); (case k1 => omega); (case hd => ktr_room); (case hu => ktr_units); k_whole); intro d9 i9 v9 t9 u9 w9 e9 h9 tk9 p1 p2 p3 p4 p5 p6 F9 N9; (try dsimp only at N9); (try dsimp only); (try k_sweep)) | refine cut ?_)))
local macro_rules | `(tactic| walk_at "subscriptTail") => `(tactic| (k_here; (with_reducible show wpAny _ _ (subscriptTail _ _ (Value.ref _) (Value.int _ _)) _ _ _); k_dflt ((refine' item2s ?N ?m ?a ?b ?_ ?s; (case N => k_asm); (case m => k_mem); (case a => omega); (case b => omega); (case s => with_unfolding_all rfl); k_whole); intro v9 t9 q9; (try k_sweep))))
local macro_rules | `(tactic| walk_at "call ref") => `(tactic| (k_here; (with_reducible show wpAny _ _ (call (Value.ref 519) _) _ _ _); refine cut ?_))
local macro_rules | `(tactic| walk_at "assign Tuple") => `(tactic| (k_here; (with_reducible show wpAny _ _ (assign (PySem.Expr.Tuple _ _ _) _ (Value.ref _)) _ _ _); k_dflt (first
  | ((refine' assign2 ?hh ?F ?N ?m ?_; (case hh => rfl); (case F => k_asm); (case N => k_asm); (case m => k_mem); k_whole); intro h9 F9 N9; (try dsimp only); (try k_sweep))
  | ((refine' assign3 ?hh ?F ?N ?m ?_; (case hh => rfl); (case F => k_asm); (case N => k_asm); (case m => k_mem); k_whole); intro h9 F9 N9; (try dsimp only); (try k_sweep)))))
local macro_rules | `(tactic| walk_at "storeName") => `(tactic| (k_here; (with_reducible show wpAny _ _ (storeName (envOfC _ _ _ _ _) _ _) _ _ _); k_dflt ((refine' st_cell ?hk ?hl ?hc ?F ?N ?U ?d ?_; (case hl => rfl); (case hk => rfl); (case hc => rfl); (case F => k_asm); (case N => k_asm); (case U => k_updF); (case d => assumption); k_whole); intro h9 o9 F9 N9 d9; (try dsimp only at N9); (try dsimp only); (try k_sweep))))
local macro_rules | `(tactic| walk_at "eval Name") => `(tactic| (k_here; (with_reducible show wpAny _ _ (eval (Expr.Name _ _) (envOfC _ _ _ _ _)) _ _ _); k_dflt (refine' ldCN ?N ?hc ?hm ?hd ?_ ?hk ?hl ?hdb; (case hl => rfl); (case hk => rfl); (case hdb => rfl); (case hc => rfl); (case N => k_asm); (case hm => k_mem); (case hd => assumption); k_whole)))
section
theorem cut_pre {M : Model} {A : Around} {E : Value → Shared → Prop} {s : Shared} {xs rest : List Stmt} {env : Env} {Q : Flow → Shared → Prop} (Mid : Shared → Prop) (h1 : wpAny M A (execs xs env) (fun f s' => f = .next ∧ Mid s') E s)
    (h2 : ∀ s', Mid s' → wpAny M A (execs rest env) Q E s') : wpAny M A (execs (xs ++ rest) env) Q E s := by
  rw [execs_app]
  refine wpAny_bind (wpAny_mono h1 (fun f s' hf => ?_) fun _ _ e => e)
  obtain ⟨rfl, hm⟩ := hf
  exact h2 s' hm
/-- what stands before the turn's third statement -/
def LawB0 (w : World) (s : Shared) (g : Heap) (L sc c x xi dd md I : Addr) (oI : Obj) (k : Nat) (s' : Shared) : Prop :=
  ∃ h tk gs m, s' = { s with heap := h, toks := tk, gens := gs } ∧ Fr g L h m ∧ GN s.gens gs ∧ m (Str.ofString "c") = some (.ref c) ∧ ∃ (k0 : Int) (t0 : Tok) (ap nm : Str) (ta tn : Tok) (l : Addr) (us : List Value) (rws : List Row) (i v : Int) (ti tv : Tok) (ep : Nat) (o om op op4 k1 k2 k3 : Obj) (kvs kvsM : List (Str × Value)) (qs : List Addr) (tl : List (Addr × Obj)) (hs : Heap),
    m (Str.ofString "kind") = some (.int k0 t0) ∧ 0 ≤ k0 ∧ k0 ≤ 5 ∧ m (Str.ofString "app") = some (.str ap ta) ∧ (ap = sAPP ∨ ap = sOTHER) ∧ m (Str.ofString "name") = some (.str nm tn) ∧ (nm = sA ∨ nm = sB) ∧ m (Str.ofString "rows") = some (.ref l) ∧
    News g L h ((I, oI) :: lawLed L sc c dd md i v ti tv ep o om op op4 k1 k2 k3 tl) ∧ NeAll I (lawLed L sc c dd md i v ti tv ep o om op op4 k1 k2 k3 tl) ∧ 0 ≤ i ∧ i ≤ 1 + 10 * k + 9 ∧ 0 ≤ v ∧ v < 999983 ∧ LawInv w g L c x xi dd md k o om op op4 k1 k2 k3 kvs kvsM qs tl hs ∧
    (hideAll hs qs).IsList l us.toArray ∧ TupRows (hideAll hs qs) us rws ∧ Good 12 rws ∧ rws.all six = true
theorem law_s01 {w : World} {s₀ : Shared} {dp un : Nat} {p : Program} {loose : List Str} {mean : ExcName → Option Value} {mg mb : Str → Option Value} {g : Heap} {L sc c x xi dd md I : Addr} {oI : Obj} {k : Nat} {h : Heap} {tk : Nat} {gs : Array GenState} {m : Str → Option Value} {i v : Int} {ti tv : Tok} {ep : Nat} {o om op op4 k1 k2 k3 : Obj} {kvs kvsM : List (Str × Value)} {qs : List Addr} {tl : List (Addr × Obj)} {hs : Heap} {svs : List Value} {ns : List Int}
    (X : (Mine.mkK.heap_1 w.params).In g) (T : Top p loose mean mg mb g) (hd : dp + 150 < recursionLimit) (hu : un + 1500 < cLine) (O : Ord L sc c xi x dd md) (hk10 : k ≤ 10) (hlg : g.IsList sc svs.toArray) (hi : IntsAre svs ns) (hn : ns.length ≤ 63)
    (F : Fr g L h m) (gn : GN s₀.gens gs) (mc : m (Str.ofString "c") = some (.ref c)) (N : News g L h ((I, oI) :: lawLed L sc c dd md i v ti tv ep o om op op4 k1 k2 k3 tl)) (nI : NeAll I (lawLed L sc c dd md i v ti tv ep o om op op4 k1 k2 k3 tl)) (hi0 : 0 ≤ i) (hi1 : i ≤ 1 + 10 * k) (hv0 : 0 ≤ v) (hv1 : v < 999983) (V : LawInv w g L c x xi dd md k o om op op4 k1 k2 k3 kvs kvsM qs tl hs) :
    wpAny (model PG w) (lawA dp un L) (execs [turnAt 0, turnAt 1] (lawEnv L)) (fun f s' => f = .next ∧ LawB0 w s₀ g L sc c x xi dd md I oI k s') (fun _ _ => False) { s₀ with heap := h, toks := tk, gens := gs } := by
  have B := below_top (g := g) (dp := dp) (un := un)
  have D := dicts_nil (g := g)
  have nec : NeAll c tl := V.ne c (by simp [Zs])
  unfold lawA lawEnv
  conv in (occs := *) lawScope => all_goals whnf
  conv in (occs := *) turnAt _ => all_goals whnf
  have ne' := allNe_of nI
  simp only [lawLed, AllNe] at ne' N
  obtain ⟨q1, q0, q2, q3, q4, q5, q6⟩ := id O
  have nsc0 : @Ne Nat sc c := by omega
  k_steps
  all_goals (try exact default)
  refine Stop.mk ?_
  (with_reducible rename News g L _ _ => kN)
  (with_reducible rename Fr g L _ _ => kF)
  (with_reducible rename _ = Str.ofString "APP" ∨ _ => qa)
  (with_reducible rename _ = Str.ofString "A" ∨ _ => qn)
  have xc := kN _ (.tail _ (.tail _ (.tail _ (.tail _ (.head _)))))
  have hSc : ∀ z ∈ [c], g.get? z = none ∧ z ≠ L := fun z hz => by
    rw [List.mem_singleton.mp hz]; exact ⟨xc.2.2, xc.2.1⟩
  have gi := ground_in (Z := [c]) kF (fun z hz => (hSc z hz).1)
  (k_dflt (refine' inside_c (Rd.mk rfl rfl B kF X T hSc) xc.1 (isList_keep hlg gi) nsc0 hi hn ?yh0 ?yh1 ?yv0 ?yv1 ?yhd ?yhu (fun l us rws n' i' v' ti' tv' ep' h3 tk3 kp b1 b2 b3 b4 ec lf el nt ir rl => ?_); (case yh0 => omega); (case yh1 => omega); (case yv0 => omega); (case yv1 => omega); (case yhd => ktr_room); (case yhu => ktr_units)))
  have F3 := Mine.Fr.after kF kp hSc
  obtain ⟨tl3, N3t, nI3, up3, V3⟩ := law_step V kF kN (by k_subL) (.tail _ (.tail _ (.tail _ (.head _)))) (fun q hq => nI q (tl_in hq)) kp F3
  have live := law_live V kF kN (fun q hq => .tail _ (.tail _ (.tail _ hq)))
  obtain ⟨hlL, hrL⟩ := law_new live lf el nt
  have N3 := law_led kN (fun q hq => .tail _ (.tail _ (.tail _ hq))) kp (by omega) (by omega) (by omega) (by omega) (by omega) (by omega) (by omega) (by omega) ec N3t
  clear kF kN up3 live kp N3t
  k_steps
  (with_reducible rename News g L _ _ => kN)
  (with_reducible rename Fr g L _ _ => kF)
  obtain ⟨w1, w2, w3⟩ := ir.good
  exact ⟨_, _, _, _, rfl, kF, gn, by cell_ties, _, _, _, _, _, _, l, us, rws, _, _, _, _, _, _, _, _, _, _, _, _, kvs, kvsM, qs, tl3, _, by cell_ties, by omega, by omega, by cell_ties, qa, by cell_ties, qn, by cell_ties, kN, neAll_led nI nI3, by omega, by omega, by omega, by omega, V3, hlL, hrL, ⟨w1, w2, by omega⟩, w3⟩
end
section
section
variable {prog : Program} {w : World} {A : Around} {E : Value → Shared → Prop} {s : Shared} {g : Heap} {L : Addr} {m : Str → Option Value} {news : List (Addr × Obj)} {l : Addr} {vs : List Value} {x : Int} {u : Tok} {Q : Value → Shared → Prop}
theorem mul_none (F : Fr g L s.heap m) (N : News g L s.heap news) (hl : s.heap.IsList l vs.toArray) (hx : x = 0) (h : ∀ D h', Fr g L h' m → News g L h' ((D, listOf ([] : List Value).toArray 0) :: news) → (∀ p ∈ news, p.1 < D) → Q (.ref D) { s with heap := h' }) : wpAny (model prog w) A (binaryOp .Mult (.ref l) (.int x u)) Q E s := by
  subst hx
  exact KMa.mul F N hl (by decide) (by decide) (by simp) rfl h
theorem mul_once (F : Fr g L s.heap m) (N : News g L s.heap news) (hl : s.heap.IsList l vs.toArray) (hx : x = 1) (hz : vs.length ≤ 256) (h : ∀ D h', Fr g L h' m → News g L h' ((D, listOf vs.toArray 0) :: news) → (∀ p ∈ news, p.1 < D) → Q (.ref D) { s with heap := h' }) : wpAny (model prog w) A (binaryOp .Mult (.ref l) (.int x u)) Q E s := by
  subst hx
  exact KMa.mul F N hl (by decide) (by decide) (by simpa using hz) (by simp) h
end
local macro_rules | `(tactic| walk_at "binaryOp Mult ref int") => `(tactic| (k_here; (with_reducible show wpAny _ _ (binaryOp Operator.Mult (Value.ref _) (Value.int _ _)) _ _ _); k_dflt (first
  | (refine' mul_none ?F ?N ?l ?x ?_; (case x => decide); (case F => k_asm); (case N => k_asm); (case l => exact isList_led (by k_asm) (by k_mem)); k_whole)
  | (refine' mul_once ?F ?N ?l ?x ?z ?_; (case x => decide); (case F => k_asm); (case N => k_asm); (case l => exact isList_led (by k_asm) (by k_mem)); (case z => exact Nat.le_of_ble_eq_true rfl); k_whole)); intro D9 h9 F9 N9 l9; (try k_lt l9); (try dsimp only); (try k_sweep)))
local macro_rules | `(tactic| walk_at "binaryOp Add ref ref") => `(tactic| (k_here; (with_reducible show wpAny _ _ (binaryOp _ (Value.ref _) (Value.ref _)) _ _ _); k_dflt ((refine' led_add ?F ?N ?a ?b ?z ?_; (case F => k_asm); (case N => k_asm); (case a => first | exact isList_led (by k_asm) (by k_mem) | exact isList_keep (by assumption) (by k_offL)); (case b => first | exact isList_led (by k_asm) (by k_mem) | exact isList_keep (by assumption) (by k_offL)); (case z => (simp only [List.length_append, List.length_cons, List.length_nil]; omega)); k_whole); intro D' h' F' N' l1; (try k_lt l1); (try k_sweep))))
theorem new_off {w : World} {g hs : Heap} {L c x xi dd md I D : Addr} {k : Nat} {o om op op4 k1 k2 k3 : Obj} {kvs kvsM : List (Str × Value)} {qs : List Addr} {tl : List (Addr × Obj)} (V : LawInv w g L c x xi dd md k o om op op4 k1 k2 k3 kvs kvsM qs tl hs) (hT : LtAll D tl) (hL : D ≠ L)
    (h0 : @LT.lt Nat instLTNat I D) (h1 : @LT.lt Nat instLTNat c D) (h2 : @LT.lt Nat instLTNat dd D) (h3 : @LT.lt Nat instLTNat md D) (h4 : @LT.lt Nat instLTNat 384 D) (h5 : @LT.lt Nat instLTNat 444 D) (h6 : @LT.lt Nat instLTNat (L + 1 + 1 + 1) D) : D ∉ (I :: Zs L c dd md) ++ qs := fun h => by
  rcases List.mem_append.mp h with h | h
  · exact zs_cases (P := fun z => z ≠ D) (Nat.ne_of_lt h0) hL.symm (Nat.ne_of_lt h1) (Nat.ne_of_lt h2) (Nat.ne_of_lt h3) (Nat.ne_of_lt h4) (Nat.ne_of_lt h5) (Nat.ne_of_lt h6) (by change @Ne Nat _ _; omega) (by change @Ne Nat _ _; omega) D h rfl
  · obtain ⟨ob, e⟩ := V.st.live D h
    rcases V.ex _ _ e with z | z
    · rw [V.qg D h] at z; cases z
    · exact Nat.lt_irrefl _ (hT _ z)
theorem tup_hide {g h : Heap} {L D : Addr} {W : List Addr} {news : List (Addr × Obj)} {v1 v2 : Value} (N : News g L h news) (hm : (D, tupO v1 v2) ∈ news) (nD : D ∉ W) : TupAt (hideAll h W) D v1 v2 := tupO_at (hideAll_get _ (N _ hm).1 nD)
theorem rows_parts {h : Heap} {a b c d : List Value} {ra rb rc rd : List Row} (x1 : TupRows h a ra) (x2 : TupRows h b rb) (x3 : TupRows h c rc) (x4 : TupRows h d rd) : TupRows h (a ++ b ++ c ++ d) (ra ++ rb ++ rc ++ rd) := ((x1.app x2).app x3).app x4
theorem rows_mid {w : World} {g h hs : Heap} {L sc c x xi dd md I D : Addr} {oI : Obj} {m : Str → Option Value} {k n : Nat} {i v i' v' : Int} {ti tv ti' tv' : Tok} {ep ep' : Nat} {o om op op4 k1 k2 k3 : Obj} {kvs kvsM : List (Str × Value)} {qs : List Addr} {tl news : List (Addr × Obj)} {us : List Value} {rws : List Row}
    (F : Fr g L h m) (N : News g L h news) (sub : ∀ p ∈ (I, oI) :: lawLed L sc c dd md i' v' ti' tv' ep' o om op op4 k1 k2 k3 tl, p ∈ news) (nI : NeAll I (lawLed L sc c dd md i v ti tv ep o om op op4 k1 k2 k3 tl)) (V : LawInv w g L c x xi dd md k o om op op4 k1 k2 k3 kvs kvsM qs tl hs)
    (hml : (D, listOf us.toArray n) ∈ news) (nD : D ∉ (I :: Zs L c dd md) ++ qs) (hr : TupRows (hideAll h ((I :: Zs L c dd md) ++ qs)) us rws) :
    ∃ tl3, News g L h ((I, oI) :: lawLed L sc c dd md i' v' ti' tv' ep' o om op op4 k1 k2 k3 tl3) ∧ NeAll I (lawLed L sc c dd md i' v' ti' tv' ep' o om op op4 k1 k2 k3 tl3) ∧ LawInv w g L c x xi dd md k o om op op4 k1 k2 k3 kvs kvsM qs tl3 (hideAll h (I :: Zs L c dd md)) ∧
      (hideAll (hideAll h (I :: Zs L c dd md)) qs).IsList D us.toArray ∧ TupRows (hideAll (hideAll h (I :: Zs L c dd md)) qs) us rws := by
  obtain ⟨tl3, N3, hNe, snap3, hex⟩ := rebase_ex F (Z := I :: Zs L c dd md) (.tail _ (.head _))
  have NI := N _ (sub _ (.head _))
  have up : hs.StaysIn (hideAll h (I :: Zs L c dd md)) := fun a ob e => by
    refine hideAll_get _ (V.snap.at_ F N (fun p hp => sub p (List.mem_cons_of_mem _ (tl_in hp))) _ _ e) fun q => ?_
    rcases List.mem_cons.mp q with q | q
    · rw [q, V.noI NI.2.2 (fun p hp => nI p (tl_in hp))] at e; cases e
    · rw [V.out a q] at e; cases e
  refine ⟨tl3, fun p hp => ?_, neAll_led nI (hNe I (.head _)), ⟨snap3, fun z hz => hNe z (.tail _ hz), fun z hz => hideAll_none _ (.tail _ hz), hex, V.c1, V.c2, V.c3, V.ho, V.hm, V.t8, V.t4, V.st.keeps up, V.qg⟩, ⟨_, hide_two _ _ (hideAll_get _ (N _ hml).1 nD), rfl, n, rfl⟩, hr.keeps hide_two⟩
  rcases List.mem_cons.mp hp with rfl | hp
  · exact NI
  · exact lawLed_mem (P := fun p => h.get? p.1 = some p.2 ∧ p.1 ≠ L ∧ g.get? p.1 = none) (N _ (sub _ (by simp [lawLed]))) (N _ (sub _ (by simp [lawLed]))) (N _ (sub _ (by simp [lawLed]))) (N _ (sub _ (by simp [lawLed]))) (N _ (sub _ (by simp [lawLed]))) (N _ (sub _ (by simp [lawLed]))) (N _ (sub _ (by simp [lawLed]))) (N _ (sub _ (by simp [lawLed]))) N3 p hp
theorem good_nil : Good 0 [] := ⟨.nil, (fun _ h => nomatch h), Nat.le_refl _⟩
theorem good_mark {ap : Str} (h : ap = sAPP ∨ ap = sOTHER) : Good 1 [(1001, ap)] := ⟨.row mark_plain .nil, fun r hr => by rw [List.mem_singleton.mp hr]; exact (app_facts h).1, Nat.le_refl _⟩
theorem good_bad : Good 1 [(70, Str.ofString "1")] := ⟨.row ⟨fun h => by rcases h with h | h <;> exact absurd (congrArg Prod.fst h) (by decide), fun h => absurd (congrArg Prod.fst h) (by decide), fun h => absurd (congrArg Prod.fst h) (by decide)⟩ .nil, fun r hr => by rw [List.mem_singleton.mp hr]; simp [vocab], Nat.le_refl _⟩
theorem good_parts {a b c d : List Row} (x1 : Good 1 a) (x2 : Good 12 b) (x3 : Good 4 c) (x4 : Good 1 d) : Good 18 (a ++ b ++ c ++ d) := ((x1.app x2).app x3).app x4
local macro_rules | `(tactic| walk_at "call ref") => `(tactic| (k_here; (with_reducible show wpAny _ _ (call (Value.ref 512) _) _ _ _); refine cut ?_))
theorem law_s2 {w : World} {s₀ s : Shared} {dp un : Nat} {p : Program} {loose : List Str} {mean : ExcName → Option Value} {mg mb : Str → Option Value} {g : Heap} {L sc c x xi dd md I : Addr} {oI : Obj} {k : Nat} {svs : List Value} {ns : List Int}
    (X : (Mine.mkK.heap_1 w.params).In g) (T : Top p loose mean mg mb g) (hd : dp + 150 < recursionLimit) (hu : un + 1500 < cLine) (O : Ord L sc c xi x dd md) (hk10 : k ≤ 10) (hlg : g.IsList sc svs.toArray) (hi : IntsAre svs ns) (hn : ns.length ≤ 63) (M : LawB0 w s₀ g L sc c x xi dd md I oI k s) :
    wpAny (model PG w) (lawA dp un L) (exec (turnAt 2) (lawEnv L)) (fun f s' => f = .next ∧ LawMid w s₀ g L sc c x xi dd md I oI k s') (fun _ _ => False) s := by
  obtain ⟨h, tk, gs, m, rfl, F, gn, mc, k0, t0, ap, nm, ta, tn, l, us, rws, i, v, ti, tv, ep, o, om, op, op4, k1, k2, k3, kvs, kvsM, qs, tl, hs, mk, hk0, hk5, map, hap, mnm, hnm, mr, N, nI, hi0, hi1, hv0, hv1, V, hl, hr, hg, h6⟩ := M
  by_cases hz : k0 = 0
  · have B := below_top (g := g) (dp := dp) (un := un)
    have D := dicts_nil (g := g)
    have e1 := V.c1
    have e2 := V.c2
    have nec : NeAll c tl := V.ne c (by simp [Zs])
    have snap := V.snap
    have G : (hideAll hs qs).StaysIn hs := fun _ _ e => of_hideAll _ e
    have hlS : hs.IsList l us.toArray := isList_keep hl G
    have hlen : us.length ≤ 12 := by
      have := hr.1
      have := hg.len
      omega
    unfold lawA lawEnv
    conv in (occs := *) lawScope => all_goals whnf
    conv => arg 3; arg 1; whnf
    have ne' := allNe_of nI
    simp only [lawLed, AllNe] at ne' N
    obtain ⟨q1, q0, q2, q3, q4, q5, q6⟩ := id O
    have nsc0 : @Ne Nat sc c := by omega
    subst hz
    k_steps
    all_goals (try exact default)
    refine Stop.mk ?_
    (with_reducible rename News g L _ _ => kN)
    (with_reducible rename Fr g L _ _ => kF)
    k_dflt ((refine' take_K (sc := sc) (i := i) (v := v) (ti := ti) (tv := tv) (ep := ep) rfl rfl B kF kN X T ?U ?l nsc0 hi hn hi0 ?h1 hv0 hv1 ?k0 ?k1 ?hd ?hu (fun d9 i9 v9 t9 u9 w9 e9 h9 tk9 p1 p2 p3 p4 p5 p6 F9 N9 => ?_)); (case U => k_updF); (case l => exact Fr.lst kF hlg); (case h1 => omega); (case k0 => omega); (case k1 => omega); (case hd => ktr_room); (case hu => ktr_units))
    clear kF kN
    (try dsimp only at N9)
    (try dsimp only)
    have h8 : d9 = 0 ∨ d9 = 1 ∨ d9 = 2 ∨ d9 = 3 ∨ d9 = 4 ∨ d9 = 5 ∨ d9 = 6 ∨ d9 = 7 := by omega
    clear p1 p2
    rcases h8 with rfl | rfl | rfl | rfl | rfl | rfl | rfl | rfl
    all_goals
      k_steps
      all_goals (try exact default)
      (with_reducible rename News g L _ _ => kN)
      (with_reducible rename Fr g L _ _ => kF)
      have up := inv_up (W := (I :: Zs L c dd md) ++ qs) kF (fun p hp => kN p ((by k_subL : ∀ p ∈ (I, oI) :: lawLed L sc c dd md i9 v9 u9 w9 e9 o om op op4 k1 k2 k3 tl, p ∈ _) p hp)) (neAll_led nI fun p hp => nI p (tl_in hp)) V (fun a ha => by rcases List.mem_append.mp ha with h | h; exact .inl h; exact .inr h)
      have off : ∀ D ob, (D, ob) ∈ _ → LtAll D tl → @LT.lt Nat instLTNat I D → @LT.lt Nat instLTNat c D → @LT.lt Nat instLTNat dd D → @LT.lt Nat instLTNat md D → @LT.lt Nat instLTNat 384 D → @LT.lt Nat instLTNat 444 D → @LT.lt Nat instLTNat (L + 1 + 1 + 1) D → D ∉ (I :: Zs L c dd md) ++ qs := fun D ob hm hT a1 a2 a3 a4 a5 a6 a7 => new_off V hT (kN _ hm).2.1 a1 a2 a3 a4 a5 a6 a7
      obtain ⟨tl3, N3, nI3, V3, hl3, hr3⟩ := rows_mid kF kN (i' := i9) (v' := v9) (ti' := u9) (tv' := w9) (ep' := e9) (by k_subL) nI V (.head _) (off _ _ (.head _) (by assumption) (by omega) (by omega) (by omega) (by omega) (by omega) (by omega) (by omega)) (rows_parts (by
        first
          | exact TupRows.nil
          | exact TupRows.cons (tup_hide kN (by k_mem) (off _ _ (by k_mem) (by assumption) (by omega) (by omega) (by omega) (by omega) (by omega) (by omega) (by omega))) TupRows.nil) (hr.keeps up) (by
        first
          | exact TupRows.nil
          | exact TupRows.cons (tup_hide kN (by k_mem) (off _ _ (by k_mem) (by assumption) (by omega) (by omega) (by omega) (by omega) (by omega) (by omega) (by omega))) (TupRows.cons (tup_hide kN (by k_mem) (off _ _ (by k_mem) (by assumption) (by omega) (by omega) (by omega) (by omega) (by omega) (by omega) (by omega))) (TupRows.cons (tup_hide kN (by k_mem) (off _ _ (by k_mem) (by assumption) (by omega) (by omega) (by omega) (by omega) (by omega) (by omega) (by omega))) (TupRows.cons (tup_hide kN (by k_mem) (off _ _ (by k_mem) (by assumption) (by omega) (by omega) (by omega) (by omega) (by omega) (by omega) (by omega))) TupRows.nil)))) (by
        first
          | exact TupRows.nil
          | exact TupRows.cons (tup_hide kN (by k_mem) (off _ _ (by k_mem) (by assumption) (by omega) (by omega) (by omega) (by omega) (by omega) (by omega) (by omega))) TupRows.nil))
      exact ⟨_, _, _, _, _, rfl, kF, N3, gn, by cell_ties, 0, t0, ap, nm, ta, tn, _, _, _, i9, v9, u9, w9, e9, o, om, op, op4, k1, k2, k3, kvs, kvsM, qs, tl3, _, by cell_ties, by omega, by omega, by cell_ties, hap, by cell_ties, hnm, by cell_ties, rfl, nI3, by omega, by omega, by omega, by omega, V3, hl3, hr3, good_parts (by first | exact good_mark hap | exact good_nil.mono (by omega)) hg (by first | exact blkA_good | exact good_nil.mono (by omega)) (by first | exact good_bad | exact good_nil.mono (by omega)), fun h => absurd rfl h⟩
  · have B := below_top (g := g) (dp := dp) (un := un)
    have D := dicts_nil (g := g)
    unfold lawA lawEnv
    conv in (occs := *) lawScope => all_goals whnf
    conv => arg 3; arg 1; whnf
    k_steps
    all_goals (try exact default)
    all_goals (try (exfalso; omega))
    (with_reducible rename News g L _ _ => kN)
    (with_reducible rename Fr g L _ _ => kF)
    exact ⟨_, _, _, _, _, rfl, kF, kN, gn, mc, k0, t0, ap, nm, ta, tn, l, us, rws, i, v, ti, tv, ep, o, om, op, op4, k1, k2, k3, kvs, kvsM, qs, tl, hs, mk, hk0, hk5, map, hap, mnm, hnm, mr, rfl, nI, hi0, by push_cast; omega, hv0, hv1, V, hl, hr, hg.mono (by omega), fun _ => h6⟩
end
section
local macro_rules | `(tactic| walk_at "call ref") => `(tactic| (k_here; (with_reducible show wpAny _ _ (call (Value.ref 543) _) _ _ _); refine cut ?_))
local macro_rules | `(tactic| walk_at "call ref") => `(tactic| (k_here; (with_reducible show wpAny _ _ (call (Value.ref 538) _) _ _ _); refine cut ?_))
theorem law_s3 {w : World} {s₀ s : Shared} {dp un : Nat} {p : Program} {loose : List Str} {mean : ExcName → Option Value} {mg mb : Str → Option Value} {g : Heap} {L sc c x xi dd md I : Addr} {oI : Obj} {k : Nat}
    (X : (Mine.mkK.heap_1 w.params).In g) (T : Top p loose mean mg mb g) (hd : dp + 150 < recursionLimit) (hu : un + 1500 < cLine) (O : Ord L sc c xi x dd md) (hk10 : k ≤ 10) (M : LawMid w s₀ g L sc c x xi dd md I oI k s) :
    wpAny (model PG w) (lawA dp un L) (exec (turnAt 3) (lawEnv L)) (fun f s' => f = .next ∧ LawPost w s₀ g L sc c x xi dd md I oI (k + 1) s') (fun _ _ => False) s := by
  obtain ⟨h, tk, gs, m, news, rfl, F, N, gn, mc, k0, t0, ap, nm, ta, tn, l, us, rws, i, v, ti, tv, ep, o, om, op, op4, k1, k2, k3, kvs, kvsM, qs, tl, hs, mk, hk0, hk5, map, hap, mnm, hnm, mr, rfl, nI, hi0, hi1, hv0, hv1, V, hl, hr, hg, h6⟩ := M
  have B := below_top (g := g) (dp := dp) (un := un)
  have D := dicts_nil (g := g)
  have e1 := V.c1
  have e2 := V.c2
  unfold lawA lawEnv
  conv in (occs := *) lawScope => all_goals whnf
  conv => arg 3; arg 1; whnf
  have ne' := allNe_of nI
  simp only [lawLed, AllNe] at ne' N
  obtain ⟨q1, q0, q2, q3, q4, q5, q6⟩ := id O
  k_steps
  all_goals (try exact default)
  refine Stop.mk ?_
  obtain ⟨cur, hc⟩ := (V.st.st ap hap).cur
  (with_reducible rename News g L _ _ => kN)
  (with_reducible rename Fr g L _ _ => kF)
  (k_dflt (refine' deed_K (i := i) (v := v) (ti := ti) (tv := tv) (ep := ep) rfl rfl B X T X T D kF kN nI V O hap hnm hl hr hg h6 hk10 rfl ?zhd ?zhu hc (fun v1 h1 tk1 gs1 o' op' op4' kvs' qs' tl1 hs1 tv1 gn1 F1 N1 LD => ?_); (case zhd => ktr_room); (case zhu => ktr_units)))
  clear kF kN
  simp only [lawLed] at N1
  k_steps
  all_goals (try exact default)
  refine Stop.mk ?_
  (with_reducible rename News g L _ _ => kN)
  (with_reducible rename Fr g L _ _ => kF)
  (k_dflt (refine' plain_K (i := i) (v := v) (ti := ti) (tv := tv) (ep := ep) rfl rfl B X T kF kN nI V O LD hap hnm hl hr hg h6 hk10 ?zhd2 ?zhu2 hc (fun v2 h2 tk2 om' kvsM' tl2 tv2 st2 F2 N2 nI2 V2 => ?_); (case zhd2 => ktr_room); (case zhu2 => ktr_units)))
  clear kF kN
  simp only [lawLed] at N2
  (try dsimp only)
  refine tells_ne tv1 tv2 st2 hc.good ?zhu3 ?_
  case zhu3 => ktr_units
  k_steps
  exact ⟨h2, tk2, gs1, m, rfl, F2, gn.trans gn1, mc, i, v, ti, tv, ep, o', om', op', op4', k1, k2, k3, kvs', kvsM', qs', tl2, _, N2, neAll_led nI nI2, hi0, by push_cast at hi1 ⊢; omega, hv0, hv1, V2⟩
end
section
local macro_rules | `(tactic| walk_at "call ref") => `(tactic| (k_here; (with_reducible show wpAny _ _ (call (Value.ref 421) _) _ _ _); refine cut ?_))
local macro_rules | `(tactic| walk_at "call builtin:sorted") => `(tactic| (k_here; k_dflt ((refine' sorted_K ?hh ?F ?N ?m ?o ?lo ?only ?_; (case hh => rfl); (case F => k_asm); (case N => k_asm); (case m => k_mem); (case o => assumption); (case lo => assumption); (case only => assumption); k_whole); intro D9 vs9 n9 h9 tk9 F9 N9 l9 s9; (try k_lt l9); (try dsimp only); (try k_sweep))))
local macro_rules | `(tactic| walk_at "call builtin:len") => `(tactic| (k_here; k_dflt (refine' call_len_dict (knd := PySem.strKind _ _) ?lo ?d ?z ?_; (case lo => assumption); (case d => exact led_dict (by k_asm) (by k_mem) (by assumption)); (case z => omega); k_whole)))
local macro_rules | `(tactic| walk_at "compareOp NotEq int int") => `(tactic| (refine cut ?_))
local macro_rules | `(tactic| walk_at "compareOp NotEq ref ref") => `(tactic| (refine cut ?_))
theorem law_s4 {w : World} {s₀ s : Shared} {dp un : Nat} {p : Program} {loose : List Str} {mean : ExcName → Option Value} {mg mb : Str → Option Value} {g : Heap} {L sc c x xi dd md I : Addr} {oI : Obj} {k : Nat}
    (X : (Mine.mkK.heap_1 w.params).In g) (T : Top p loose mean mg mb g) (hd : dp + 150 < recursionLimit) (hu : un + 1500 < cLine) (O : Ord L sc c xi x dd md) (M : LawPost w s₀ g L sc c x xi dd md I oI k s) :
    wpAny (model PG w) (lawA dp un L) (exec (turnAt 4) (lawEnv L)) (fun f s' => f = .next ∧ LawPost w s₀ g L sc c x xi dd md I oI k s') (fun _ _ => False) s := by
  obtain ⟨h, tk, gs, m, rfl, F, gn, mc, i, v, ti, tv, ep, o, om, op, op4, k1, k2, k3, kvs, kvsM, qs, tl, hs, N, nI, hi0, hi1, hv0, hv1, V⟩ := M
  have B := below_top (g := g) (dp := dp) (un := un)
  have D := dicts_nil (g := g)
  have e1 := V.c1
  have e2 := V.c2
  have ho := V.ho
  have hm := V.hm
  have hlo : (dd == sysModules) = false := not_mod (by have := O.o1; have := O.o2; have := O.o3; have := O.o4; have := O.o5; omega)
  have hlm : (md == sysModules) = false := not_mod (by have := O.o1; have := O.o2; have := O.o3; have := O.o4; have := O.o5; have := O.o6; omega)
  have only := V.st.only
  have onlyM : ∀ a ∈ kvsM.map (·.1), a = sAPP ∨ a = sOTHER := V.st.keys ▸ V.st.only
  have snap := V.snap
  have hl2 : kvs.length ≤ 2 := kvs_le ho only
  have hlM : kvsM.length = kvs.length := by
    have := congrArg List.length V.st.keys
    simpa using this.symm
  obtain ⟨t, hx1', hx2'⟩ := V.st.xd.at_
  have hx1 := of_hideAll _ hx1'
  have hx2 := of_hideAll _ hx2'
  clear hx1' hx2'
  unfold lawA lawEnv
  conv in (occs := *) lawScope => all_goals whnf
  conv => arg 3; arg 1; whnf
  have ne' := allNe_of nI
  simp only [lawLed, AllNe] at ne' N
  obtain ⟨q1, q0, q2, q3, q4, q5, q6⟩ := id O
  k_steps
  all_goals (try exact default)
  refine Stop.mk ?_
  (with_reducible rename News g L _ _ => kN)
  (with_reducible rename Fr g L _ _ => kF)
  (k_dflt (refine' lenxd_c (Rd.mk rfl rfl B kF X T (fun _ h => nomatch h)) (V.xd kF kN (by k_subL)) (kN (dd, o) (by k_mem)).1 ho hlo ?zkl ?zhd ?zhu (fun h3 tk3 t3 kp => ?_); (case zkl => omega); (case zhd => ktr_room); (case zhu => ktr_units)))
  have F3 := Mine.Fr.after kF kp (fun _ h => nomatch h)
  have N3 := News.after0 kN kp
  clear kF kN kp
  dsimp only [PySem.W.LenBack]
  refine ⟨⟨by omega, by omega⟩, ?_⟩
  (try dsimp only)
  k_steps
  refine Stop.mk ?_
  rw [hlM]
  refine ne_selves (as := []) (bs := []) (.int _ _) (.int _ _) rfl ?zhu4 ?_
  case zhu4 => ktr_units
  k_steps
  refine Stop.mk ?_
  rename StrsAre _ (srt (kvsM.map _)) => sM
  rename StrsAre _ (srt (kvs.map _)) => sK
  rw [← V.st.keys] at sM
  (with_reducible rename News g L _ _ => kN)
  refine ne_strs (isList_led kN (by k_mem)) (isList_led kN (by k_mem)) sK sM (srt_shaped only (dict_nodup ho)) ?zhu5 ?_
  case zhu5 => ktr_units
  k_steps
  (with_reducible rename Fr g L _ _ => kF)
  exact ⟨_, _, gs, m, rfl, kF, gn, mc, i, v, ti, tv, ep, o, om, op, op4, k1, k2, k3, kvs, kvsM, qs, tl, hs, fun z hz => kN z (.tail _ (.tail _ hz)), nI, hi0, hi1, hv0, hv1, V⟩
end
section
def innerAt (i : Nat) : Stmt := match turnAt 5 with
  | .For _ _ b _ _ => b.getD i (.Pass ⟨0, 0, 0, 0⟩)
  | _ => .Pass ⟨0, 0, 0, 0⟩
/-- what the inner loop knows of the application at hand -/
structure InAt (hs : Heap) (kvs kvsM : List (Str × Value)) (a : Str) (q d S : Addr) (vs ws : List Value) (n k : Nat) (rows : List Row) : Prop where
  ap : a = sAPP ∨ a = sOTHER
  q1 : valueAt kvs a = some (.ref q)
  s1 : valueAt kvsM a = some (.ref S)
  qo : hs.get? q = some (tg d vs n)
  qd : hs.get? d = some emptyDict
  tr : TagRows hs vs rows
  sl : hs.IsList S ws.toArray
  sr : TupRows hs ws rows
  good : Good (22 * k) rows
end
local macro_rules | `(tactic| walk_at "compareOp NotEq ref ref") => `(tactic| (refine cut ?_))
local macro_rules | `(tactic| walk_at "eval ListComp") => `(tactic| (k_here; refine cut ?_))
section
theorem law_in1 {w : World} {s : Shared} {dp un : Nat} {p : Program} {loose : List Str} {mean : ExcName → Option Value} {mg mb : Str → Option Value} {g : Heap} {L sc c x xi dd md I I2 q d S : Addr} {oI oI2 : Obj} {k n : Nat} {m : Str → Option Value} {i v : Int} {ti tv t : Tok} {ep : Nat} {o om op op4 k1 k2 k3 k3' : Obj} {kvs kvsM : List (Str × Value)} {qs : List Addr} {tl : List (Addr × Obj)} {hs : Heap} {a : Str} {vs ws : List Value} {rows : List Row}
    (X : (Mine.mkK.heap_1 w.params).In g) (T : Top p loose mean mg mb g) (hd : dp + 150 < recursionLimit) (hu : un + 1500 < cLine) (O : Ord L sc c xi x dd md)
    (F : Fr g L s.heap m) (N : News g L s.heap ((I2, oI2) :: (I, oI) :: lawLed L sc c dd md i v ti tv ep o om op op4 k1 k2 k3 tl)) (nI2 : NeAll I2 ((I, oI) :: lawLed L sc c dd md i v ti tv ep o om op op4 k1 k2 k3 tl)) (nI : NeAll I (lawLed L sc c dd md i v ti tv ep o om op op4 k1 k2 k3 tl))
    (V : LawInv w g L c x xi dd md k o om op op4 k1 k2 k3' kvs kvsM qs tl hs) (hk3 : k3.data = .cell (some (.str a t))) (IA : InAt hs kvs kvsM a q d S vs ws n k rows) (hk11 : k ≤ 11) :
    wpAny (model PG w) (lawA dp un L) (exec (innerAt 0) (lawEnv L)) (fun f s' => f = .next ∧ ∃ h' tk', s' = { s with heap := h', toks := tk' } ∧ Fr g L h' m ∧ News g L h' ((I2, oI2) :: (I, oI) :: lawLed L sc c dd md i v ti tv ep o om op op4 k1 k2 k3 tl)) (fun _ _ => False) s := by
  have B := below_top (g := g) (dp := dp) (un := un)
  have D := dicts_nil (g := g)
  have e1 := V.c1
  have e2 := V.c2
  have ho := V.ho
  have hm := V.hm
  have hlo : (dd == sysModules) = false := not_mod (by have := O.o1; have := O.o2; have := O.o3; have := O.o4; have := O.o5; omega)
  have hlm : (md == sysModules) = false := not_mod (by have := O.o1; have := O.o2; have := O.o3; have := O.o4; have := O.o5; have := O.o6; omega)
  have snap := V.snap
  have hx : XdAt w hs x xi dd := V.st.xd.keeps fun _ _ e => of_hideAll _ e
  obtain ⟨tt, hx1, hx2⟩ := id hx.at_
  have hq1 := IA.q1
  have hs1 := IA.s1
  have hlen : vs.length ≤ 300 := by
    have h1 := IA.tr.1
    have h2 := IA.good.len
    omega
  unfold lawA lawEnv
  conv in (occs := *) lawScope => all_goals whnf
  conv => arg 3; arg 1; whnf
  have ne2 := allNe_of nI2
  have ne' := allNe_of nI
  simp only [lawLed, AllNe] at ne' ne2 N
  obtain ⟨q1, q0, q2, q3, q4, q5, q6⟩ := id O
  k_steps
  all_goals (try exact default)
  refine Stop.mk ?_
  refine lc_eval rfl rfl (by decide) rfl (by decide) ?_
  k_steps
  all_goals (try exact default)
  (with_reducible rename News g L _ _ => kN)
  (with_reducible rename Fr g L _ _ => kF)
  refine' lc_tags (hs := hs) ?hx ?hkind ?F ?N ?X ?hlen ?hl ?hr ?step ?fin
  case F => exact kF
  case N => exact kN
  case hx => rfl
  case hkind => rfl
  case X => k_asm
  case hr => exact IA.tr
  case hl => exact fun h F N => ⟨_, _, _, snap.at_ F N (by k_subL) _ _ IA.qo⟩
  case hlen => omega
  case step =>
    intro r tg t1 t2 I3 oI3 C oC D oD nw m₂ h tk E' hrm hT hsub hC hm1 F3 N3 o3 ne3
    have snap' : Snap g nw hs := ⟨fun h' kg kt => snap.keep h' kg fun p hp => kt p (hsub p ((by k_subL : ∀ p ∈ tl, p ∈ _) p hp))⟩
    clear snap kF kN hx hx1 hx2
    k_steps
    (with_reducible rename News g L _ _ => kN)
    (with_reducible rename Fr g L _ _ => kF)
    exact LCg.CompEnd.intro kF kN _ sub_swap ⟨⟨by omega, by omega, by omega⟩, o3⟩ trivial ⟨_, _, _, rfl, rfl⟩
  case fin =>
    intro D ys tl2 h tk hTL F3 N3 o3
    have hTR := hTL.rows fun p hp => (N3 p (.tail _ (List.mem_append_left _ hp))).1
    have N4 : News g L h ((D, LCg.lst ys) :: (I2, oI2) :: (I, oI) :: lawLed L sc c dd md i v ti tv ep o om op op4 k1 k2 k3 tl) := fun p hp => by
      rcases List.mem_cons.mp hp with rfl | hp
      · exact N3 _ (.head _)
      · exact N3 p (.tail _ (List.mem_append_right _ hp))
    clear N3 kF kN
    simp only [lawLed] at N4
    k_steps
    refine Stop.mk ?_
    refine ne_rows ⟨_, (N4 _ (.head _)).1, rfl, _, rfl⟩ (isList_keep IA.sl (by k_offL)) hTR (IA.sr.keeps (by k_offL)) IA.good.ok ?zhu1 ?_
    case zhu1 => ktr_units
    have hbn : (valueAt kvs a).isSome = true := by rw [hq1]; rfl
    k_steps
    refine Stop.mk ?_
    (with_reducible rename News g L _ _ => kN)
    (with_reducible rename Fr g L _ _ => kF)
    (k_dflt (refine' con_c (Rd.mk rfl rfl B kF X T (fun _ h => nomatch h)) (hx.keeps (by k_offL)) (kN (dd, o) (by k_mem)).1 ho hlo ?zhd2 ?zhu2 (fun h4 tk4 kp => ?_); (case zhd2 => ktr_room); (case zhu2 => ktr_units)))
    have F4 := Mine.Fr.after kF kp (fun _ h => nomatch h)
    have N5 := News.after0 kN kp
    rw [hbn]
    clear kF kN kp
    k_steps
    · exact F4
    · exact fun z hz => N5 z (.tail _ hz)
end
section
section
variable {prog : Program} {w : World} {A : Around} {E : Value → Shared → Prop} {s : Shared} {env : Env} {h₀ : Heap} {L : Addr} {m : Str → Option Value}
/-- a list comprehension over a written list of two texts: one bool for each -/
theorem lc_words {elt : PySem.Expr} {x : Str} {px : Pos} {scope : Scope} {cl : List (Str × Addr)} {l : Addr} {a b : Str} {ta tb : Tok} {n : Nat} {news : List (Addr × Obj)} {f : Str → Bool} {Q : Value → Shared → Prop}
    (hx : scope.names.lookup x = some .local) (hkind : scope.kind = .function) (F : Fr h₀ L s.heap m) (N : News h₀ L s.heap ((l, listOf #[.str a ta, .str b tb] n) :: news))
    (step : ∀ (nm : Str) (t : Tok) I oI C oC D oD m₂ h tk (E' : Value → Shared → Prop), (nm = a ∨ nm = b) → LCg.NsObj oC m₂ → m₂ x = some (.str nm t) → Fr h₀ L h m → News h₀ L h ((I, oI) :: (C, oC) :: (D, oD) :: (l, listOf #[.str a ta, .str b tb] n) :: news) → LCg.Off3 I C D ((l, listOf #[.str a ta, .str b tb] n) :: news) → ((@Ne Nat I C) ∧ (@Ne Nat I D) ∧ (@Ne Nat C D)) →
      wpAny (model prog w) A (eval elt (compEnvC scope cl C env)) (LCg.CompEnd h₀ L m { s with heap := h, toks := tk } I oI C oC D oD (fun _ => True) (fun y news'' => y = .bool (f nm) ∧ news'' = (l, listOf #[.str a ta, .str b tb] n) :: news)) E' { s with heap := h, toks := tk })
    (fin : ∀ D h tk, Fr h₀ L h m → News h₀ L h ((D, LCg.lst [.bool (f a), .bool (f b)]) :: (l, listOf #[.str a ta, .str b tb] n) :: news) → Q (.ref D) { s with heap := h, toks := tk }) :
    wpAny (model prog w) A (pyIter (.ref l)) (LcIt prog w A elt (.Name x px) scope cl env Q) E s := by
  have hl : ∀ h, News h₀ L h ((l, listOf #[.str a ta, .str b tb] n) :: news) → h.IsList l ([Value.str a ta, Value.str b tb]).toArray := fun h N => ⟨_, (N _ (.head _)).1, rfl, n, rfl⟩
  have pick : ∀ {ys : List Value} {v : Value}, [Value.str a ta, Value.str b tb][ys.length]? = some v → ys = ([a, b].take ys.length).map (fun z => Value.bool (f z)) → ∃ nm t, v = .str nm t ∧ (nm = a ∨ nm = b) ∧ ys ++ [.bool (f nm)] = ([a, b].take (ys ++ [Value.bool (f nm)]).length).map fun z => Value.bool (f z) := fun {ys v} e p => by
    match ys, e, p with
    | [], e, p => cases e; exact ⟨a, ta, rfl, .inl rfl, rfl⟩
    | [y], e, p => cases e; exact ⟨b, tb, rfl, .inr rfl, by rw [p]; rfl⟩
    | _ :: _ :: _, e, p => simp at e
  refine lc_src (vs := [.str a ta, .str b tb]) (news := (l, listOf #[.str a ta, .str b tb] n) :: news) (P := fun ys nw => nw = (l, listOf #[.str a ta, .str b tb] n) :: news ∧ ys = ([a, b].take ys.length).map fun z => .bool (f z))
    (S := fun ys v m₂ => m₂ x = some v)
    (fun Q q => wpAny_pyIter_list (hl _ N) q) F N (by rw [PySem.sizeLine_eq]; simp) ⟨rfl, by simp⟩ (fun ys h nw F' N' p => ?_) (fun I v s Q E i hI q hv => lc_go_name q) (fun ys v nw C s' m' Q E hv F' N' p hn k => lc_asg_name hx hkind hn k) (fun ys v nw I oI C oC D m₂ h tk E' hv p hC hS F' N' o ne => ?_) (fun D ys h tk nw hy F' N' o p => ?_)
  · obtain ⟨rfl, -⟩ := p
    exact .of_list (hl _ N')
  · obtain ⟨rfl, py⟩ := p
    obtain ⟨nm, t, rfl, hnm, e⟩ := pick hv py
    refine wpAny_mono (step nm t I oI C oC D _ m₂ h tk E' hnm hC hS F' N' o ne) (fun y s₄ h₄ => ?_) fun _ _ e => e
    obtain ⟨h4, tk4, n4, e4, F4, N4, o4, t4, rfl, rfl⟩ := h₄
    exact ⟨h4, tk4, _, e4, F4, N4, o4, t4, rfl, e⟩
  · obtain ⟨rfl, py⟩ := p
    have e : ys = [.bool (f a), .bool (f b)] := by
      have hy' : ys.length = 2 := hy
      rw [py, hy']; rfl
    rw [e] at N'
    exact fin D h tk F' N'
theorem bools_shaped (a b : Bool) : SeqAt.shaped (.list [.bool a, .bool b]) = true := by cases a <;> cases b <;> decide +kernel
end
end
local macro_rules | `(tactic| walk_at "call ref") => `(tactic| (k_here; (with_reducible show wpAny _ _ (call (Value.ref 526) _) _ _ _); refine cut ?_))
local macro_rules | `(tactic| walk_at "eval Name") => `(tactic| (k_here; (with_reducible show wpAny _ _ (eval (Expr.Name _ _) (compEnvC _ _ _ _)) _ _ _); k_dflt (refine' ld_comp ?N ?hl ?hk ?hc ?hm ?hd ?hdb ?_; (case hl => rfl); (case hk => rfl); (case hdb => rfl); (case hc => rfl); (case N => k_asm); (case hm => k_mem); (case hd => assumption); k_whole)))
section
theorem law_in2 {w : World} {s : Shared} {dp un : Nat} {p : Program} {loose : List Str} {mean : ExcName → Option Value} {mg mb : Str → Option Value} {g : Heap} {L sc c x xi dd md I I2 q d S : Addr} {oI oI2 : Obj} {k n : Nat} {m : Str → Option Value} {i v : Int} {ti tv t : Tok} {ep : Nat} {o om op op4 k1 k2 k3 k3' : Obj} {kvs kvsM : List (Str × Value)} {qs : List Addr} {tl : List (Addr × Obj)} {hs : Heap} {a : Str} {vs ws : List Value} {rows : List Row}
    (X : (Mine.mkK.heap_1 w.params).In g) (T : Top p loose mean mg mb g) (hd : dp + 150 < recursionLimit) (hu : un + 1500 < cLine) (O : Ord L sc c xi x dd md)
    (F : Fr g L s.heap m) (N : News g L s.heap ((I2, oI2) :: (I, oI) :: lawLed L sc c dd md i v ti tv ep o om op op4 k1 k2 k3 tl)) (nI2 : NeAll I2 ((I, oI) :: lawLed L sc c dd md i v ti tv ep o om op op4 k1 k2 k3 tl)) (nI : NeAll I (lawLed L sc c dd md i v ti tv ep o om op op4 k1 k2 k3 tl))
    (V : LawInv w g L c x xi dd md k o om op op4 k1 k2 k3' kvs kvsM qs tl hs) (hk3 : k3.data = .cell (some (.str a t))) (IA : InAt hs kvs kvsM a q d S vs ws n k rows) (hk11 : k ≤ 11) :
    wpAny (model PG w) (lawA dp un L) (exec (innerAt 1) (lawEnv L)) (fun f s' => f = .next ∧ ∃ h' tk', s' = { s with heap := h', toks := tk' } ∧ Fr g L h' m ∧ News g L h' ((I2, oI2) :: (I, oI) :: lawLed L sc c dd md i v ti tv ep o om op op4 k1 k2 k3 tl)) (fun _ _ => False) s := by
  have B := below_top (g := g) (dp := dp) (un := un)
  have D := dicts_nil (g := g)
  have e1 := V.c1
  have e2 := V.c2
  have ho := V.ho
  have hm := V.hm
  have hlo : (dd == sysModules) = false := not_mod (by have := O.o1; have := O.o2; have := O.o3; have := O.o4; have := O.o5; omega)
  have hlm : (md == sysModules) = false := not_mod (by have := O.o1; have := O.o2; have := O.o3; have := O.o4; have := O.o5; have := O.o6; omega)
  have snap := V.snap
  have hx : XdAt w hs x xi dd := V.st.xd.keeps fun _ _ e => of_hideAll _ e
  obtain ⟨tt, hx1, hx2⟩ := id hx.at_
  have hq1 := IA.q1
  have hs1 := IA.s1
  have hlen : vs.length ≤ 300 := by
    have h1 := IA.tr.1
    have h2 := IA.good.len
    omega
  unfold lawA lawEnv
  conv in (occs := *) lawScope => all_goals whnf
  conv => arg 3; arg 1; whnf
  have ne2 := allNe_of nI2
  have ne' := allNe_of nI
  simp only [lawLed, AllNe] at ne' ne2 N
  obtain ⟨q1, q0, q2, q3, q4, q5, q6⟩ := id O
  k_steps
  all_goals (try exact default)
  refine Stop.mk ?_
  refine lc_eval rfl rfl (by decide) rfl (by decide) ?_
  k_steps
  all_goals (try exact default)
  (with_reducible rename News g L _ _ => kN)
  (with_reducible rename Fr g L _ _ => kF)
  refine' lc_words (f := fun nm => (spanFrom nm rows 0).isSome) ?hx ?hkind ?F ?N ?step ?fin
  case F => exact kF
  case N => exact kN
  case hx => rfl
  case hkind => rfl
  case step =>
    intro nm tn I3 oI3 C oC D9 oD m₂ h tk E' hnm hC hm1 F3 N3 o3 ne3
    obtain ⟨n1, n2, n3, n4, n5⟩ := nm_facts hnm
    obtain ⟨av, a1, a2, a3⟩ := app_facts IA.ap
    clear kF kN
    k_steps
    refine Stop.mk ?_
    (with_reducible rename News g L _ _ => kN)
    (with_reducible rename Fr g L _ _ => kF)
    have up : hs.StaysIn h := by k_offL
    (k_dflt (refine' hxl_c (q := q) (vs := vs) (rows := rows) (Rc.mk rfl rfl B kF X T X T D (fun _ h => nomatch h)) (hx.keeps up) (kN (dd, o) (by k_mem)).1 ho hlo (.inr hq1) (fun _ => ⟨⟨some d, n, _, up _ _ IA.qo⟩, IA.tr.keeps up, IA.good.ok, by have := IA.good.len; omega, IA.good.wf.names n5⟩) n1 n4 a3 ?zhd ?zhu (fun b h3 tk3 kf eb => ?_); (case zhd => ktr_room); (case zhu => ktr_units)))
    have F4 := fr_keepF kF kf (fun _ h => nomatch h)
    have N4 := news_keepF kN kf (fun _ _ h => nomatch h)
    rw [hq1] at eb
    have eb' : b = (spanFrom nm rows 0).isSome := eb
    subst eb'
    clear kF kN kf eb up
    k_steps
    (with_reducible rename News g L _ _ => kN)
    (with_reducible rename Fr g L _ _ => kF)
    exact LCg.CompEnd.intro kF kN _ (fun p hp => hp) o3 trivial ⟨rfl, rfl⟩
  case fin =>
    intro D1 h tk F3 N3
    clear kF kN
    k_steps
    refine Stop.mk ?_
    refine lc_eval rfl rfl (by decide) rfl (by decide) ?_
    k_steps
    all_goals (try exact default)
    (with_reducible rename News g L _ _ => kN)
    (with_reducible rename Fr g L _ _ => kF)
    refine' lc_words (f := fun nm => (spanFrom nm rows 0).isSome) ?hx2 ?hkind2 ?F2 ?N2 ?step2 ?fin2
    case F2 => exact kF
    case N2 => exact kN
    case hx2 => rfl
    case hkind2 => rfl
    case step2 =>
      intro nm tn I3 oI3 C oC D9 oD m₂ h tk E' hnm hC hm1 F3 N3 o3 ne3
      obtain ⟨n1, n2, n3, n4, n5⟩ := nm_facts hnm
      clear kF kN
      k_steps
      refine Stop.mk ?_
      (with_reducible rename News g L _ _ => kN)
      (with_reducible rename Fr g L _ _ => kF)
      have up : hs.StaysIn h := by k_offL
      (k_dflt (refine' span_K rfl rfl B kF kN X T (isList_keep IA.sl up) (IA.sr.keeps up) IA.good.ok n1 ?zhl ?zhd ?zhu (fun en h3 tk3 F4 N4 => ?_) (fun a3 b3 en y3 oy3 t13 t23 n3 h3 tk3 F4 N4 ny hc3 hd3 => ?_); (case zhl => (have := IA.good.len; omega)); (case zhd => ktr_room); (case zhu => ktr_units)))
      · clear kF kN up
        k_steps
        (with_reducible rename News g L _ _ => kN)
        (with_reducible rename Fr g L _ _ => kF)
        exact LCg.CompEnd.intro kF kN _ (fun p hp => hp) o3 trivial ⟨by rw [en]; rfl, rfl⟩
      · clear kF kN up
        k_steps
        (with_reducible rename News g L _ _ => kN)
        (with_reducible rename Fr g L _ _ => kF)
        exact LCg.CompEnd.intro kF kN _ (fun p hp => .tail _ hp) o3 trivial ⟨by rw [en]; rfl, rfl⟩
    case fin2 =>
      intro D2 h tk F3 N3
      clear kF kN
      k_steps
      refine Stop.mk ?_
      refine ne_selves (as := [D1]) (bs := [D2]) (.list (as := []) (N3 _ (.tail _ (.tail _ (.head _)))).1 rfl rfl (.cons (as := []) (bs := []) (.bool _) (.cons (as := []) (bs := []) (.bool _) .nil))) (.list (as := []) (N3 _ (.head _)).1 rfl rfl (.cons (as := []) (bs := []) (.bool _) (.cons (as := []) (bs := []) (.bool _) .nil))) (bools_shaped _ _) ?zhu9 ?_
      case zhu9 => ktr_units
      k_steps
      · exact F3
      · exact fun z hz => N3 z (.tail _ (.tail _ (.tail _ (.tail _ hz))))
end
section
theorem law_s5 {w : World} {s₀ s : Shared} {dp un : Nat} {p : Program} {loose : List Str} {mean : ExcName → Option Value} {mg mb : Str → Option Value} {g : Heap} {L sc c x xi dd md I : Addr} {oI : Obj} {k : Nat}
    (X : (Mine.mkK.heap_1 w.params).In g) (T : Top p loose mean mg mb g) (hd : dp + 150 < recursionLimit) (hu : un + 1500 < cLine) (O : Ord L sc c xi x dd md) (hk11 : k ≤ 11) (M : LawPost w s₀ g L sc c x xi dd md I oI k s) :
    wpAny (model PG w) (lawA dp un L) (exec (turnAt 5) (lawEnv L)) (fun f s' => f = .next ∧ LawPost w s₀ g L sc c x xi dd md I oI k s') (fun _ _ => False) s := by
  obtain ⟨h, tk, gs, m, rfl, F, gn, mc, i, v, ti, tv, ep, o, om, op, op4, k1, k2, k3, kvs, kvsM, qs, tl, hs, N, nI, hi0, hi1, hv0, hv1, V⟩ := M
  obtain ⟨p1, p2, p3, e⟩ : ∃ p1 p2 p3, turnAt 5 = .For (.Name (Str.ofString "one") p1) (.Name (Str.ofString "model") p2) [innerAt 0, innerAt 1] [] p3 := ⟨_, _, _, rfl⟩
  rw [e]
  have hlm : (md == sysModules) = false := not_mod (by have := O.o1; have := O.o2; have := O.o3; have := O.o4; have := O.o5; have := O.o6; omega)
  have onlyM : ∀ a ∈ kvsM.map (·.1), a = sAPP ∨ a = sOTHER := V.st.keys ▸ V.st.only
  obtain ⟨v3, hv3⟩ := V.c3
  have O' := O
  obtain ⟨q1, q0, q2, q3, q4, q5, q6⟩ := O'
  have nz3 : NeAll (L + 1 + 1 + 1) tl := V.ne _ (by simp [Zs])
  refine for_keysC (env := lawEnv L) (g := g) (cN := L + 1 + 1 + 1) F PassesOwn.never rfl rfl rfl rfl ?_ (fun _ => rfl)
  refine ldCN (c := L + 1 + 1) N rfl (o := k2) (by simp [lawLed]) V.c2 ?_ rfl rfl rfl
  refine ⟨⟨md, om, kvsM, m, fun k => (I, oI) :: lawLed L sc c dd md i v ti tv ep o om op op4 k1 k2 k tl, k3, v3, rfl, F, N, fun k => by simp [lawLed], hv3, fun k => ?_, V.hm, hlm, ?_, ?_⟩⟩
  · refine .tail (fun e => nI (L + 1 + 1 + 1, k3) (by simp [lawLed]) e.symm) (.tail ?_ (.tail ?_ (.tail ?_ (.tail ?_ (.tail ?_ (.head fun p hp => ?_))))))
    · change @Ne Nat _ _; omega
    · change @Ne Nat _ _; omega
    · change @Ne Nat _ _; omega
    · change @Ne Nat _ _; omega
    · change @Ne Nat _ _; omega
    · rcases List.mem_cons.mp hp with rfl | hp
      · change @Ne Nat _ _; omega
      rcases List.mem_cons.mp hp with rfl | hp
      · change @Ne Nat _ _; omega
      · exact nz3 p hp
  · intro I2 oI2 k' a t h2 tk2 ha hne hdk F2 N2
    have hap := onlyM a ha
    have hS : (valueAt kvsM a).isSome = true := keys_has.mpr ha
    rcases V.st.st a hap with ⟨_, e2⟩ | ⟨q, d, vs, n, S, ws, rows, e1, e2, e3, e4, e5, e6, e7, e8, e9, e10⟩
    · rw [e2] at hS; cases hS
    · have G : (hideAll hs qs).StaysIn hs := fun _ _ e => of_hideAll _ e
      have IA : InAt hs kvs kvsM a q d S vs ws n k rows := ⟨hap, e1, e2, e4, G _ _ e5, e6.keeps G, isList_keep e7 G, e8.keeps G, e9⟩
      refine cut_first _ (law_in1 X T hd hu O F2 N2 hne (neAll_led nI fun p hp => nI p (tl_in hp)) V hdk IA hk11) ?_
      rintro s3 ⟨h3, tk3, rfl, F3, N3⟩
      refine cut_first _ (law_in2 X T hd hu O F3 N3 hne (neAll_led nI fun p hp => nI p (tl_in hp)) V hdk IA hk11) ?_
      rintro s4 ⟨h4, tk4, rfl, F4, N4⟩
      refine wpAny_execs_nil ?_
      exact ⟨h4, tk4, rfl, F4, N4⟩
  · intro k' v' h2 tk2 hdk F2 N2
    exact ⟨rfl, h2, tk2, gs, m, rfl, F2, gn, mc, i, v, ti, tv, ep, o, om, op, op4, k1, k2, k', kvs, kvsM, qs, tl, hs, N2, neAll_led nI fun p hp => nI p (tl_in hp), hi0, hi1, hv0, hv1, ⟨V.snap, V.ne, V.out, V.ex, V.c1, V.c2, ⟨v', hdk⟩, V.ho, V.hm, V.t8, V.t4, V.st, V.qg⟩⟩
end
section
theorem law_c {w : World} {s : Shared} {R : Result → Shared → Prop} {dp un : Nat} {sc : Addr} {svs : List Value} {ns : List Int} {p : Program} {loose : List Str} {mean : ExcName → Option Value} {mg mb : Str → Option Value} {ps ps4 : Array Value}
  (X : (Mine.mkK.heap_1 w.params).In (hideAll s.heap [384, 444])) (T : Top p loose mean mg mb (hideAll s.heap [384, 444])) (hc8 : IsCT s.heap 388 384 ps) (hc4 : IsCT s.heap 448 444 ps4)
  (hl : (hideAll s.heap [384, 444]).IsList sc svs.toArray) (hi : IntsAre svs ns) (hn : ns.length ≤ 63) (hlim : s.heap.NoLimit) (hd : dp + 150 < recursionLimit) (hu : un + 1500 < cLine)
  (hret : ∀ h' tk' (gs' : Array GenState), (hideAll s.heap [384, 444]).StaysIn h' → GN s.gens gs' → (∃ ps, IsCT h' 388 384 ps) → (∃ ps, IsCT h' 448 444 ps) → R (.ok (.ret (.bool true))) { s with heap := h', toks := tk', gens := gs' }) :
  codeAny (model PG w) ⟨none, dp, some [], some [], un⟩ (.call (.ref 548) ⟨[.ref sc], []⟩) R s := by
  obtain ⟨op, h384⟩ := code_tab hc8
  obtain ⟨op4, h444⟩ := code_tab hc4
  obtain ⟨oc8, hoc8⟩ : ∃ oc, (hideAll s.heap [384, 444]).get? 388 = some oc := ⟨_, X _ _ (by k_is)⟩
  obtain ⟨oc4, hoc4⟩ : ∃ oc, (hideAll s.heap [384, 444]).get? 448 = some oc := ⟨_, X _ _ (by k_is)⟩
  have tab8 := TabOk.of_code (g := hideAll s.heap [384, 444]) hc8 (fun a o e => of_hideAll _ e) hoc8 h384
  have tab4 := TabOk.of_code (g := hideAll s.heap [384, 444]) hc4 (fun a o e => of_hideAll _ e) hoc4 h444
  generalize hg0 : hideAll s.heap [384, 444] = g at X T hl hret hoc8 hoc4 tab8 tab4
  have gs : g.StaysIn s.heap := fun a o e => of_hideAll _ (hg0 ▸ e)
  have B := below_top (g := g) (dp := dp) (un := un)
  have D := dicts_nil (g := g)
  refine call_cellsN_ret (by show dp < recursionLimit; omega) (X.keeps gs _ _ (by k_is)) rfl hlim (codeRec_of (X.keeps gs) (by k_is)) rfl (kinds_of (by kinds_ok)) (by decide) fun h₁ tk₁ cells F0 N0 X0 => ?_
  obtain ⟨o1, o2, o3, he, d1, d2, d3⟩ := PyProof.Rows.CellsAre.three X0
  subst he
  have d1' : o1.data = .cell none := d1
  have d2' : o2.data = .cell none := d2
  have d3' : o3.data = .cell none := d3
  clear d1 d2 d3 X0
  generalize hL : s.heap.objs.size = L at F0 N0
  have F : Fr g L h₁ _ := ⟨F0.ns, fun b o e => F0.keep _ _ (gs _ _ e), by rw [← hg0, hideAll_size, hL]; exact Nat.le_refl _⟩
  have lt0 : ∀ a o, s.heap.get? a = some o → @LT.lt Nat instLTNat a L := fun a o e => by rw [← hL]; exact Heap.lt_size e
  have N : News g L h₁ [(L + 1 + 1 + 1, o1), (L + 1 + 1, o2), (L + 1, o3), (384, op), (444, op4)] := fun q hq => by
    simp only [List.mem_cons, List.not_mem_nil, or_false] at hq
    have g0 : ∀ a, s.heap.get? a = none → g.get? a = none := fun a e => by
      cases z : g.get? a with
      | none => rfl
      | some ob => rw [gs _ _ z] at e; cases e
    rcases hq with rfl | rfl | rfl | rfl | rfl
    · exact ⟨(N0 _ (.head _)).1, (N0 _ (.head _)).2.1, g0 _ (N0 _ (.head _)).2.2⟩
    · exact ⟨(N0 _ (.tail _ (.head _))).1, (N0 _ (.tail _ (.head _))).2.1, g0 _ (N0 _ (.tail _ (.head _))).2.2⟩
    · exact ⟨(N0 _ (.tail _ (.tail _ (.head _)))).1, (N0 _ (.tail _ (.tail _ (.head _)))).2.1, g0 _ (N0 _ (.tail _ (.tail _ (.head _)))).2.2⟩
    · exact ⟨F0.keep _ _ h384, Nat.ne_of_lt (lt0 _ _ h384), by rw [← hg0]; exact hideAll_none _ (by simp)⟩
    · exact ⟨F0.keep _ _ h444, Nat.ne_of_lt (lt0 _ _ h444), by rw [← hg0]; exact hideAll_none _ (by simp)⟩
  have l3 := lt0 _ _ h384
  have l4 := lt0 _ _ h444
  have n9 : @Ne Nat 384 444 := by decide
  have lsc : @LT.lt Nat instLTNat sc L := by
    obtain ⟨_, e, _⟩ := hl
    exact lt0 _ _ (gs _ _ e)
  clear F0 N0 hg0 lt0
  (try k_fold)
  k_steps
  all_goals (try exact default)
  (with_reducible rename IsRange _ _ _ _ _ _ _ _ => kR)
  (with_reducible rename News g L _ _ => kN)
  (with_reducible rename Fr g L _ _ => kF)
  obtain ⟨n9, hn9⟩ := range_n kR (by omega)
  obtain ⟨c, x, xi, dd, md, om, tl, hs, mc, O, N5, inv⟩ := law_init (w := w) (sc := sc) kF kN (by assumption) (by assumption) (by assumption) (by assumption) tab8 tab4 ⟨by omega, by omega, by omega, by omega, by omega, by omega, by omega⟩ rfl
  obtain ⟨q1, q0, q2, q3, q4, q5, q6⟩ := O
  refine ⟨⟨_, _, _, _, _, _, n9, _, _, fun k m news gs => LawJ w s.gens g L sc c x xi dd md k m news gs, rfl, kR, small_one (by omega) (by omega) (by omega) (by omega), rsize _ _ _ (by omega), kF, N5, ?_, ?_, ?_⟩⟩
  · exact ⟨GN.refl _, mc, _, _, _, _, _, _, _, _, _, _, _, _, _, _, _, _, _, rfl, by omega, by omega, by omega, by omega, inv⟩
  · rintro I k t m₁ news₁ h tk gs' hk ne ⟨gn, mc, i, v, ti, tv, ep, o, om, op, op4, k1, k2, k3, kvs, kvsM, qs, tl, hs, rfl, hi0, hi1, hv0, hv1, inv⟩ F₁ N₁
    have hk10 : k ≤ 10 := by omega
    have F1 : Fr g L h _ := F₁
    have N1 : News g L h ((I, rIter (0 + ((k : Int) + 1)) ((n9 : Int) - ((k : Int) + 1))) :: lawLed L sc c dd md i v ti tv ep o om op op4 k1 k2 k3 tl) := N₁
    have O : Ord L sc c xi x dd md := ⟨q1, q0, q2, q3, q4, q5, q6⟩
    clear F₁ N₁ kF kN N5
    refine cut_pre (xs := [turnAt 0, turnAt 1]) (rest := [turnAt 2, turnAt 3, turnAt 4, turnAt 5]) (LawB0 w s g L sc c x xi dd md I (rIter (0 + ((k : Int) + 1)) ((n9 : Int) - ((k : Int) + 1))) k) (wpAny_mono (law_s01 (dp := dp) (un := un) X T hd hu O hk10 hl hi hn F1 gn (by cell_ties) N1 ne hi0 hi1 hv0 hv1 inv) (fun _ _ e => e) fun _ _ e => e.elim) fun s1 m1 => ?_
    refine cut_first (LawMid w s g L sc c x xi dd md I (rIter (0 + ((k : Int) + 1)) ((n9 : Int) - ((k : Int) + 1))) k) (wpAny_mono (law_s2 (dp := dp) (un := un) X T hd hu O hk10 hl hi hn m1) (fun _ _ e => e) fun _ _ e => e.elim) fun s2 m2 => ?_
    refine cut_first (LawPost w s g L sc c x xi dd md I (rIter (0 + ((k : Int) + 1)) ((n9 : Int) - ((k : Int) + 1))) (k + 1)) (wpAny_mono (law_s3 (dp := dp) (un := un) X T hd hu O hk10 m2) (fun _ _ e => e) fun _ _ e => e.elim) fun s3 m3 => ?_
    refine cut_first (LawPost w s g L sc c x xi dd md I (rIter (0 + ((k : Int) + 1)) ((n9 : Int) - ((k : Int) + 1))) (k + 1)) (wpAny_mono (law_s4 (dp := dp) (un := un) X T hd hu O m3) (fun _ _ e => e) fun _ _ e => e.elim) fun s4 m4 => ?_
    refine cut_first (LawPost w s g L sc c x xi dd md I (rIter (0 + ((k : Int) + 1)) ((n9 : Int) - ((k : Int) + 1))) (k + 1)) (wpAny_mono (law_s5 (dp := dp) (un := un) X T hd hu O (by omega) m4) (fun _ _ e => e) fun _ _ e => e.elim) fun s5 m5 => ?_
    refine wpAny_execs_nil ?_
    obtain ⟨h5, tk5, gs5, m5', rfl, F5, gn5, mc5, i5, v5, ti5, tv5, ep5, o5, om5, op5, op45, k15, k25, k35, kvs5, kvsM5, qs5, tl5, hs5, N5, nI5, hi05, hi15, hv05, hv15, V5⟩ := m5
    exact EndC.put (lawLed L sc c dd md i5 v5 ti5 tv5 ep5 o5 om5 op5 op45 k15 k25 k35 tl5) F5 N5 (.head _) (fun p hp => .tail _ hp) nI5 ⟨gn5, mc5, i5, v5, ti5, tv5, ep5, o5, om5, op5, op45, k15, k25, k35, kvs5, kvsM5, qs5, tl5, hs5, rfl, hi05, hi15, hv05, hv15, V5⟩
  · rintro m₁ news₁ h tk gs' ⟨gn, mc, i, v, ti, tv, ep, o, om, op, op4, k1, k2, k3, kvs, kvsM, qs, tl, hs, rfl, hi0, hi1, hv0, hv1, inv⟩ F₁ N₁
    clear kF kN N5
    have F1 : Fr g L h m₁ := F₁
    have N1 : News g L h (lawLed L sc c dd md i v ti tv ep o om op op4 k1 k2 k3 tl) := N₁
    clear F₁ N₁
    have e1 := inv.c1
    have e2 := inv.c2
    have hvn : valueAt kvs (Str.ofString "NONE") = none := none_key inv.st.only (by decide) (by decide)
    have hbn : (valueAt kvs (Str.ofString "NONE")).isSome = false := by rw [hvn]; rfl
    have hlo : (dd == sysModules) = false := not_mod (by omega)
    have ho := inv.ho
    have snap := inv.snap
    obtain ⟨t, hx1', hx2'⟩ := inv.st.xd.at_
    have hx1 := of_hideAll _ hx1'
    have hx2 := of_hideAll _ hx2'
    clear hx1' hx2'
    k_steps
    refine Stop.mk ?_
    (with_reducible rename News g L _ _ => kN)
    (with_reducible rename Fr g L _ _ => kF)
    have hxd := inv.xd kF kN (by k_subL)
    (k_dflt (refine' hxl_c (q := 0) (vs := []) (rows := []) (Rc.mk rfl rfl B kF X T X T D (fun _ h => nomatch h)) hxd (kN (dd, o) (by k_mem)).1 ho hlo (.inl hvn) (fun z => absurd (hvn.symm.trans z) (by simp)) (by decide +kernel) (by decide) (by decide) ?zhd ?zhu (fun b h3 tk3 kf eb => ?_); (case zhd => ktr_room); (case zhu => ktr_units)))
    have F3 := fr_keepF kF kf (fun _ h => nomatch h)
    have N3 := news_keepF kN kf (fun _ _ h => nomatch h)
    rw [hvn] at eb
    have eb' : b = false := eb
    subst eb'
    clear kF kN kf eb hxd
    k_steps
    refine Stop.mk ?_
    (with_reducible rename News g L _ _ => kN)
    (with_reducible rename Fr g L _ _ => kF)
    have hxd := inv.xd kF kN (by k_subL)
    (k_dflt (refine' con_c (Rd.mk rfl rfl B kF X T (fun _ h => nomatch h)) hxd (kN (dd, o) (by k_mem)).1 ho hlo ?zhd2 ?zhu2 (fun h4 tk4 kp => ?_); (case zhd2 => ktr_room); (case zhu2 => ktr_units)))
    have F4 := Mine.Fr.after kF kp (fun _ h => nomatch h)
    have N4 := News.after0 kN kp
    rw [hbn]
    clear kF kN kp hxd
    have z8 := tab_code inv.t8 F4.keep (N4 (384, op) (by k_mem)).1
    have z4 := tab_code inv.t4 F4.keep (N4 (444, op4) (by k_mem)).1
    k_steps
    exact hret h4 _ gs' F4.keep gn z8 z4
end
section
local macro_rules | `(tactic| k_head) => `(tactic| o_head (kmHook Mine.mkK.heap_1 [2, 3, 15, 17, 18, 20, 21, 22, 30, 31, 33, 34, 36, 37, 38, 40, 41, 43, 44, 45, 47, 48, 50, 51, 52, 54, 55, 57, 58, 59, 60, 62, 63, 65, 66, 67, 68, 70, 71, 73, 74, 75, 77, 78, 80, 81, 82, 84, 85, 87, 88, 89, 91, 92, 94, 95, 96, 98, 99, 101, 102, 103, 105, 106, 108, 109, 110, 112, 113, 114, 115, 118, 120, 121, 123, 124, 125, 132, 133, 134, 135, 138, 145, 146, 147, 150, 157, 158, 159, 162, 169, 171, 172, 174, 175, 176, 177, 178, 179, 181, 182, 184, 185, 186, 188, 189, 191, 192, 193, 195, 196, 198, 199, 200, 202, 203, 205, 206, 207, 209, 210, 212, 213, 214, 215, 217, 218, 220, 221, 222, 223, 225, 226, 228, 229, 230, 232, 233, 235, 236, 237, 238, 240, 241, 243, 244, 245, 247, 248, 250, 251, 252, 254, 255, 257, 258, 259, 261, 262, 264, 265, 266, 268, 269, 271, 272, 273, 275, 276, 278, 279, 280, 281, 283, 284, 286, 287, 288, 290, 291, 293, 294, 295, 297, 298, 300, 301, 302, 303, 304, 305, 307, 308, 310, 311, 312, 314, 315, 317, 318, 319, 321, 322, 324, 325, 326, 328, 329, 331, 332, 333, 334, 335, 336, 337, 340, 341, 342, 344, 345, 347, 348, 349, 351, 352, 354, 355, 356, 358, 359, 361, 362, 363, 370, 371, 372, 373, 376, 378, 379, 381, 382, 383, 385, 386, 388, 389, 397, 398, 400, 401, 403, 404, 405, 407, 408, 410, 411, 412, 413, 414, 415, 417, 418, 420, 421, 422, 424, 425, 427, 428, 429, 431, 432, 434, 435, 436, 438, 439, 441, 442, 443, 445, 446, 448, 449, 450, 452, 453, 455, 456, 457, 459, 460, 462, 463, 464, 466, 467, 469, 470, 471, 473, 474, 476, 477, 478, 480, 481, 483, 484, 485, 487, 488, 490, 491, 492, 494, 495, 497, 498, 499, 500, 501, 502, 503, 506, 508, 509, 511, 512, 513, 515, 516, 518, 519, 520, 522, 523, 525, 526, 527, 530, 531, 532, 534, 535, 537, 538, 539, 542, 543, 544, 547, 548] (fun _ => by kernel_rfl) [384, 444]))
open_top hdM for PySem.Challenge.rw_fy0014_01
end
section
/-- what the law's walk asks of the ground, over a ground without the two tables -/
def barePG : Program := { PG with main := { PG.main with body := [.Import [⟨"sys", none, ⟨0, 0, 0, 0⟩⟩] ⟨0, 0, 0, 0⟩] } }
theorem hide_data {h : Heap} (h8 : h.get? 384 = some (tabObj #[])) (h4 : h.get? 444 = some (tabObj #[])) {a : Addr} {o : Obj} (e : h.get? a = some o) (n : ∀ ps, o.data ≠ .fields ps) : (hideAll h [384, 444]).get? a = some o := by
  refine hideAll_get _ e fun m => ?_
  simp only [List.mem_cons, List.not_mem_nil, or_false] at m
  rcases m with rfl | rfl
  · rw [h8] at e; cases e; exact n _ rfl
  · rw [h4] at e; cases e; exact n _ rfl
theorem hide_ns {h : Heap} (h8 : h.get? 384 = some (tabObj #[])) (h4 : h.get? 444 = some (tabObj #[])) {a : Addr} {m : Str → Option Value} (x : h.Ns a m) : (hideAll h [384, 444]).Ns a m := by
  obtain ⟨o, es, ep, e, d, r⟩ := x
  exact ⟨o, es, ep, hide_data h8 h4 e (by rw [d]; nofun), d, r⟩
theorem top_weak {p : Program} {loose : List Str} {mean : ExcName → Option Value} {mg mb : Str → Option Value} {h : Heap} (T : Top p loose mean mg mb h) (h8 : h.get? 384 = some (tabObj #[])) (h4 : h.get? 444 = some (tabObj #[])) :
    Top barePG (loose ++ (recsOf p).map (·.name) ++ (litsOf p).map (·.1) ++ (clssOf p loose).map (·.name)) mean mg mb (hideAll h [384, 444]) where
  g := hide_ns h8 h4 T.g
  b := hide_ns h8 h4 T.b
  nolimit := let ⟨mc, a, b⟩ := T.nolimit; ⟨mc, hide_ns h8 h4 a, b⟩
  nodigits := let ⟨mc, a, b⟩ := T.nodigits; ⟨mc, hide_ns h8 h4 a, b⟩
  fn := fun d hd => nomatch (show d ∈ ([] : List DefRec) from hd)
  own := fun d hd => nomatch (show d ∈ ([] : List OwnSpec) from hd)
  const := fun x d e => nomatch (show (none : Option PyData) = some d from e)
  free := fun x a b _ _ _ => by
    simp only [List.mem_append, not_or] at b
    exact T.free x a b.1.1.1 b.1.1.2 b.1.2 b.2
  builtins := T.builtins
  tab := fun d hd => nomatch (show d ∈ ([] : List DefRec) from hd)
  bmain := let ⟨bm, ob, h1, h2, h3, h5, h6, h7⟩ := T.bmain; ⟨bm, ob, h1, h2, hide_data h8 h4 h3 (by rw [h7]; nofun), h5, h6, h7⟩
  seer := fun e => absurd e (by decide)
theorem bad_addrs {a : Addr} {o : Obj} {P : Params} (e : (Mine.mkK.heap_1 P).lookup a = some o) : a ∉ ([384, 444] : List Addr) := fun m => by
  simp only [List.mem_cons, List.not_mem_nil, or_false] at m
  rcases m with rfl | rfl
  · have z : (Mine.mkK.heap_1 P).lookup 384 = none := by kernel_rfl
    rw [z] at e; cases e
  · have z : (Mine.mkK.heap_1 P).lookup 444 = none := by kernel_rfl
    rw [z] at e; cases e
theorem tab_old {h h' : Heap} {c P : Addr} {ps : Array Value} (x : IsCT h c P #[]) (y : IsCT h' c P ps) : asItWas h h' P (tabObj #[]) :=
  .inr (.inl ⟨x.tab.isCodeTable, rfl, #[], ps, rfl, by rw [Array.empty_append]; exact y.get⟩)
theorem law_holds : PySem.Challenge.rw_fy0014_01.Holds := hdM (by
  intro w s₀ s₁ mg mb G Y fa o pm cd doc dV kV ho hd hcd hD hmg hg args vals as hpre hlay hrd hwl hlo
  have KX := km_in_of Y
  have hT8 := km_tabs_of Y
  have h8 := hT8 384 (by decide)
  have h4 := hT8 444 (by decide)
  refine Ground.open G ?_
  intro T B D TE TW
  wrow_args hpre hlay hrd hwl hlo
  x_fa T KX hmg
  clear hd hcd hD
  rename Heap.IsList s₁.heap _ _ => hL
  rename IntsAre _ _ => hI
  rename ¬ (_ < _) => hcond
  have hn := hcond
  refine enter_call ?_
  have c8 : IsCT s₁.heap 388 384 #[] := ⟨(codeHd_of_K KX (by kernel_rfl)).code h8 trivial, (codeHd_of_K KX (by kernel_rfl)).tab h8⟩
  have c4 : IsCT s₁.heap 448 444 #[] := ⟨(codeHd_of_K KX (by kernel_rfl)).code h4 trivial, (codeHd_of_K KX (by kernel_rfl)).tab h4⟩
  refine law_c (dp := 1 + claimMargin) (un := 4) (fun a o e => hideAll_get _ (KX a o e) (bad_addrs e)) (top_weak T h8 h4) c8 c4 ?_ hI (by omega) T.nolimit (by decide) (by decide) fun h' tk' gs' st gn x8 x4 => ?_
  · obtain ⟨ob, e, a, n, d⟩ := hL
    exact ⟨ob, hide_data h8 h4 e (by rw [d]; nofun), a, n, d⟩
  · obtain ⟨ps8, x8⟩ := x8
    obtain ⟨ps4, x4⟩ := x4
    have old : ∀ b ob, s₁.heap.get? b = some ob → asItWas s₁.heap h' b ob := fun b ob e => by
      by_cases q8 : b = 384
      · subst q8
        rw [h8] at e; cases e
        exact tab_old c8 x8
      by_cases q4 : b = 444
      · subst q4
        rw [h4] at e; cases e
        exact tab_old c4 x4
      exact .inl (st b ob (hideAll_get _ e (by simp [q8, q4])))
    have there : ∀ b ob, s₁.heap.get? b = some ob → ∃ o', h'.get? b = some o' := fun b ob e => by
      by_cases q8 : b = 384
      · exact ⟨_, q8 ▸ x8.get⟩
      by_cases q4 : b = 444
      · exact ⟨_, q4 ▸ x4.get⟩
      exact ⟨_, st b ob (hideAll_get _ e (by simp [q8, q4]))⟩
    refine ⟨.inl ⟨.bool true, .bool true, [], rfl, fun _ => rfl, .bool true, ?_, fun _ => ⟨.nil, fun _ h => nomatch h⟩⟩, ⟨old, there⟩, rfl, gn.bare (by rw [hg]; exact fun x h => by simp at h)⟩
    wrow_post)
end
end Mine
theorem PySem.Challenge.cw_fy0014_01_holds : PySem.Challenge.rw_fy0014_01.Holds := by
  exact Mine.law_holds
