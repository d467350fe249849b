import PyProof.Rows.All
import Wide.All
import OpenK.AllK
import Wide.FinOn
import PyProof.ExcStrCall
import PyProof.ExcStrAll.ValueError
import PySem.Challenge.RW_dw0040_01
set_option Elab.async false
set_option maxRecDepth 100000
set_option linter.unusedVariables false
section
open PySem PySem.W PyProof.Rows
set_option maxHeartbeats 8000000
namespace Mine
/-- The text without its two settings of a name that nothing reads. -/
noncomputable def view : Program :=
  { PySem.Challenge.pw_dw0040_01 with main := { PySem.Challenge.pw_dw0040_01.main with
      body := (PySem.Challenge.pw_dw0040_01.main.body.take 10).tail ++ PySem.Challenge.pw_dw0040_01.main.body.drop 11 } }
theorem left_of_boot {p q : Program} {loose : List Str} {Xt : Shared → Bool} {α : Type} {Yf : Shared → α} {Ya : World → α} {N : Nat} {g0 : Bool}
    (e : opening p = plainProg p.main.scope.names) (hN : Nat.ble 600 N = true) (f : ∀ s, fenceModules? p s = some s)
    (h : ∀ (w : World) (os : OsState), (topFrom treeTable p w N ⟨boot_heap w.params, Array.mk [], boot_drawn, boot_toks, os⟩).map (fun s => (openSeen q loose (importedModules p.main.body) Xt g0 s, Yf s)) = some (openGood q loose, Ya w)) :
    LeftO p q loose Xt Yf Ya N g0 := fun w => by
  obtain ⟨s, hs, hv⟩ := Option.map_eq_some_iff.mp (boot_open e hN f w)
  obtain ⟨hp, gs, dr, tk, os⟩ := s
  have h1 := congrArg Prod.fst hv
  have h2 := congrArg (fun x => x.2.1) hv
  have h3 := congrArg (fun x => x.2.2.1) hv
  have h4 := congrArg (fun x => x.2.2.2) hv
  dsimp only at h1 h2 h3 h4
  subst h1 h2 h3 h4
  unfold openEnds
  rw [hs]
  exact h w os
/-- The head of the row, from the top's run, the promise and the walk. -/
theorem head_row (H : Hook) {d : DefRec} {kwd : List (Str × Expr)} (k1 : PySem.Challenge.rw_dw0040_01.row.wellSaid = true)
    (left : LeftO PySem.Challenge.pw_dw0040_01 view [Str.ofString "ArgumentDescriptor"] (fun s => xlAt view [] s && recOk PySem.Challenge.rw_dw0040_01.row.toRowW.records s) H.obs H.val 1716)
    (hdef : defOf view PySem.Challenge.rw_dw0040_01.row.toRowW.name = some (d, kwd))
    (hp : PySem.Challenge.pw_dw0040_01.theDef PySem.Challenge.rw_dw0040_01.row.toRowW.name = some (d.params, d.body, d.scope))
    (hk : kwWritten? d.params.kwonlyargs d.params.kw_defaults = some kwd)
    (hw : PySem.Challenge.rw_dw0040_01.row.toRowW.promised)
    (hc : WalkO view [Str.ofString "ArgumentDescriptor"] (XL view []) H.says PySem.Challenge.rw_dw0040_01.row.toRowW d kwd fun f vs => PySem.call f vs) :
    PySem.Challenge.rw_dw0040_01.row.Holds :=
  holds_open left H.of H.keeps (fun s e => xl_of s (Bool.and_eq_true_iff.mp e).1) XL.keeps hdef hp hk (fun s e => recFacts_of (Bool.and_eq_true_iff.mp e).2) (by rfl) k1 (by decide +kernel) ⟨rfl, rfl, rfl, rfl, rfl, by decide +kernel⟩ hw hc
section
local macro_rules | `(tactic| o_head $H) => `(tactic| (
  refine head_row $H (by assumption) ?hl (by rfl) (by rfl) (by rfl) ?hw ?hc
  (case hl =>
      refine left_of_boot (by kernel_rfl) (by decide) (fun s => by kernel_rfl) fun w os => ?_
      unfold topFrom
      rw [PySem.W.Fast.te14082659384304107361, PySem.W.Fast.te4187177175401517315, PySem.W.Fast.te14364793385576792824]
      kernel_rfl)
  (all_goals (rename_i said; clear said))))
open_top hd for PySem.Challenge.rw_dw0040_01
end
end Mine
end
section
open PySem PySem.W PyProof.Rows PySem.Calls PySem.Spec
set_option maxHeartbeats 2000000
namespace Mine

/-- the loose names of the ground -/
noncomputable abbrev LL : List Str :=
  looseW view [Str.ofString "ArgumentDescriptor"] ++ List.map (fun x => x.name) (recsOf view) ++
        List.map (fun x => x.fst) (litsOf view) ++
      List.map (fun x => x.name) (clssOf view (looseW view [Str.ofString "ArgumentDescriptor"]))

/-- what stands at the ground, for good -/
structure Amb (w : World) (mean : ExcName → Option Value) (mg mb : Str → Option Value) (h : Heap) : Prop where
  X : (hd.heap_39 w.params).In h
  T : Top topProg LL mean mg mb h
  c1 : CodeHd h 90 88
  c2 : CodeHd h 80 76

section
variable {w : World} {mean : ExcName → Option Value} {mg mb : Str → Option Value} {h h' : Heap}
theorem Amb.keeps (Y : Amb w mean mg mb h) (k : h.StaysIn h') : Amb w mean mg mb h' :=
  ⟨Y.X.keeps k, Y.T.keeps k, Y.c1.keeps k, Y.c2.keeps k⟩
end

noncomputable abbrev adrs (l : List Env) : List Addr := l.filterMap (·.frame)

/-- the ledger's entries are laid apart from the ground and from the stack -/
noncomputable def Laid (G : Heap) (frames : List Env) (h : Heap) (S : List (Addr × Obj)) : Prop :=
  ∀ p ∈ S, h.get? p.1 = some p.2 ∧ G.get? p.1 = none ∧ p.1 ∉ adrs frames

/-- all stands as it stood, but at S -/
noncomputable def KeepBut (S : List Addr) (h h' : Heap) : Prop := ∀ b o, b ∉ S → h.get? b = some o → h'.get? b = some o

theorem KeepBut.refl {S : List Addr} {h : Heap} : KeepBut S h h := fun _ _ _ e => e
theorem KeepBut.trans {S : List Addr} {h h' h'' : Heap} (a : KeepBut S h h') (b : KeepBut S h' h'') : KeepBut S h h'' :=
  fun x o hx e => b x o hx (a x o hx e)
theorem KeepBut.mono {S T : List Addr} {h h' : Heap} (a : KeepBut S h h') (hs : ∀ x ∈ S, x ∈ T) : KeepBut T h h' :=
  fun x o hx e => a x o (fun q => hx (hs x q)) e

/-- a call has been entered: g is the ground of its frame at L -/
structure Entered (A : Around) (G : Heap) (frames : List Env) (h₀ : Heap) (S : List (Addr × Obj)) (g : Heap) (L : Addr) : Prop where
  B : Below A G frames g
  keep : ∀ b o, b ∉ S.map (·.1) → h₀.get? b = some o → g.get? b = some o
  back : ∀ b o, g.get? b = some o → h₀.get? b = some o
  lt : ∀ p ∈ S, p.1 < L
  new : h₀.get? L = none
  laid : Laid G frames h₀ S
  room : h₀.objs.size ≤ L

section
variable {A : Around} {G h₀ g h : Heap} {frames : List Env} {S news : List (Addr × Obj)} {L : Addr} {m : Str → Option Value} {T : List Addr}
theorem Entered.keepBut (x : Entered A G frames h₀ S g L) (F : Fr g L h m) (hs : ∀ p ∈ S, p.1 ∉ T → h.get? p.1 = some p.2) : KeepBut T h₀ h := fun b o hb e => by
  by_cases q : b ∈ S.map (·.1)
  · obtain ⟨p, hp, rfl⟩ := List.mem_map.mp q
    have e5 := (x.laid p hp).1.symm.trans e
    cases e5
    exact hs p hp hb
  · exact F.keep b o (x.keep b o q e)
end

/-- an object that is no code record -/
noncomputable def NoCode (o : Obj) : Prop := ∀ vs q t, o.data = .fields vs → vs[1]? ≠ some (.str q t)
theorem code_keep {h h' : Heap} {T : List Addr} {cv : Value} {q : Str} (x : h.CodeRec cv q) (k : KeepBut T h h') (hn : ∀ a ∈ T, ∀ o, h.get? a = some o → NoCode o) : h'.CodeRec cv q := by
  obtain ⟨c, o, vs, t, e1, e2, e3, e4⟩ := x
  exact ⟨c, o, vs, t, e1, k c o (fun q => hn c q o e2 vs _ t e3 e4) e2, e3, e4⟩
theorem Entered.code {A : Around} {G h₀ g : Heap} {frames : List Env} {S : List (Addr × Obj)} {L : Addr} {cv : Value} {q : Str} (x : Entered A G frames h₀ S g L) (c : h₀.CodeRec cv q) (hn : ∀ p ∈ S, NoCode p.2) : g.CodeRec cv q := by
  refine code_keep (T := S.map (·.1)) c (fun b o hb e => x.keep b o hb e) fun a ha o e => ?_
  obtain ⟨p, hp, rfl⟩ := List.mem_map.mp ha
  have := (x.laid p hp).1.symm.trans e
  cases this
  exact hn p hp
theorem noCode_dict {es : List DictEntry} {n : Nat} : NoCode (dictOf es n) := fun _ _ _ e => by cases e
theorem noCode_inst {C d : Addr} : NoCode (instObj C d) := fun _ _ _ e => by cases e
theorem noCode_func {oc : Value} {od : Option Addr} {fd : FuncData} {sl : Array (Option Value)} : NoCode ⟨oc, od, .func fd, sl⟩ := fun _ _ _ e => by cases e
theorem noCode_cell {o : Obj} {v : Option Value} (h : o.data = .cell v) : NoCode o := fun _ _ _ e => by rw [h] at e; cases e
theorem noCode_tab {ps : Array Value} (ht : TriplesOk ps.toList) : NoCode (tabObj ps) := fun vs q t e h => by
  cases e
  rw [← Array.getElem?_toList] at h
  unfold TriplesOk at ht
  split at ht
  · rename_i e; rw [e] at h; cases h
  · rename_i e; rw [e] at h; cases h
  · exact ht

section
variable {prog : Program} {w : World} {A : Around} {G : Heap} {frames : List Env} {s : Shared} {S : List (Addr × Obj)}
  {R : Result → Shared → Prop} {name qual : Str} {params : Arguments} {body : List Stmt} {scope : Scope} {cl : List (Str × Addr)} {dV kV doc pm cdv ct : Value} {an : Option Addr} {fo : Obj} {f : Addr} {args : Args} {binds : List (Str × Value)}

theorem below_hide (B : Below A G frames s.heap) (hS : Laid G frames s.heap S) : Below A G frames (hideAll s.heap (S.map (·.1))) := by
  refine ⟨B.stack, fun b o e => hideAll_get _ (B.stays b o e) fun q => ?_, funFrames_hideAll B.frames fun env he a ha hf => ?_⟩
  · obtain ⟨p, hp, rfl⟩ := List.mem_map.mp q
    rw [(hS p hp).2.1] at e; cases e
  · obtain ⟨p, hp, rfl⟩ := List.mem_map.mp ha
    exact (hS p hp).2.2 (List.mem_filterMap.mpr ⟨env, he, hf⟩)

theorem get_end (h : Heap) : h.get? h.objs.size = none := Heap.get?_none_of_le (Nat.le_refl _)

theorem entered (B : Below A G frames s.heap) (hS : Laid G frames s.heap S) : Entered A G frames s.heap S (hideAll s.heap (S.map (·.1))) s.heap.objs.size :=
  ⟨below_hide B hS, fun b o hb e => hideAll_get _ e hb, fun b o e => of_hideAll _ e, fun p hp => Heap.lt_size (hS p hp).1, get_end _, hS, Nat.le_refl _⟩

theorem entered_fr {L : Addr} {h₁ : Heap} {m : Str → Option Value} (B : Below A G frames s.heap) (hS : Laid G frames s.heap S) (hL : s.heap.objs.size = L) (hns : h₁.Ns L m) (st : s.heap.StaysIn h₁) : ∃ g, Entered A G frames s.heap S g L ∧ Fr g L h₁ m := by
  subst hL
  exact ⟨_, entered B hS, hns, fun b o e => st b o (of_hideAll _ e), Nat.le_of_eq (hideAll_size _ _)⟩

/-- into a def without cells of its own, from a state -/
theorem enter (B : Below A G frames s.heap) (hS : Laid G frames s.heap S) (NL : G.NoLimit)
    (ho : s.heap.get? f = some fo) (hd : fo.data = .func (fnX name qual params body scope cl dV kV doc pm an cdv ct)) (hcd : s.heap.CodeRec cdv qual) (hroom : A.depth < recursionLimit)
    (hbind : BindsTo s (fnX name qual params body scope cl dV kV doc pm an cdv ct) args binds) (hloc : ∀ y ∈ binds, scope.names.lookup y.1 = some .local)
    (h : ∀ g L' h₁, Entered A G frames s.heap S g L' → Fr g L' h₁ (fun y => binds.reverse.lookup y) → News g L' h₁ S →
      wpAny (model prog w) (A.deeper (envX qual scope L' f cdv cl)) (execs body (envX qual scope L' f cdv cl))
        (fun fl s' => R (.ok (.ret (match fl with | .ret v => v | _ => .none))) s')
        (fun e s' => wpAny (model prog w) (A.deeper (envX qual scope L' f cdv cl)) (leaving (envX qual scope L' f cdv cl) e) (fun _ s'' => R (.error e) s'') (fun e' s'' => R (.error e') s'') s')
        { s with heap := h₁, toks := s.toks + binds.length })
    (hcell : ∀ x ∈ scope.names, x.2 ≠ .cell) (hco : scope.isCoroutine = false := by rfl) (hgen : scope.isGenerator = false := by rfl) (hk : scope.kind = .function := by rfl) : codeAny (model prog w) A (.call (.ref f) args) R s := by
  refine codeAny_call_def (fd := fnX name qual params body scope cl dV kV doc pm an cdv ct) (body := body) (binds := binds) hroom ho hd (NL.keeps B.stays) hcd rfl hbind hcell hloc (fun h₁ hns hk₁ => ?_) hco hgen hk
  exact h _ s.heap.objs.size h₁ (entered B hS) ⟨hns, fun b o e => hk₁ b o (of_hideAll _ e), Nat.le_of_eq (hideAll_size _ _)⟩
    (fun p hp => ⟨hk₁ _ _ (hS p hp).1, Nat.ne_of_lt (Heap.lt_size (hS p hp).1), hideAll_none _ (List.mem_map_of_mem hp)⟩)

/-- into a lambda -/
theorem enterE {e : Expr} {binds : List (Str × Value)} (B : Below A G frames s.heap) (hS : Laid G frames s.heap S) (NL : G.NoLimit)
    (ho : s.heap.get? f = some fo) (hd : fo.data = .func (kla_fn name qual params e scope cl pm cdv ct)) (hcd : s.heap.CodeRec cdv qual) (hroom : A.depth < recursionLimit)
    (hbind : bindArgs (kla_fn name qual params e scope cl pm cdv ct) args = pure binds) (hloc : ∀ y ∈ binds, scope.names.lookup y.1 = some .local)
    (h : ∀ g L' h₁, Entered A G frames s.heap S g L' → Fr g L' h₁ (fun y => binds.reverse.lookup y) → News g L' h₁ S →
      wpAny (model prog w) (A.deeper (envX qual scope L' f cdv cl)) (eval e (envX qual scope L' f cdv cl))
        (fun v s' => R (.ok (.ret v)) s')
        (fun e s' => wpAny (model prog w) (A.deeper (envX qual scope L' f cdv cl)) (leaving (envX qual scope L' f cdv cl) e) (fun _ s'' => R (.error e) s'') (fun e' s'' => R (.error e') s'') s')
        { s with heap := h₁, toks := s.toks + binds.length })
    (hcell : ∀ x ∈ scope.names, x.2 ≠ .cell) (hco : scope.isCoroutine = false := by rfl) (hgen : scope.isGenerator = false := by rfl) (hk : scope.kind = .function := by rfl) : codeAny (model prog w) A (.call (.ref f) args) R s := by
  refine kla_callFunE hroom ho hd hco hgen rfl hcd ?_
  rw [hbind]
  refine wpAny_pure (wpAny_newFunctionEnv hcell hloc (fun h₁ hns hsb => ⟨(NL.keeps B.stays).fresh _ hsb, ?_⟩) hk)
  have hk₁ : ∀ b o, s.heap.get? b = some o → h₁.get? b = some o := fun b o e => hsb.extBut b o (Nat.ne_of_lt (Heap.lt_size e)) (Heap.get?_push_of_some _ e)
  exact kla_codeExpr (h _ s.heap.objs.size h₁ (entered B hS) ⟨hns, fun b o e => hk₁ b o (of_hideAll _ e), Nat.le_of_eq (hideAll_size _ _)⟩
    (fun p hp => ⟨hk₁ _ _ (hS p hp).1, Nat.ne_of_lt (Heap.lt_size (hS p hp).1), hideAll_none _ (List.mem_map_of_mem hp)⟩))

/-- into a def with cells of its own -/
theorem enterC (B : Below A G frames s.heap) (hS : Laid G frames s.heap S) (NL : G.NoLimit)
    (ho : s.heap.get? f = some fo) (hd : fo.data = .func (fnX name qual params body scope [] dV kV doc pm an cdv ct)) (hcd : s.heap.CodeRec cdv qual) (hroom : A.depth < recursionLimit)
    (hbind : BindsTo s (fnX name qual params body scope [] dV kV doc pm an cdv ct) args binds)
    (hkind : (binds.all fun y => scope.names.lookup y.1 == some .local || scope.names.lookup y.1 == some .cell) = true)
    (hnd : ((cellsFrom 0 scope.names []).map (·.1)).Nodup)
    (h : ∀ g L' h₁ tk cells, Entered A G frames s.heap S g L' → Fr g L' h₁ (bindL (envOfC qual scope L' f cdv).kindOf binds fun _ => none) → News g L' h₁ (cells ++ S) →
      CellsAre (bindC (envOfC qual scope L' f cdv).kindOf binds fun _ => none) (cellsFrom (L' + 1) scope.names []) cells →
      wpAny (model prog w) (A.deeper (envOfC qual scope L' f cdv)) (execs body (envOfC qual scope L' f cdv))
        (fun fl s' => R (.ok (.ret (match fl with | .ret v => v | _ => .none))) s')
        (fun e s' => wpAny (model prog w) (A.deeper (envOfC qual scope L' f cdv)) (leaving (envOfC qual scope L' f cdv) e) (fun _ s'' => R (.error e) s'') (fun e' s'' => R (.error e') s'') s')
        { s with heap := h₁, toks := tk })
    (hco : scope.isCoroutine = false := by rfl) (hgen : scope.isGenerator = false := by rfl) (hk : scope.kind = .function := by rfl) : codeAny (model prog w) A (.call (.ref f) args) R s := by
  refine codeAny_call_function hroom ho hd hco hgen rfl hcd (hbind _ _ _ _ ?_)
  refine wpAny_newFunctionEnv_cells hk (kindsX hkind _) fun env' he s' x => ?_
  subst he
  refine ⟨(NL.keeps B.stays).keeps x.toInCall.keep, codeAny_func ?_⟩
  obtain ⟨h₁, tk, rfl, _⟩ := x.done
  have hk₁ := x.toInCall.keep
  obtain ⟨cells, NC, Y⟩ := Cl.news (h₀ := s.heap) (Nat.le_refl _) fun n c hm => ⟨x.cell n c (lookup_of_mem_nodup (cellsFrom_names scope.names 0 (s.heap.objs.size + 1) [] [] rfl ▸ hnd) hm), x.above n c hm⟩
  refine h _ s.heap.objs.size h₁ tk cells (entered B hS) ⟨x.toInCall.ns, fun b o e => hk₁ b o (of_hideAll _ e), Nat.le_of_eq (hideAll_size _ _)⟩ (fun p hp => ?_) Y
  rcases List.mem_append.mp hp with hp | hp
  · refine ⟨(NC p hp).1, (NC p hp).2.1, ?_⟩
    cases q : (hideAll s.heap (S.map (·.1))).get? p.1 with
    | none => rfl
    | some o => have := of_hideAll _ q; rw [(NC p hp).2.2] at this; cases this
  · exact ⟨hk₁ _ _ (hS p hp).1, Nat.ne_of_lt (Heap.lt_size (hS p hp).1), hideAll_none _ (List.mem_map_of_mem hp)⟩
end

theorem with_frames {M : Model} {α : Type} {A : Around} {G g : Heap} {frames : List Env} {env : Env} {t : Sem α} {Q : α → Shared → Prop} {E : Value → Shared → Prop} {s : Shared} (B : Below A G frames g)
    (h : (A.deeper env).frames = some (env :: frames) → wpAny M (A.deeper env) t Q E s) : wpAny M (A.deeper env) t Q E s := h (Around.frames_deeper B.stack)

/-- a ValueError on its way out of the frames of a call: h is the heap at the call, S what the call may turn, S' what it has turned -/
noncomputable def Flies (h : Heap) (S : List Addr) (l : List Env) (S' : List (Addr × Obj)) (txt : Str) (e : Value) (h' : Heap) : Prop :=
  ∃ B ea t tk, e = .ref ea ∧ Heap.FlyingW B l ea (.type "ValueError") (.ref t) h' ∧ h'.TupAt t [.str txt tk] ∧ B.get? t = none ∧
    (∀ b o, b ∉ S → b ∉ adrs l → h.get? b = some o → B.get? b = some o) ∧ (∀ p ∈ S', B.get? p.1 = some p.2) ∧
    ∀ a ∈ adrs l, ∀ o, h.get? a = some o → ∃ sl, h'.get? a = some { o with slots := sl }

/-- the same, whatever its mark of flight -/
noncomputable def FliesAny (h : Heap) (S : List Addr) (l : List Env) (S' : List (Addr × Obj)) (txt : Str) (e : Value) (h' : Heap) : Prop :=
  ∃ B ea t tk fl, e = .ref ea ∧ (B.StaysIn h' ∧ B.get? ea = none ∧ h'.FunFrames B l ∧ h'.TracedAtW B ea (.type "ValueError") (.ref t) fl) ∧ h'.TupAt t [.str txt tk] ∧ B.get? t = none ∧
    (∀ b o, b ∉ S → b ∉ adrs l → h.get? b = some o → B.get? b = some o) ∧ (∀ p ∈ S', B.get? p.1 = some p.2) ∧
    ∀ a ∈ adrs l, ∀ o, h.get? a = some o → ∃ sl, h'.get? a = some { o with slots := sl }
theorem Flies.any {h : Heap} {S : List Addr} {l : List Env} {S' : List (Addr × Obj)} {txt : Str} {e : Value} {h' : Heap} (x : Flies h S l S' txt e h') : FliesAny h S l S' txt e h' := by
  obtain ⟨B, ea, t, tk, rfl, ⟨k1, k2, k3, k4⟩, f2, f3, f4, f5, f6⟩ := x
  exact ⟨B, ea, t, tk, _, rfl, ⟨k1, k2, k3, k4.at⟩, f2, f3, f4, f5, f6⟩

section
variable {M : Model} {A : Around} {E : Value → Shared → Prop} {s : Shared}
/-- a frame is left, whatever the mark of flight -/
theorem leaving_any {base : Heap} {env : Env} {outer : List Env} {L e : Addr} {cls a0 fl : Value} {Q : Unit → Shared → Prop}
    (hfr : A.frames = some (env :: outer)) (hl : s.heap.FunFrames base (env :: outer)) (hf : env.frame = some L) (ht : s.heap.TracedAtW base e cls a0 fl) (hkb : base.StaysIn s.heap) (hen : base.get? e = none)
    (h : ∀ h', Heap.FlyingW base outer e cls a0 h' → s.heap.UpToSlots h' → Q () { s with heap := h' }) : wpAny M A (leaving env (.ref e)) Q E s := by
  by_cases hq : fl = rawInt L
  · subst hq
    unfold leaving
    refine wpAny_bind (wpAny_noteFrame_againW hf ht ?_)
    refine wpAny_landsW ⟨hkb, hen, hl, ht⟩ fun h' hfl hu => ?_
    obtain ⟨k1, k2, ⟨_, _, k3⟩, k4⟩ := hfl
    exact h h' ⟨k1, k2, k3, k4⟩ hu
  · obtain ⟨oe, vs, T, oT, ts, he, ⟨hcls, h0⟩, hd, h1, hnT, hTe, hT, hdT, h3⟩ := ht
    subst hcls
    unfold leaving noteFrame
    simp only [hf]
    refine wpAny_bind (wpAny_bind (wpAny_field he hd h1 ?_))
    rw [if_pos (show (Value.ref T != Value.none) = true from by simp)]
    refine wpAny_bind (wpAny_field hT hdT h3 ?_)
    rw [if_neg (show ¬ ((fl == rawInt L) = true) from fun q => hq (eq_of_beq q))]
    refine wpAny_bind (wpAny_setField hT hdT (Array.getElem?_eq_some_iff.mp h3).1 ?_)
    have other : ∀ b, b ≠ T → (s.heap.update T (Obj.mapFields (·.setIfInBounds 3 Value.none))).get? b = s.heap.get? b := fun b hb => Heap.get?_update_other _ _ (Ne.symm hb)
    have noRec : ∀ b o, s.heap.get? b = some o → (∀ vs, o.data ≠ .fields vs) → b ≠ T := fun b o hb hnf q => by
      rw [q, hT] at hb; cases hb; exact hnf ts hdT
    refine wpAny_newEntryW hfr (hl.of_keeps fun b o hb hnf => ⟨o, (other b (noRec b o hb hnf)).trans hb, rfl⟩) hf ((other e (Ne.symm hTe)).trans he)
      (fun b o hbo => (other b fun q => by rw [q, hnT] at hbo; cases hbo).trans (hkb b o hbo)) hen hd (Array.getElem?_eq_some_iff.mp h1).1 h0 fun h' hL => ?_
    obtain ⟨k1, ⟨_, _, k2⟩, k3, k4⟩ := hL
    exact h h' ⟨k1, hen, k2, k3⟩ fun b o hb hnf => k4 b o ((other b (noRec b o hb hnf)).trans hb) hnf
end

section
variable {g h h' : Heap} {L : Addr} {m : Str → Option Value} {S : List Addr} {news : List (Addr × Obj)}
theorem fr_keep (F : Fr g L h m) (k : KeepBut S h h') (hL : L ∉ S) (hg : ∀ a ∈ S, g.get? a = none) : Fr g L h' m := by
  obtain ⟨oL, es, ep, ho, r⟩ := F.ns
  exact ⟨⟨oL, es, ep, k L oL hL ho, r⟩, fun b o e => k b o (fun q => by rw [hg b q] at e; cases e) (F.keep b o e), F.above⟩
theorem news_keep (N : News g L h news) (k : KeepBut S h h') (hn : ∀ p ∈ news, p.1 ∉ S) : News g L h' news :=
  fun p hp => ⟨k _ _ (hn p hp) (N p hp).1, (N p hp).2⟩
theorem laid_news {A : Around} {G : Heap} {outer : List Env} {env : Env} (B : Below A G outer g) (N : News g L h news) (hf : env.frame = some L) : Laid G (env :: outer) h news := fun p hp => by
  refine ⟨(N p hp).1, fresh_of_stays B.stays (N p hp).2.2, fun q => ?_⟩
  obtain ⟨ev, he, hq⟩ := List.mem_filterMap.mp q
  rcases List.mem_cons.mp he with rfl | he
  · exact (N p hp).2.1 (Option.some.inj (hq.symm.trans hf))
  · obtain ⟨o, ho, _⟩ := (B.frames.mem (List.mem_filterMap.mpr ⟨ev, he, hq⟩)).2
    rw [(N p hp).2.2] at ho; cases ho
end

section
variable {M : Model} {A : Around} {E : Value → Shared → Prop} {s' : Shared} {G g h h₀ : Heap} {frames : List Env} {env : Env} {L e : Addr} {m : Str → Option Value} {Q : Unit → Shared → Prop} {S S' : List (Addr × Obj)} {T : List Addr} {txt : Str} {tk : Tok}
/-- the first frame that a raised ValueError leaves -/
theorem leave_first (x : Entered A G frames h₀ S g L) (F : Fr g L h m) (hf : env.frame = some L) (hke : env.scope.kind = .function)
    (hx : Heap.MadeExcOf h s'.heap e (.type "ValueError") [.str txt tk]) (hs : ∀ p ∈ S, p.1 ∉ T → h.get? p.1 = some p.2)
    (hS' : ∀ p ∈ S', h.get? p.1 = some p.2 ∧ p.1 ≠ L ∧ p.1 ∉ adrs frames)
    (hT : ∀ a ∈ adrs frames, a ∉ T)
    (hQ : ∀ h', Flies h₀ T frames S' txt (.ref e) h' → Q () { s' with heap := h' }) :
    wpAny M (A.deeper env) (leaving env (.ref e)) Q E s' := by
  have kb := x.keepBut F hs
  have K' := pushX x.B F hf hke
  have hin : ∀ ev ∈ (env :: frames), ∀ b, ev.frame = some b → b ∈ adrs (env :: frames) := fun ev he b hb => List.mem_filterMap.mpr ⟨ev, he, hb⟩
  have hadr : adrs (env :: frames) = L :: adrs frames := by simp [adrs, List.filterMap_cons, hf]
  refine wpAny_leaves_madeW (base := hideAll h (adrs (env :: frames))) K'.stack hf (fun b o q => of_hideAll _ q) (funFrames_hide K'.frames hin) hx fun h' t x1 x2 x3 x4 => ?_
  refine hQ h' ⟨_, e, t, tk, rfl, x1, x2, x3, fun b o hb hbf q => hideAll_get _ (kb b o hb q) ?_, fun p hp => hideAll_get _ (hS' p hp).1 ?_, fun a ha o q => ?_⟩
  · rw [hadr]; intro hm
    rcases List.mem_cons.mp hm with rfl | hm
    · rw [x.new] at q; cases q
    · exact hbf hm
  · rw [hadr]; intro hm
    rcases List.mem_cons.mp hm with hm | hm
    · exact (hS' p hp).2.1 hm
    · exact (hS' p hp).2.2 hm
  · have q1 := kb a o (hT a ha) q
    obtain ⟨_, o', ho', hn⟩ := x.B.frames.mem ha
    have q2 := F.keep a o' ho'
    rw [q1] at q2; cases q2
    exact x4 a o (hx.keeps a o q1) hn

/-- every further one -/
theorem leave_next {S₁ : List (Addr × Obj)} {T₁ : List Addr} {h₁ : Heap} {ev : Value} (x : Entered A G frames h₀ S g L) (F : Fr g L h₁ m) (hf : env.frame = some L) (hke : env.scope.kind = .function)
    (hfl : FliesAny h₁ T₁ (env :: frames) S₁ txt ev s'.heap) (hs : ∀ p ∈ S, p.1 ∉ T → h₁.get? p.1 = some p.2)
    (hTT : ∀ a ∈ T₁, a ∈ T ∨ h₀.get? a = none)
    (hS' : ∀ p ∈ S', p ∈ S₁ ∨ (h₁.get? p.1 = some p.2 ∧ p.1 ∉ T₁ ∧ p.1 ≠ L ∧ p.1 ∉ adrs frames))
    (hT : ∀ a ∈ adrs frames, a ∉ T)
    (hQ : ∀ h', Flies h₀ T frames S' txt ev h' → Q () { s' with heap := h' }) :
    wpAny M (A.deeper env) (leaving env ev) Q E s' := by
  have kb := x.keepBut F hs
  have K' := pushX x.B F hf hke
  have hadr : adrs (env :: frames) = L :: adrs frames := by simp [adrs, List.filterMap_cons, hf]
  obtain ⟨B, ea, t, tk, fl, rfl, ⟨g1, g2, g3, g4⟩, f2, f3, f4, f5, f6⟩ := hfl
  refine leaving_any K'.stack g3 hf g4 g1 g2 fun h' y1 y2 => ?_
  have back : ∀ a o, h₀.get? a = some o → a ∉ T → a ∉ T₁ := fun a o q hn hm => by
    rcases hTT a hm with q' | q'
    · exact hn q'
    · rw [q'] at q; cases q
  refine hQ h' ⟨B, ea, t, tk, rfl, y1, f2.of_slots y2, f3, fun b o hb hbf q => f4 b o (back b o q hb) ?_ (kb b o hb q), fun p hp => ?_, fun a ha o q => ?_⟩
  · rw [hadr]; intro hm
    rcases List.mem_cons.mp hm with rfl | hm
    · rw [x.new] at q; cases q
    · exact hbf hm
  · rcases hS' p hp with q | q
    · exact f5 p q
    · refine f4 _ _ q.2.1 ?_ q.1
      rw [hadr]; intro hm
      rcases List.mem_cons.mp hm with hm | hm
      · exact q.2.2.1 hm
      · exact q.2.2.2 hm
  · have q1 := kb a o (hT a ha) q
    obtain ⟨_, o', ho', hn⟩ := x.B.frames.mem ha
    have q2 := F.keep a o' ho'
    rw [q1] at q2; cases q2
    obtain ⟨sl, q3⟩ := f6 a (by rw [hadr]; exact List.mem_cons_of_mem _ ha) o q1
    obtain ⟨sl', q4⟩ := y2 a _ q3 hn
    exact ⟨sl', q4⟩
end

/-! names of the program's parts, taken out of the row's own text -/
noncomputable def stAt (n : Nat) : Stmt := PySem.Challenge.pw_dw0040_01.main.body.getD n (.Pass ⟨0, 0, 0, 0⟩)
noncomputable def bodyOf : Stmt → List Stmt
  | .FunctionDef _ _ b .. => b
  | _ => []
noncomputable def parsOf : Stmt → Arguments
  | .FunctionDef _ a .. => a
  | _ => ⟨[], [], none, [], [], none, []⟩
noncomputable def scopeOf : Stmt → Scope
  | .FunctionDef _ _ _ _ _ _ s _ _ _ => s
  | _ => default
noncomputable def readDef : Stmt := (bodyOf (stAt 11)).getD 1 (.Pass ⟨0, 0, 0, 0⟩)
noncomputable def readBody : List Stmt := bodyOf readDef
noncomputable def readPars : Arguments := parsOf readDef
noncomputable def readScope : Scope := scopeOf readDef
noncomputable def readQual : Str := Str.ofString "_law_stream.<locals>._law_read"
end Mine
end
theorem Mine.anewBase : True ∧ True := by
  have h : True ∧ True := ⟨trivial, trivial⟩
  first | (walk1; done) | exact h
section
open PySem PySem.W PyProof.Rows PySem.Calls PySem.Spec
set_option maxHeartbeats 2000000
namespace Mine
theorem prime1 : (hd.heap_39, PySem.Challenge.rw_dw0040_01) = (hd.heap_39, PySem.Challenge.rw_dw0040_01) := by k_fill; rfl

/-- a stream's own data -/
structure StD where
  x : Addr
  dx : Addr
  fn : Addr
  c : Addr
  cc : Addr
  hv : Int
  hr : Int
  t1 : Tok
  t3 : Tok
  doc : Value
  pm : Value
  ctv : Value
  oc : Obj

noncomputable def StD.Ok (d : StD) : Prop := d.oc.data = .cell (some (.ref d.x))

noncomputable def StD.dict (d : StD) (bs : List UInt8) (t2 : Tok) : Obj := dictOf [⟨d.hv, .str (Str.ofString "value") d.t1, .bytes bs.toArray t2⟩, ⟨d.hr, .str (Str.ofString "read") d.t3, .ref d.fn⟩] 2
noncomputable def StD.fnObj (d : StD) : Obj := fnMade (Str.ofString "_law_read") readQual readPars readBody readScope [(Str.ofString "stream", d.c)] d.doc d.pm d.cc d.ctv
noncomputable def StD.led (d : StD) (bs : List UInt8) (t2 : Tok) : List (Addr × Obj) :=
  [(d.dx, d.dict bs t2), (d.x, instObj 70 d.dx), (d.fn, d.fnObj), (d.c, d.oc)]

theorem StD.apart {d : StD} {bs : List UInt8} {t2 : Tok} {h : Heap} (H : ∀ p ∈ d.led bs t2, h.get? p.1 = some p.2) (hO : d.Ok) :
    @Ne Nat d.dx d.x ∧ @Ne Nat d.dx d.fn ∧ @Ne Nat d.dx d.c := by
  have h0 := H (d.dx, d.dict bs t2) (by simp [StD.led])
  have h1 := H (d.x, instObj 70 d.dx) (by simp [StD.led])
  have h2 := H (d.fn, d.fnObj) (by simp [StD.led])
  have h3 := H (d.c, d.oc) (by simp [StD.led])
  dsimp only at h0 h1 h2 h3
  have hc : d.oc.data = .cell (some (.ref d.x)) := hO
  refine ⟨fun q => ?_, fun q => ?_, fun q => ?_⟩
  · rw [q, h1] at h0; cases h0
  · rw [q, h2] at h0; have := congrArg (fun o => o.map Obj.data) h0; cases this
  · rw [q, h3] at h0; rw [Option.some.inj h0] at hc; cases hc

theorem StD.noCode {d : StD} {bs : List UInt8} {t2 : Tok} (hO : d.Ok) : ∀ p ∈ d.led bs t2, NoCode p.2 := by
  intro p hp
  rcases List.mem_cons.mp hp with rfl | hp
  · exact noCode_dict
  rcases List.mem_cons.mp hp with rfl | hp
  · exact noCode_inst
  rcases List.mem_cons.mp hp with rfl | hp
  · exact noCode_func
  rcases List.mem_cons.mp hp with rfl | hp
  · exact noCode_cell hO
  · cases hp

section
variable {prog : Program} {w : World} {A : Around} {E : Value → Shared → Prop} {s : Shared} {value slice : PySem.Expr} {bs : List UInt8} {t : Tok} {h₀ : Heap} {L : Addr} {m : PySem.Str → Option Value} {news : List (Addr × Obj)} {Q : Value → Shared → Prop} {k : Nat} {tk' : Tok}
theorem picked_take (bs : List UInt8) (k : Nat) : KBy.picked bs.toArray none (some (k : Int)) = (bs.take k).toArray := by
  rw [KBc.picked_eq]
  simp only [Option.elim, clipAt_nat, List.drop_zero, Nat.sub_zero, List.size_toArray]
  congr 1
  rw [Nat.min_def]
  split
  · rfl
  · rw [List.take_of_length_le (Nat.le_refl _), List.take_of_length_le (by omega)]
theorem picked_drop (bs : List UInt8) (k : Nat) : KBy.picked bs.toArray (some (k : Int)) none = (bs.drop k).toArray := by
  rw [KBc.picked_eq]
  simp only [Option.elim, clipAt_nat, List.size_toArray]
  congr 1
  rw [List.take_of_length_le (by simp)]
  rw [Nat.min_def]
  split
  · rfl
  · rw [List.drop_eq_nil_of_le (Nat.le_refl _), List.drop_eq_nil_of_le (by omega)]
theorem bslice_take (hF : Fr h₀ L s.heap m) (hN : News h₀ L s.heap news) (hz : bs.length ≤ 16777216)
    (h : ∀ h' t' k', Fr h₀ L h' m → News h₀ L h' news → Q (.bytes (bs.take k).toArray t') { s with heap := h', toks := k' })
    (hs : subscripted slice false (.bytes bs.toArray t) (.ref s.heap.objs.size) = operate [.ref s.heap.objs.size, .bytes bs.toArray t] (getItem (.bytes bs.toArray t) (.ref s.heap.objs.size)) := by with_unfolding_all rfl)
    (ht : ∀ r, letTemporaryGo value (.bytes bs.toArray t) r = pure () := by intro _; with_unfolding_all rfl) :
    wpAny (model prog w) A (subscriptTail value slice (.bytes bs.toArray t) (.ref s.heap.objs.size)) Q E { s with heap := s.heap.push { cls := .type "slice", data := .fields #[.none, .int k tk', .none] } } :=
  KBc.slice_K hF hN (ks := KBw.bInts bs.toArray) rfl .none (.int _ _) (by rw [KBw.ints_length]; simpa using hz) (fun h' t' k' F' N' _ => by rw [picked_take]; exact h h' t' k' F' N') hs ht
theorem bslice_drop (hF : Fr h₀ L s.heap m) (hN : News h₀ L s.heap news) (hz : bs.length ≤ 16777216)
    (h : ∀ h' t' k', Fr h₀ L h' m → News h₀ L h' news → Q (.bytes (bs.drop k).toArray t') { s with heap := h', toks := k' })
    (hs : subscripted slice false (.bytes bs.toArray t) (.ref s.heap.objs.size) = operate [.ref s.heap.objs.size, .bytes bs.toArray t] (getItem (.bytes bs.toArray t) (.ref s.heap.objs.size)) := by with_unfolding_all rfl)
    (ht : ∀ r, letTemporaryGo value (.bytes bs.toArray t) r = pure () := by intro _; with_unfolding_all rfl) :
    wpAny (model prog w) A (subscriptTail value slice (.bytes bs.toArray t) (.ref s.heap.objs.size)) Q E { s with heap := s.heap.push { cls := .type "slice", data := .fields #[.int k tk', .none, .none] } } :=
  KBc.slice_K hF hN (ks := KBw.bInts bs.toArray) rfl (.int _ _) .none (by rw [KBw.ints_length]; simpa using hz) (fun h' t' k' F' N' _ => by rw [picked_drop]; exact h h' t' k' F' N') hs ht
end
local macro_rules | `(tactic| walk_at "subscriptTail") => `(tactic| (k_here; (with_reducible show wpAny _ _ (subscriptTail _ (Expr.Slice _ _ none _) (Value.bytes (List.toArray _) _) (Value.ref _)) _ _ _); (with_reducible rename Fr _ _ _ _ => F'); (with_reducible rename News _ _ _ _ => N'); (first | refine bslice_take (s := ⟨_, _, _, _, _⟩) F' N' (by omega) ?_ | refine bslice_drop (s := ⟨_, _, _, _, _⟩) F' N' (by omega) ?_); intro _ _ _ _ _))

section
variable {prog : Program} {w : World} {A : Around} {G : Heap} {frames : List Env} {s : Shared} {R : Result → Shared → Prop} {mean : ExcName → Option Value} {mg mb : Str → Option Value}
set_option maxHeartbeats 8000000 in
theorem read_call {d : StD} {bs : List UInt8} {t2 t : Tok} {k : Nat} (Y : Amb w mean mg mb G) (B : Below A G frames s.heap) (hS : Laid G frames s.heap (d.led bs t2))
    (hO : d.Ok) (hcd : s.heap.CodeRec (.ref d.cc) readQual) (hroom : A.depth < recursionLimit) (hz : bs.length ≤ 16777216)
    (h : ∀ h' tk t1 t2, KeepBut [d.dx] s.heap h' → (∀ p ∈ d.led (bs.drop k) t2, h'.get? p.1 = some p.2) → R (.ok (.ret (.bytes (bs.take k).toArray t1))) { s with heap := h', toks := tk }) :
    codeAny (model prog w) A (.call (.ref d.fn) ⟨[.int k t], []⟩) R s := by
  have hc : d.oc.data = .cell (some (.ref d.x)) := hO
  refine enter (binds := [(Str.ofString "size", .int k t)]) B hS Y.T.nolimit (hS (d.fn, d.fnObj) (by simp [StD.led])).1 rfl hcd hroom (BindsTo.of_eq (by with_unfolding_all rfl)) (locs (by with_unfolding_all rfl)) ?_ (by decide) (by rfl) (by rfl) (by rfl)
  intro g L' h₁ EN F N
  have B' := EN.B
  have X := Y.X.keeps B'.stays
  have T := Y.T.keeps B'.stays
  have C1 := Y.c1.keeps B'.stays
  have C2 := Y.c2.keeps B'.stays
  obtain ⟨e1, e2, e3⟩ := StD.apart (fun p hp => (hS p hp).1) hO
  unfold StD.led StD.dict StD.fnObj at N
  show wpAny _ _ (execs (_ :: _ :: _ :: []) _) _ _ _
  k_fold
  k_steps
  dsimp only
  rename Fr _ _ _ _ => F9
  rename News _ _ _ _ => N9
  refine h _ _ _ _ (EN.keepBut F9 fun p hp hn => (N9 p ?_).1) fun p hp => (N9 p hp).1
  rcases List.mem_cons.mp hp with rfl | hp
  · exact absurd (List.mem_singleton.mpr rfl) hn
  · exact List.mem_cons_of_mem _ hp
end

section
variable {prog : Program} {w : World} {A : Around} {G g : Heap} {outer : List Env} {env : Env} {s : Shared} {Q : Value → Shared → Prop} {E : Value → Shared → Prop} {mean : ExcName → Option Value} {mg mb : Str → Option Value} {L : Addr} {m : Str → Option Value} {rest : List (Addr × Obj)}
/-- what a caller's frame and ledger are behind a call that turns the stream's content -/
theorem led_back {d : StD} {bs bs' : List UInt8} {t2 t2' : Tok} {h h' : Heap} (F : Fr g L h m) (N : News g L h (d.led bs t2 ++ rest)) (hr : ∀ p ∈ rest, p.1 ≠ d.dx)
    (hk : KeepBut [d.dx] h h') (hl : ∀ p ∈ d.led bs' t2', h'.get? p.1 = some p.2) : Fr g L h' m ∧ News g L h' (d.led bs' t2' ++ rest) := by
  have N1 : News g L h (d.led bs t2) := fun p hp => N p (List.mem_append_left _ hp)
  have hd := N1 (d.dx, d.dict bs t2) (by simp [StD.led])
  refine ⟨fr_keep F hk (fun q => hd.2.1 (List.mem_singleton.mp q).symm) fun a ha => by rw [List.mem_singleton.mp ha]; exact hd.2.2, fun p hp => ?_⟩
  rcases List.mem_append.mp hp with hp | hp
  · refine ⟨hl p hp, ?_⟩
    rcases List.mem_cons.mp hp with rfl | hp
    · exact hd.2
    · exact (N1 p (List.mem_cons_of_mem _ hp)).2
  · exact ⟨hk _ _ (fun q => hr p hp (List.mem_singleton.mp q)) (N p (List.mem_append_right _ hp)).1, (N p (List.mem_append_right _ hp)).2⟩
/-- the stream's read, from a frame -/
theorem read_use {d : StD} {bs : List UInt8} {t2 t : Tok} {k : Nat} (Y : Amb w mean mg mb G) (B : Below A G outer g) (F : Fr g L s.heap m) (N : News g L s.heap (d.led bs t2 ++ rest)) (hf : env.frame = some L) (hke : env.scope.kind = .function)
    (hO : d.Ok) (hcd : s.heap.CodeRec (.ref d.cc) readQual) (hroom : A.depth + 1 < recursionLimit) (hz : bs.length ≤ 16777216) (hr : ∀ p ∈ rest, p.1 ≠ d.dx)
    (h : ∀ h' tk t1 t2, Fr g L h' m → News g L h' (d.led (bs.drop k) t2 ++ rest) → Q (.bytes (bs.take k).toArray t1) { s with heap := h', toks := tk }) :
    wpAny (model prog w) (A.deeper env) (call (.ref d.fn) [.int k t]) Q E s := by
  have N1 : News g L s.heap (d.led bs t2) := fun p hp => N p (List.mem_append_left _ hp)
  refine wpAny_call (read_call Y (pushX B F hf hke) (laid_news B N1 hf) hO hcd hroom hz fun h' tk t1 t2' hk hl => ?_)
  obtain ⟨F', N'⟩ := led_back F N hr hk hl
  exact h h' tk t1 t2' F' N'
end

section
variable {prog : Program} {w : World} {A : Around} {E : Value → Shared → Prop} {s : Shared} {b : UInt8} {r : List UInt8} {t u : Tok}
theorem truthy_bnil {Q : Bool → Shared → Prop} (h : ∀ k, Q false { s with toks := k }) : wpAny (model prog w) A (truthy (.bytes ([] : List UInt8).toArray t)) Q E s :=
  truthy_bytes (by simp) (by simpa using h _)
theorem truthy_bcons {Q : Bool → Shared → Prop} (hz : r.length ≤ 16777216) (h : ∀ k, Q true { s with toks := k }) : wpAny (model prog w) A (truthy (.bytes (b :: r).toArray t)) Q E s := by
  refine truthy_bytes (by simp; omega) ?_
  have e : ((((b :: r).toArray.size : Nat) : Int) != 0) = true := by simp; omega
  rw [e]; exact h _
end
local macro_rules | `(tactic| walk_at "truthy bytes") => `(tactic| ((first | refine truthy_bnil ?_ | refine truthy_bcons (by (first | simp; done | omega)) ?_); intro _))

section
variable {prog : Program} {w : World} {A : Around} {G : Heap} {frames : List Env} {s : Shared} {R : Result → Shared → Prop} {mean : ExcName → Option Value} {mg mb : Str → Option Value}

noncomputable abbrev noData : Str := Str.ofString "not enough data in stream to read uint1"

set_option maxHeartbeats 8000000 in
theorem uint1_call {d : StD} {bs : List UInt8} {t2 : Tok} (Y : Amb w mean mg mb G) (B : Below A G frames s.heap) (hS : Laid G frames s.heap (d.led bs t2))
    (hO : d.Ok) (hcd : s.heap.CodeRec (.ref d.cc) readQual) (hroom : A.depth + 1 < recursionLimit) (hz : bs.length ≤ 16777216) (hh : A.handled = none)
    (hok : ∀ b r, bs = b :: r → ∀ h' tk t1 t2, KeepBut [d.dx] s.heap h' → (∀ p ∈ d.led r t2, h'.get? p.1 = some p.2) → R (.ok (.ret (.int b.toNat t1))) { s with heap := h', toks := tk })
    (herr : bs = [] → ∀ e h' tk t2, Flies s.heap [d.dx] frames (d.led [] t2) noData e h' → R (.error e) { s with heap := h', toks := tk }) :
    codeAny (model prog w) A (.call (.ref 46) ⟨[.ref d.x], []⟩) R s := by
  have XG := Y.X.keeps B.stays
  refine enter (cl := []) (binds := [(Str.ofString "f", .ref d.x)]) B hS Y.T.nolimit (XG _ _ (by k_is)) rfl (codeRec_of XG (by k_is)) (by omega) (BindsTo.of_eq (by rfl)) (locs rfl) ?_ (by decide) (by rfl) (by rfl) (by rfl)
  intro g L' h₁ EN F N
  have B' := EN.B
  have X := Y.X.keeps B'.stays
  have T := Y.T.keeps B'.stays
  have C1 := Y.c1.keeps B'.stays
  have C2 := Y.c2.keeps B'.stays
  obtain ⟨e1, e2, e3⟩ := StD.apart (fun p hp => (hS p hp).1) hO
  unfold StD.led StD.dict at N
  with_reducible change wpAny _ _ _ _ _ _
  k_fold
  have hq : ∀ v s', R (.ok (.ret v)) s' → qk (.ret v) s' := fun _ _ h => h
  have he : ∀ e s', wpAny (model prog w) (A.deeper (envX _ _ L' 46 _ [])) (leaving (envX _ _ L' 46 _ []) e) (fun _ s'' => R (.error e) s'') (fun e' s'' => R (.error e') s'') s' → ek e s' := fun _ _ h => h
  clear_value qk ek
  k_steps
  refine read_use (d := d) (k := 1) (rest := []) Y B' F N rfl rfl hO ((EN.code hcd (StD.noCode hO)).keeps F.keep) (by omega) hz (fun _ hp => nomatch hp) ?_
  intro h' tk t1 t2' F' N'
  clear F N
  simp only [List.append_nil, StD.led, StD.dict] at N'
  cases bs with
  | nil =>
    simp only [List.take_nil, List.drop_nil] at N' ⊢
    k_steps
    rename Fr _ _ _ _ => F9
    rename News _ _ _ _ => N9
    refine Raise_madeB PySem.F.excCall_ValueError PySem.F.excRaise_ValueError hh (nameX_B F9 X (topRead_of T) (by k_is) PyProof.Rows.Boot.«ValueError» (by decide) ⟨rfl, ?_⟩)
    k_steps
    rename Heap.MadeExc _ _ _ _ _ => hx
    refine he _ _ (leave_first (S' := d.led [] t2') (T := [d.dx]) EN F9 rfl rfl hx.of (fun p hp hn => (N9 p ?_).1) (fun p hp => ⟨(N9 p hp).1, (N9 p hp).2.1, ?_⟩) ?_ fun h' hfl => herr rfl _ _ _ _ hfl)
    · rcases List.mem_cons.mp hp with rfl | hp
      · exact absurd (List.mem_singleton.mpr rfl) hn
      · exact List.mem_cons_of_mem _ hp
    · rcases List.mem_cons.mp hp with rfl | hp
      · exact (hS _ (.head _)).2.2
      · exact (hS _ (List.mem_cons_of_mem _ hp)).2.2
    · intro a ha q
      rw [List.mem_singleton.mp q] at ha
      exact (hS _ (.head _)).2.2 ha
  | cons b r =>
    simp only [List.take_succ_cons, List.take_zero, List.drop_succ_cons, List.drop_zero] at N' ⊢
    k_steps
    dsimp only
    rename Fr _ _ _ _ => F9
    rename News _ _ _ _ => N9
    refine hq _ _ (hok b r rfl _ _ _ _ (EN.keepBut F9 fun p hp hn => (N9 p ?_).1) fun p hp => (N9 p hp).1)
    rcases List.mem_cons.mp hp with rfl | hp
    · exact absurd (List.mem_singleton.mpr rfl) hn
    · exact List.mem_cons_of_mem _ hp
end
end Mine
end
theorem Mine.anewStream : True ∧ True := by
  have h : True ∧ True := ⟨trivial, trivial⟩
  first | (walk1; done) | exact h
section
open PySem PySem.W PyProof.Rows PySem.Calls PySem.Spec
set_option maxHeartbeats 2000000
namespace Mine
noncomputable abbrev expWords : Str := Str.ofString "expected %d bytes in a bytes1, but only %d remain"
set_option maxHeartbeats 8000000 in
theorem mod_words0 (a b : Int) (ha : 0 ≤ a) (hb : 0 ≤ b) (ha2 : a < 1000000) (hb2 : b < 1000000) : ∃ W : Str, ∀ {prog : Program} {w : World} {A : Around} {E : Value → Shared → Prop} {s : Shared} {t : Tok} {Q : Value → Shared → Prop} {x L : Addr} {n : Nat} {h₀ : Heap} {news : List (Addr × Obj)} {ta tb : Tok}
    (N : News h₀ L s.heap news) (hm : (x, ({ cls := .type "tuple", data := .seq #[.int a ta, .int b tb] n } : Obj)) ∈ news)
    (h : ∀ t' k, Q (.str W t') { s with toks := k }), wpAny (model prog w) A (binaryOp .Mod (.str expWords t) (.ref x)) Q E s := by
  refine ⟨?W, ?_⟩
  rotate_left
  · intro prog w A E s t Q x L n h₀ news ta tb N hm h
    have ha3 : a < 10 ^ 10 := by omega
    have hb3 : b < 10 ^ 10 := by omega
    k_dflt (refine' KPt.mod_tuple ?kptN ?kptb ?kptF ?kptm ?_; (case kptN => exact N); (case kptb => exact hm); (case kptF => kpt_eq); (case kptm => kpt_run))
    exact h
open Classical in
/-- the words of a cut count -/
noncomputable def cutWords (a b : Int) : Str := if h : (0 ≤ a ∧ 0 ≤ b) ∧ a < 1000000 ∧ b < 1000000 then choose (mod_words0 a b h.1.1 h.1.2 h.2.1 h.2.2) else Str.empty
theorem mod_words {a b : Int} (ha : 0 ≤ a) (hb : 0 ≤ b) (ha2 : a < 1000000) (hb2 : b < 1000000) {prog : Program} {w : World} {A : Around} {E : Value → Shared → Prop} {s : Shared} {t : Tok} {Q : Value → Shared → Prop} {x L : Addr} {n : Nat} {h₀ : Heap} {news : List (Addr × Obj)} {ta tb : Tok}
    (N : News h₀ L s.heap news) (hm : (x, ({ cls := .type "tuple", data := .seq #[.int a ta, .int b tb] n } : Obj)) ∈ news)
    (h : ∀ t' k, Q (.str (cutWords a b) t') { s with toks := k }) : wpAny (model prog w) A (binaryOp .Mod (.str expWords t) (.ref x)) Q E s := by
  have hc : (0 ≤ a ∧ 0 ≤ b) ∧ a < 1000000 ∧ b < 1000000 := ⟨⟨ha, hb⟩, ha2, hb2⟩
  refine (Classical.choose_spec (mod_words0 a b ha hb ha2 hb2)) N hm fun t' k => ?_
  have e : cutWords a b = Classical.choose (mod_words0 a b ha hb ha2 hb2) := by unfold cutWords; rw [dif_pos hc]
  rw [← e]; exact h t' k
end Mine
end
theorem Mine.anewWords : True ∧ True := by
  have h : True ∧ True := ⟨trivial, trivial⟩
  first | (walk1; done) | exact h
section
open PySem PySem.W PyProof.Rows PySem.Calls PySem.Spec
set_option maxHeartbeats 2000000
namespace Mine

section
variable {prog : Program} {w : World} {A : Around} {G g : Heap} {outer : List Env} {env : Env} {s : Shared} {Q : Value → Shared → Prop} {E : Value → Shared → Prop} {mean : ExcName → Option Value} {mg mb : Str → Option Value} {L : Addr} {m : Str → Option Value} {rest : List (Addr × Obj)}
/-- read_uint1, from a frame -/
theorem uint1_use {d : StD} {bs : List UInt8} {t2 : Tok} (Y : Amb w mean mg mb G) (B : Below A G outer g) (F : Fr g L s.heap m) (N : News g L s.heap (d.led bs t2 ++ rest)) (hf : env.frame = some L) (hke : env.scope.kind = .function)
    (hO : d.Ok) (hcd : s.heap.CodeRec (.ref d.cc) readQual) (hroom : A.depth + 2 < recursionLimit) (hz : bs.length ≤ 16777216) (hh : A.handled = none) (hr : ∀ p ∈ rest, p.1 ≠ d.dx)
    (hok : ∀ b r, bs = b :: r → ∀ h' tk t1 t2, Fr g L h' m → News g L h' (d.led r t2 ++ rest) → Q (.int b.toNat t1) { s with heap := h', toks := tk })
    (herr : bs = [] → ∀ e h' tk t2, Flies s.heap [d.dx] (env :: outer) (d.led [] t2) noData e h' → E e { s with heap := h', toks := tk }) :
    wpAny (model prog w) (A.deeper env) (call (.ref 46) [.ref d.x]) Q E s := by
  have N1 : News g L s.heap (d.led bs t2) := fun p hp => N p (List.mem_append_left _ hp)
  refine wpAny_call (uint1_call Y (pushX B F hf hke) (laid_news B N1 hf) hO hcd hroom hz hh (fun b r e h' tk t1 t2' hk hl => ?_) fun e ev h' tk t2' hfl => herr e ev h' tk t2' hfl)
  obtain ⟨F', N'⟩ := led_back F N hr hk hl
  exact hok b r e h' tk t1 t2' F' N'
end

local macro_rules | `(tactic| walk_at "binaryOp Mod str ref") => `(tactic| (k_here; (with_reducible show wpAny _ _ (binaryOp Operator.Mod (Value.str _ _) (Value.ref _)) _ _ _); k_dflt (refine' mod_words ?c1 ?c2 ?c3 ?c4 ?N ?m ?_; (case N => k_asm); (case m => k_mem); (case c1 => ((try simp only [List.size_toArray]); omega)); (case c2 => ((try simp only [List.size_toArray]); omega)); (case c3 => ((try simp only [List.size_toArray]); omega)); (case c4 => ((try simp only [List.size_toArray]); omega))); intro _ _))
section
variable {prog : Program} {w : World} {A : Around} {G : Heap} {frames : List Env} {s : Shared} {R : Result → Shared → Prop} {mean : ExcName → Option Value} {mg mb : Str → Option Value}

set_option maxHeartbeats 8000000 in
theorem bytes1_call {d : StD} {bs : List UInt8} {t2 : Tok} (Y : Amb w mean mg mb G) (B : Below A G frames s.heap) (hS : Laid G frames s.heap (d.led bs t2))
    (hO : d.Ok) (hcd : s.heap.CodeRec (.ref d.cc) readQual) (hroom : A.depth + 3 < recursionLimit) (hz : bs.length ≤ 16777216) (hh : A.handled = none)
    (hok : ∀ b r, bs = b :: r → b.toNat ≤ r.length → ∀ h' tk t1 t2, KeepBut [d.dx] s.heap h' → (∀ p ∈ d.led (r.drop b.toNat) t2, h'.get? p.1 = some p.2) → R (.ok (.ret (.bytes (r.take b.toNat).toArray t1))) { s with heap := h', toks := tk })
    (herr : bs = [] → ∀ e h' tk t2, Flies s.heap [d.dx] frames (d.led [] t2) noData e h' → R (.error e) { s with heap := h', toks := tk })
    (herr2 : ∀ b r, bs = b :: r → r.length < b.toNat → ∀ e h' tk t2, Flies s.heap [d.dx] frames (d.led [] t2) (cutWords b.toNat r.length) e h' → R (.error e) { s with heap := h', toks := tk }) :
    codeAny (model prog w) A (.call (.ref 53) ⟨[.ref d.x], []⟩) R s := by
  have XG := Y.X.keeps B.stays
  refine enter (cl := []) (binds := [(Str.ofString "f", .ref d.x)]) B hS Y.T.nolimit (XG _ _ (by k_is)) rfl (codeRec_of XG (by k_is)) (by omega) (BindsTo.of_eq (by rfl)) (locs rfl) ?_ (by decide) (by rfl) (by rfl) (by rfl)
  intro g L' h₁ EN F N
  have B' := EN.B
  have X := Y.X.keeps B'.stays
  have T := Y.T.keeps B'.stays
  have C1 := Y.c1.keeps B'.stays
  have C2 := Y.c2.keeps B'.stays
  have hcg := EN.code hcd (StD.noCode hO)
  obtain ⟨e1, e2, e3⟩ := StD.apart (fun p hp => (hS p hp).1) hO
  unfold StD.led StD.dict at N
  with_reducible change wpAny _ _ _ _ _ _
  k_fold
  have hq : ∀ v s', R (.ok (.ret v)) s' → qk (.ret v) s' := fun _ _ h => h
  have he : ∀ e s', wpAny (model prog w) (A.deeper (envX _ _ L' 53 _ [])) (leaving (envX _ _ L' 53 _ []) e) (fun _ s'' => R (.error e) s'') (fun e' s'' => R (.error e') s'') s' → ek e s' := fun _ _ h => h
  clear_value qk ek
  k_steps
  refine uint1_use (d := d) (rest := []) Y B' F N rfl rfl hO (hcg.keeps F.keep) (by omega) hz hh (fun _ hp => nomatch hp) ?_ ?_
  rotate_left
  · intro e ev h' tk t2' hfl
    refine he _ _ (leave_next (T := [d.dx]) (S' := d.led [] t2') EN F rfl rfl hfl.any (fun p hp _ => (N p hp).1) (fun a ha => .inl ha) (fun p hp => .inl hp) ?_ fun h' hfl => herr e _ _ _ _ hfl)
    intro a ha q
    rw [List.mem_singleton.mp q] at ha
    exact (hS _ (.head _)).2.2 ha
  intro b r e h' tk t1 t2' F' N'
  clear F N
  simp only [List.append_nil, StD.led, StD.dict] at N'
  subst e
  have hb : (b.toNat : Int) < 256 := by have := b.toNat_lt; omega
  have hb0 : (0 : Int) ≤ (b.toNat : Int) := by omega
  simp only [List.length_cons] at hz
  k_steps
  rename Fr _ _ _ _ => F9
  rename News _ _ _ _ => N9
  refine read_use (d := d) (k := b.toNat) (rest := []) Y B' F9 N9 rfl rfl hO (hcg.keeps F9.keep) (by omega) (by omega) (fun _ hp => nomatch hp) ?_
  clear F9 N9
  intro h' tk t1' t2'' F' N'
  simp only [List.append_nil, StD.led, StD.dict] at N'
  have hl : (r.take b.toNat).length = min b.toNat r.length := List.length_take
  have hbl := b.toNat_lt
  k_steps
  · rename _ = _ => hcd
    rename Fr _ _ _ _ => F9
    rename News _ _ _ _ => N9
    dsimp only
    have hle : b.toNat ≤ r.length := by
      rw [List.size_toArray, hl] at hcd; omega
    refine hq _ _ (hok b r rfl hle _ _ _ _ (EN.keepBut F9 fun p hp hn => (N9 p ?_).1) fun p hp => (N9 p hp).1)
    rcases List.mem_cons.mp hp with rfl | hp
    · exact absurd (List.mem_singleton.mpr rfl) hn
    · exact List.mem_cons_of_mem _ hp
  · rename _ ≠ _ => hcd
    rename Fr _ _ _ _ => F9
    rename News _ _ _ _ => N9
    have hle : r.length < b.toNat := by
      rw [List.size_toArray, hl] at hcd; omega
    have hl' : (List.take b.toNat r).length = r.length := by rw [hl]; omega
    refine Raise_madeB PySem.F.excCall_ValueError PySem.F.excRaise_ValueError hh (nameX_B F9 X (topRead_of T) (by k_is) PyProof.Rows.Boot.«ValueError» (by decide) ⟨rfl, ?_⟩)
    k_steps
    rename Heap.MadeExc _ _ _ _ _ => hx
    rename Fr _ _ _ _ => F9
    rename News _ _ _ _ => N9
    rw [List.size_toArray, hl'] at hx
    have hd0 : List.drop b.toNat r = [] := List.drop_eq_nil_of_le (by omega)
    rw [hd0] at N9
    have hmem : ∀ p ∈ d.led [] t2'', p ∈ [(d.dx, d.dict [] t2''), (d.x, instObj 70 d.dx), (d.fn, d.fnObj), (d.c, d.oc)] := fun p hp => hp
    refine he _ _ (leave_first (S' := d.led [] t2'') (T := [d.dx]) EN F9 rfl rfl hx.of (fun p hp hn => (N9 p (.tail _ ?_)).1) (fun p hp => ⟨(N9 p (.tail _ hp)).1, (N9 p (.tail _ hp)).2.1, ?_⟩) ?_ fun h' hfl => herr2 b r rfl hle _ _ _ _ hfl)
    · rcases List.mem_cons.mp hp with rfl | hp
      · exact absurd (List.mem_singleton.mpr rfl) hn
      · exact List.mem_cons_of_mem _ hp
    · rcases List.mem_cons.mp hp with rfl | hp
      · exact (hS _ (.head _)).2.2
      · exact (hS _ (List.mem_cons_of_mem _ hp)).2.2
    · intro a ha q
      rw [List.mem_singleton.mp q] at ha
      exact (hS _ (.head _)).2.2 ha
end
end Mine
end
theorem Mine.anewBytes1 : True ∧ True := by
  have h : True ∧ True := ⟨trivial, trivial⟩
  first | (walk1; done) | exact h
section
open PySem PySem.W PyProof.Rows PySem.Calls PySem.Spec
set_option maxHeartbeats 2000000
namespace Mine

/-- a table of made code records: all of them of one name -/
noncomputable def TabOk (q : Str) (ps : Array Value) (h : Heap) : Prop := TriplesOk ps.toList ∧ ∀ pos cv, codeAmong pos ps.toList = some cv → h.CodeRec cv q
theorem TabOk.keep {q : Str} {ps : Array Value} {h h' : Heap} {T : List Addr} (x : TabOk q ps h) (k : KeepBut T h h') (hn : ∀ a ∈ T, ∀ o, h.get? a = some o → NoCode o) : TabOk q ps h' :=
  ⟨x.1, fun pos cv e => code_keep (x.2 pos cv e) k hn⟩

theorem codeAmong_app {pos' pos : Pos} {c cv : Value} : ∀ (l : List Value), TriplesOk l → codeAmong pos' (l ++ [rawInt pos.line, rawInt pos.col, c]) = some cv → codeAmong pos' l = some cv ∨ cv = c
  | [], _, e => by
    simp only [List.nil_append, codeAmong, rawInt] at e
    split at e
    · exact .inr (Option.some.inj e).symm
    · cases e
  | .int a _ :: .int b _ :: d :: r, ht, e => by
    simp only [List.cons_append, codeAmong] at e ⊢
    split at e
    · rename_i hc; rw [if_pos hc]; exact .inl e
    · rename_i hc; rw [if_neg hc]; exact codeAmong_app r ht e
theorem triples_app {pos : Pos} {c : Value} : ∀ (l : List Value), TriplesOk l → TriplesOk (l ++ [rawInt pos.line, rawInt pos.col, c])
  | [], _ => trivial
  | .int _ _ :: .int _ _ :: _ :: r, ht => triples_app r ht
theorem TabOk.grown {q : Str} {ps : Array Value} {h h' : Heap} {P c' : Addr} {pos : Pos} (x : TabOk q ps h) (k : Heap.ExtBut P h h') (hP : h.get? P = some (tabObj ps)) (hc : h'.CodeRec (.ref c') q) : TabOk q (ps ++ #[rawInt pos.line, rawInt pos.col, .ref c']) h' := by
  have e : (ps ++ #[rawInt pos.line, rawInt pos.col, Value.ref c']).toList = ps.toList ++ [rawInt pos.line, rawInt pos.col, .ref c'] := by simp
  refine ⟨by rw [e]; exact triples_app _ x.1, fun pos' cv hcv => ?_⟩
  rw [e] at hcv
  rcases codeAmong_app _ x.1 hcv with q | rfl
  · exact code_keep (T := [P]) (x.2 _ _ q) (fun b o hb e => k b o (fun q => hb (List.mem_singleton.mpr q)) e) fun a ha o eo => by
      rw [List.mem_singleton.mp ha, hP] at eo; cases eo; exact noCode_tab x.1
  · exact hc

section
variable {M : Model} {A : Around} {E : Value → Shared → Prop} {s : Shared} {h₀ : Heap} {L a c P : Addr} {m mg mb : Str → Option Value} {cn : Str} {cs : Scope} {ccd : Value} {cl : List (Str × Addr)} {news : List (Addr × Obj)} {g : Obj → List (Addr × Obj)}
  {p : Program} {loose : List Str} {mean : ExcName → Option Value} {name qual : Str} {params : Arguments} {body : List Stmt} {scope : Scope} {ps : Array Value} {pos : Pos} {firstLine : Nat} {clos : List (Str × Addr)}
theorem tab_facts (F : Fr h₀ L s.heap m) (N : News h₀ L s.heap news) (T : Top p loose mean mg mb h₀) (hm : (P, tabObj ps) ∈ news) : mainGlobals ≠ P ∧ s.heap.BuiltinsAt mg P := by
  have hm := N _ hm
  have hgs := T.g.keeps F.keep
  obtain ⟨bm, ob, b1, b2, b3, b4, b5, b6⟩ := T.bmain
  have hgP : mainGlobals ≠ P := fun q => by
    obtain ⟨o, es, ep, e, hd, _⟩ := hgs
    rw [q, hm.1] at e; cases e; cases hd
  have hbP : bm ≠ P := fun q => by
    have e := F.keep _ _ b3
    rw [q, hm.1] at e; cases e; cases b4
  have hbG : bm ≠ mainGlobals := fun q => by
    obtain ⟨o, es, ep, e, hd, _⟩ := T.g
    rw [q, e] at b3; cases b3; rw [hd] at b6; cases b6
  exact ⟨hgP, bm, ob, b1, b2, hbG, hbP, F.keep _ _ b3, b4, b5, b6⟩
theorem fr_ext (F : Fr h₀ L s.heap m) {h' : Heap} (hx : Heap.ExtBut P s.heap h') (hP : h₀.get? P = none) (hPL : P ≠ L) : Fr h₀ L h' m :=
  fr_keep (S := [P]) F (fun b o hb e => hx b o (fun q => hb (List.mem_singleton.mpr q)) e) (fun q => hPL (List.mem_singleton.mp q).symm) fun a ha => by rw [List.mem_singleton.mp ha]; exact hP
theorem news_ext {own rest : List (Addr × Obj)} {o o' : Obj} (N : News h₀ L s.heap (own ++ (P, o) :: rest)) {h' : Heap} (hx : Heap.ExtBut P s.heap h') (hP : h'.get? P = some o') (h1 : ∀ q ∈ own, q.1 ≠ P) (h2 : ∀ q ∈ rest, q.1 ≠ P) : News h₀ L h' (own ++ (P, o') :: rest) := fun q hq => by
  rcases List.mem_append.mp hq with hq | hq
  · have n := N q (List.mem_append_left _ hq)
    exact ⟨hx _ _ (h1 q hq) n.1, n.2⟩
  · rcases List.mem_cons.mp hq with rfl | hq
    · exact ⟨hP, (N (P, o) (List.mem_append_right _ (.head _))).2⟩
    · have n := N q (List.mem_append_right _ (.tail _ hq))
      exact ⟨hx _ _ (h2 q hq) n.1, n.2⟩
/-- a def made within a def, its record made or met -/
theorem nest_tab {Q : Value → Shared → Prop} (F : Fr h₀ L s.heap m) (N : News h₀ L s.heap news) (T : Top p loose mean mg mb h₀) (C : CodeHd h₀ c P) (hcd : ccd = .ref c) (U : UpdF P (tabObj ps) news g) (ht : TabOk qual ps s.heap)
    (hcl : closureFor scope (envX cn cs L a ccd cl) = pure clos)
    (h : ∀ f c' ctv doc ps' h' tk, Fr h₀ L h' m → News h₀ L h' ((f, fnMade name qual params body scope clos doc ((mg "__name__").getD .none) c' ctv) :: g (tabObj ps')) → TabOk qual ps' h' → h'.CodeRec (.ref c') qual →
      (∀ q ∈ news, q.1 < f) → Q (.ref f) { s with heap := h', toks := tk }) :
    wpAny M A (makeFunction name qual params (.stmts body) scope (envX cn cs L a ccd cl) [] [] [] pos firstLine) Q E s := by
  obtain ⟨own, rest, rfl, hgr, h1, h2⟩ := U.split
  have hmem : (P, tabObj ps) ∈ own ++ (P, tabObj ps) :: rest := List.mem_append_right _ (.head _)
  have hm := N _ hmem
  obtain ⟨hgP, hbA⟩ := tab_facts F N T hmem
  have hLs : L < s.heap.objs.size := F.ns.lt
  have fresh : ∀ b, L < b → h₀.get? b = none := fun b hb => Heap.get?_none_of_le (Nat.le_trans F.above (Nat.le_of_lt hb))
  cases hca : codeAmong pos ps.toList with
  | none =>
    refine makeFunction_K (mg := mg) hcl rfl (T.g.keeps F.keep) hcd (C.keeps F.keep) hm.1 ht.1 hca hgP hbA fun c' ctv doc h' tk hx hge hlt hrec htb => ?_
    have hLc : L < c' := Nat.lt_of_lt_of_le hLs hge
    refine h h'.objs.size c' ctv doc (ps ++ #[rawInt pos.line, rawInt pos.col, .ref c']) _ tk ((fr_ext F hx hm.2.2 hm.2.1).push _) (fun q hq => ?_) ⟨(ht.grown hx hm.1 hrec).1, fun pos' cv e => ((ht.grown hx hm.1 hrec).2 pos' cv e).keeps fun b o e => Heap.get?_push_of_some _ e⟩
      (hrec.keeps fun b o e => Heap.get?_push_of_some _ e) (fun q hq => Nat.lt_of_lt_of_le (Heap.lt_size (N q hq).1) (Nat.le_trans hge (Nat.le_of_lt hlt)))
    rcases List.mem_cons.mp hq with rfl | hq
    · exact ⟨Heap.get?_push_size _ rfl, Nat.ne_of_gt (Nat.lt_trans hLc hlt), fresh _ (Nat.lt_trans hLc hlt)⟩
    · rw [hgr] at hq
      have n := news_ext N hx htb h1 h2 q hq
      exact ⟨Heap.get?_push_of_some _ n.1, n.2⟩
  | some cv =>
    have hrec := ht.2 _ _ hca
    obtain ⟨c', _, _, _, rfl, _⟩ := id hrec
    refine makeFunction_hit (mg := mg) hcl rfl (T.g.keeps F.keep) hcd (C.keeps F.keep) hm.1 ht.1 hca hbA fun ctv doc h' tk hk hsz => ?_
    have hLs' : L < h'.objs.size := Nat.lt_of_lt_of_le hLs hsz
    have hk' : ∀ b o, s.heap.get? b = some o → (h'.push (fnMade name qual params body scope clos doc ((mg "__name__").getD .none) c' ctv)).get? b = some o := fun b o e => Heap.get?_push_of_some _ (hk b o e)
    refine h h'.objs.size c' ctv doc ps _ tk ⟨(F.ns.keeps hk).push _, fun b o e => hk' b o (F.keep b o e), F.above⟩ (fun q hq => ?_) ⟨ht.1, fun pos' cv e => (ht.2 pos' cv e).keeps hk'⟩ (hrec.keeps hk') (fun q hq => Nat.lt_of_lt_of_le (Heap.lt_size (N q hq).1) hsz)
    rcases List.mem_cons.mp hq with rfl | hq
    · exact ⟨Heap.get?_push_size _ rfl, Nat.ne_of_gt hLs', fresh _ hLs'⟩
    · rw [hgr] at hq
      exact ⟨hk' _ _ (N q hq).1, (N q hq).2⟩
/-- a lambda likewise -/
theorem lam_tab {Q : Value → Shared → Prop} {body : Expr} (F : Fr h₀ L s.heap m) (N : News h₀ L s.heap news) (T : Top p loose mean mg mb h₀) (C : CodeHd h₀ c P) (hcd : ccd = .ref c) (U : UpdF P (tabObj ps) news g) (ht : TabOk qual ps s.heap)
    (hcl : closureFor scope (envX cn cs L a ccd cl) = pure clos)
    (h : ∀ f c' ctv ps' h' tk, Fr h₀ L h' m → News h₀ L h' ((f, kla_obj name qual params body scope clos ((mg "__name__").getD .none) c' ctv) :: g (tabObj ps')) → TabOk qual ps' h' → h'.CodeRec (.ref c') qual →
      (∀ q ∈ news, q.1 < f) → Q (.ref f) { s with heap := h', toks := tk }) :
    wpAny M A (makeFunction name qual params (.expr body) scope (envX cn cs L a ccd cl) [] [] [] pos firstLine) Q E s := by
  obtain ⟨own, rest, rfl, hgr, h1, h2⟩ := U.split
  have hmem : (P, tabObj ps) ∈ own ++ (P, tabObj ps) :: rest := List.mem_append_right _ (.head _)
  have hm := N _ hmem
  obtain ⟨hgP, hbA⟩ := tab_facts F N T hmem
  have hLs : L < s.heap.objs.size := F.ns.lt
  have fresh : ∀ b, L < b → h₀.get? b = none := fun b hb => Heap.get?_none_of_le (Nat.le_trans F.above (Nat.le_of_lt hb))
  cases hca : codeAmong pos ps.toList with
  | none =>
    refine kla_makeFunction (mg := mg) hcl rfl (T.g.keeps F.keep) hcd (C.keeps F.keep) hm.1 ht.1 hca hgP hbA fun c' ctv h' tk hx hge hlt hrec htb => ?_
    have hLc : L < c' := Nat.lt_of_lt_of_le hLs hge
    refine h h'.objs.size c' ctv (ps ++ #[rawInt pos.line, rawInt pos.col, .ref c']) _ tk ((fr_ext F hx hm.2.2 hm.2.1).push _) (fun q hq => ?_) ⟨(ht.grown hx hm.1 hrec).1, fun pos' cv e => ((ht.grown hx hm.1 hrec).2 pos' cv e).keeps fun b o e => Heap.get?_push_of_some _ e⟩
      (hrec.keeps fun b o e => Heap.get?_push_of_some _ e) (fun q hq => Nat.lt_of_lt_of_le (Heap.lt_size (N q hq).1) (Nat.le_trans hge (Nat.le_of_lt hlt)))
    rcases List.mem_cons.mp hq with rfl | hq
    · exact ⟨Heap.get?_push_size _ rfl, Nat.ne_of_gt (Nat.lt_trans hLc hlt), fresh _ (Nat.lt_trans hLc hlt)⟩
    · rw [hgr] at hq
      have n := news_ext N hx htb h1 h2 q hq
      exact ⟨Heap.get?_push_of_some _ n.1, n.2⟩
  | some cv =>
    have hrec := ht.2 _ _ hca
    obtain ⟨c', _, _, _, rfl, _⟩ := id hrec
    refine kla_makeFunctionHit (mg := mg) hcl rfl (T.g.keeps F.keep) hcd (C.keeps F.keep) hm.1 ht.1 hca hbA fun ctv h' tk hk hsz => ?_
    have hLs' : L < h'.objs.size := Nat.lt_of_lt_of_le hLs hsz
    have hk' : ∀ b o, s.heap.get? b = some o → (h'.push (kla_obj name qual params body scope clos ((mg "__name__").getD .none) c' ctv)).get? b = some o := fun b o e => Heap.get?_push_of_some _ (hk b o e)
    refine h h'.objs.size c' ctv ps _ tk ⟨(F.ns.keeps hk).push _, fun b o e => hk' b o (F.keep b o e), F.above⟩ (fun q hq => ?_) ⟨ht.1, fun pos' cv e => (ht.2 pos' cv e).keeps hk'⟩ (hrec.keeps hk') (fun q hq => Nat.lt_of_lt_of_le (Heap.lt_size (N q hq).1) hsz)
    rcases List.mem_cons.mp hq with rfl | hq
    · exact ⟨Heap.get?_push_size _ rfl, Nat.ne_of_gt hLs', fresh _ hLs'⟩
    · rw [hgr] at hq
      exact ⟨hk' _ _ (N q hq).1, (N q hq).2⟩
end

local macro_rules | `(tactic| k_room) => `(tactic| ((try simp only [depth_mark, depth_under_make, depth_under_kw, depth_in1, depth_deeper, depth_caller]); omega))
local macro_rules | `(tactic| k_enter) => `(tactic| (refine' code_def ?k1 ?k2 ?k3 ?k4 ?k5 ?kA ?kF ?kK ?k6 ?k7 ?k8 ?k9 ?kB ?_ ?c2 ?c3 ?c4 ?c5; (case kA => assumption); (case kF => exact rfl); (case kK => exact rfl); (case k1 => k_asm); (case k2 => k_asm); (case k3 => k_asm); (case k4 => k_asm); (case k5 => k_asm); (case k6 => k_is); (case k7 => k_is); (case k8 => k_room); (case k9 => first | exact BindsTo.of_eq rfl | exact binds_K (by k_in) rfl (by k_is) rfl rfl rfl | fail "k_enter: no rule for these arguments"); (case c5 => decide); (case kB => exact locs rfl); (case c2 => exact rfl); (case c3 => exact rfl); (case c4 => exact rfl); k_whole; intro g' L' h' FG' F' N' B' X' T'; (try dsimp only); (try k_lift B'); (try k_fold)))
/-- the table of _law_stream: empty, or with the record of _law_read -/
noncomputable def Tab76 (ps : Array Value) (h : Heap) : Prop := ps = #[] ∨ ∃ c, ps = #[rawInt 38, rawInt 4, .ref c] ∧ h.CodeRec (.ref c) readQual
theorem Tab76.keep {ps : Array Value} {h h' : Heap} {T : List Addr} (x : Tab76 ps h) (k : KeepBut T h h') (hn : ∀ a ∈ T, ∀ o, h.get? a = some o → NoCode o) : Tab76 ps h' := by
  rcases x with e | ⟨c, e, hc⟩
  · exact .inl e
  · exact .inr ⟨c, e, code_keep hc k hn⟩
theorem Tab76.noCode {ps : Array Value} {h : Heap} (x : Tab76 ps h) : NoCode (tabObj ps) := by
  rcases x with rfl | ⟨c, rfl, hc⟩
  · exact noCode_tab trivial
  · exact noCode_tab trivial

section
variable {prog : Program} {w : World} {A : Around} {G : Heap} {frames : List Env} {s : Shared} {R : Result → Shared → Prop} {mean : ExcName → Option Value} {mg mb : Str → Option Value}
set_option maxHeartbeats 8000000 in
theorem stream_call {bs : List UInt8} {t : Tok} {ps : Array Value} (Y : Amb w mean mg mb G) (B : Below A G frames s.heap) (hS : Laid G frames s.heap [(76, tabObj ps)])
    (ht : Tab76 ps s.heap) (hroom : A.depth + 2 < recursionLimit) (hz : bs.length ≤ 16777216) 
    (h : ∀ h' tk d t2 ps', KeepBut [76] s.heap h' → StD.Ok d → (∀ p ∈ d.led bs t2, h'.get? p.1 = some p.2 ∧ s.heap.get? p.1 = none) → h'.CodeRec (.ref d.cc) readQual → h'.get? 76 = some (tabObj ps') → Tab76 ps' h' → R (.ok (.ret (.ref d.x))) { s with heap := h', toks := tk }) :
    codeAny (model prog w) A (.call (.ref 81) ⟨[.bytes bs.toArray t], []⟩) R s := by
  have XG := Y.X.keeps B.stays
  refine enterC (binds := [(Str.ofString "octets", .bytes bs.toArray t)]) B hS Y.T.nolimit (XG _ _ (by k_is)) rfl (codeRec_of XG (by k_is)) (by omega) (BindsTo.of_eq (by rfl)) (by rfl) (by decide +kernel) ?_ (by rfl) (by rfl) (by rfl)
  intro g L' h₁ tk cells EN F N YC
  have B' := EN.B
  have X := Y.X.keeps B'.stays
  have T := Y.T.keeps B'.stays
  have C1 := Y.c1.keeps B'.stays
  have C2 := Y.c2.keeps B'.stays
  obtain ⟨oc, hE, d1⟩ := CellsAre.one YC
  subst hE
  simp only [List.cons_append, List.nil_append] at N
  have e76 : (76 : Nat) < L' := EN.lt (76, tabObj ps) (.head _)
  have hn := ht.noCode
  with_reducible change wpAny _ _ _ _ _ _
  k_fold
  refine with_frames B' fun hAf => ?_
  have hq : ∀ v s', R (.ok (.ret v)) s' → qk (.ret v) s' := fun _ _ h => h
  clear_value qk ek
  rcases ht with rfl | ⟨c, rfl, hc⟩
  · k_steps
    rename_i x' d' _ lA lB _ _ _ _ _ _ _ _ _ _ _ _ _ o' hcell f' c' oc' vs' t' ct' dc' _ _ hd1 hd2 l1 l2 _ h9 F9 N9
    dsimp only
    generalize hqn : qualnameIn _ _ _ = qn at hd2 N9
    have hqe : qn = readQual := by rw [← hqn]; kernel_rfl
    subst hqe
    clear hqn
    have hfr : ∀ a : Nat, @LT.lt Nat _ L' a → s.heap.get? a = none := fun a ha => Heap.get?_none_of_le (Nat.le_trans EN.room (Nat.le_of_lt ha))
    have hrec : h9.CodeRec (.ref c') readQual := ⟨c', oc', vs', t', rfl, (N9 (c', oc') (.tail _ (.head _))).1, hd1, hd2⟩
    refine' hq _ _ (h _ _ ⟨x', d', f', L' + 1, c', _, _, _, _, dc', (mg (Str.ofString "__name__")).getD .none, ct', o'⟩ t #[rawInt 38, rawInt 4, .ref c'] (EN.keepBut F9 fun p hp hnn => absurd ?kp hnn) hcell ?led hrec (N9 (76, _) (by k_mem)).1 (.inr ⟨c', rfl, hrec⟩))
    case kp => rw [List.mem_singleton.mp hp]; exact .head _
    case led => refine List.forall_mem_cons.mpr ⟨⟨(N9 (d', _) (by k_mem)).1, hfr _ (by dsimp only; omega)⟩, List.forall_mem_cons.mpr ⟨⟨(N9 (x', _) (by k_mem)).1, hfr _ (by dsimp only; omega)⟩, List.forall_mem_cons.mpr ⟨⟨(N9 (f', _) (.head _)).1, hfr _ (by dsimp only; omega)⟩, List.forall_mem_cons.mpr ⟨⟨(N9 (L' + 1, _) (by k_mem)).1, hfr _ (by dsimp only; omega)⟩, List.forall_mem_nil _⟩⟩⟩⟩
  · have hcg := EN.code hc (fun p hp => by rw [List.mem_singleton.mp hp]; exact hn)
    k_steps
    rename_i x' d' _ lA lB _ _ _ _ _ _ _ _ _ _ _ _ _ o' hcell f' ct' dc' _ _ l1 _ h9 F9 N9
    dsimp only
    generalize hqn : qualnameIn _ _ _ = qn at N9
    have hqe : qn = readQual := by rw [← hqn]; kernel_rfl
    subst hqe
    clear hqn
    have hfr : ∀ a : Nat, @LT.lt Nat _ L' a → s.heap.get? a = none := fun a ha => Heap.get?_none_of_le (Nat.le_trans EN.room (Nat.le_of_lt ha))
    have hrec : h9.CodeRec (.ref c) readQual := hcg.keeps F9.keep
    refine' hq _ _ (h _ _ ⟨x', d', f', L' + 1, c, _, _, _, _, dc', (mg (Str.ofString "__name__")).getD .none, ct', o'⟩ t #[rawInt 38, rawInt 4, .ref c] (EN.keepBut F9 fun p hp hnn => absurd ?kp hnn) hcell ?led hrec (N9 (76, _) (by k_mem)).1 (.inr ⟨c, rfl, hrec⟩))
    case kp => rw [List.mem_singleton.mp hp]; exact .head _
    case led => refine List.forall_mem_cons.mpr ⟨⟨(N9 (d', _) (by k_mem)).1, hfr _ (by dsimp only; omega)⟩, List.forall_mem_cons.mpr ⟨⟨(N9 (x', _) (by k_mem)).1, hfr _ (by dsimp only; omega)⟩, List.forall_mem_cons.mpr ⟨⟨(N9 (f', _) (.head _)).1, hfr _ (by dsimp only; omega)⟩, List.forall_mem_cons.mpr ⟨⟨(N9 (L' + 1, _) (by k_mem)).1, hfr _ (by dsimp only; omega)⟩, List.forall_mem_nil _⟩⟩⟩⟩
end
end Mine
end
theorem Mine.anewStreamMake : True ∧ True := by
  have h : True ∧ True := ⟨trivial, trivial⟩
  first | (walk1; done) | exact h
section
open PySem PySem.W PyProof.Rows PySem.Calls PySem.Spec
set_option maxHeartbeats 2000000
namespace Mine
local macro_rules | `(tactic| k_room) => `(tactic| ((try simp only [depth_mark, depth_under_make, depth_under_kw, depth_in1, depth_deeper, depth_caller]); omega))
local macro_rules | `(tactic| k_enter) => `(tactic| (refine' code_def ?k1 ?k2 ?k3 ?k4 ?k5 ?kA ?kF ?kK ?k6 ?k7 ?k8 ?k9 ?kB ?_ ?c2 ?c3 ?c4 ?c5; (case kA => assumption); (case kF => exact rfl); (case kK => first | exact rfl | assumption); (case k1 => k_asm); (case k2 => k_asm); (case k3 => k_asm); (case k4 => k_asm); (case k5 => k_asm); (case k6 => k_is); (case k7 => k_is); (case k8 => k_room); (case k9 => first | exact BindsTo.of_eq rfl | exact binds_K (by k_in) rfl (by k_is) rfl rfl rfl | fail "k_enter: no rule for these arguments"); (case c5 => decide); (case kB => exact locs rfl); (case c2 => exact rfl); (case c3 => exact rfl); (case c4 => exact rfl); k_whole; intro g' L' h' FG' F' N' B' X' T'; (try dsimp only); (try k_lift B'); (try k_fold)))
theorem lt_ne {d x : Nat} {l : List (Addr × Obj)} (h : ∀ p ∈ l, p.1 < d) (hd : d ≤ x) : ∀ p ∈ l, p.1 ≠ x := fun p hp => Nat.ne_of_lt (Nat.lt_of_lt_of_le (h p hp) hd)
local macro_rules | `(tactic| k_all) => `(tactic| exact lt_ne (by assumption) (by omega))
section
variable {prog : Program} {w : World} {A : Around} {G g : Heap} {outer : List Env} {s : Shared} {Q : Value → Shared → Prop} {E : Value → Shared → Prop} {mean : ExcName → Option Value} {mg mb : Str → Option Value} {L : Addr} {m : Str → Option Value}
  {cn : Str} {cs : Scope} {fa : Addr} {ccd : Value} {cl : List (Str × Addr)}
/-- a descriptor's object -/
noncomputable abbrev dObj (dd : Addr) (dc : Str) (t3 : Tok) (n : Int) (t2 : Tok) (nm : Str) (t1 : Tok) (rd : Addr) : Obj :=
  ⟨.ref 33, some dd, .plain, #[some (.str dc t3), some (.int n t2), some (.str nm t1), some (.ref rd)]⟩
set_option maxHeartbeats 8000000 in
theorem desc_use {nm dc : Str} {n : Int} {rd : Addr} {t1 t2 t3 : Tok} {news : List (Addr × Obj)} (Y : Amb w mean mg mb G) (B : Below A G outer g) (F : Fr g L s.heap m) (N : News g L s.heap news) (hke : cs.kind = .function)
    (hroom : A.depth + 10 < recursionLimit) (hn : 0 ≤ n)
    (h : ∀ a dd h' tk, Fr g L h' m → News g L h' ((a, dObj dd dc t3 n t2 nm t1 rd) :: (dd, dictOf [] 0) :: news) → (∀ p ∈ news, p.1 < dd) → @LT.lt Nat _ dd a → Q (.ref a) { s with heap := h', toks := tk }) :
    wpAny (model prog w) (A.deeper (envX cn cs L fa ccd cl)) (call (.ref 33) [.str nm t1, .int n t2, .ref rd, .str dc t3]) Q E s := by
  have X := Y.X.keeps B.stays
  have T := Y.T.keeps B.stays
  refine with_frames B fun hAf => ?_
  k_steps
  exact h _ _ _ _ (by assumption) (by assumption) (by assumption) (by assumption)
set_option maxHeartbeats 8000000 in
theorem desc_use2 {nm dc : Str} {rd : Addr} {t1 t2 t3 : Tok} {news : List (Addr × Obj)} (Y : Amb w mean mg mb G) (B : Below A G outer g) (F : Fr g L s.heap m) (N : News g L s.heap news) (hke : cs.kind = .function)
    (hroom : A.depth + 10 < recursionLimit)
    (h : ∀ a dd h' tk, Fr g L h' m → News g L h' ((a, dObj dd dc t3 (-2) t2 nm t1 rd) :: (dd, dictOf [] 0) :: news) → (∀ p ∈ news, p.1 < dd) → @LT.lt Nat _ dd a → Q (.ref a) { s with heap := h', toks := tk }) :
    wpAny (model prog w) (A.deeper (envX cn cs L fa ccd cl)) (call (.ref 33) [.str nm t1, .int (-2) t2, .ref rd, .str dc t3]) Q E s := by
  have X := Y.X.keeps B.stays
  have T := Y.T.keeps B.stays
  refine with_frames B fun hAf => ?_
  k_steps
  rename News g L _ _ => kN
  exact h _ _ _ _ (by assumption) (fun p hp => kN p (.tail _ hp)) (by assumption) (by assumption)
end
end Mine
end
theorem Mine.anewDesc : True ∧ True := by
  have h : True ∧ True := ⟨trivial, trivial⟩
  first | (walk1; done) | exact h
section
open PySem PySem.W PyProof.Rows PySem.Calls PySem.Spec
set_option maxHeartbeats 2000000
namespace Mine

/-- a descriptor's tree: an octet, a plain one, a counted one -/
inductive T where
  | u (b : UInt8)
  | p (cs : List T)
  | c (cs : List T)
/-- what a reader gives -/
inductive V where
  | int (i : Nat)
  | bytes (b : List UInt8)
  | list (vs : List V)

mutual
/-- what a reader does on a content: what is left, and the value or the words -/
noncomputable def T.parse : T → List UInt8 → List UInt8 × Except Str V
  | .u _, [] => ([], .error noData)
  | .u _, b :: r => (r, .ok (.int b.toNat))
  | .p cs, bs => match parseAll cs bs with
    | (r, .ok vs) => (r, .ok (.list vs))
    | (r, .error m) => (r, .error m)
  | .c cs, [] => ([], .error noData)
  | .c cs, n :: r =>
    if n.toNat ≤ r.length then
      match parseAll cs (r.take n.toNat) with
      | (r', .ok vs) => (r.drop n.toNat, .ok (.list (vs ++ [.bytes r'])))
      | (_, .error m) => (r.drop n.toNat, .error m)
    else ([], .error (cutWords n.toNat r.length))
noncomputable def parseAll : List T → List UInt8 → List UInt8 × Except Str (List V)
  | [], bs => (bs, .ok [])
  | t :: ts, bs => match t.parse bs with
    | (r, .error m) => (r, .error m)
    | (r, .ok v) => match parseAll ts r with
      | (r', .error m) => (r', .error m)
      | (r', .ok vs) => (r', .ok (v :: vs))
end

mutual
noncomputable def T.ht : T → Nat
  | .u _ => 0
  | .p cs => htAll cs + 1
  | .c cs => htAll cs + 1
noncomputable def htAll : List T → Nat
  | [] => 0
  | t :: ts => max t.ht (htAll ts)
end
mutual
/-- how many descriptors -/
noncomputable def T.sz : T → Nat
  | .u _ => 1
  | .p cs => szAll cs + 1
  | .c cs => szAll cs + 1
noncomputable def szAll : List T → Nat
  | [] => 0
  | t :: ts => t.sz + szAll ts
end
theorem T.sz_pos (t : T) : 1 ≤ t.sz := by cases t <;> simp [T.sz]
theorem len_le_sz : ∀ cs : List T, cs.length ≤ szAll cs
  | [] => Nat.zero_le _
  | t :: ts => by
    have h1 := t.sz_pos
    have h2 := len_le_sz ts
    rw [szAll, List.length_cons]; omega
theorem sz_le {t : T} : ∀ {cs : List T}, t ∈ cs → t.sz ≤ szAll cs
  | c :: cs, h => by
    rw [szAll]
    rcases List.mem_cons.mp h with rfl | h
    · omega
    · have := sz_le h; omega
mutual
noncomputable def T.oct : T → List UInt8
  | .u b => [b]
  | .p cs => octAll cs
  | .c cs => UInt8.ofNat (octAll cs).length :: octAll cs
noncomputable def octAll : List T → List UInt8
  | [] => []
  | t :: ts => t.oct ++ octAll ts
end
mutual
noncomputable def T.nm : T → Str
  | .u _ => Str.ofString "u"
  | .p cs => Str.ofString "(" ++ nmAll cs ++ Str.ofString ")"
  | .c cs => Str.ofString "<" ++ nmAll cs ++ Str.ofString ">"
noncomputable def nmAll : List T → Str
  | [] => Str.empty
  | t :: ts => t.nm ++ nmAll ts
end
mutual
noncomputable def T.n : T → Int
  | .u _ => 1
  | .p cs => nAll cs
  | .c _ => -2
noncomputable def nAll : List T → Int
  | [] => 0
  | t :: ts => t.n + nAll ts
end
noncomputable def dots : Nat → Str
  | 0 => Str.empty
  | n + 1 => dots n ++ Str.ofString "."
mutual
/-- the points of a doc -/
noncomputable def T.dp : T → Nat
  | .u _ => 0
  | .p cs => dpAll cs + 1
  | .c cs => dpAll cs + 1
noncomputable def dpAll : List T → Nat
  | [] => 0
  | t :: ts => max t.dp (dpAll ts)
end

/-! the two lambdas of _law_made -/
noncomputable def retArgs : Stmt → List Expr
  | .Return (some (.Call _ as _ _)) _ => as
  | _ => []
noncomputable def thenOf : Stmt → List Stmt
  | .If _ b _ _ => b
  | _ => []
noncomputable def lamBody : Expr → Expr
  | .Lambda _ b _ _ => b
  | e => e
noncomputable def lamPars : Expr → Arguments
  | .Lambda a _ _ _ => a
  | _ => ⟨[], [], none, [], [], none, []⟩
noncomputable def lamScope : Expr → Scope
  | .Lambda _ _ s _ => s
  | _ => default
noncomputable def madeBody : List Stmt := bodyOf (stAt 13)
noncomputable def lamP : Expr := (retArgs ((thenOf (madeBody.getD 2 (.Pass ⟨0,0,0,0⟩))).getD 1 (.Pass ⟨0,0,0,0⟩))).getD 2 (.Name "" ⟨0,0,0,0⟩)
noncomputable def lamC : Expr := (retArgs (madeBody.getD 3 (.Pass ⟨0,0,0,0⟩))).getD 2 (.Name "" ⟨0,0,0,0⟩)
noncomputable def lamQual : Str := Str.ofString "_law_made.<locals>.<lambda>"

/-- a lambda whose children are the list l -/
structure LamAt (h : Heap) (lam : Expr) (f l : Addr) : Prop where
  out : ∃ c oc cc pm ctv, h.get? f = some (kla_obj (Str.ofString "<lambda>") lamQual (lamPars lam) (lamBody lam) (lamScope lam) [(Str.ofString "children", c)] pm cc ctv) ∧ h.CodeRec (.ref cc) lamQual ∧ h.get? c = some oc ∧ oc.data = .cell (some (.ref l))

mutual
inductive DescIn (h : Heap) : Value → T → Prop
  | mk {a dd rd : Addr} {t1 t2 t3 : Tok} {t : T} : h.get? a = some (dObj dd (dots t.dp) t3 t.n t2 t.nm t1 rd) → h.get? dd = some (dictOf [] 0) → ReadIn h rd t → DescIn h (.ref a) t
inductive ReadIn (h : Heap) : Addr → T → Prop
  | u {b : UInt8} : ReadIn h 46 (.u b)
  | p {f l : Addr} {its : List Value} {n : Nat} {cs : List T} : LamAt h lamP f l → h.get? l = some (listOf its.toArray n) → DescAll h its cs → ReadIn h f (.p cs)
  | c {f l : Addr} {its : List Value} {n : Nat} {cs : List T} : LamAt h lamC f l → h.get? l = some (listOf its.toArray n) → DescAll h its cs → ReadIn h f (.c cs)
inductive DescAll (h : Heap) : List Value → List T → Prop
  | nil : DescAll h [] []
  | cons {v : Value} {vs : List Value} {t : T} {ts : List T} : DescIn h v t → DescAll h vs ts → DescAll h (v :: vs) (t :: ts)
end
mutual
/-- a value as it lies, its lists at addresses of N -/
inductive ValIn (N : Addr → Prop) (h : Heap) : Value → V → Prop
  | int (i : Nat) (t : Tok) : ValIn N h (.int i t) (.int i)
  | bytes (b : List UInt8) (t : Tok) : ValIn N h (.bytes b.toArray t) (.bytes b)
  | list {a : Addr} {vs : List Value} {n : Nat} {ds : List V} : N a → h.get? a = some (listOf vs.toArray n) → ValAll N h vs ds → ValIn N h (.ref a) (.list ds)
inductive ValAll (N : Addr → Prop) (h : Heap) : List Value → List V → Prop
  | nil : ValAll N h [] []
  | cons {v : Value} {vs : List Value} {d : V} {ds : List V} : ValIn N h v d → ValAll N h vs ds → ValAll N h (v :: vs) (d :: ds)
end

/-- the kinds of objects that a descriptor's tree and a value are made of -/
noncomputable def Foot (o : Obj) : Prop := o.cls = .ref 33 ∨ o = dictOf [] 0 ∨ (∃ fd, o.data = .func fd) ∨ (∃ vs q t, o.data = .fields vs ∧ vs[1]? = some (.str q t)) ∨ (∃ v, o.data = .cell v) ∨ o.cls = .type "list"

section
variable {h h' : Heap}
theorem LamAt.keep {lam : Expr} {f l : Addr} (k : ∀ b o, Foot o → h.get? b = some o → h'.get? b = some o) (x : LamAt h lam f l) : LamAt h' lam f l := by
  obtain ⟨c, oc, cc, pm, ctv, e1, ⟨c1, o1, vs, t, q1, q2, q3, q4⟩, e3, e4⟩ := x.out
  exact ⟨c, oc, cc, pm, ctv, k _ _ (.inr (.inr (.inl ⟨_, rfl⟩))) e1, ⟨c1, o1, vs, t, q1, k _ _ (.inr (.inr (.inr (.inl ⟨vs, _, t, q3, q4⟩)))) q2, q3, q4⟩, k _ _ (.inr (.inr (.inr (.inr (.inl ⟨_, e4⟩))))) e3, e4⟩
mutual
theorem DescIn.keep (k : ∀ b o, Foot o → h.get? b = some o → h'.get? b = some o) : ∀ {v : Value} {t : T}, DescIn h v t → DescIn h' v t
  | _, _, .mk e1 e2 r => .mk (k _ _ (.inl rfl) e1) (k _ _ (.inr (.inl rfl)) e2) (ReadIn.keep k r)
theorem ReadIn.keep (k : ∀ b o, Foot o → h.get? b = some o → h'.get? b = some o) : ∀ {a : Addr} {t : T}, ReadIn h a t → ReadIn h' a t
  | _, _, .u => .u
  | _, _, .p l e d => .p (l.keep k) (k _ _ (.inr (.inr (.inr (.inr (.inr rfl))))) e) (DescAll.keep k d)
  | _, _, .c l e d => .c (l.keep k) (k _ _ (.inr (.inr (.inr (.inr (.inr rfl))))) e) (DescAll.keep k d)
theorem DescAll.keep (k : ∀ b o, Foot o → h.get? b = some o → h'.get? b = some o) : ∀ {vs : List Value} {ts : List T}, DescAll h vs ts → DescAll h' vs ts
  | _, _, .nil => .nil
  | _, _, .cons d r => .cons (DescIn.keep k d) (DescAll.keep k r)
end
mutual
theorem ValIn.keep {N N' : Addr → Prop} (k : ∀ b xs n, N b → h.get? b = some (listOf xs n) → N' b ∧ h'.get? b = some (listOf xs n)) : ∀ {v : Value} {d : V}, ValIn N h v d → ValIn N' h' v d
  | _, _, .int i t => .int i t
  | _, _, .bytes b t => .bytes b t
  | _, _, .list hn e r => .list (k _ _ _ hn e).1 (k _ _ _ hn e).2 (ValAll.keep k r)
theorem ValAll.keep {N N' : Addr → Prop} (k : ∀ b xs n, N b → h.get? b = some (listOf xs n) → N' b ∧ h'.get? b = some (listOf xs n)) : ∀ {vs : List Value} {ds : List V}, ValAll N h vs ds → ValAll N' h' vs ds
  | _, _, .nil => .nil
  | _, _, .cons d r => .cons (ValIn.keep k d) (ValAll.keep k r)
end
theorem DescAll.length : ∀ {vs : List Value} {ts : List T}, DescAll h vs ts → vs.length = ts.length
  | _, _, .nil => rfl
  | _, _, .cons _ r => by simp [DescAll.length r]
theorem DescAll.append : ∀ {vs ws : List Value} {ts us : List T}, DescAll h vs ts → DescAll h ws us → DescAll h (vs ++ ws) (ts ++ us)
  | _, _, _, _, .nil, k => k
  | _, _, _, _, .cons d r, k => .cons d (DescAll.append r k)
theorem ValAll.append {N : Addr → Prop} : ∀ {vs ws : List Value} {ts us : List V}, ValAll N h vs ts → ValAll N h ws us → ValAll N h (vs ++ ws) (ts ++ us)
  | _, _, _, _, .nil, k => k
  | _, _, _, _, .cons d r, k => .cons d (ValAll.append r k)
theorem ValAll.length {N : Addr → Prop} : ∀ {vs : List Value} {ts : List V}, ValAll N h vs ts → vs.length = ts.length
  | _, _, .nil => rfl
  | _, _, .cons _ r => by simp [ValAll.length r]
/-- a change at objects of other kinds -/
theorem keep_foot {S : List Addr} (k : KeepBut S h h') (hn : ∀ a ∈ S, ∀ o, h.get? a = some o → ¬ Foot o) : ∀ b o, Foot o → h.get? b = some o → h'.get? b = some o :=
  fun b o hf e => k b o (fun q => hn b q o e hf) e
end
theorem noFoot_tab {ps : Array Value} (hn : NoCode (tabObj ps)) : ¬ Foot (tabObj ps) := by
  rintro (e | e | ⟨fd, e⟩ | ⟨vs, q, t, e1, e2⟩ | ⟨v, e⟩ | e)
  · cases e
  · cases e
  · cases e
  · exact hn vs q t e1 e2
  · cases e
  · cases e
theorem noFoot_dict {e : DictEntry} {es : List DictEntry} {n : Nat} : ¬ Foot (dictOf (e :: es) n) := by
  rintro (q | q | ⟨fd, q⟩ | ⟨vs, _, t, q, _⟩ | ⟨v, q⟩ | q)
  · cases q
  · have := congrArg Obj.data q; injection this with h1 h2; simp at h1
  · cases q
  · cases q
  · cases q
  · exact absurd (show Value.type "dict" = Value.type "list" from q) (by decide)
end Mine
end
theorem Mine.anewTree : True ∧ True := by
  have h : True ∧ True := ⟨trivial, trivial⟩
  first | (walk1; done) | exact h
section
open PySem PySem.W PyProof.Rows PySem.Calls PySem.Spec
set_option maxHeartbeats 2000000
namespace Mine

section
variable {prog : Program} {w : World} {A : Around} {E : Value → Shared → Prop} {s : Shared} {a dd rd : Addr} {dc nm : Str} {n : Int} {t1 t2 t3 : Tok}
theorem desc_inst {h : Heap} (e1 : h.get? a = some (dObj dd dc t3 n t2 nm t1 rd)) (e2 : h.get? dd = some (dictOf [] 0)) : W.InstAt h a (dObj dd dc t3 n t2 nm t1 rd) 33 (some (dictOf [] 0)) := ⟨e1, rfl, rfl, e2⟩
theorem slot_reader {expr : Bool} {Q : Value → Shared → Prop} (X : (hd.heap_39 w.params).In s.heap) (e1 : s.heap.get? a = some (dObj dd dc t3 n t2 nm t1 rd)) (e2 : s.heap.get? dd = some (dictOf [] 0))
    (h : Q (.ref rd) { s with toks := s.toks + 1 }) : wpAny (model prog w) A (getAttr (.ref a) (Str.ofString "reader") expr) Q E s :=
  get_bind X (desc_inst e1 e2) (by k_is) (findObj_data (a := .ref 37) (g := .builtin "member_descriptor.__get__") (by kernel_rfl) (by k_is) (by k_is) (by k_is)) (by k_is)
    (wpAny_call (slot_get (s := { s with toks := s.toks + 1 }) (i := 3) X (desc_inst e1 e2) (by k_is) rfl (handed_on rfl h)))
theorem slot_name {expr : Bool} {Q : Value → Shared → Prop} (X : (hd.heap_39 w.params).In s.heap) (e1 : s.heap.get? a = some (dObj dd dc t3 n t2 nm t1 rd)) (e2 : s.heap.get? dd = some (dictOf [] 0))
    (h : Q (.str nm t1) { s with toks := s.toks + 1 }) : wpAny (model prog w) A (getAttr (.ref a) (Str.ofString "name") expr) Q E s :=
  get_bind X (desc_inst e1 e2) (by k_is) (findObj_data (a := .ref 36) (g := .builtin "member_descriptor.__get__") (by kernel_rfl) (by k_is) (by k_is) (by k_is)) (by k_is)
    (wpAny_call (slot_get (s := { s with toks := s.toks + 1 }) (i := 2) X (desc_inst e1 e2) (by k_is) rfl (handed_on rfl h)))
theorem slot_n {expr : Bool} {Q : Value → Shared → Prop} (X : (hd.heap_39 w.params).In s.heap) (e1 : s.heap.get? a = some (dObj dd dc t3 n t2 nm t1 rd)) (e2 : s.heap.get? dd = some (dictOf [] 0))
    (h : Q (.int n t2) { s with toks := s.toks + 1 }) : wpAny (model prog w) A (getAttr (.ref a) (Str.ofString "n") expr) Q E s :=
  get_bind X (desc_inst e1 e2) (by k_is) (findObj_data (a := .ref 35) (g := .builtin "member_descriptor.__get__") (by kernel_rfl) (by k_is) (by k_is) (by k_is)) (by k_is)
    (wpAny_call (slot_get (s := { s with toks := s.toks + 1 }) (i := 1) X (desc_inst e1 e2) (by k_is) rfl (handed_on rfl h)))
theorem slot_doc {expr : Bool} {Q : Value → Shared → Prop} (X : (hd.heap_39 w.params).In s.heap) (e1 : s.heap.get? a = some (dObj dd dc t3 n t2 nm t1 rd)) (e2 : s.heap.get? dd = some (dictOf [] 0))
    (h : Q (.str dc t3) { s with toks := s.toks + 1 }) : wpAny (model prog w) A (getAttr (.ref a) (Str.ofString "doc") expr) Q E s :=
  get_bind X (desc_inst e1 e2) (by k_is) (findObj_data (a := .ref 34) (g := .builtin "member_descriptor.__get__") (by kernel_rfl) (by k_is) (by k_is) (by k_is)) (by k_is)
    (wpAny_call (slot_get (s := { s with toks := s.toks + 1 }) (i := 0) X (desc_inst e1 e2) (by k_is) rfl (handed_on rfl h)))
theorem meth_reader {pl : Sem Bool} {Q : Value × List Value → Shared → Prop} (X : (hd.heap_39 w.params).In s.heap) (e1 : s.heap.get? a = some (dObj dd dc t3 n t2 nm t1 rd)) (e2 : s.heap.get? dd = some (dictOf [] 0))
    (h : Q (.ref rd, []) { s with toks := s.toks + 1 }) : wpAny (model prog w) A (getMethod (.ref a) (Str.ofString "reader") pl) Q E s :=
  method_usual (r := some (.ref 37)) X (desc_inst e1 e2) (by k_is) (by k_is) (by k_is) (by kernel_rfl) (slot_reader X e1 e2 h)
end

/-- the table's records as a ledger -/
noncomputable def TabL (ps : Array Value) (cds : List (Addr × Obj)) : Prop :=
  (ps = #[] ∧ cds = []) ∨ ∃ c oc vs t, ps = #[rawInt 38, rawInt 4, .ref c] ∧ cds = [(c, oc)] ∧ oc.data = .fields vs ∧ vs[1]? = some (.str readQual t)
theorem Tab76.led {ps : Array Value} {h : Heap} (x : Tab76 ps h) : ∃ cds, TabL ps cds ∧ ∀ p ∈ cds, h.get? p.1 = some p.2 ∧ ∃ vs, p.2.data = .fields vs := by
  rcases x with rfl | ⟨c, rfl, c', o, vs, t, e1, e2, e3, e4⟩
  · exact ⟨[], .inl ⟨rfl, rfl⟩, fun p hp => nomatch hp⟩
  · cases e1
    exact ⟨[(c, o)], .inr ⟨c, o, vs, t, rfl, rfl, e3, e4⟩, fun p hp => by rw [List.mem_singleton.mp hp]; exact ⟨e2, vs, e3⟩⟩
theorem TabL.tab {ps : Array Value} {cds : List (Addr × Obj)} {h : Heap} (x : TabL ps cds) (k : ∀ p ∈ cds, h.get? p.1 = some p.2) : Tab76 ps h := by
  rcases x with ⟨rfl, rfl⟩ | ⟨c, oc, vs, t, rfl, rfl, e1, e2⟩
  · exact .inl rfl
  · exact .inr ⟨c, rfl, c, oc, vs, t, rfl, k (c, oc) (.head _), e1, e2⟩

/-- a stream and the table, ready to be read -/
structure Rdy (G : Heap) (frames : List Env) (h : Heap) (d : StD) (bs : List UInt8) (t2 : Tok) (ps : Array Value) : Prop where
  laid : Laid G frames h (d.led bs t2 ++ [(76, tabObj ps)])
  ok : d.Ok
  code : h.CodeRec (.ref d.cc) readQual
  tab : Tab76 ps h
section
variable {G h h' : Heap} {frames : List Env} {d : StD} {bs : List UInt8} {t2 : Tok} {ps : Array Value}
theorem Rdy.dx (x : Rdy G frames h d bs t2 ps) : h.get? d.dx = some (d.dict bs t2) := (x.laid (d.dx, d.dict bs t2) (by simp [StD.led])).1
theorem Rdy.tb (x : Rdy G frames h d bs t2 ps) : h.get? 76 = some (tabObj ps) := (x.laid (76, tabObj ps) (by simp)).1
theorem Rdy.noFoot (x : Rdy G frames h d bs t2 ps) : ∀ a ∈ [d.dx, 76], ∀ o, h.get? a = some o → ¬ Foot o := fun a ha o e => by
  rcases List.mem_cons.mp ha with rfl | ha
  · rw [x.dx] at e; cases e; exact noFoot_dict
  · rw [List.mem_singleton.mp ha, x.tb] at e; cases e; exact noFoot_tab x.tab.noCode
theorem Rdy.noCode (x : Rdy G frames h d bs t2 ps) : ∀ a ∈ [d.dx, 76], ∀ o, h.get? a = some o → NoCode o := fun a ha o e => by
  rcases List.mem_cons.mp ha with rfl | ha
  · rw [x.dx] at e; cases e; exact noCode_dict
  · rw [List.mem_singleton.mp ha, x.tb] at e; cases e; exact x.tab.noCode
theorem Rdy.ne (x : Rdy G frames h d bs t2 ps) : d.dx ≠ 76 := fun q => by
  have e := x.dx
  rw [q, x.tb] at e; cases e
theorem Rdy.off (x : Rdy G frames h d bs t2 ps) : ∀ a ∈ adrs frames, a ∉ [d.dx, 76] := fun a ha q => by
  rcases List.mem_cons.mp q with rfl | q
  · exact (x.laid (d.dx, d.dict bs t2) (by simp [StD.led])).2.2 ha
  · rw [List.mem_singleton.mp q] at ha
    exact (x.laid (76, tabObj ps) (by simp)).2.2 ha
theorem Rdy.keepAll (x : Rdy G frames h d bs t2 ps) (k : h.StaysIn h') : Rdy G frames h' d bs t2 ps :=
  ⟨fun p hp => ⟨k _ _ (x.laid p hp).1, (x.laid p hp).2⟩, x.ok, x.code.keeps k, x.tab.keep (T := []) (fun b o _ e => k b o e) (fun _ ha => nomatch ha)⟩
theorem funFrames_on {G h h' : Heap} : ∀ {l : List Env}, h.FunFrames G l → (∀ a ∈ adrs l, ∀ o, h.get? a = some o → h'.get? a = some o) → h'.FunFrames G l
  | [], _, _ => trivial
  | env :: r, ⟨hk, ⟨L, o, hf, hn, ho, hd⟩, hr⟩, k => ⟨hk, ⟨L, o, hf, hn, k L (List.mem_filterMap.mpr ⟨env, .head _, hf⟩) o ho, hd⟩, funFrames_on hr fun a ha => k a (by
      obtain ⟨e, he, hq⟩ := List.mem_filterMap.mp ha
      exact List.mem_filterMap.mpr ⟨e, .tail _ he, hq⟩)⟩
theorem below_keep {A : Around} {T : List Addr} (B : Below A G frames h) (k : KeepBut T h h') (h1 : ∀ a ∈ T, G.get? a = none) (h2 : ∀ a ∈ adrs frames, a ∉ T) : Below A G frames h' :=
  ⟨B.stack, fun b o e => k b o (fun q => by rw [h1 b q] at e; cases e) (B.stays b o e), funFrames_on B.frames fun a ha o e => k a o (h2 a ha) e⟩
theorem Rdy.ground (x : Rdy G frames h d bs t2 ps) : ∀ a ∈ [d.dx, 76], G.get? a = none := fun a ha => by
  rcases List.mem_cons.mp ha with rfl | ha
  · exact (x.laid (d.dx, d.dict bs t2) (by simp [StD.led])).2.1
  · rw [List.mem_singleton.mp ha]; exact (x.laid (76, tabObj ps) (by simp)).2.1
theorem Rdy.fresh (x : Rdy G frames h d bs t2 ps) {a : Addr} (ha : h.get? a = none) : (∀ bs' t2', ∀ p ∈ d.led bs' t2', p.1 ≠ a) ∧ (76 : Addr) ≠ a := by
  refine ⟨fun bs' t2' p hp q => ?_, fun q => by have h8 := x.tb; rw [q, ha] at h8; cases h8⟩
  rcases List.mem_cons.mp hp with rfl | hp
  · have h8 := x.dx; rw [show d.dx = a from q, ha] at h8; cases h8
  · have h8 := (x.laid p (List.mem_append_left _ (List.mem_cons_of_mem _ hp))).1
    rw [q, ha] at h8; cases h8
theorem adrs_cons {env : Env} {L : Addr} (hf : env.frame = some L) (l : List Env) : adrs (env :: l) = L :: adrs l := by simp [adrs, hf]
/-- into a call -/
theorem Rdy.into {env : Env} {L : Addr} (x : Rdy G frames h d bs t2 ps) (k : h.StaysIn h') (hL : h.get? L = none) (hf : env.frame = some L) : Rdy G (env :: frames) h' d bs t2 ps := by
  have y := x.keepAll k
  refine ⟨fun p hp => ⟨(y.laid p hp).1, (y.laid p hp).2.1, ?_⟩, y.ok, y.code, y.tab⟩
  rw [adrs_cons hf]
  intro hm
  rcases List.mem_cons.mp hm with q | q
  · have := (x.laid p hp).1
    rw [q, hL] at this; cases this
  · exact (x.laid p hp).2.2 q
/-- out of it -/
theorem Rdy.out {env : Env} {L : Addr} (x : Rdy G (env :: frames) h d bs t2 ps) (hf : env.frame = some L) : Rdy G frames h d bs t2 ps :=
  ⟨fun p hp => ⟨(x.laid p hp).1, (x.laid p hp).2.1, fun q => (x.laid p hp).2.2 (by rw [adrs_cons hf]; exact .tail _ q)⟩, x.ok, x.code, x.tab⟩
/-- a change elsewhere -/
theorem Rdy.keepBut {T : List Addr} (x : Rdy G frames h d bs t2 ps) (k : KeepBut T h h') (h1 : ∀ p ∈ d.led bs t2, p.1 ∉ T) (h2 : 76 ∉ T) (hn : ∀ a ∈ T, ∀ o, h.get? a = some o → NoCode o) : Rdy G frames h' d bs t2 ps := by
  refine ⟨fun p hp => ⟨k _ _ ?_ (x.laid p hp).1, (x.laid p hp).2⟩, x.ok, code_keep x.code k hn, x.tab.keep k hn⟩
  rcases List.mem_append.mp hp with hp | hp
  · exact h1 p hp
  · rw [List.mem_singleton.mp hp]; exact h2
/-- the stream's content is turned -/
theorem Rdy.turn {bs' : List UInt8} {t2' : Tok} (x : Rdy G frames h d bs t2 ps) (k : KeepBut [d.dx] h h') (hl : ∀ p ∈ d.led bs' t2', h'.get? p.1 = some p.2) : Rdy G frames h' d bs' t2' ps := by
  have hn : ∀ a ∈ [d.dx], ∀ o, h.get? a = some o → NoCode o := fun a ha o e => x.noCode a (by rw [List.mem_singleton.mp ha]; exact .head _) o e
  refine ⟨fun p hp => ?_, x.ok, code_keep x.code k hn, x.tab.keep k hn⟩
  rcases List.mem_append.mp hp with hp | hp
  · refine ⟨hl p hp, ?_⟩
    rcases List.mem_cons.mp hp with rfl | hp
    · exact (x.laid (d.dx, d.dict bs t2) (by simp [StD.led])).2
    · exact (x.laid p (List.mem_append_left _ (List.mem_cons_of_mem _ hp))).2
  · rw [List.mem_singleton.mp hp]
    exact ⟨k _ _ (fun q => x.ne (List.mem_singleton.mp q).symm) x.tb, (x.laid (76, tabObj ps) (by simp)).2⟩
end

/-- what a reader keeps: the contract of a tree -/
noncomputable def Reads (prog : Program) (w : World) (G : Heap) (t : T) : Prop :=
  ∀ (A : Around) (frames : List Env) (s : Shared) (R : Result → Shared → Prop) (d : StD) (bs : List UInt8) (t2 : Tok) (ps : Array Value) (rd : Addr),
    Below A G frames s.heap → ReadIn s.heap rd t → Rdy G frames s.heap d bs t2 ps → A.depth + 2 * t.ht + 8 < recursionLimit → t.sz ≤ 1000 → bs.length ≤ 1000 → A.handled = none →
    (∀ V r, t.parse bs = (r, .ok V) → ∀ v h' tk t2' ps', KeepBut [d.dx, 76] s.heap h' → ValIn (fun a => s.heap.get? a = none) h' v V → Rdy G frames h' d r t2' ps' → R (.ok (.ret v)) { s with heap := h', toks := tk }) →
    (∀ m r, t.parse bs = (r, .error m) → ∀ e h' tk t2' ps' cds', TabL ps' cds' → Flies s.heap [d.dx, 76] frames (d.led r t2' ++ (76, tabObj ps') :: cds') m e h' → R (.error e) { s with heap := h', toks := tk }) →
    codeAny (model prog w) A (.call (.ref rd) ⟨[.ref d.x], []⟩) R s

theorem ReadIn.fn {w : World} {h : Heap} {rd : Addr} {t : T} (X : (hd.heap_39 w.params).In h) (r : ReadIn h rd t) : FnAt rd h := by
  cases r with
  | u => exact ⟨_, _, _, _, X 46 _ (by k_is)⟩
  | p l e d => obtain ⟨c, oc, cc, pm, ctv, e1, _⟩ := l.out; exact ⟨_, _, _, _, e1⟩
  | c l e d => obtain ⟨c, oc, cc, pm, ctv, e1, _⟩ := l.out; exact ⟨_, _, _, _, e1⟩

section
variable {prog : Program} {w : World} {A : Around} {E : Value → Shared → Prop} {s : Shared}
/-- child.reader(stream), up to the call -/
theorem elt_eval {env : Env} {sc a x : Addr} {m : Str → Option Value} {t : T} {p1 p2 p3 p4 : Pos} {pl : Sem Bool} {Q : Value → Shared → Prop} (X : (hd.heap_39 w.params).In s.heap)
    (hk : env.scope.kind = .function) (hch : env.kindOf (Str.ofString "child") = some .local) (hst : env.kindOf (Str.ofString "stream") = some .cell) (hn : s.heap.Ns env.locals m) (hm : m (Str.ofString "child") = some (.ref a))
    (hc : env.cells.lookup (Str.ofString "stream") = some sc) (hsc : s.heap.IsCell sc (some (.ref x))) (hd : DescIn s.heap (.ref a) t)
    (h : ∀ rd tk, ReadIn s.heap rd t → wpAny (model prog w) A (call (.ref rd) [.ref x]) Q E { s with toks := tk })
    (he : eval (.Call (.Attribute (.Name (Str.ofString "child") p1) (Str.ofString "reader") p2) [.Name (Str.ofString "stream") p3] [] p4) env = (do
      let ov ← eval (.Name (Str.ofString "child") p1) env
      standAt p2.atName
      let (f, first) ← holding [ov] (getMethod ov (Str.ofString "reader") pl)
      callWith p4 f first (backTo p4 (starEach [.Name (Str.ofString "stream") p3] env)) [])) :
    wpAny (model prog w) A (eval (.Call (.Attribute (.Name (Str.ofString "child") p1) (Str.ofString "reader") p2) [.Name (Str.ofString "stream") p3] [] p4) env) Q E s := by
  cases hd with
  | mk e1 e2 r =>
    refine MethodCall_ ?_ he
    refine wpAny_Name (wpAny_loadName_local hk hch hn hm ?_)
    refine meth_reader X e1 e2 ?_
    refine callWith_F (r.fn X) (spliced_more ?_)
    refine wpAny_Name (wpAny_loadName_cell hk hst hc hsc (spliced_none ⟨r.fn X, ?_⟩))
    exact h _ _ r
end
end Mine
end
theorem Mine.anewComp : True ∧ True := by
  have h : True ∧ True := ⟨trivial, trivial⟩
  first | (walk1; done) | exact h
section
open PySem PySem.W PyProof.Rows PySem.Calls PySem.Spec
set_option maxHeartbeats 2000000
namespace Mine

theorem noteFrame_eq {env cenv : Env} (h : cenv.frame = env.frame) (e : Value) : noteFrame e cenv = noteFrame e env := by unfold noteFrame PySem.frameOf; rw [h]

section
variable {M : Model} {A : Around} {E : Value → Shared → Prop} {s : Shared} {h h₁ h₂ : Heap} {S : List Addr} {S' : List (Addr × Obj)} {txt : Str} {e : Value} {l : List Env}
theorem noted_any {env cenv : Env} {outer : List Env} {L : Addr} {Q : Unit → Shared → Prop} (hfr : A.frames = some (env :: outer)) (hf : env.frame = some L) (hc : cenv.frame = env.frame) (x : Flies h S (env :: outer) S' txt e s.heap)
    (hQ : ∀ h', FliesAny h S (env :: outer) S' txt e h' → (∀ C m, s.heap.Ns C m → h'.Ns C m) → Q () { s with heap := h' }) : wpAny M A (noteFrame e cenv) Q E s := by
  obtain ⟨B, ea, t, tk, rfl, f1, f2, f3, f4, f5, f6⟩ := x
  rw [noteFrame_eq hc]
  refine wpAny_looks_onW hfr hf f1 fun h' y1 y2 => hQ h' ⟨B, ea, t, tk, _, rfl, ⟨y1.1, y1.2.1, y1.2.2.1, y1.2.2.2⟩, f2.of_slots y2, f3, f4, f5, fun a ha o q => ?_⟩ fun C m hn => y2.ns hn
  obtain ⟨sl, q1⟩ := f6 a ha o q
  obtain ⟨_, o', q2, hn⟩ := f1.2.2.1.mem ha
  rw [q1] at q2; cases q2
  obtain ⟨sl', q3⟩ := y2 a _ q1 hn
  exact ⟨sl', q3⟩

theorem Flies.from {h₀ : Heap} (x : Flies h S l S' txt e h₁) (k : KeepBut S h₀ h) (hf : ∀ a ∈ adrs l, a ∉ S) : Flies h₀ S l S' txt e h₁ := by
  obtain ⟨B, ea, t, tk, rfl, f1, f2, f3, f4, f5, f6⟩ := x
  exact ⟨B, ea, t, tk, rfl, f1, f2, f3, fun b o hb hbl q => f4 b o hb hbl (k b o hb q), f5, fun a ha o q => f6 a ha o (k a o (hf a ha) q)⟩
theorem Flies.kept (x : Flies h S l S' txt e h₁) {b : Addr} {o : Obj} (hb : b ∉ S) (hbl : b ∉ adrs l) (q : h.get? b = some o) : h₁.get? b = some o := by
  obtain ⟨B, ea, t, tk, rfl, f1, f2, f3, f4, f5, f6⟩ := x
  exact f1.1 b o (f4 b o hb hbl q)
theorem Flies.there (x : Flies h S l S' txt e h₁) : ∀ p ∈ S', h₁.get? p.1 = some p.2 := by
  obtain ⟨B, ea, t, tk, rfl, f1, f2, f3, f4, f5, f6⟩ := x
  exact fun p hp => f1.1 _ _ (f5 p hp)
theorem FliesAny.same {C : Addr} {m : Str → Option Value} (x : FliesAny h S l S' txt e h₁) (hs : Heap.SameBut C h₁ h₂) (hn : h₁.Ns C m) (hC : C ∉ adrs l) (hCh : h.get? C = none) (hS : ∀ p ∈ S', p.1 ≠ C) : FliesAny h S l S' txt e h₂ := by
  obtain ⟨B, ea, t, tk, fl, rfl, ⟨g1, g2, g3, oe, vs, T, oT, ts, he, hcl, hd, h1, hnT, hTe, hT, hdT, h3⟩, ⟨ot, nt, e1, e2, e3⟩, f3, f4, f5, f6⟩ := x
  obtain ⟨oC, es, ep, hoC, hdC, _⟩ := hn
  have ne : ∀ b o, h₁.get? b = some o → (∀ es n, o.data ≠ .dict es n) → b ≠ C := fun b o eb hb q => by
    rw [q, hoC] at eb; cases eb; exact hb _ _ hdC
  have ea' := ne ea oe he (fun es n q => by rw [hd] at q; cases q)
  have eT := ne T oT hT (fun es n q => by rw [hdT] at q; cases q)
  have et := ne t ot e1 (fun es n q => by rw [e3] at q; cases q)
  have hide_none : ∀ b, B.get? b = none → (hideAll B [C]).get? b = none := fun b hb => by
    cases q : (hideAll B [C]).get? b with
    | none => rfl
    | some o => rw [of_hideAll _ q] at hb; cases hb
  refine ⟨hideAll B [C], ea, t, tk, fl, rfl, ⟨fun b o q => ?_, hide_none _ g2, ?_, oe, vs, T, oT, ts, (hs.2 _ ea').trans he, hcl, hd, h1, hide_none _ hnT, hTe, (hs.2 _ eT).trans hT, hdT, h3⟩, ⟨ot, nt, (hs.2 _ et).trans e1, e2, e3⟩, hide_none _ f3, fun b o hb hbl q => hideAll_get _ (f4 b o hb hbl q) fun hm => ?_, fun p hp => hideAll_get _ (f5 p hp) fun hm => hS p hp (List.mem_singleton.mp hm), fun a ha o q => ?_⟩
  · have hbC : b ≠ C := fun z => by rw [z, hideAll_none [C] (.head _)] at q; cases q
    exact (hs.2 _ hbC).trans (g1 b o (of_hideAll _ q))
  · have key : ∀ {l' : List Env}, (∀ a ∈ adrs l', a ∈ adrs l) → h₁.FunFrames B l' → h₂.FunFrames (hideAll B [C]) l' := by
      intro l'
      induction l' with
      | nil => intro _ _; trivial
      | cons ev r ih =>
        rintro hsub ⟨hk, ⟨L, o, hf, hnn, ho, hdd⟩, hr⟩
        have hL : L ≠ C := fun z => hC (z ▸ hsub L (List.mem_filterMap.mpr ⟨ev, .head _, hf⟩))
        refine ⟨hk, ⟨L, o, hf, hide_none _ hnn, (hs.2 _ hL).trans ho, hdd⟩, ih (fun a ha => hsub a ?_) hr⟩
        obtain ⟨ev', he', hf'⟩ := List.mem_filterMap.mp ha
        exact List.mem_filterMap.mpr ⟨ev', .tail _ he', hf'⟩
    exact key (fun a ha => ha) g3
  · rw [List.mem_singleton.mp hm, hCh] at q; cases q
  · obtain ⟨sl, q1⟩ := f6 a ha o q
    exact ⟨sl, (hs.2 _ fun z => hC (z ▸ ha)).trans q1⟩

theorem passOn_any {what : String} {cenv : Env} {Q : Value → Shared → Prop} (x : FliesAny h S l S' txt e s.heap) (hE : ∀ h', FliesAny h S l S' txt e h' → E e { s with heap := h' }) : wpAny M A (PySem.passOn what e cenv : Sem Value) Q E s := by
  obtain ⟨B, ea, t, tk, fl, rfl, ⟨g1, g2, g3, oe, vs, T, oT, ts, he, hcl, hd, h1, hnT, hTe, hT, hdT, h3⟩, ⟨ot, nt, e1, e2, e3⟩, f3, f4, f5, f6⟩ := x
  unfold PySem.passOn
  refine wpAny_bind (wpAny_field he hd h1 ?_)
  rw [if_neg (show ¬ ((Value.ref T == Value.none) = true) from by simp)]
  unfold setFlight
  refine wpAny_bind (wpAny_bind (wpAny_field he hd h1 ?_))
  rw [if_pos (show (Value.ref T != Value.none) = true from by simp)]
  have hsz3 : 3 < ts.size := (Array.getElem?_eq_some_iff.mp h3).1
  refine wpAny_setField hT hdT hsz3 (wpAny_throw (hE _ ?_))
  have other : ∀ b, b ≠ T → (s.heap.update T (Obj.mapFields (·.setIfInBounds 3 (cenv.frame.elim Value.none fun f => rawInt f)))).get? b = s.heap.get? b := fun b hb => Heap.get?_update_other _ _ (Ne.symm hb)
  have noRec : ∀ b o, s.heap.get? b = some o → (∀ vs, o.data ≠ .fields vs) → b ≠ T := fun b o hb hnf q => by
    rw [q, hT] at hb; cases hb; exact hnf ts hdT
  refine ⟨B, ea, t, tk, cenv.frame.elim Value.none fun f => rawInt f, rfl, ⟨fun b o q => (other b fun z => by rw [z, hnT] at q; cases q).trans (g1 b o q), g2, g3.of_keeps fun b o hb hnf => ⟨o, (other b (noRec b o hb hnf)).trans hb, rfl⟩, oe, vs, T, _, _, (other ea (Ne.symm hTe)).trans he, hcl, hd, h1, hnT, hTe, Heap.get?_update_self _ hT (Obj.isFreed_of_fields (Obj.data_mapFields hdT _)), Obj.data_mapFields hdT _, by simp [hsz3]⟩,
    ⟨ot, nt, (other t (noRec t ot e1 fun vs q => by rw [e3] at q; cases q)).trans e1, e2, e3⟩, f3, f4, f5, fun a ha o q => ?_⟩
  obtain ⟨sl, q1⟩ := f6 a ha o q
  obtain ⟨_, o', q2, hn⟩ := g3.mem ha
  rw [q1] at q2; cases q2
  exact ⟨sl, (other a (noRec a _ q1 hn)).trans q1⟩
end

theorem parseAll_snoc {t : T} : ∀ {cs : List T} {bs r r' : List UInt8} {Vs : List V}, parseAll cs bs = (r, .ok Vs) →
    parseAll (cs ++ [t]) bs = (match t.parse r with | (r', .ok v) => (r', .ok (Vs ++ [v])) | (r', .error m) => (r', .error m))
  | [], bs, r, _, Vs, h => by
    rw [parseAll] at h
    cases h
    rw [List.nil_append, parseAll]
    rcases hp : t.parse bs with ⟨r1, e | v⟩
    · rfl
    · simp [parseAll]
  | c :: cs, bs, r, r', Vs, h => by
    rw [parseAll] at h
    rw [List.cons_append, parseAll]
    rcases hp : c.parse bs with ⟨r1, e | v⟩
    · rw [hp] at h; cases h
    · rw [hp] at h
      dsimp only at h ⊢
      rcases hq : parseAll cs r1 with ⟨r2, e | vs⟩
      · rw [hq] at h; cases h
      · rw [hq] at h; cases h
        rw [parseAll_snoc (r' := r') hq]
        rcases hz : t.parse r with ⟨r3, e | v3⟩ <;> simp
theorem parseAll_stop {m : Str} : ∀ {cs ds : List T} {bs r : List UInt8}, parseAll cs bs = (r, .error m) → parseAll (cs ++ ds) bs = (r, .error m)
  | [], _, bs, r, h => by rw [parseAll] at h; cases h
  | c :: cs, ds, bs, r, h => by
    rw [parseAll] at h
    rw [List.cons_append, parseAll]
    rcases hp : c.parse bs with ⟨r1, e | v⟩
    · rw [hp] at h; exact h
    · rw [hp] at h
      dsimp only at h ⊢
      rcases hq : parseAll cs r1 with ⟨r2, e | vs⟩
      · rw [hq] at h; cases h
        rw [parseAll_stop hq]
      · rw [hq] at h; cases h
theorem DescAll.at {h : Heap} : ∀ {vs : List Value} {ts : List T} {i : Nat} {v : Value}, DescAll h vs ts → vs[i]? = some v → ∃ t, ts[i]? = some t ∧ DescIn h v t
  | _, _, i, v, .nil, e => by simp at e
  | _, _, 0, v, .cons d r, e => by
    simp at e; subst e; exact ⟨_, rfl, d⟩
  | _, _, i + 1, v, .cons d r, e => by
    simp at e
    obtain ⟨t, h1, h2⟩ := DescAll.at r e
    exact ⟨t, by simpa using h1, h2⟩
theorem ht_le {t : T} : ∀ {cs : List T}, t ∈ cs → t.ht ≤ htAll cs
  | c :: cs, h => by
    rw [htAll]
    rcases List.mem_cons.mp h with rfl | h
    · exact Nat.le_max_left _ _
    · exact Nat.le_trans (ht_le h) (Nat.le_max_right _ _)
mutual
theorem parse_len : ∀ (t : T) (bs : List UInt8), (t.parse bs).1.length ≤ bs.length
  | .u _, [] => by rw [T.parse]; exact Nat.le_refl _
  | .u _, b :: r => by rw [T.parse]; simp
  | .p cs, bs => by
    have := parseAll_len cs bs
    rw [T.parse]
    rcases h : parseAll cs bs with ⟨r, e | v⟩ <;> (rw [h] at this; exact this)
  | .c cs, [] => by rw [T.parse]; exact Nat.le_refl _
  | .c cs, n :: r => by
    rw [T.parse]
    split
    · rcases h : parseAll cs (r.take n.toNat) with ⟨r1, e | v⟩ <;> (dsimp only; rw [List.length_drop, List.length_cons]; omega)
    · simp
theorem parseAll_len : ∀ (cs : List T) (bs : List UInt8), (parseAll cs bs).1.length ≤ bs.length
  | [], bs => by rw [parseAll]; exact Nat.le_refl _
  | t :: ts, bs => by
    have h1 := parse_len t bs
    rw [parseAll]
    rcases h : t.parse bs with ⟨r, e | v⟩
    · rw [h] at h1; exact h1
    · rw [h] at h1
      have h2 := parseAll_len ts r
      dsimp only at h1 ⊢
      rcases hq : parseAll ts r with ⟨r2, e | v2⟩ <;> (rw [hq] at h2; dsimp only at h2 ⊢; omega)
end

section
variable {prog : Program} {w : World} {A : Around} {E : Value → Shared → Prop} {mean : ExcName → Option Value} {mg mb : Str → Option Value} {G : Heap}
/-- the turns of [child.reader(stream) for child in children] -/
theorem comp_loop {cs : List T} (IH : ∀ t ∈ cs, Reads prog w G t) {s s₀ : Shared} {env cenv : Env} {outer : List Env} {d : StD} {bs : List UInt8} {t2 : Tok} {ps : Array Value} {l L I D sc : Addr} {its : List Value} {n : Nat}
    {RR : Result → Shared → Prop} {scope : Scope} {iter : Expr} {p1 p2 p3 p4 pc pos : Pos} {pl : Sem Bool} {m : Str → Option Value}
    (Y : Amb w mean mg mb G) (B : Below A G (env :: outer) s₀.heap) (hf : env.frame = some L) (hfc : cenv.frame = env.frame) (hh : A.handled = none)
    (hk : cenv.scope.kind = .function) (hch : cenv.kindOf (Str.ofString "child") = some .local) (hst : cenv.kindOf (Str.ofString "stream") = some .cell)
    (hc : cenv.cells.lookup (Str.ofString "stream") = some sc) (hsc : s₀.heap.IsCell sc (some (.ref d.x)))
    (he : eval (.Call (.Attribute (.Name (Str.ofString "child") p1) (Str.ofString "reader") p2) [.Name (Str.ofString "stream") p3] [] p4) cenv = (do
      let ov ← eval (.Name (Str.ofString "child") p1) cenv
      standAt p2.atName
      let (f, first) ← holding [ov] (getMethod ov (Str.ofString "reader") pl)
      callWith p4 f first (backTo p4 (starEach [.Name (Str.ofString "stream") p3] cenv)) []))
    (hl : s₀.heap.get? l = some (listOf its.toArray n)) (hd : DescAll s₀.heap its cs) (hR : Rdy G (env :: outer) s₀.heap d bs t2 ps)
    (hroom : A.depth + 2 * htAll cs + 8 < recursionLimit) (hz : bs.length ≤ 1000) (hcs : szAll cs ≤ 1000)
    (hI : s₀.heap.get? I = none) (hD : s₀.heap.get? D = none) (hC : s₀.heap.get? cenv.locals = none) (hID : I ≠ D) (hIC : I ≠ cenv.locals) (hDC : D ≠ cenv.locals)
    (hs : ∃ h₁ tk, s = { s₀ with heap := h₁, toks := tk }) (hk₁ : s₀.heap.StaysIn s.heap) (hit : s.heap.IsListIter I l 0) (hacc : s.heap.PlainList D #[]) (hn : s.heap.Ns cenv.locals m)
    (hok : ∀ Vs r, parseAll cs bs = (r, .ok Vs) → ∀ ys h' tk m' t2' ps', KeepBut [d.dx, 76] s₀.heap h' → h'.PlainList D ys.toArray → ValAll (fun a => s₀.heap.get? a = none ∧ a ≠ D) h' ys Vs → Rdy G (env :: outer) h' d r t2' ps' → h'.Ns cenv.locals m' → RR (.ok .next) { s₀ with heap := h', toks := tk })
    (herr : ∀ mm r, parseAll cs bs = (r, .error mm) → ∀ e h' tk m' t2' ps' cds', TabL ps' cds' → (∀ p ∈ cds', p.1 ≠ cenv.locals) → FliesAny s₀.heap [d.dx, 76] (env :: outer) (d.led r t2' ++ (76, tabObj ps') :: cds') mm e h' → h'.Ns cenv.locals m' → RR (.error e) { s₀ with heap := h', toks := tk }) :
    codeAny (model prog w) A (.compLoop (.ListComp (.Call (.Attribute (.Name (Str.ofString "child") p1) (Str.ofString "reader") p2) [.Name (Str.ofString "stream") p3] [] p4) [⟨.Name (Str.ofString "child") pc, iter, [], 0⟩] scope pos) 0 (.ref I) (.ref D) cenv) RR s := by
  have hlen := hd.length
  have hcl := len_le_sz cs
  have hlI : l ≠ I := fun q => by rw [q, hI] at hl; cases hl
  have hlD : l ≠ D := fun q => by rw [q, hD] at hl; cases hl
  have hlC : l ≠ cenv.locals := fun q => by rw [q, hC] at hl; cases hl
  have hp : (cenv.scope.kind == .class || (cenv.scope.kind == .module && cenv.locals != cenv.globals)) = false := by rw [hk]; rfl
  have notS : ∀ a, s₀.heap.get? a = none → a ∉ [d.dx, 76] := fun a ha q => by
    rcases List.mem_cons.mp q with rfl | q
    · rw [hR.dx] at ha; cases ha
    · rw [List.mem_singleton.mp q, hR.tb] at ha; cases ha
  refine codeAny_compLoop_list
    (fun k s' => ∃ h' tk m' ys i bs' t2' ps' Vs, s' = { s₀ with heap := h', toks := tk } ∧ k = cs.length + 1 - i ∧ i ≤ cs.length ∧ h'.IsListIter I l i ∧ h'.Ns cenv.locals m' ∧ h'.PlainList D ys.toArray ∧ KeepBut [d.dx, 76] s₀.heap h' ∧
      ValAll (fun a => s₀.heap.get? a = none ∧ a ≠ D) h' ys Vs ∧ ys.length = i ∧ parseAll (cs.take i) bs = (bs', .ok Vs) ∧ Rdy G (env :: outer) h' d bs' t2' ps') ?_ (cs.length + 1) ?_
  · rintro k s' ⟨h', tk, m', ys, i, bs', t2', ps', Vs, rfl, rfl, hi, hit', hn', hacc', hkb, hva, hyl, hpa, hR'⟩
    have hl' : h'.IsList l its.toArray := ⟨_, hkb l _ (fun q => hR.noFoot l q _ hl (.inr (.inr (.inr (.inr (.inr rfl)))))) hl, rfl, n, rfl⟩
    cases hv : its[i]? with
    | none =>
      have hge : its.length ≤ i := by simpa using hv
      have hie : i = cs.length := by omega
      refine wpAny_pyNext_list_end hh hit' hl' (by simpa using hv) fun h₁ he₁ => ?_
      have kI : KeepBut [I] h' h₁ := fun b o hb e => he₁ b o (fun q => hb (List.mem_singleton.mpr q)) e
      rw [hie, List.take_length] at hpa
      refine hok Vs bs' hpa ys h₁ tk m' t2' ps' (fun b o hb e => kI b o (fun q => by rw [List.mem_singleton.mp q, hI] at e; cases e) (hkb b o hb e)) (hacc'.at fun o e => kI _ o (fun q => hID (List.mem_singleton.mp q).symm) e) ?_ ?_ (hn'.extBut he₁ (fun q => hIC q.symm))
      · refine hva.keep fun b xs n hN e => ⟨hN, kI b _ (fun q => ?_) e⟩
        obtain ⟨o, ho, hc1, _⟩ := hit'
        rw [List.mem_singleton.mp q, ho] at e; cases e; exact absurd (show Value.type "list" = Value.type "list_iterator" from hc1) (by decide)
      · refine hR'.keepBut kI (fun p hp q => ?_) (fun q => ?_) fun a ha o e => ?_
        · exact (hR.fresh hI).1 _ _ p hp (List.mem_singleton.mp q)
        · exact (hR.fresh hI).2 (List.mem_singleton.mp q)
        · obtain ⟨o', ho, hc1, hd1⟩ := hit'
          rw [List.mem_singleton.mp ha, ho] at e; cases e
          intro vs q t e1 e2
          rw [hd1] at e1; cases e1; simp at e2
    | some v =>
      have hil : i < its.length := (List.getElem?_eq_some_iff.mp hv).1
      obtain ⟨t, hti, hdv⟩ := hd.at hv
      have htm : t ∈ cs := List.mem_of_getElem? hti
      have hdt : DescIn h' v t := hdv.keep (keep_foot hkb hR.noFoot)
      obtain ⟨a, rfl⟩ : ∃ a, v = .ref a := by cases hdt; exact ⟨_, rfl⟩
      refine wpAny_pyNext_list_item hit' hl' (by simpa using hv) fun h₁ hit₁ hs₁ => ?_
      refine wpAny_assign_Name (wpAny_storeName_local hch (hn'.sameBut hs₁ (fun q => hIC q.symm)) (fun h₂ hn₂ hs₂ => ?_) hp)
      -- the heap at the call: all but I and the comprehension's own names
      have k2 : KeepBut [I, cenv.locals] h' h₂ := fun b o hb e => hs₂.extBut b o (fun q => hb (by rw [q]; exact .tail _ (.head _))) (hs₁.extBut b o (fun q => hb (by rw [q]; exact .head _)) e)
      have n2 : ∀ b, s₀.heap.get? b ≠ none → b ∉ [I, cenv.locals] := fun b hb q => by
        rcases List.mem_cons.mp q with rfl | q
        · exact hb hI
        · rw [List.mem_singleton.mp q] at hb; exact hb hC
      have kb2 : KeepBut [d.dx, 76] s₀.heap h₂ := fun b o hb e => k2 b o (n2 b (by rw [e]; intro z; cases z)) (hkb b o hb e)
      have hit₂ : h₂.IsListIter I l (i + 1) := hit₁.extBut hs₂.extBut hIC
      have nI : ∀ o, h'.get? I = some o → NoCode o := fun o e => by
        obtain ⟨o', ho, hc1, hd1⟩ := hit'
        rw [ho] at e; cases e
        intro vs q t e1 e2
        rw [hd1] at e1; cases e1; simp at e2
      have nC : ∀ o, h'.get? cenv.locals = some o → NoCode o := fun o e => by
        obtain ⟨o', es, ep, ho, hd1, _⟩ := hn'
        rw [ho] at e; cases e
        intro vs q t e1 e2
        rw [hd1] at e1; cases e1
      have hR₂ : Rdy G (env :: outer) h₂ d bs' t2' ps' := by
        refine hR'.keepBut k2 (fun p hp q => ?_) (fun q => ?_) fun b hb o e => ?_
        · rcases List.mem_cons.mp q with q | q
          · exact (hR.fresh hI).1 _ _ p hp q
          · exact (hR.fresh hC).1 _ _ p hp (List.mem_singleton.mp q)
        · rcases List.mem_cons.mp q with q | q
          · exact (hR.fresh hI).2 q
          · exact (hR.fresh hC).2 (List.mem_singleton.mp q)
        · rcases List.mem_cons.mp hb with rfl | hb
          · exact nI o e
          · rw [List.mem_singleton.mp hb] at e; exact nC o e
      have hD₂ : h₂.PlainList D ys.toArray := hacc'.at fun o e => k2 D o (fun q => by
        rcases List.mem_cons.mp q with q | q
        · exact hID q.symm
        · exact hDC (List.mem_singleton.mp q)) e
      have hdt₂ : DescIn h₂ (.ref a) t := hdv.keep (keep_foot kb2 hR.noFoot)
      have hsc₂ : h₂.IsCell sc (some (.ref d.x)) := by
        obtain ⟨o, ho, hdd⟩ := hsc
        exact ⟨o, kb2 sc o (fun q => hR.noFoot sc q o ho (.inr (.inr (.inr (.inr (.inl ⟨_, hdd⟩)))))) ho, hdd⟩
      have B₂ : Below A G (env :: outer) h₂ := below_keep B kb2 hR.ground hR.off
      have hva₂ : ValAll (fun a => s₀.heap.get? a = none ∧ a ≠ D) h₂ ys Vs := hva.keep fun b xs n hN e => ⟨hN, k2 b _ (fun q => by
        rcases List.mem_cons.mp q with rfl | q
        · obtain ⟨o', ho, hc1, hd1⟩ := hit'
          rw [ho] at e; cases e; exact absurd (show Value.type "list" = Value.type "list_iterator" from hc1) (by decide)
        · obtain ⟨o', es, ep, ho, hd1, _⟩ := hn'
          rw [List.mem_singleton.mp q, ho] at e; cases e; cases hd1) e⟩
      have hX : (Mine.hd.heap_39 w.params).In h₂ := Y.X.keeps B₂.stays
      have htake : cs.take (i + 1) = cs.take i ++ [t] := by rw [List.take_add_one, hti]; rfl
      have hpb : parseAll (cs.take (i + 1)) bs = (match t.parse bs' with | (r', .ok v) => (r', .ok (Vs ++ [v])) | (r', .error m) => (r', .error m)) := by rw [htake]; exact parseAll_snoc (r' := bs') hpa
      have hbl : bs'.length ≤ 1000 := by
        have := parseAll_len (cs.take i) bs
        rw [hpa] at this; dsimp only at this; omega
      refine elt_eval (a := a) (x := d.x) (t := t) hX hk hch hst hn₂ (by simp) hc hsc₂ hdt₂ (fun rd tk₂ hrd => ?_) he
      refine wpAny_call (IH t htm A (env :: outer) _ _ d bs' t2' ps' rd B₂ hrd hR₂ (by have := ht_le htm; omega) (by have := sz_le htm; omega) hbl hh ?_ ?_)
      · intro V r hpt v h₃ tk₃ t2'' ps'' kb3 hvv hR₃
        have nD := notS D hD
        have hit₃ : h₃.IsListIter I l (i + 1) := hit₂.at fun o e => kb3 I o (notS I hI) e
        have hn₃ := hn₂.at fun o e => kb3 cenv.locals o (notS _ hC) e
        refine wpAny_list_append_plain (hD₂.at fun o e => kb3 D o nD e) (fun h₄ hl₄ hs₄ => ?_) (by rw [List.size_toArray, sizeLine_eq]; omega)
        have k4 : KeepBut [D] h₃ h₄ := fun b o hb e => hs₄.extBut b o (fun q => hb (List.mem_singleton.mpr q)) e
        refine ⟨cs.length + 1 - (i + 1), by omega, h₄, tk₃, _, ys ++ [v], i + 1, r, t2'', ps'', Vs ++ [V], rfl, rfl, by omega, hit₃.extBut hs₄.extBut hID, hn₃.sameBut hs₄ (fun q => hDC q.symm), by simpa using hl₄, ?_, ?_, by simp [hyl], by rw [hpb, hpt], ?_⟩
        · intro b o hb e
          exact k4 b o (fun q => by rw [List.mem_singleton.mp q, hD] at e; cases e) (kb3 b o hb (kb2 b o hb e))
        · refine ValAll.append (hva₂.keep fun b xs n hN e => ⟨hN, k4 b _ (fun q => hN.2 (List.mem_singleton.mp q)) (kb3 b _ (notS b hN.1) e)⟩) (.cons (hvv.keep fun b xs n hN e => ?_) .nil)
          have h1 : s₀.heap.get? b = none := by
            cases q : s₀.heap.get? b with
            | none => rfl
            | some o =>
              by_cases hb : b ∈ [d.dx, 76]
              · rcases List.mem_cons.mp hb with rfl | hb
                · rw [hR₂.dx] at hN; cases hN
                · rw [List.mem_singleton.mp hb, hR₂.tb] at hN; cases hN
              · rw [kb2 b o hb q] at hN; cases hN
          have h2 : b ≠ D := fun q => by
            obtain ⟨nn, hdd⟩ := hD₂
            rw [q, hdd] at hN; cases hN
          exact ⟨⟨h1, h2⟩, k4 b _ (fun q => h2 (List.mem_singleton.mp q)) e⟩
        · refine hR₃.keepBut k4 (fun p hp q => (hR.fresh hD).1 _ _ p hp (List.mem_singleton.mp q)) (fun q => (hR.fresh hD).2 (List.mem_singleton.mp q)) fun b hb o e => ?_
          obtain ⟨nn, hdd⟩ := hD₂
          rw [List.mem_singleton.mp hb, kb3 D _ nD hdd] at e
          cases e
          intro vs q t e1 e2; cases e1
      · intro mm r hpt e h₃ tk₃ t2'' ps'' cds hT hfl
        have hfl₀ := hfl.from kb2 hR.off
        have hCl : cenv.locals ∉ adrs (env :: outer) := fun hm => by
          obtain ⟨_, o, ho, _⟩ := B.frames.mem hm
          rw [hC] at ho; cases ho
        have hn₃ := hn₂.at fun o e => hfl.kept (notS _ hC) hCl e
        show wpAny (model prog w) A (noteFrame e cenv) _ _ _
        refine noted_any B.stack hf hfc hfl₀ fun h₄ hfl₄ hns => ?_
        refine herr mm r ?_ e h₄ tk₃ _ t2'' ps'' cds hT (fun p hp q => ?_) hfl₄ (hns _ _ hn₃)
        · have := parseAll_stop (ds := cs.drop (i + 1)) (show parseAll (cs.take (i + 1)) bs = (r, .error mm) by rw [hpb, hpt])
          rwa [List.take_append_drop] at this
        · have h9 := hfl.there p (List.mem_append_right _ (.tail _ hp))
          obtain ⟨o', es, ep, ho, hd1, _⟩ := hn₃
          rw [q, ho] at h9
          cases h9
          rcases hT with ⟨_, rfl⟩ | ⟨c, oc, vs, t, _, rfl, e1, _⟩
          · cases hp
          · rw [List.mem_singleton.mp hp] at hd1
            rw [show oc.data = _ from e1] at hd1; cases hd1
  · obtain ⟨h₁, tk₁, rfl⟩ := hs
    exact ⟨h₁, tk₁, m, [], 0, bs, t2, ps, [], rfl, rfl, Nat.zero_le _, hit, hn, hacc, fun b o _ e => hk₁ b o e, .nil, rfl, by rw [List.take_zero, parseAll], hR.keepAll hk₁⟩

/-- [child.reader(stream) for child in children], from a frame's state -/
theorem comp_read {cs : List T} (IH : ∀ t ∈ cs, Reads prog w G t) {s : Shared} {env : Env} {outer : List Env} {d : StD} {bs : List UInt8} {t2 : Tok} {ps : Array Value} {l L sc : Addr} {its : List Value} {n : Nat}
    {Q : Value → Shared → Prop} {use : Option (Value → Sem Unit)} {scope : Scope} {iter : Expr} {p1 p2 p3 p4 pc pos pos' : Pos} {pl : Addr → Sem Bool} {cl : List (Str × Addr)}
    (Y : Amb w mean mg mb G) (B : Below A G (env :: outer) s.heap) (hf : env.frame = some L) (hh : A.handled = none)
    (hiter : ∀ Q' : Value → Shared → Prop, Q' (.ref l) s → wpAny (model prog w) A (eval iter env) Q' E s)
    (hfold : ∀ x, foldedSetIterable iter env x = pure x) (hclos : closureFor scope env = pure cl) (hc : cl.lookup (Str.ofString "stream") = some sc)
    (hcell : ∀ y ∈ scope.names, y.2 ≠ .cell) (hkind : scope.kind = .function) (hnames : ∀ x ∈ scope.names, x.2 = .local → scope.names.lookup x.1 = some .local)
    (hch : (relabel scope env).names.lookup (Str.ofString "child") = some .local) (hst : (relabel scope env).names.lookup (Str.ofString "stream") = some .cell) (hsc : s.heap.IsCell sc (some (.ref d.x)))
    (he : ∀ C, eval (.Call (.Attribute (.Name (Str.ofString "child") p1) (Str.ofString "reader") p2) [.Name (Str.ofString "stream") p3] [] p4) (compEnvC scope cl C env) = (do
      let ov ← eval (.Name (Str.ofString "child") p1) (compEnvC scope cl C env)
      standAt p2.atName
      let (f, first) ← holding [ov] (getMethod ov (Str.ofString "reader") (pl C))
      callWith p4 f first (backTo p4 (starEach [.Name (Str.ofString "stream") p3] (compEnvC scope cl C env))) []))
    (hl : s.heap.get? l = some (listOf its.toArray n)) (hds : DescAll s.heap its cs) (hR : Rdy G (env :: outer) s.heap d bs t2 ps)
    (hroom : A.depth + 2 * htAll cs + 8 < recursionLimit) (hz : bs.length ≤ 1000) (hcs : szAll cs ≤ 1000)
    (hok : ∀ Vs r, parseAll cs bs = (r, .ok Vs) → ∀ D C ys ny h' tk m' t2' ps', KeepBut [d.dx, 76] s.heap h' → s.heap.get? D = none → s.heap.get? C = none → D ≠ C → h'.get? D = some (listOf ys.toArray ny) →
      ValAll (fun a => s.heap.get? a = none ∧ a ≠ D) h' ys Vs → Rdy G (env :: outer) h' d r t2' ps' → h'.Ns C m' → compPost (model prog w) A E use Q (.ref D) C (.ok .next) { s with heap := h', toks := tk })
    (herr : ∀ mm r, parseAll cs bs = (r, .error mm) → ∀ e h' tk t2' ps' cds', TabL ps' cds' → FliesAny s.heap [d.dx, 76] (env :: outer) (d.led r t2' ++ (76, tabObj ps') :: cds') mm e h' → E e { s with heap := h', toks := tk }) :
    wpAny (model prog w) A (comprehension (.ListComp (.Call (.Attribute (.Name (Str.ofString "child") p1) (Str.ofString "reader") p2) [.Name (Str.ofString "stream") p3] [] p4) [⟨.Name (Str.ofString "child") pc, iter, [], 0⟩] scope pos) scope env pos' (newList []) false (eval iter env) use) Q E s := by
  refine wpAny_comprehension_free (use := use) rfl hfold hclos hkind hnames (hiter _ ?_)
  have hl' : s.heap.IsList l its.toArray := ⟨_, hl, rfl, n, rfl⟩
  refine wpAny_pyIter_list hl' (wpAny_newObj_type (wpAny_newFunctionEnv hcell (by intro y hy; simp at hy) (fun h₁ hns₁ hsb₁ => ?_) hkind))
  dsimp only at hns₁ hsb₁ ⊢
  generalize hH1 : s.heap.push { cls := .type "list_iterator", data := .fields #[.ref l, .int 0 0] } = H1 at hns₁ hsb₁ ⊢
  have hD : H1.objs.size = s.heap.objs.size + 1 := by rw [← hH1, Heap.size_push]
  generalize hH2 : H1.push { cls := .type "list", dict := none, data := .seq ([] : List Value).toArray } = H2 at hns₁ hsb₁ ⊢
  have hC : H2.objs.size = s.heap.objs.size + 2 := by rw [← hH2, Heap.size_push, hD]
  have fresh : ∀ a : Nat, s.heap.objs.size ≤ a → s.heap.get? a = none := fun a ha => Heap.get?_none_of_le ha
  have hID : (s.heap.objs.size : Addr) ≠ H1.objs.size := by rw [hD]; exact (Nat.succ_ne_self _).symm
  have hDC : H1.objs.size ≠ H2.objs.size := by rw [hD, hC]; exact Nat.ne_of_lt (Nat.lt_succ_self _)
  have hIC : s.heap.objs.size ≠ H2.objs.size := by rw [hC]; exact Nat.ne_of_lt (Nat.lt_succ_of_lt (Nat.lt_succ_self _))
  have old : ∀ b o, s.heap.get? b = some o → h₁.get? b = some o := fun b o e =>
    hsb₁.extBut b o (by rw [hC]; have := Heap.lt_size e; exact Nat.ne_of_lt (Nat.lt_succ_of_lt (Nat.lt_succ_of_lt this))) (Heap.get?_push_of_some _ (hH2 ▸ Heap.get?_push_of_some _ (hH1 ▸ Heap.get?_push_of_some _ e)))
  have hit : h₁.IsListIter s.heap.objs.size l 0 :=
    ⟨_, hsb₁.extBut _ _ hIC (Heap.get?_push_of_some _ (hH2 ▸ Heap.get?_push_of_some _ (hH1 ▸ Heap.get?_push_size _ rfl))), rfl, rfl⟩
  have hacc : h₁.PlainList H1.objs.size #[] := ⟨_, hsb₁.extBut _ _ hDC (Heap.get?_push_of_some _ (hH2 ▸ Heap.get?_push_size _ rfl))⟩
  have hCn : s.heap.get? H2.objs.size = none := fresh _ (by rw [hC]; omega)
  have hDn : s.heap.get? H1.objs.size = none := fresh _ (by rw [hD]; omega)
  have loop : ∀ s₂ : Shared, s₂ = { s with heap := h₁, toks := s.toks + ([] : List (Str × Value)).length } →
      codeAny (model prog w) A (.compLoop (.ListComp (.Call (.Attribute (.Name (Str.ofString "child") p1) (Str.ofString "reader") p2) [.Name (Str.ofString "stream") p3] [] p4) [⟨.Name (Str.ofString "child") pc, iter, [], 0⟩] scope pos) 0 (.ref s.heap.objs.size) (.ref H1.objs.size) (compEnvC scope cl H2.objs.size env))
        (compPost (model prog w) A E use Q (.ref H1.objs.size) H2.objs.size) s₂ := by
    rintro s₂ rfl
    refine comp_loop (cenv := compEnvC scope cl H2.objs.size env) (s₀ := s) (sc := sc) IH Y B hf rfl hh hkind hch hst hc hsc (he _) hl hds hR hroom hz hcs (get_end _) hDn hCn hID hIC hDC ⟨h₁, _, rfl⟩ old hit hacc hns₁ ?_ ?_
    · rintro Vs r hp ys h' tk m' t2' ps' kb ⟨ny, hy⟩ hva hR' hn'
      exact hok Vs r hp H1.objs.size H2.objs.size ys ny h' tk m' t2' ps' kb hDn hCn hDC hy hva hR' hn'
    · intro mm r hp e h' tk m' t2' ps' cds hT hcd hfl hn'
      have hCl : H2.objs.size ∉ adrs (env :: outer) := fun hm => by
        obtain ⟨_, o, ho, _⟩ := B.frames.mem hm
        rw [hCn] at ho; cases ho
      have post : ∃ m, h'.Ns H2.objs.size m ∧ ∀ h'', Heap.SameBut H2.objs.size h' h'' → ∀ cenv : Env, cenv.locals = H2.objs.size → wpAny (model prog w) A (PySem.passOn "comprehension.variables-let-go" e cenv : Sem Value) (fun _ _ => False) E { s with heap := h'', toks := tk } := by
        refine ⟨m', hn', fun h'' hs'' cenv _ => passOn_any (hfl.same hs'' hn' hCl hCn fun p hp q => ?_) fun h₃ hfl₃ => herr mm r hp e h₃ tk t2' ps' cds hT hfl₃⟩
        rcases List.mem_append.mp hp with hp | hp
        · exact (hR.fresh hCn).1 _ _ p hp q
        · rcases List.mem_cons.mp hp with rfl | hp
          · exact (hR.fresh hCn).2 q
          · exact hcd p hp q
      cases use <;> exact post
  exact codeAny_compStart_list (loop _ rfl) (wpAny_pyIter_listiter hit (loop _ rfl))
end
end Mine
end
theorem Mine.anewCompRead : True ∧ True := by
  have h : True ∧ True := ⟨trivial, trivial⟩
  first | (walk1; done) | exact h
section
open PySem PySem.W PyProof.Rows PySem.Calls PySem.Spec
set_option maxHeartbeats 2000000
namespace Mine

section
variable {M : Model} {A : Around} {E : Value → Shared → Prop} {s : Shared}
/-- a frame with one cell, its parameter, over a closure -/
theorem newEnv_cell1 {scope : Scope} {x y : Str} {globals builtins : Addr} {cl : List (Str × Addr)} {v code : Value} {qual : Str} {func : Option Addr} {Q : Env → Shared → Prop} (hn : scope.names = [(x, .cell), (y, .free)]) (hk : scope.kind = .function)
    (h : ∀ h₁ oc, h₁.Ns s.heap.objs.size (fun _ => none) → s.heap.StaysIn h₁ → h₁.get? (s.heap.objs.size + 1) = some oc → oc.data = .cell (some v) → Q (newEnv scope s.heap.objs.size globals ((x, s.heap.objs.size + 1) :: cl) qual func code none builtins) { s with heap := h₁ }) :
    wpAny M A (newFunctionEnv scope globals cl [(x, v)] qual func code none builtins) Q E s := by
  simp only [newFunctionEnv, Option.isSome_none, Bool.false_eq_true, if_false]
  refine wpAny_bind (wpAny_alloc ?_)
  refine wpAny_bind (wpAny_layCells _ (fun name kind cells => by cases hkc : kind == NameKind.cell <;> simp [hkc]) _ _ _ _ ?_)
  rw [show ({ s with heap := s.heap.push { cls := .type "frame", data := .dict #[] } } : Shared).heap.objs.size = s.heap.objs.size + 1 from Heap.size_push ..]
  have hcs : cellsFrom (s.heap.objs.size + 1) scope.names cl = (x, s.heap.objs.size + 1) :: cl := by rw [hn]; rfl
  have hph : pushCells (s.heap.push { cls := .type "frame", data := .dict #[] }) scope.names = (s.heap.push { cls := .type "frame", data := .dict #[] }).push { cls := .type "cell", data := .cell none } := by rw [hn]; rfl
  rw [hcs]
  refine wpAny_bind ?_
  rw [List.forIn_cons]
  refine wpAny_bind (wpAny_bind ?_)
  have hsz : (s.heap.push { cls := .type "frame", data := .dict #[] }).objs.size = s.heap.objs.size + 1 := Heap.size_push ..
  refine wpAny_storeName_cell (env := newEnv scope s.heap.objs.size globals ((x, s.heap.objs.size + 1) :: cl) qual func code none builtins) (c := s.heap.objs.size + 1) (v₀ := none) hk (by show scope.names.lookup x = _; rw [hn]; simp) (by simp [newEnv]) ?_ fun h' hv hs => ?_
  · show (pushCells (s.heap.push { cls := .type "frame", data := .dict #[] }) scope.names).IsCell _ _
    rw [hph]
    exact ⟨_, by rw [← hsz]; exact Heap.get?_push_size _ rfl, rfl⟩
  · dsimp only at hs
    rw [hph] at hs
    obtain ⟨oc, ho, hdo⟩ := hv
    refine wpAny_pure (wpAny_pure (wpAny_pure (h h' oc ?_ ?_ ho hdo)))
    · refine Heap.Ns.sameBut (h := (s.heap.push { cls := .type "frame", data := .dict #[] }).push { cls := .type "cell", data := .cell none }) ?_ hs (Nat.ne_of_lt (Nat.lt_succ_self _))
      exact (Heap.Ns.new s.heap (.type "frame")).keeps fun b o e => Heap.get?_push_of_some _ e
    · intro b o e
      have := Heap.lt_size e
      exact hs.extBut b o (fun q => absurd this (by rw [q]; exact Nat.not_lt.mpr (Nat.le_succ _))) (Heap.get?_push_of_some _ (Heap.get?_push_of_some _ e))
end

section
variable {prog : Program} {w : World} {G : Heap} {mean : ExcName → Option Value} {mg mb : Str → Option Value}
theorem led_mono {d : StD} {bs bs' : List UInt8} {t2 t2' : Tok} {p : Addr × Obj} (hp : p ∈ d.led bs t2) (hn : p.1 ∉ [d.dx]) : p ∈ d.led bs' t2' := by
  rcases List.mem_cons.mp hp with rfl | hp
  · exact absurd (List.mem_singleton.mpr rfl) hn
  · exact List.mem_cons_of_mem _ hp

/-- a flight out of a call that turned the stream alone, with the table beside it -/
theorem flies_tab {h h' : Heap} {frames : List Env} {d : StD} {bs r : List UInt8} {t2 t2' : Tok} {ps : Array Value} {m : Str} {e : Value} (hR : Rdy G frames h d bs t2 ps) (B : h.FunFrames G frames) (x : Flies h [d.dx] frames (d.led r t2') m e h') :
    ∃ cds, TabL ps cds ∧ Flies h [d.dx, 76] frames (d.led r t2' ++ (76, tabObj ps) :: cds) m e h' := by
  obtain ⟨cds, hT, hcd⟩ := hR.tab.led
  obtain ⟨Bx, ea, t, tk, rfl, f1, f2, f3, f4, f5, f6⟩ := x
  refine ⟨cds, hT, Bx, ea, t, tk, rfl, f1, f2, f3, fun b o hb hbl q => f4 b o (fun z => hb (by rw [List.mem_singleton.mp z]; exact .head _)) hbl q, fun p hp => ?_, f6⟩
  rcases List.mem_append.mp hp with hp | hp
  · exact f5 p hp
  · rcases List.mem_cons.mp hp with rfl | hp
    · exact f4 _ _ (fun q => hR.ne (List.mem_singleton.mp q).symm) (hR.laid (76, tabObj ps) (by simp)).2.2 hR.tb
    · obtain ⟨h1, vs, h2⟩ := hcd p hp
      refine f4 _ _ (fun q => ?_) (fun q => ?_) h1
      · have h3 := hR.dx
        rw [← List.mem_singleton.mp q, h1] at h3
        rw [Option.some.inj h3] at h2; cases h2
      · obtain ⟨_, o, ho, hn⟩ := B.mem q
        rw [h1] at ho; cases ho
        exact hn vs h2

theorem reads_u (Y : Amb w mean mg mb G) (b : UInt8) : Reads prog w G (.u b) := by
  intro A frames s R d bs t2 ps rd B hrd hR hroom hsz hz hh hok herr
  cases hrd
  have hS : Laid G frames s.heap (d.led bs t2) := fun p hp => hR.laid p (List.mem_append_left _ hp)
  refine uint1_call Y B hS hR.ok hR.code (by omega) (by omega) hh ?_ ?_
  · rintro b' r rfl h' tk t1 t2' kb hl
    refine hok (.int b'.toNat) r (by rw [T.parse]) _ h' tk t2' ps (kb.mono fun x hx => by rw [List.mem_singleton.mp hx]; exact .head _) (.int _ _) (hR.turn kb hl)
  · rintro rfl e h' tk t2' hfl
    obtain ⟨cds, hT, hfl'⟩ := flies_tab hR B.frames hfl
    exact herr noData [] (by rw [T.parse]) e h' tk t2' ps cds hT hfl'

theorem reads_p (Y : Amb w mean mg mb G) {cs : List T} (IH : ∀ t ∈ cs, Reads prog w G t) : Reads prog w G (.p cs) := by
  intro A frames s R d bs t2 ps rd B hrd hR hroom hsz hz hh hok herr
  rw [T.ht] at hroom
  rw [T.sz] at hsz
  cases hrd with
  | p la hl hds =>
    rename_i l its n
    obtain ⟨c, oc, cc, pm, ctv, e1, e2, e3, e4⟩ := la.out
    refine kla_callFunE (by omega) e1 rfl (by rfl) (by rfl) rfl e2 ?_
    rw [show bindArgs (kla_fn (Str.ofString "<lambda>") lamQual (lamPars lamP) (lamBody lamP) (lamScope lamP) [(Str.ofString "children", c)] pm (.ref cc) ctv) ⟨[.ref d.x], []⟩ = pure [(Str.ofString "stream", .ref d.x)] from by with_unfolding_all rfl]
    refine wpAny_pure (newEnv_cell1 (x := Str.ofString "stream") (y := Str.ofString "children") (by rfl) (by rfl) fun h₁ occ hns st hoc hdc => ⟨Y.T.nolimit.keeps fun b o e => st b o (B.stays b o e), kla_codeExpr ?_⟩)
    generalize hL : s.heap.objs.size = L at *
    have hLn : s.heap.get? L = none := by rw [← hL]; exact get_end _
    obtain ⟨g, EN, F⟩ := entered_fr B hR.laid hL hns st
    show wpAny (model prog w) (A.deeper (envX lamQual (lamScope lamP) L rd (.ref cc) [(Str.ofString "stream", L + 1), (Str.ofString "children", c)])) (comprehension (.ListComp (.Call (.Attribute (.Name _ _) _ _) [.Name _ _] [] _) [⟨.Name _ _, .Name _ _, [], 0⟩] _ _) _ _ _ (newList []) false (eval (.Name _ _) _) none) _ _ _
    have hR₁ := hR.into (env := envX lamQual (lamScope lamP) L rd (.ref cc) [(Str.ofString "stream", L + 1), (Str.ofString "children", c)]) st hLn rfl
    have kf : ∀ b o, Foot o → s.heap.get? b = some o → h₁.get? b = some o := fun b o _ e => st b o e
    refine comp_read (L := L) (l := l) (its := its) (n := n) (d := d) (cs := cs) (sc := L + 1) (cl := [(Str.ofString "stream", L + 1)]) IH Y (pushX EN.B F rfl rfl) rfl hh (fun Q' hq => wpAny_Name (wpAny_loadName_free (c := c) rfl (by rfl) (by rfl) ⟨oc, st _ _ e3, e4⟩ hq)) (fun x => rfl) (by with_unfolding_all rfl) (by rfl) (by decide) (by rfl) (by decide) (by rfl) (by rfl) ⟨occ, hoc, hdc⟩ (fun C => by with_unfolding_all rfl) (st _ _ hl) (hds.keep kf) hR₁ (by show A.depth + 1 + 2 * htAll cs + 8 < recursionLimit; omega) hz (by omega) ?_ ?_
    · intro Vs r hp D C ys ny h' tk m' t2' ps' kb hD hC hDC hy hva hR' hn'
      have down : ∀ b, h₁.get? b = none → s.heap.get? b = none := fun b hb => by
        cases q : s.heap.get? b with
        | none => rfl
        | some o => rw [st b o q] at hb; cases hb
      refine ⟨m', hn', fun h'' hs'' => ?_⟩
      have kC : KeepBut [C] h' h'' := fun b o hb e => hs''.extBut b o (fun q => hb (List.mem_singleton.mpr q)) e
      refine hok (.list Vs) r (by rw [T.parse, hp]) (.ref D) h'' tk t2' ps' (fun b o hb e => kC b o (fun q => ?_) (kb b o hb (st b o e))) (.list (down D hD) (kC D _ (fun q => hDC (List.mem_singleton.mp q)) hy) (hva.keep fun b xs n hN e => ⟨down b hN.1, kC b _ (fun q => ?_) e⟩)) ((hR'.keepBut kC (fun p hp q => (hR₁.fresh hC).1 _ _ p hp (List.mem_singleton.mp q)) (fun q => (hR₁.fresh hC).2 (List.mem_singleton.mp q)) fun a ha o e => ?_).out rfl)
      · rw [List.mem_singleton.mp q, down C hC] at e; cases e
      · obtain ⟨o', es, ep, ho, hd1, _⟩ := hn'
        rw [List.mem_singleton.mp q, ho] at e; cases e; cases hd1
      · obtain ⟨o', es, ep, ho, hd1, _⟩ := hn'
        rw [List.mem_singleton.mp ha, ho] at e; cases e
        intro vs q t e1 e2; rw [hd1] at e1; cases e1
    · intro mm r hp e h' tk t2' ps' cds hT hfl
      exact leave_next (T := [d.dx, 76]) EN F rfl rfl hfl (fun p hp _ => st _ _ (hR.laid p hp).1) (fun a ha => .inl ha) (fun p hp => .inl hp) hR.off fun h'' hfl'' => herr mm r (by rw [T.parse, hp]) e h'' _ t2' ps' cds hT hfl''
end
end Mine
end
theorem Mine.anewReaders : True ∧ True := by
  have h : True ∧ True := ⟨trivial, trivial⟩
  first | (walk1; done) | exact h
section
open PySem PySem.W PyProof.Rows PySem.Calls PySem.Spec
set_option maxHeartbeats 2000000
namespace Mine

section
variable {prog : Program} {w : World} {A : Around} {G g : Heap} {outer : List Env} {env : Env} {s : Shared} {Q : Value → Shared → Prop} {E : Value → Shared → Prop} {mean : ExcName → Option Value} {mg mb : Str → Option Value} {L : Addr} {m : Str → Option Value} {pre post : List (Addr × Obj)}
/-- _law_stream, from a frame -/
theorem stream_use {bs : List UInt8} {t : Tok} {ps : Array Value} (Y : Amb w mean mg mb G) (B : Below A G outer g) (F : Fr g L s.heap m) (N : News g L s.heap (pre ++ (76, tabObj ps) :: post)) (hf : env.frame = some L) (hke : env.scope.kind = .function)
    (h1 : ∀ p ∈ pre, p.1 ≠ 76) (h2 : ∀ p ∈ post, p.1 ≠ 76) (ht : Tab76 ps s.heap) (hroom : A.depth + 3 < recursionLimit) (hz : bs.length ≤ 16777216)
    (h : ∀ h' tk d t2 ps', Fr g L h' m → News g L h' (d.led bs t2 ++ (pre ++ (76, tabObj ps') :: post)) → StD.Ok d → h'.CodeRec (.ref d.cc) readQual → Tab76 ps' h' → (∀ p ∈ d.led bs t2, s.heap.get? p.1 = none) → KeepBut [76] s.heap h' → Q (.ref d.x) { s with heap := h', toks := tk }) :
    wpAny (model prog w) (A.deeper env) (call (.ref 81) [.bytes bs.toArray t]) Q E s := by
  have N1 : News g L s.heap [(76, tabObj ps)] := fun p hp => N p (List.mem_append_right _ (by rw [List.mem_singleton.mp hp]; exact .head _))
  refine wpAny_call (stream_call Y (pushX B F hf hke) (laid_news B N1 hf) ht hroom hz fun h' tk d t2 ps' hk hO hl hcd h76 ht' => ?_)
  have hm := N1 (76, tabObj ps) (.head _)
  have F' : Fr g L h' m := fr_keep F hk (fun q => hm.2.1 (List.mem_singleton.mp q).symm) fun a ha => by rw [List.mem_singleton.mp ha]; exact hm.2.2
  refine h h' tk d t2 ps' F' (fun p hp => ?_) hO hcd ht' (fun p hp => (hl p hp).2) hk
  rcases List.mem_append.mp hp with hp | hp
  · refine ⟨(hl p hp).1, fun q => ?_, ?_⟩
    · have := (hl p hp).2
      obtain ⟨oL, _, _, ho, _⟩ := F.ns
      rw [q, ho] at this; cases this
    · cases q : g.get? p.1 with
      | none => rfl
      | some o => have := (hl p hp).2; rw [F.keep _ _ q] at this; cases this
  · rcases List.mem_append.mp hp with hp | hp
    · exact ⟨hk _ _ (fun q => h1 p hp (List.mem_singleton.mp q)) (N p (List.mem_append_left _ hp)).1, (N p (List.mem_append_left _ hp)).2⟩
    · rcases List.mem_cons.mp hp with rfl | hp
      · exact ⟨h76, hm.2⟩
      · exact ⟨hk _ _ (fun q => h2 p hp (List.mem_singleton.mp q)) (N p (List.mem_append_right _ (.tail _ hp))).1, (N p (List.mem_append_right _ (.tail _ hp))).2⟩
end

theorem parseAll_count : ∀ {cs : List T} {bs r : List UInt8} {Vs : List V}, parseAll cs bs = (r, .ok Vs) → Vs.length = cs.length
  | [], bs, r, Vs, h => by rw [parseAll] at h; cases h; rfl
  | t :: ts, bs, r, Vs, h => by
    rw [parseAll] at h
    cases q : t.parse bs with
    | mk r1 x =>
      rw [q] at h
      cases x with
      | error m => cases h
      | ok v =>
        cases q2 : parseAll ts r1 with
        | mk r2 y =>
          simp only [q2] at h
          cases y with
          | error m => cases h
          | ok vs => cases h; simp [parseAll_count q2]

section
variable {prog : Program} {w : World} {A : Around} {G : Heap} {frames : List Env} {s : Shared} {R : Result → Shared → Prop} {mean : ExcName → Option Value} {mg mb : Str → Option Value}
set_option maxHeartbeats 8000000 in
theorem within_call (Y : Amb w mean mg mb G) {cs : List T} (IH : ∀ t ∈ cs, Reads prog w G t) {l : Addr} {its : List Value} {n : Nat} {data : List UInt8} {td : Tok} {ps : Array Value}
    (B : Below A G frames s.heap) (hl : s.heap.get? l = some (listOf its.toArray n)) (hds : DescAll s.heap its cs) (hS : Laid G frames s.heap [(76, tabObj ps)]) (ht : Tab76 ps s.heap)
    (hroom : A.depth + 2 * htAll cs + 9 < recursionLimit) (hcs : szAll cs ≤ 1000) (hz : data.length ≤ 1000) (hh : A.handled = none)
    (hok : ∀ Vs r, parseAll cs data = (r, .ok Vs) → ∀ v h' tk ps', KeepBut [76] s.heap h' → ValIn (fun a => s.heap.get? a = none) h' v (.list (Vs ++ [.bytes r])) → h'.get? 76 = some (tabObj ps') → Tab76 ps' h' → R (.ok (.ret v)) { s with heap := h', toks := tk })
    (herr : ∀ mm r, parseAll cs data = (r, .error mm) → ∀ e h' tk ps' cds', TabL ps' cds' → Flies s.heap [76] frames ((76, tabObj ps') :: cds') mm e h' → R (.error e) { s with heap := h', toks := tk }) :
    codeAny (model prog w) A (.call (.ref 86) ⟨[.ref l, .bytes data.toArray td], []⟩) R s := by
  have XG := Y.X.keeps B.stays
  refine enterC (binds := [(Str.ofString "children", .ref l), (Str.ofString "octets", .bytes data.toArray td)]) B hS Y.T.nolimit (XG _ _ (by k_is)) rfl (codeRec_of XG (by k_is)) (by omega) (BindsTo.of_eq (by rfl)) (by rfl) (by decide +kernel) ?_ (by rfl) (by rfl) (by rfl)
  intro g L' h₁ tk cells EN F N YC
  have B' := EN.B
  have X := Y.X.keeps B'.stays
  have T := Y.T.keeps B'.stays
  have C1 := Y.c1.keeps B'.stays
  have C2 := Y.c2.keeps B'.stays
  obtain ⟨oc, hE, d1⟩ := CellsAre.one YC
  subst hE
  simp only [List.cons_append, List.nil_append] at N
  have e76 : (76 : Nat) < L' := EN.lt (76, tabObj ps) (.head _)
  have hn := ht.noCode
  with_reducible change wpAny _ _ _ _ _ _
  k_fold
  refine with_frames B' fun hAf => ?_
  have hq : ∀ v s', R (.ok (.ret v)) s' → qk (.ret v) s' := fun _ _ h => h
  have he : ∀ e s', wpAny (model prog w) (A.deeper (envOfC _ _ L' 86 _)) (leaving (envOfC _ _ L' 86 _) e) (fun _ s'' => R (.error e) s'') (fun e' s'' => R (.error e') s'') s' → ek e s' := fun _ _ h => h
  clear_value qk ek
  generalize hrest : (Stmt.Assign _ (Expr.ListComp _ _ _ _) _ :: _ : List Stmt) = rest
  k_steps
  have htg : Tab76 ps g := ht.keep (T := [76]) (fun b o hb e => EN.keep b o (by simpa using hb) e) (fun a ha o e => by
    rw [List.mem_singleton.mp ha, (hS (76, tabObj ps) (.head _)).1] at e; cases e; exact hn)
  have ht₁ : Tab76 ps h₁ := htg.keep (T := []) (fun b o _ e => F.keep b o e) (fun _ ha => nomatch ha)
  have hc1 := N (L' + 1, oc) (.head _)
  refine stream_use (pre := [(L' + 1, oc)]) (post := []) Y B' F N rfl rfl (fun p hp => by rw [List.mem_singleton.mp hp]; exact Nat.ne_of_gt (Nat.lt_succ_of_lt e76)) (fun _ hp => nomatch hp) ht₁ (by omega) (by omega) ?_
  intro h' tk' d t2 ps' F' N' hO hcd ht' hfr hkb
  dsimp only at hfr hkb
  refine wpAny_storeName_cell (c := L' + 1) (v₀ := none) rfl rfl rfl ⟨oc, (N' (L' + 1, oc) (by simp)).1, d1⟩ fun h2 hv hs2 => ?_
  subst hrest
  have k2 : KeepBut [L' + 1] h' h2 := fun b o hb e => hs2.extBut b o (fun q => hb (List.mem_singleton.mpr q)) e
  have hnc : ∀ a ∈ [L' + 1], ∀ o, h'.get? a = some o → NoCode o := fun a ha o e => by
    rw [List.mem_singleton.mp ha, (N' (L' + 1, oc) (by simp)).1] at e; cases e; exact noCode_cell d1
  have F2 : Fr g L' h2 _ := fr_keep F' k2 (fun q => absurd (List.mem_singleton.mp q) (Nat.ne_of_lt (Nat.lt_succ_self _))) (fun a ha => by rw [List.mem_singleton.mp ha]; exact hc1.2.2)
  have kfoot : ∀ b o, Foot o → s.heap.get? b = some o → h2.get? b = some o := fun b o hfo e => F2.keep b o (EN.keep b o (fun q => by
    have hb : b = 76 := by simpa using q
    rw [hb, (hS (76, tabObj ps) (.head _)).1] at e; cases e; exact noFoot_tab hn hfo) e)
  have nled : ∀ p ∈ d.led data t2, p.1 ≠ L' + 1 := fun p hp q => by
    have := hfr p hp
    rw [q, hc1.1] at this; cases this
  have hR2 : ∀ env : Env, env.frame = some L' → Rdy G (env :: frames) h2 d data t2 ps' := fun env hf => by
    have NL : News g L' h' (d.led data t2 ++ [(76, tabObj ps')]) := fun p hp => by
      rcases List.mem_append.mp hp with hp | hp
      · exact N' p (List.mem_append_left _ hp)
      · exact N' p (List.mem_append_right _ (.tail _ hp))
    have R' : Rdy G (env :: frames) h' d data t2 ps' := ⟨laid_news EN.B NL hf, hO, hcd, ht'⟩
    exact R'.keepBut k2 (fun p hp q => nled p hp (List.mem_singleton.mp q)) (fun q => absurd (List.mem_singleton.mp q) (Nat.ne_of_lt (Nat.lt_succ_of_lt e76))) hnc
  refine wpAny_execs_cons ?_
  rw [exec_Assign_Name_used _ _ _ _ (by with_unfolding_all rfl)]
  refine wpAny_bind (wpAny_standAt (wpAny_bind ?_))
  show wpAny (model prog w) (A.deeper (envX _ _ L' 86 _ [(_, L' + 1)])) (do let _ ← comprehension (.ListComp (.Call (.Attribute (.Name _ _) _ _) [.Name _ _] [] _) [⟨.Name _ _, .Name _ _, [], 0⟩] _ _) _ _ _ (newList []) false (eval (.Name _ _) _) (some (assign (.Name _ _) _))) _ _ _
  refine wpAny_bind (wpAny_mono (comp_read (L := L') (l := l) (its := its) (n := n) (d := d) (cs := cs) (sc := L' + 1) (cl := [(Str.ofString "stream", L' + 1)]) (Q := fun _ s' => wpAny (model prog w) (A.deeper (envX _ _ L' 86 _ [(_, L' + 1)])) (execs _ (envX _ _ L' 86 _ [(_, L' + 1)])) qk ek s') IH Y (pushX EN.B F2 rfl rfl) rfl hh (fun Q' hq => nameX_L F2 (by rfl) hq rfl (by rfl)) (fun x => rfl) (by with_unfolding_all rfl) (by rfl) (by decide) (by rfl) (by decide) (by rfl) (by rfl) hv (fun C => by with_unfolding_all rfl) (kfoot _ _ (.inr (.inr (.inr (.inr (.inr rfl))))) hl) (hds.keep kfoot) (hR2 _ rfl) (by show A.depth + 1 + 2 * htAll cs + 8 < recursionLimit; omega) hz hcs ?_ ?_) (fun _ s' hq => wpAny_pure (wpAny_pure hq)) fun _ _ e => e)
  · intro Vs r hp D C ys ny h3 tk3 m3 t2' ps'' kb3 hD hC hDC hy hva hR3 hn3
    dsimp only at kb3 hD hC hy hva hR3 hn3
    have hL2 : ∃ o, h2.get? L' = some o := by obtain ⟨o, _, _, ho, _⟩ := F2.ns; exact ⟨o, ho⟩
    have hCL : C ≠ L' := fun q => by obtain ⟨o, ho⟩ := hL2; rw [q, ho] at hC; cases hC
    have hDL : D ≠ L' := fun q => by obtain ⟨o, ho⟩ := hL2; rw [q, ho] at hD; cases hD
    have hdx := N' (d.dx, d.dict data t2) (by simp [StD.led])
    have h76' := N' (76, tabObj ps') (by simp)
    have F3 : Fr g L' h3 _ := fr_keep F2 kb3 (fun q => by rcases List.mem_cons.mp q with q | q; exact hdx.2.1 q.symm; exact h76'.2.1 (List.mem_singleton.mp q).symm) (fun a ha => by
      rcases List.mem_cons.mp ha with rfl | q
      · exact hdx.2.2
      · rw [List.mem_singleton.mp q]; exact h76'.2.2)
    have gC : g.get? C = none := by
      cases q : g.get? C with
      | none => rfl
      | some o => rw [F2.keep _ _ q] at hC; cases hC
    show wpAny _ _ (assign (.Name _ _) _ (.ref D)) _ _ _
    refine wpAny_assign_Name (wpAny_storeName_local rfl F3.ns (fun h4 hn4 hs4 => ⟨m3, hn3.sameBut hs4 hCL, fun h5 hs5 => ?_⟩) rfl)
    dsimp only at hs4 hs5 ⊢
    have F4 := F3.set hn4 hs4
    have k5 : KeepBut [C] h4 h5 := fun b o hb e => hs5.extBut b o (fun q => hb (List.mem_singleton.mpr q)) e
    have F5 := fr_keep F4 k5 (fun q => hCL (List.mem_singleton.mp q).symm) (fun a ha => by rw [List.mem_singleton.mp ha]; exact gC)
    have k35 : ∀ b o, b ≠ L' → b ≠ C → h3.get? b = some o → h5.get? b = some o := fun b o h1 h2 e => k5 b o (fun q => h2 (List.mem_singleton.mp q)) (hs4.extBut b o h1 e)
    have hsl : ∀ b o, s.heap.get? b = some o → ∃ o', h2.get? b = some o' := fun b o e => by
      by_cases q : b = 76
      · rw [q]; exact ⟨_, (hR2 (envX (Str.ofString "") (scopeOf (stAt 12)) L' 86 .none []) rfl).tb⟩
      · exact ⟨o, F2.keep b o (EN.keep b o (by simpa using q) e)⟩
    have hxx := (hR3.laid (d.x, instObj 70 d.dx) (by simp [StD.led])).1
    have hxd := (hR3.laid (d.dx, d.dict r t2') (by simp [StD.led])).1
    have notC : ∀ b o, h2.get? b = some o → b ≠ C := fun b o e q => by rw [q, hC] at e; cases e
    have notL : ∀ p ∈ d.led data t2, p.1 ≠ L' := fun p hp => (N' p (List.mem_append_left _ hp)).2.1
    have gx : h2.get? d.x = some (instObj 70 d.dx) := ((hR2 (envX (Str.ofString "") (scopeOf (stAt 12)) L' 86 .none []) rfl).laid (d.x, instObj 70 d.dx) (by simp [StD.led])).1
    have gdx : ∃ o, h2.get? d.dx = some o := ⟨_, ((hR2 (envX (Str.ofString "") (scopeOf (stAt 12)) L' 86 .none []) rfl).laid (d.dx, d.dict data t2) (by simp [StD.led])).1⟩
    have hx5 := k35 _ _ (notL (d.x, instObj 70 d.dx) (by simp [StD.led])) (notC _ _ gx) hxx
    have hdx5 : h5.get? d.dx = some (d.dict r t2') := k35 _ _ (notL (d.dx, d.dict data t2) (by simp [StD.led])) (by obtain ⟨o, ho⟩ := gdx; exact notC _ _ ho) hxd
    have hc2 : h2.IsCell (L' + 1) (some (.ref d.x)) := hv
    have hc5 : h5.IsCell (L' + 1) (some (.ref d.x)) := by
      obtain ⟨o, ho, hd⟩ := hc2
      refine ⟨o, k35 _ _ (Nat.ne_of_gt (Nat.lt_succ_self _)) (notC _ _ ho) (kb3 _ _ (fun q => ?_) ho), hd⟩
      rcases List.mem_cons.mp q with q | q
      · exact nled (d.dx, d.dict data t2) (by simp [StD.led]) q.symm
      · exact absurd (List.mem_singleton.mp q) (Nat.ne_of_gt (Nat.lt_succ_of_lt e76))
    have hy5 : h5.get? D = some (listOf ys.toArray ny) := k35 _ _ hDL (fun q => hDC q) hy
    have hylen : ys.length ≤ 1000 := by
      rw [hva.length, parseAll_count hp]
      exact Nat.le_trans (len_le_sz cs) hcs
    refine wpAny_execs_cons (wpAny_Return_some (wpAny_BinOp (nameX_L F5 (by rfl) ?_)))
    refine List_ (spliced_more (Attribute_Name_ (wpAny_Name (wpAny_loadName_cell rfl (by rfl) (by rfl) hc5 ?_)) (by with_unfolding_all rfl)))
    refine get_own F5 X ⟨hx5, rfl, rfl, hdx5⟩ (by k_is) (by k_is) (by k_is) (by k_is) rfl rfl ?_
    refine spliced_none (wpAny_newList ?_)
    dsimp only
    refine PySem.P.add_list (items := ys.toArray) (items2 := #[.bytes r.toArray t2']) (n := ny) (n2 := 0) (Heap.get?_push_of_some _ hy5) (Heap.get?_push_size _ rfl) ?_ (by simp only [List.size_toArray]; show ys.length + 1 ≤ _; exact Nat.le_trans (Nat.succ_le_succ hylen) (by decide))
    dsimp only
    refine hq _ _ (hok Vs r hp _ _ _ ps'' ?_ ?_ ?_ ?_)
    · exact fun b o hb e => Heap.get?_push_of_some _ (Heap.get?_push_of_some _ (F5.keep b o (EN.keep b o (by simpa using hb) e)))
    · have h5L : ∃ o, h5.get? L' = some o := by obtain ⟨o, _, _, ho, _⟩ := F5.ns; exact ⟨o, ho⟩
      have hfree : ∀ n, h5.objs.size ≤ n → s.heap.get? n = none := fun n hn => Heap.get?_none_of_le (Nat.le_trans EN.room (Nat.le_trans (Nat.le_of_lt (by obtain ⟨o, ho⟩ := h5L; exact Heap.lt_size ho)) hn))
      refine .list (hfree _ (by rw [Heap.size_push]; exact Nat.le_succ _)) (vs := ys ++ [.bytes r.toArray t2']) (n := 0) (by
        rw [Heap.get?_push_size _ rfl]
        simp [W.listOf]) ((hva.keep fun b xs n hN e => ?_).append (.cons (.bytes _ _) .nil))
      refine ⟨?_, Heap.get?_push_of_some _ (Heap.get?_push_of_some _ (k35 b _ (fun q => ?_) (fun q => ?_) e))⟩
      · cases q : s.heap.get? b with
        | none => rfl
        | some o => obtain ⟨o', ho'⟩ := hsl b o q; rw [hN.1] at ho'; cases ho'
      · obtain ⟨o, ho⟩ := hL2; rw [q, ho] at hN; cases hN.1
      · obtain ⟨o', es, ep, ho, hd1, _⟩ := hn3
        rw [q, ho] at e; cases e; cases hd1
    · exact Heap.get?_push_of_some _ (Heap.get?_push_of_some _ (k35 _ _ (Nat.ne_of_lt e76) (notC _ _ (hR2 (envX (Str.ofString "") (scopeOf (stAt 12)) L' 86 .none []) rfl).tb) hR3.tb))
    · refine hR3.tab.keep (T := [L', C]) (fun b o hb e => Heap.get?_push_of_some _ (Heap.get?_push_of_some _ (k35 b o (fun q => hb (by simp [q])) (fun q => hb (by simp [q])) e))) fun a ha o e => ?_
      rcases List.mem_cons.mp ha with q | q
      · obtain ⟨o', es, ep, ho, hd1, _⟩ := F3.ns
        rw [q, ho] at e; cases e
        intro vs q t e1 e2; rw [hd1] at e1; cases e1
      · obtain ⟨o', es, ep, ho, hd1, _⟩ := hn3
        rw [List.mem_singleton.mp q, ho] at e; cases e
        intro vs q t e1 e2; rw [hd1] at e1; cases e1
  · intro mm r hp e h3 tk3 t2' ps'' cds hT hfl
    have hdx := N' (d.dx, d.dict data t2) (by simp [StD.led])
    refine he _ _ (leave_next (T := [76]) (S' := (76, tabObj ps'') :: cds) EN F2 rfl rfl hfl (fun p hp hb => ?_) (fun a ha => ?_) (fun p hp => .inl (List.mem_append_right _ hp)) (fun a ha q => ?_) fun h5 hfl5 => herr mm r hp e h5 _ ps'' cds hT hfl5)
    · exact absurd (by rw [List.mem_singleton.mp hp]; exact .head _) hb
    · rcases List.mem_cons.mp ha with rfl | q
      · right
        cases q : s.heap.get? d.dx with
        | none => rfl
        | some o =>
          by_cases q7 : d.dx = 76
          · have := (hR2 (envX (Str.ofString "") (scopeOf (stAt 12)) L' 86 .none []) rfl).ne
            exact absurd q7 this
          · have := EN.keep _ o (by simpa using q7) q
            rw [hdx.2.2] at this; cases this
      · exact .inl q
    · rw [List.mem_singleton.mp q] at ha
      exact (hS (76, tabObj ps) (.head _)).2.2 ha
end
end Mine
end
theorem Mine.anewWithin : True ∧ True := by
  have h : True ∧ True := ⟨trivial, trivial⟩
  first | (walk1; done) | exact h
section
open PySem PySem.W PyProof.Rows PySem.Calls PySem.Spec
set_option maxHeartbeats 2000000
namespace Mine

section
variable {prog : Program} {w : World} {G : Heap} {mean : ExcName → Option Value} {mg mb : Str → Option Value}
theorem Rdy.n76 {frames : List Env} {h : Heap} {d : StD} {bs : List UInt8} {t2 : Tok} {ps : Array Value} (x : Rdy G frames h d bs t2 ps) : ∀ p ∈ d.led bs t2, p.1 ≠ 76 := fun p hp q => by
  have h1 := (x.laid p (List.mem_append_left _ hp)).1
  rw [q, x.tb] at h1
  have h2 := StD.noCode x.ok p hp
  rcases List.mem_cons.mp hp with rfl | hp
  · cases h1
  · rcases List.mem_cons.mp hp with rfl | hp
    · cases h1
    · rcases List.mem_cons.mp hp with rfl | hp
      · cases h1
      · rw [List.mem_singleton.mp hp] at h1
        have := x.ok
        unfold StD.Ok at this
        have h3 := Option.some.inj h1; dsimp only at h3; rw [← h3] at this; cases this
theorem Rdy.tabbed {frames : List Env} {h h' : Heap} {d : StD} {bs : List UInt8} {t2 : Tok} {ps ps' : Array Value} (x : Rdy G frames h d bs t2 ps) (k : KeepBut [76] h h') (h76 : h'.get? 76 = some (tabObj ps')) (ht : Tab76 ps' h') : Rdy G frames h' d bs t2 ps' := by
  have n76 := x.n76
  refine ⟨fun p hp => ?_, x.ok, code_keep x.code k (fun a ha o e => by rw [List.mem_singleton.mp ha, x.tb] at e; cases e; exact x.tab.noCode), ht⟩
  rcases List.mem_append.mp hp with hp | hp
  · exact ⟨k _ _ (fun q => n76 p hp (List.mem_singleton.mp q)) (x.laid p (List.mem_append_left _ hp)).1, (x.laid p (List.mem_append_left _ hp)).2⟩
  · rw [List.mem_singleton.mp hp]
    exact ⟨h76, (x.laid (76, tabObj ps) (by simp)).2⟩

theorem reads_c (Y : Amb w mean mg mb G) {cs : List T} (IH : ∀ t ∈ cs, Reads prog w G t) : Reads prog w G (.c cs) := by
  intro A frames s R d bs t2 ps rd B hrd hR hroom hsz hz hh hok herr
  rw [T.ht] at hroom
  rw [T.sz] at hsz
  cases hrd with
  | c la hl hds =>
    rename_i l its n
    obtain ⟨c, oc, cc, pm, ctv, e1, e2, e3, e4⟩ := la.out
    refine enterE (binds := [(Str.ofString "stream", .ref d.x)]) B hR.laid Y.T.nolimit e1 rfl e2 (by omega) (by with_unfolding_all rfl) (locs (by with_unfolding_all rfl)) ?_ (by decide) (by rfl) (by rfl) (by rfl)
    intro g L' h₁ EN F N
    have B' := EN.B
    have X := Y.X.keeps B'.stays
    have TT := topRead_of (Y.T.keeps B'.stays)
    have st : s.heap.StaysIn h₁ := fun b o e => by
      by_cases q : b ∈ (d.led bs t2 ++ [(76, tabObj ps)]).map (fun p : Addr × Obj => p.1)
      · obtain ⟨p, hp, rfl⟩ := List.mem_map.mp q
        have := (hR.laid p hp).1
        rw [e] at this; cases this
        exact (N p hp).1
      · exact F.keep b o (EN.keep b o q e)
    have kf : ∀ b o, Foot o → s.heap.get? b = some o → h₁.get? b = some o := fun b o _ e => st b o e
    have hR₁ := hR.into (env := envX lamQual (lamScope lamC) L' rd (.ref cc) [(Str.ofString "children", c)]) st EN.new rfl
    have fn86 : ∀ h, g.StaysIn h → FnAt 86 h := fun h k => ⟨_, _, _, _, k _ _ (X 86 _ (by k_is))⟩
    have fn53 : ∀ h, g.StaysIn h → FnAt 53 h := fun h k => ⟨_, _, _, _, k _ _ (X 53 _ (by k_is))⟩
    refine Call_ (nameX_K F X TT (by k_is) ?_) (by with_unfolding_all rfl)
    refine callWith_F (fn86 _ F.keep) (spliced_more (wpAny_Name (wpAny_loadName_free (c := c) rfl (by rfl) (by rfl) ⟨oc, st _ _ e3, e4⟩ ?_)) (by with_unfolding_all rfl)) (by with_unfolding_all rfl) (by with_unfolding_all rfl)
    refine spliced_more (Call_ (nameX_K F X TT (by k_is) ?_) (by with_unfolding_all rfl)) (by with_unfolding_all rfl)
    refine callWith_F (fn53 _ F.keep) (spliced_more (nameX_L F (by rfl) ?_) (by with_unfolding_all rfl)) (by with_unfolding_all rfl) (by with_unfolding_all rfl)
    refine spliced_none ⟨fn53 _ F.keep, wpAny_call ?_⟩
    have hl1 : Laid G (envX lamQual (lamScope lamC) L' rd (.ref cc) [(Str.ofString "children", c)] :: frames) h₁ (d.led bs t2) := fun p hp => hR₁.laid p (List.mem_append_left _ hp)
    have BP := pushX (env := envX lamQual (lamScope lamC) L' rd (.ref cc) [(Str.ofString "children", c)]) EN.B F rfl rfl
    have hdx := N (d.dx, d.dict bs t2) (by simp [StD.led])
    have out : ∀ m r t2' e s', t2' = t2' → (.c cs : T).parse bs = (r, .error m) → Flies h₁ [d.dx] (envX lamQual (lamScope lamC) L' rd (.ref cc) [(Str.ofString "children", c)] :: frames) (d.led r t2') m e s'.heap → (∃ h tk, s' = { s with heap := h, toks := tk }) →
        wpAny (model prog w) (A.deeper (envX lamQual (lamScope lamC) L' rd (.ref cc) [(Str.ofString "children", c)])) (leaving (envX lamQual (lamScope lamC) L' rd (.ref cc) [(Str.ofString "children", c)]) e) (fun _ s'' => R (.error e) s'') (fun e' s'' => R (.error e') s'') s' := by
      rintro m r t2' e s' - hp hfl ⟨h, tk, rfl⟩
      obtain ⟨cds, hT, hfl'⟩ := flies_tab hR₁ BP.frames hfl
      exact leave_next (T := [d.dx, 76]) EN F rfl rfl hfl'.any (fun p hp _ => (N p hp).1) (fun a ha => .inl ha) (fun p hp => .inl hp) hR.off fun h'' hfl'' => herr m r hp e h'' _ t2' ps cds hT hfl''
    refine bytes1_call Y BP hl1 hR.ok hR₁.code (by show A.depth + 1 + 3 < _; omega) (by omega) hh ?_ ?_ ?_
    · rintro b r rfl hb h' tk t1 t2' kb hled
      have hR2 := hR₁.turn kb hled
      have F' := fr_keep F kb (fun q => hdx.2.1 (List.mem_singleton.mp q).symm) (fun a ha => by rw [List.mem_singleton.mp ha]; exact hdx.2.2)
      refine spliced_none ⟨fn86 _ F'.keep, wpAny_call ?_⟩
      have kf' : ∀ b o, Foot o → s.heap.get? b = some o → h'.get? b = some o := fun b' o hfo e => kb _ _ (fun q => by
        rw [List.mem_singleton.mp q, hR.dx] at e; cases e; exact noFoot_dict hfo) (st b' o e)
      refine within_call Y IH (its := its) (n := n) (ps := ps) (pushX (env := envX lamQual (lamScope lamC) L' rd (.ref cc) [(Str.ofString "children", c)]) EN.B F' rfl rfl) (kf' _ _ (.inr (.inr (.inr (.inr (.inr rfl))))) hl) (hds.keep kf') (fun p hp => hR2.laid p (List.mem_append_right _ hp)) hR2.tab (by show A.depth + 1 + 2 * htAll cs + 9 < recursionLimit; omega) (by omega) (by rw [List.length_take]; simp only [List.length_cons] at hz; omega) hh ?_ ?_
      · intro Vs r' hp v h'' tk'' ps' k'' hv h76 ht''
        dsimp only at k'' hv
        refine hok (.list (Vs ++ [.bytes r'])) (r.drop b.toNat) (by rw [T.parse, if_pos hb, hp]) v h'' tk'' t2' ps' (fun b' o hb' e => k'' _ _ (fun q => hb' (by rw [List.mem_singleton.mp q]; simp)) (kb _ _ (fun q => hb' (by rw [List.mem_singleton.mp q]; simp)) (st _ _ e))) (hv.keep fun b' xs n' hN e => ⟨?_, e⟩) ((hR2.tabbed k'' h76 ht'').out rfl)
        cases q : s.heap.get? b' with
        | none => rfl
        | some o =>
          by_cases q2 : b' = d.dx
          · rw [q2] at hN
            have := hR2.dx
            rw [hN] at this; cases this
          · have := kb _ _ (fun z => q2 (List.mem_singleton.mp z)) (st _ _ q)
            rw [hN] at this; cases this
      · intro mm r' hp e h'' tk'' ps' cds' hT hfl
        dsimp only at hfl
        refine leave_next (T := [d.dx, 76]) (S' := d.led (r.drop b.toNat) t2' ++ (76, tabObj ps') :: cds') EN F' rfl rfl hfl.any (fun p hp hn => kb _ _ (fun q => hn (by rw [List.mem_singleton.mp q]; simp)) (N p hp).1) (fun a ha => .inl (by rw [List.mem_singleton.mp ha]; simp)) (fun p hp => ?_) hR.off fun h5 hfl5 => herr mm (r.drop b.toNat) (by rw [T.parse, if_pos hb, hp]) e h5 _ t2' ps' cds' hT hfl5
        rcases List.mem_append.mp hp with hp | hp
        · right
          have h1 := hR2.laid p (List.mem_append_left _ hp)
          refine ⟨h1.1, fun q => ?_, fun q => h1.2.2 (by rw [adrs_cons rfl, q]; exact .head _), fun q => h1.2.2 (by rw [adrs_cons rfl]; exact .tail _ q)⟩
          exact hR2.n76 p hp (List.mem_singleton.mp q)
        · exact .inl hp
    · rintro rfl e h' tk t2' hfl
      exact out noData [] t2' e _ rfl (by rw [T.parse]) hfl ⟨_, _, rfl⟩
    · rintro b r rfl hb e h' tk t2' hfl
      exact out _ [] t2' e _ rfl (by rw [T.parse, if_neg (Nat.not_le.mpr hb)]) hfl ⟨_, _, rfl⟩

mutual
theorem reads_all (Y : Amb w mean mg mb G) : ∀ t : T, Reads prog w G t
  | .u b => reads_u Y b
  | .p cs => reads_p Y (reads_every Y cs)
  | .c cs => reads_c Y (reads_every Y cs)
theorem reads_every (Y : Amb w mean mg mb G) : ∀ cs : List T, ∀ t ∈ cs, Reads prog w G t
  | [], _, h => nomatch h
  | c :: cs, t, h => by
    have := reads_all Y c
    rcases List.mem_cons.mp h with rfl | h
    · exact this
    · exact reads_every Y cs t h
end
end
end Mine
end
theorem Mine.anewReadC : True ∧ True := by
  have h : True ∧ True := ⟨trivial, trivial⟩
  first | (walk1; done) | exact h
section
open PySem PySem.W PyProof.Rows PySem.Calls PySem.Spec
set_option maxHeartbeats 2000000
namespace Mine

theorem DescAll.mem {h : Heap} {v : Value} : ∀ {its : List Value} {cs : List T}, DescAll h its cs → v ∈ its → ∃ t, DescIn h v t
  | _, _, .nil, hm => nomatch hm
  | _, _, .cons d r, hm => by
    rcases List.mem_cons.mp hm with rfl | hm
    · exact ⟨_, d⟩
    · exact r.mem hm
theorem DescAll.paired {h : Heap} {sel : T → Value → Prop} : ∀ {its ys : List Value} {cs : List T}, DescAll h its cs → Paired (fun v y => ∀ t, DescIn h v t → sel t y) its ys → Paired sel cs ys
  | _, _, _, .nil, .nil => .nil
  | _, _, _, .cons d r, .cons p q => .cons (p _ d) (r.paired q)
theorem dObj_inj {dd dd' rd rd' : Addr} {dc dc' nm nm' : Str} {n n' : Int} {t1 t2 t3 t1' t2' t3' : Tok} (e : dObj dd dc t3 n t2 nm t1 rd = dObj dd' dc' t3' n' t2' nm' t1' rd') : dc = dc' ∧ n = n' ∧ nm = nm' := by
  have e1 := congrArg Obj.slots e
  simp at e1
  exact ⟨e1.1.1, e1.2.1.1, e1.2.2.1.1⟩

section
variable {prog : Program} {w : World} {A : Around} {g : Heap} {s : Shared} {Q : Value → Shared → Prop} {E : Value → Shared → Prop} {L : Addr} {m : Str → Option Value}
/-- what an attribute of a descriptor gives -/
noncomputable def Attr (prog : Program) (w : World) (g : Heap) (x : Str) (sel : T → Value → Prop) : Prop :=
  ∀ (A : Around) (s : Shared) (a : Addr) (t : T) (Q : Value → Shared → Prop) (E : Value → Shared → Prop), (hd.heap_39 w.params).In s.heap → DescIn g (.ref a) t → (∀ b o, g.get? b = some o → s.heap.get? b = some o) →
    (∀ y tk, (∀ t', DescIn g (.ref a) t' → sel t' y) → Q y { s with toks := tk }) → wpAny (model prog w) A (getAttr (.ref a) x true) Q E s
theorem attr_name : Attr prog w g (Str.ofString "name") (fun t y => ∃ tk, y = .str t.nm tk) := by
  intro A s a t Q E X d k h
  cases d with
  | mk e1 e2 r =>
    refine slot_name X (k _ _ e1) (k _ _ e2) (h _ _ fun t' d' => ?_)
    cases d' with
    | mk e1' e2' r' =>
      rw [e1] at e1'
      exact ⟨_, by rw [(dObj_inj (Option.some.inj e1')).2.2]⟩
theorem attr_doc : Attr prog w g (Str.ofString "doc") (fun t y => ∃ tk, y = .str (dots t.dp) tk) := by
  intro A s a t Q E X d k h
  cases d with
  | mk e1 e2 r =>
    refine slot_doc X (k _ _ e1) (k _ _ e2) (h _ _ fun t' d' => ?_)
    cases d' with
    | mk e1' e2' r' =>
      rw [e1] at e1'
      exact ⟨_, by rw [(dObj_inj (Option.some.inj e1')).1]⟩
theorem attr_n : Attr prog w g (Str.ofString "n") (fun t y => ∃ tk, y = .int t.n tk) := by
  intro A s a t Q E X d k h
  cases d with
  | mk e1 e2 r =>
    refine slot_n X (k _ _ e1) (k _ _ e2) (h _ _ fun t' d' => ?_)
    cases d' with
    | mk e1' e2' r' =>
      rw [e1] at e1'
      exact ⟨_, by rw [(dObj_inj (Option.some.inj e1')).2.1]⟩

/-- [child.x for child in children] -/
theorem comp_attr {env : Env} {x : Str} {sel : T → Value → Prop} {l : Addr} {its : List Value} {n : Nat} {cs : List T} {iter : Expr} {scope : Scope} {cl : List (Str × Addr)} {pos p1 p2 pc : Pos} {news : List (Addr × Obj)} (hx : Attr prog w g x sel) (X : (hd.heap_39 w.params).In g) (F : Fr g L s.heap m) (N : News g L s.heap news) (hh : A.handled = none)
    (hl : g.get? l = some (listOf its.toArray n)) (hds : DescAll g its cs) (hsz : its.length ≤ 1000)
    (hiter : ∀ Q', Q' (.ref l) s → wpAny (model prog w) A (eval iter env) Q' E s)
    (hclos : closureFor scope env = pure cl) (hcell : ∀ y ∈ scope.names, y.2 ≠ .cell) (hkind : scope.kind = .function)
    (hnames : ∀ y ∈ scope.names, y.2 = .local → scope.names.lookup y.1 = some .local) (hc : scope.names.lookup (Str.ofString "child") = some .local)
    (hfold : ∀ x, foldedSetIterable iter env x = pure x)
    (hat : ∀ C, eval (.Attribute (.Name (Str.ofString "child") p1) x p2) (compEnvC scope cl C env) = (do
      let o ← eval (.Name (Str.ofString "child") p1) (compEnvC scope cl C env)
      standAt p2.atName
      let r ← holding [o] (getAttr o x true)
      letTemporaryGo (.Name (Str.ofString "child") p1) o r
      pure r))
    (h : ∀ h' D ys n' tk, Fr g L h' m → News g L h' ((D, listOf ys.toArray n') :: news) → Paired sel cs ys → (∀ p ∈ news, p.1 ≠ D) → Q (.ref D) { s with heap := h', toks := tk }) :
    wpAny (model prog w) A (eval (.ListComp (.Attribute (.Name (Str.ofString "child") p1) x p2) [⟨.Name (Str.ofString "child") pc, iter, [], 0⟩] scope pos) env) Q E s := by
  have hll : s.heap.IsList l its.toArray := ⟨_, F.keep _ _ hl, rfl, n, rfl⟩
  refine wpAny_ListComp_free (fun _ => true) (fun v y => ∀ t, DescIn g v t → sel t y) hclos hcell hkind hnames hc (hiter _ ?_) hfold
  have hlt : l < s.heap.objs.size := Heap.lt_size (F.keep _ _ hl)
  have hne : l ≠ s.heap.objs.size := Nat.ne_of_lt hlt
  refine wpAny_pyIter_list hll ⟨_, _, _, _, _, _, rfl, Walks.list (A := A) hh s.heap.objs.size l hne its.toArray, ?_, ⟨⟨_, Heap.get?_push_size _ rfl, rfl, rfl⟩, hll.push _⟩, fun b hb => ?_, ⟨?_, ?_⟩, ?_⟩
  · rw [List.size_toArray]; exact Nat.le_trans hsz (by decide)
  · rw [Heap.size_push]
    rcases List.mem_cons.mp hb with rfl | hb
    · exact Nat.lt_succ_self _
    · rw [List.mem_singleton.mp hb]; exact Nat.lt_succ_of_lt hlt
  · intro C i v s₃ m₃ E' _ _ _ _ _ _
    exact wpAny_pure ⟨rfl, s₃.heap, s₃.toks, rfl, fun _ _ e => e⟩
  · intro C i v s₃ m₃ E' hC hP _ hn hm hk _
    have hv : v ∈ its := by
      rw [List.getElem?_toArray] at hP
      exact List.mem_of_getElem? hP
    obtain ⟨t, d⟩ := hds.mem hv
    have kk : ∀ b o, g.get? b = some o → s₃.heap.get? b = some o := fun b o e => hk b o (fun q => by
      have := Heap.lt_size (F.keep _ _ e)
      rw [List.mem_singleton.mp q] at this; exact Nat.lt_irrefl _ this) (Heap.get?_push_of_some _ (F.keep _ _ e))
    cases d with
    | mk e1 e2 r =>
      refine Attribute_Name_ (wpAny_Name (wpAny_loadName_local (by exact hkind) (by exact lookup_relabel_local hc) hn hm ?_)) (hat C)
      exact hx _ _ _ _ _ _ (X.keeps kk) (.mk e1 e2 r) kk fun y tk hy => ⟨hy, _, _, rfl, fun _ _ e => e⟩
  · intro D h' tk ys vs hD hlD hpD hlen hvs hp hk
    obtain ⟨n', hn'⟩ := hpD
    have old : ∀ b o, s.heap.get? b = some o → h'.get? b = some o := fun b o e => hk b o (fun q => by
      have := Heap.lt_size e
      rw [List.mem_singleton.mp q] at this; exact Nat.lt_irrefl _ this) (Heap.get?_push_of_some _ e)
    have hvi : vs = its := by
      refine List.ext_getElem? fun j => ?_
      cases hj : vs[j]? with
      | none =>
        rw [eq_comm, List.getElem?_eq_none_iff]
        rw [List.getElem?_eq_none_iff, hlen] at hj
        simpa using hj
      | some v =>
        have := hvs j v hj
        rw [List.getElem?_toArray] at this
        exact this.symm
    have hD' : s.heap.get? D = none := by
      cases q : s.heap.get? D with
      | none => rfl
      | some o => rw [Heap.get?_push_of_some _ q] at hD; cases hD
    rw [hvi, List.filter_eq_self.mpr (fun _ _ => rfl)] at hp
    refine h h' D ys.toList n' tk ⟨?_, fun b o e => old b o (F.keep b o e), F.above⟩ (fun p hp => ?_) (hds.paired hp) fun p hp q => ?_
    · obtain ⟨o, es, ep, ho, r⟩ := F.ns
      exact ⟨o, es, ep, old _ _ ho, r⟩
    · rcases List.mem_cons.mp hp with rfl | hp
      · refine ⟨hn', fun q => ?_, ?_⟩
        · obtain ⟨o, es, ep, ho, r⟩ := F.ns
          dsimp only at q
          rw [q, ho] at hD'; cases hD'
        · cases q : g.get? D with
          | none => rfl
          | some o => rw [F.keep _ _ q] at hD'; cases hD'
      · exact ⟨old _ _ (N p hp).1, (N p hp).2⟩
    · have := (N p hp).1
      rw [q, hD'] at this; cases this

theorem strs_of {f : T → Str} : ∀ {cs : List T} {ys : List Value}, Paired (fun t y => ∃ tk, y = .str (f t) tk) cs ys → StrsAre ys (cs.map f)
  | _, _, .nil => .nil
  | _, _, .cons ⟨tk, e⟩ r => by rw [e]; exact .cons _ tk (strs_of r)
theorem ints_of {f : T → Int} : ∀ {cs : List T} {ys : List Value}, Paired (fun t y => ∃ tk, y = .int (f t) tk) cs ys → IntsAre ys (cs.map f)
  | _, _, .nil => .nil
  | _, _, .cons ⟨tk, e⟩ r => by rw [e]; exact .cons _ tk (ints_of r)

theorem dots_cps : ∀ n, (dots n).cps.toList = List.replicate n 46
  | 0 => by rfl
  | n + 1 => by
    have e : (dots (n + 1)).cps.toList = (dots n).cps.toList ++ [46] := by
      show ((dots n).cps ++ (Str.ofString ".").cps).toList = _
      rw [Array.toList_append]; rfl
    rw [e, dots_cps n, List.replicate_succ']
theorem repl_lt : ∀ (a b : Nat), (List.replicate a (46 : Nat) < List.replicate b 46) ↔ a < b
  | 0, 0 => by simp
  | 0, b + 1 => by simp [List.replicate_succ]
  | a + 1, 0 => by simp [List.replicate_succ]
  | a + 1, b + 1 => by
    rw [List.replicate_succ, List.replicate_succ, List.cons_lt_cons_iff, repl_lt a b]
    simp
theorem dots_lt (a b : Nat) : decide ((dots a).cps.toList < (dots b).cps.toList) = decide (a < b) := by
  rw [dots_cps, dots_cps]
  exact decide_eq_decide.mpr (repl_lt a b)
theorem foldr_max_le : ∀ (l : List Nat) (k : Nat), k ∈ l → k ≤ l.foldr max 0
  | x :: r, k, h => by
    rw [List.foldr_cons]
    rcases List.mem_cons.mp h with rfl | h
    · exact Nat.le_max_left _ _
    · exact Nat.le_trans (foldr_max_le r k h) (Nat.le_max_right _ _)
theorem foldr_max_top : ∀ (l : List Nat) (k : Nat), (∀ j ∈ l, j ≤ k) → l.foldr max 0 ≤ k
  | [], k, _ => Nat.zero_le _
  | x :: r, k, h => by
    rw [List.foldr_cons]
    exact Nat.max_le.mpr ⟨h x (.head _), foldr_max_top r k fun j hj => h j (.tail _ hj)⟩
/-- the greatest of some dotted docs -/
theorem max_dots {l : Addr} {vs : List Value} {ks : List Nat} {news : List (Addr × Obj)} (hh : A.handled = none) (F : Fr g L s.heap m) (N : News g L s.heap news) (hl : s.heap.IsList l vs.toArray)
    (hv : StrsAre vs (ks.map dots)) (hne : 0 < ks.length)
    (h : ∀ h' t tk, Fr g L h' m → News g L h' news → Q (.str (dots (ks.foldr max 0)) t) { s with heap := h', toks := tk }) :
    wpAny (model prog w) A (call (.builtin "max") [.ref l]) Q E s := by
  have hlt : l < s.heap.objs.size := by obtain ⟨_, e, _⟩ := hl; exact Heap.lt_size e
  have hlen : vs.length = ks.length := by rw [hv.len_eq, List.length_map]
  have hP : ∀ i v, vs.toArray[i]? = some v → ∃ t, v = Value.str (dots ((ks[i]?).getD 0)) t := fun i v e => by
    rw [List.getElem?_toArray] at e
    obtain ⟨y, t, rfl, hy⟩ := hv.item i v e
    rw [List.getElem?_map] at hy
    cases hk : ks[i]? with
    | none => rw [hk] at hy; cases hy
    | some k => rw [hk] at hy; cases hy; refine ⟨t, ?_⟩; rw [show ks[i]? = some k from hk]; rfl
  have hcmp : CmpOf prog w A.in1 .Gt (fun i v => vs.toArray[i]? = some v) (fun i j => decide (((ks[i]?).getD 0 : Int) > ((ks[j]?).getD 0 : Int))) := fun i j vi vj s' Q' E' hi hj hq => by
    obtain ⟨t, rfl⟩ := hP i vi hi
    obtain ⟨u, rfl⟩ := hP j vj hj
    refine richCompare_gives (op := .Gt) (typeIs_str s' _ t) (typeIs_str s' _ u) PySem.F.slot_str_gt PySem.F.entry_str_gt (PySem.F.args_str_gt_2 _ _) (gives_str_gt _ _ t u) (fun x => nomatch x) ?_
    rw [dots_lt]
    dsimp only at hq
    rw [show decide (((ks[i]?).getD 0 : Int) > ((ks[j]?).getD 0 : Int)) = decide ((ks[j]?).getD 0 < (ks[i]?).getD 0) from decide_eq_decide.mpr (by omega)] at hq
    exact hq
  refine call_max_walk (wpAny_pyIter_list hl ⟨_, _, _, _, _, _, _, rfl, Walks.list (A := A.in1) hh s.heap.objs.size l (Nat.ne_of_lt hlt) vs.toArray, ⟨⟨_, Heap.get?_push_size _ rfl, rfl, rfl⟩, hl.push _⟩, fun b hb => ?_, by rw [List.size_toArray, hlen]; exact hne, hcmp, fun v h' tk hPv hk => ?_⟩)
  · rw [Heap.size_push]
    rcases List.mem_cons.mp hb with rfl | hb
    · exact Nat.lt_succ_self _
    · rw [List.mem_singleton.mp hb]; exact Nat.lt_succ_of_lt hlt
  · have old : ∀ b o, s.heap.get? b = some o → h'.get? b = some o := fun b o e => hk b o (fun q => by
      have := Heap.lt_size e
      rw [List.mem_singleton.mp q] at this; exact Nat.lt_irrefl _ this) (Heap.get?_push_of_some _ e)
    obtain ⟨t, rfl⟩ := hP _ _ hPv
    have hbest := argBest_gt (fun i => ((ks[i]?).getD 0 : Int)) (vs.toArray.size - 1)
    generalize hB : argBest (fun i j => decide (((ks[i]?).getD 0 : Int) > ((ks[j]?).getD 0 : Int))) (vs.toArray.size - 1) = b at hbest hPv ⊢
    have hsz : vs.toArray.size = ks.length := by rw [List.size_toArray, hlen]
    rw [hsz] at hbest
    have hbl : b < ks.length := by omega
    have hm : (ks[b]?).getD 0 = ks.foldr max 0 := by
      refine Nat.le_antisymm ?_ (foldr_max_top _ _ fun j hj => ?_)
      · rw [List.getElem?_eq_getElem hbl]
        exact foldr_max_le _ _ (List.getElem_mem hbl)
      · obtain ⟨i, hi, rfl⟩ := List.mem_iff_getElem.mp hj
        have := hbest.2 i (by omega)
        rw [List.getElem?_eq_getElem hi] at this
        simp only [Option.getD_some] at this
        omega
    rw [hm]
    refine h h' t tk ⟨?_, fun b o e => old b o (F.keep b o e), F.above⟩ fun p hp => ⟨old _ _ (N p hp).1, (N p hp).2⟩
    obtain ⟨o, es, ep, ho, r⟩ := F.ns
    exact ⟨o, es, ep, old _ _ ho, r⟩
end
end Mine
end
theorem Mine.anewMade : True ∧ True := by
  have h : True ∧ True := ⟨trivial, trivial⟩
  first | (walk1; done) | exact h
section
open PySem PySem.W PyProof.Rows PySem.Calls PySem.Spec
set_option maxHeartbeats 2000000
namespace Mine

noncomputable def sg : Bool → Str
  | true => Str.ofString "("
  | false => Str.ofString "<"
noncomputable def T.mk : Bool → List T → T
  | true, cs => .p cs
  | false, cs => .c cs

theorem len_app (a b : Str) : (a ++ b).length = a.length + b.length := by
  show (a.cps ++ b.cps).size = a.cps.size + b.cps.size
  exact Array.size_append
theorem nm_len : ∀ cs : List T, ((cs.map T.nm).map (·.length)).sum = (nmAll cs).length
  | [] => rfl
  | t :: ts => by
    rw [nmAll, len_app, ← nm_len ts]; rfl
theorem n_sum : ∀ cs : List T, (cs.map T.n).sum = nAll cs
  | [] => rfl
  | t :: ts => by rw [nAll, ← n_sum ts]; rfl
theorem dp_max : ∀ cs : List T, (cs.map T.dp ++ [0]).foldr max 0 = dpAll cs
  | [] => rfl
  | t :: ts => by
    rw [List.map_cons, List.cons_append, List.foldr_cons, dp_max ts, dpAll]
theorem join_nm : ∀ cs : List T, Txt.join (Str.ofString "") (cs.map T.nm) = nmAll cs
  | [] => rfl
  | t :: ts => by
    have ih := join_nm ts
    unfold Txt.join at ih ⊢
    rw [StrLaws.glued_eq_join] at ih ⊢
    rw [nmAll, ← ih]
    cases ts with
    | nil => show t.nm = t.nm ++ Str.empty; exact (Str.append_right_empty rfl).symm
    | cons y r =>
      show t.nm ++ Str.ofString "" ++ Str.join (Str.ofString "") ((y :: r).map T.nm) = _
      rw [Str.append_right_empty (x := t.nm) (y := Str.ofString "") rfl]
theorem strs_app : ∀ {vs ws : List Value} {xs ys : List Str}, StrsAre vs xs → StrsAre ws ys → StrsAre (vs ++ ws) (xs ++ ys)
  | _, _, _, _, .nil, h => h
  | _, _, _, _, .cons y t r, h => .cons y t (strs_app r h)
mutual
theorem dp_le : ∀ t : T, t.dp ≤ t.sz
  | .u _ => Nat.zero_le _
  | .p cs => by rw [T.dp, T.sz]; exact Nat.succ_le_succ (dpAll_le cs)
  | .c cs => by rw [T.dp, T.sz]; exact Nat.succ_le_succ (dpAll_le cs)
theorem dpAll_le : ∀ cs : List T, dpAll cs ≤ szAll cs
  | [] => Nat.zero_le _
  | t :: ts => by
    have h1 := dp_le t
    have h2 := dpAll_le ts
    rw [dpAll, szAll]; omega
end
theorem dots_len (n : Nat) : (dots n).length = n := by
  show (dots n).cps.size = n
  rw [← Array.length_toList, dots_cps, List.length_replicate]
theorem len_paren : (Str.ofString "(").length = 1 := by decide
theorem len_paren2 : (Str.ofString ")").length = 1 := by decide
theorem len_less : (Str.ofString "<").length = 1 := by decide
theorem len_more : (Str.ofString ">").length = 1 := by decide
theorem len_dot : (Str.ofString ".").length = 1 := by decide
theorem fits24 {n : Nat} (h : n ≤ 1000000) : n ≤ sizeLine := Nat.le_trans h (by decide)
local macro_rules | `(tactic| walk_at "binaryOp Add str str") => `(tactic| (k_here; (with_reducible show wpAny _ _ (binaryOp Operator.Add (Value.str _ _) (Value.str _ _)) _ _ _); (refine PySem.SB.add ?_ (hsz := fits24 (by simp only [len_app, dots_len, len_paren, len_paren2, len_less, len_more, len_dot]; omega))); intro _ _))
noncomputable def Stop (p : Prop) : Prop := p
theorem stop {p : Prop} (h : Stop p) : p := h
local macro_rules | `(tactic| walk_at "eval ListComp") => `(tactic| (k_here; refine stop ?_))

/-- the records that a fact leans on, as a ledger -/
theorem code_led {g h : Heap} {L : Addr} {m : Str → Option Value} {cv : Value} {q : Str} (F : Fr g L h m) (c : h.CodeRec cv q) :
    ∃ ex : List (Addr × Obj), News g L h ex ∧ (∀ h' : Heap, (∀ b o, g.get? b = some o → h'.get? b = some o) → (∀ p ∈ ex, h'.get? p.1 = some p.2) → h'.CodeRec cv q) ∧ ∀ p ∈ ex, ∃ vs, p.2.data = .fields vs := by
  obtain ⟨a, o, vs, t, e1, e2, e3, e4⟩ := c
  cases hg : g.get? a with
  | some o' =>
    have := F.keep _ _ hg
    rw [e2] at this; cases this
    exact ⟨[], fun p hp => (nomatch hp), fun h' k _ => ⟨a, o, vs, t, e1, k _ _ hg, e3, e4⟩, fun p hp => (nomatch hp)⟩
  | none =>
    refine ⟨[(a, o)], fun p hp => ?_, fun h' _ k => ⟨a, o, vs, t, e1, k (a, o) (.head _), e3, e4⟩, fun p hp => by rw [List.mem_singleton.mp hp]; exact ⟨vs, e3⟩⟩
    rw [List.mem_singleton.mp hp]
    refine ⟨e2, fun q => ?_, hg⟩
    obtain ⟨o', es, ep, ho, hd, _⟩ := F.ns
    dsimp only at q
    rw [q, ho] at e2; cases e2; rw [hd] at e3; cases e3
theorem codeAmong_mem {pos : Pos} {cv : Value} : ∀ {l : List Value}, TriplesOk l → codeAmong pos l = some cv → cv ∈ l
  | [], _, e => by simp [codeAmong] at e
  | .int a _ :: .int b _ :: d :: r, ht, e => by
    simp only [codeAmong] at e
    split at e
    · rw [Option.some.inj e]; simp
    · exact List.mem_cons_of_mem _ (List.mem_cons_of_mem _ (List.mem_cons_of_mem _ (codeAmong_mem (l := r) ht e)))
theorem codes_led {g h : Heap} {L : Addr} {m : Str → Option Value} {q : Str} (F : Fr g L h m) : ∀ l : List Value,
    ∃ ex : List (Addr × Obj), News g L h ex ∧ (∀ h' : Heap, (∀ b o, g.get? b = some o → h'.get? b = some o) → (∀ p ∈ ex, h'.get? p.1 = some p.2) → ∀ v ∈ l, h.CodeRec v q → h'.CodeRec v q) ∧ ∀ p ∈ ex, ∃ vs, p.2.data = .fields vs
  | [] => ⟨[], fun p hp => (nomatch hp), fun _ _ _ _ hv => (nomatch hv), fun p hp => (nomatch hp)⟩
  | x :: r => by
    obtain ⟨ex, N, k, kd⟩ := codes_led F r
    by_cases hx : h.CodeRec x q
    · obtain ⟨ex', N', k', kd'⟩ := code_led F hx
      refine ⟨ex' ++ ex, fun p hp => ?_, fun h' hg hp v hv hc => ?_, fun p hp => (List.mem_append.mp hp).elim (kd' p) (kd p)⟩
      · rcases List.mem_append.mp hp with hp | hp
        · exact N' p hp
        · exact N p hp
      · rcases List.mem_cons.mp hv with rfl | hv
        · exact k' h' hg (fun p hp' => hp p (List.mem_append_left _ hp'))
        · exact k h' hg (fun p hp' => hp p (List.mem_append_right _ hp')) v hv hc
    · refine ⟨ex, N, fun h' hg hp v hv hc => ?_, kd⟩
      rcases List.mem_cons.mp hv with rfl | hv
      · exact absurd hc hx
      · exact k h' hg hp v hv hc
theorem tab_led {g h : Heap} {L : Addr} {m : Str → Option Value} {ps : Array Value} {q : Str} (F : Fr g L h m) (t : TabOk q ps h) :
    ∃ ex : List (Addr × Obj), News g L h ex ∧ (∀ h' : Heap, (∀ b o, g.get? b = some o → h'.get? b = some o) → (∀ p ∈ ex, h'.get? p.1 = some p.2) → TabOk q ps h') ∧ ∀ p ∈ ex, ∃ vs, p.2.data = .fields vs := by
  obtain ⟨ex, N, k, kd⟩ := codes_led (q := q) F ps.toList
  exact ⟨ex, N, fun h' hg hp => ⟨t.1, fun pos cv e => k h' hg hp cv (codeAmong_mem t.1 e) (t.2 pos cv e)⟩, kd⟩
theorem news_cons {g h : Heap} {L : Addr} {p : Addr × Obj} {N : List (Addr × Obj)} (h1 : News g L h [p]) (h2 : News g L h N) : News g L h (p :: N) := fun q hq => by
  rcases List.mem_cons.mp hq with rfl | hq
  · exact h1 q (.head _)
  · exact h2 q hq
theorem news_app {g h : Heap} {L : Addr} {M N : List (Addr × Obj)} (h1 : News g L h M) (h2 : News g L h N) : News g L h (M ++ N) := fun q hq => by
  rcases List.mem_append.mp hq with hq | hq
  · exact h1 q hq
  · exact h2 q hq

section
variable {prog : Program} {w : World} {A : Around} {G : Heap} {frames : List Env} {s : Shared} {R : Result → Shared → Prop} {mean : ExcName → Option Value} {mg mb : Str → Option Value}
set_option maxHeartbeats 8000000 in
theorem made_call (Y : Amb w mean mg mb G) {b : Bool} {ts : Tok} {cs : List T} {l : Addr} {its : List Value} {n : Nat} {ps : Array Value}
    (B : Below A G frames s.heap) (hl : s.heap.get? l = some (listOf its.toArray n)) (hds : DescAll s.heap its cs) (hS : Laid G frames s.heap [(88, tabObj ps)]) (ht : TabOk lamQual ps s.heap)
    (hroom : A.depth + 12 < recursionLimit) (hcs : szAll cs ≤ 1000) (hnm : (nmAll cs).length ≤ 10000) (hn : b = true → 0 ≤ nAll cs) (hh : A.handled = none)
    (h : ∀ a (led : List (Addr × Obj)) cc h' tk ps', KeepBut [88] s.heap h' → (∀ p ∈ led, h'.get? p.1 = some p.2 ∧ s.heap.get? p.1 = none) → h'.CodeRec (.ref cc) lamQual → h'.get? 88 = some (tabObj ps') → TabOk lamQual ps' h' →
      (∀ h'', (∀ p ∈ led, h''.get? p.1 = some p.2) → h''.CodeRec (.ref cc) lamQual → h''.get? l = some (listOf its.toArray n) → DescAll h'' its cs → DescIn h'' (.ref a) (T.mk b cs)) → R (.ok (.ret (.ref a))) { s with heap := h', toks := tk }) :
    codeAny (model prog w) A (.call (.ref 91) ⟨[.str (sg b) ts, .ref l], []⟩) R s := by
  have XG := Y.X.keeps B.stays
  refine enterC (binds := [(Str.ofString "sign", .str (sg b) ts), (Str.ofString "children", .ref l)]) B hS Y.T.nolimit (XG _ _ (by k_is)) rfl (codeRec_of XG (by k_is)) (by omega) (BindsTo.of_eq (by rfl)) (by rfl) (by decide +kernel) ?_ (by rfl) (by rfl) (by rfl)
  intro g L' h₁ tk cells EN F N YC
  have B' := EN.B
  have X := Y.X.keeps B'.stays
  have T := Y.T.keeps B'.stays
  have C1 := Y.c1.keeps B'.stays
  have C2 := Y.c2.keeps B'.stays
  obtain ⟨oc, hE, d1⟩ := CellsAre.one YC
  subst hE
  simp only [List.cons_append, List.nil_append] at N
  have e88 : (88 : Nat) < L' := EN.lt (88, tabObj ps) (.head _)
  have hnc := noCode_tab ht.1
  with_reducible change wpAny _ _ _ _ _ _
  k_fold
  refine with_frames B' fun hAf => ?_
  have hq : ∀ v s', R (.ok (.ret v)) s' → qk (.ret v) s' := fun _ _ h => h
  clear_value qk ek
  have hkg : ∀ b o, Foot o → s.heap.get? b = some o → g.get? b = some o := fun b' o hfo e => EN.keep b' o (fun q => by
    have hb : b' = 88 := by simpa using q
    rw [hb, (hS (88, tabObj ps) (.head _)).1] at e; cases e; exact noFoot_tab hnc hfo) e
  have hlg : g.get? l = some (listOf its.toArray n) := hkg _ _ (.inr (.inr (.inr (.inr (.inr rfl))))) hl
  have hdg : DescAll g its cs := hds.keep hkg
  have hlen : its.length ≤ 1000 := by rw [hds.length]; exact Nat.le_trans (len_le_sz cs) hcs
  have hdp : dpAll cs ≤ 1000 := Nat.le_trans (dpAll_le cs) hcs
  have ofStop : ∀ {p : Prop}, p → Stop p := fun h => h
  generalize hrest : (Stmt.If _ _ _ _ :: _ : List Stmt) = rest
  k_steps
  refine ofStop (comp_attr attr_name X F N hh hlg hdg hlen (fun Q' hq' => nameX_C (o := oc) N (by rfl) (by k_mem) d1 hq') (by with_unfolding_all rfl) (by decide) rfl (by decide) (by rfl) (by intro _; rfl) (by intro C; with_unfolding_all rfl) ?_)
  intro h2 D ys n' tk2 F2 N2 hp2 hne2
  k_steps
  refine join_listW ⟨_, (N2 (D, listOf ys.toArray n') (.head _)).1, rfl, _, rfl⟩ (strs_of hp2) (by decide) (by rw [nm_len, List.length_map]; have := len_le_sz cs; omega) fun t' k => ?_
  rw [join_nm]
  k_steps
  rename Fr _ _ _ _ => F3
  rename News _ _ _ _ => N3
  refine ofStop (comp_attr attr_doc X F3 N3 hh hlg hdg hlen (fun Q' hq' => nameX_C (o := oc) N3 (by rfl) (by k_mem) d1 hq') (by with_unfolding_all rfl) (by decide) rfl (by decide) (by rfl) (by intro _; rfl) (by intro C; with_unfolding_all rfl) ?_)
  intro h4 D4 ys4 n4 tk4 F4 N4 hp4 hne4
  k_steps
  rename Fr _ _ _ _ => F5
  rename News _ _ _ _ => N5
  have hys4 : ys4.length ≤ 1000 := by rw [(strs_of hp4).len_eq, List.length_map]; exact Nat.le_trans (len_le_sz cs) hcs
  refine add_lists F5 N5 ⟨_, (N5 (D4, listOf ys4.toArray n4) (.tail _ (.head _))).1, rfl, _, rfl⟩ ⟨_, (N5 _ (.head _)).1, rfl, _, rfl⟩ (fun h6 F6 N6 => ?_) (Nat.le_trans (Nat.succ_le_succ hys4) (by decide))
  dsimp only at F6 N6 ⊢
  generalize Array.size _ = D6 at N6 ⊢
  k_steps
  have hst : StrsAre (ys4 ++ [.str (Str.ofString "") tk4]) ((cs.map Mine.T.dp ++ [0]).map dots) := by
    rw [List.map_append, List.map_map]
    exact strs_app (strs_of hp4) (.cons _ _ .nil)
  refine max_dots hh F6 N6 ⟨_, (N6 _ (.head _)).1, rfl, _, rfl⟩ hst (by simp) fun h7 t7 tk7 F7 N7 => ?_
  rw [dp_max]
  k_steps
  rename Fr _ _ _ _ => F8
  rename News _ _ _ _ => N8'
  have N8 : News g L' _ [(L' + 1, oc), (88, tabObj ps)] := fun p hp => N8' p (.tail _ (.tail _ (.tail _ (.tail _ hp))))
  have htg : TabOk lamQual ps g := ht.keep (T := [88]) (fun b o hb e => EN.keep b o (by simpa using hb) e) (fun a ha o e => by
    rw [List.mem_singleton.mp ha, (hS (88, tabObj ps) (.head _)).1] at e; cases e; exact hnc)
  subst hrest
  cases b with
  | true =>
    simp only [sg] at F8
    k_steps
    rename Fr _ _ _ _ => F9
    rename News _ _ _ _ => N9
    refine ofStop (comp_attr attr_n X F9 N9 hh hlg hdg hlen (fun Q' hq' => nameX_C (o := oc) N9 (by rfl) (by k_mem) d1 hq') (by with_unfolding_all rfl) (by decide) rfl (by decide) (by rfl) (by intro _; rfl) (by intro C; with_unfolding_all rfl) ?_)
    intro h10 D10 ys10 n10 tk10 F10 N10 hp10 hne10
    k_steps
    refine sumK hh F10 N10 ⟨_, (N10 _ (.head _)).1, rfl, _, rfl⟩ (ints_of hp10) fun h11 tk11 t11 F11 N11 => ?_
    rw [n_sum]
    k_steps
    rename Fr _ _ _ _ => F12
    rename News _ _ _ _ => N12'
    have N12 : News g L' _ [(88, tabObj ps), (L' + 1, oc)] := fun p hp => N12' p (by rcases List.mem_cons.mp hp with rfl | hp; exact .tail _ (.tail _ (.head _)); rw [List.mem_singleton.mp hp]; exact .tail _ (.head _))
    have ht12 := htg.keep (T := []) (fun b o _ e => F12.keep b o e) (fun _ ha => nomatch ha)
    refine kla_eval rfl ?_
    generalize hqn : (Env.qual _ ++ _ : Str) = qn
    have hqe : qn = lamQual := by rw [← hqn]; kernel_rfl
    subst hqe
    refine lam_tab F12 N12 T C1 rfl (UpdF.head (fun p hp => by rw [List.mem_singleton.mp hp]; exact Nat.ne_of_gt (Nat.lt_succ_of_lt e88))) ht12 (by with_unfolding_all rfl) fun f c' ctv ps' h13 tk13 F13 N13 ht13 hc13 hlt13 => ?_
    k_steps
    generalize hof : kla_obj _ _ _ _ _ _ _ _ _ = fo at N13
    obtain ⟨ex1, NX1, kx1, _⟩ := code_led F13 hc13
    obtain ⟨ex2, NX2, kx2, _⟩ := tab_led F13 ht13
    refine desc_use Y B' F13 (news_app N13 (news_app NX1 NX2)) rfl (by omega) (hn rfl) fun a dd h14 tk14 F14 N14 hlt14 hlt15 => ?_
    generalize hoa : dObj _ _ _ _ _ _ _ _ = ao at N14
    have hLf : L' + 1 < f := hlt13 (L' + 1, oc) (.tail _ (.head _))
    have hfd : f < dd := hlt14 _ (List.mem_append_left _ (.head _))
    have hfr : ∀ a : Nat, @LT.lt Nat _ L' a → s.heap.get? a = none := fun a ha => Heap.get?_none_of_le (Nat.le_trans EN.room (Nat.le_of_lt ha))
    refine hq _ _ (h a [(a, ao), (dd, dictOf [] 0), (f, fo), (L' + 1, oc)] c' h14 tk14 ps' (EN.keepBut F14 fun p hp hnn => absurd (by rw [List.mem_singleton.mp hp]; exact .head _) hnn) ?_ (kx1 h14 F14.keep fun p hp => (N14 p (.tail _ (.tail _ (List.mem_append_right _ (List.mem_append_left _ hp))))).1) (N14 (88, tabObj ps') (.tail _ (.tail _ (List.mem_append_left _ (.tail _ (.head _)))))).1 (kx2 h14 F14.keep fun p hp => (N14 p (.tail _ (.tail _ (List.mem_append_right _ (List.mem_append_right _ hp))))).1) ?_)
    · refine List.forall_mem_cons.mpr ⟨⟨(N14 _ (.head _)).1, hfr _ ?_⟩, List.forall_mem_cons.mpr ⟨⟨(N14 _ (.tail _ (.head _))).1, hfr _ ?_⟩, List.forall_mem_cons.mpr ⟨⟨(N14 _ (.tail _ (.tail _ (.head _)))).1, hfr _ ?_⟩, List.forall_mem_cons.mpr ⟨⟨(N14 (L' + 1, oc) (.tail _ (.tail _ (.tail _ (.tail _ (.head _)))))).1, hfr _ ?_⟩, List.forall_mem_nil _⟩⟩⟩⟩
      · exact Nat.lt_trans (Nat.lt_trans (Nat.lt_of_succ_lt hLf) hfd) hlt15
      · exact Nat.lt_trans (Nat.lt_of_succ_lt hLf) hfd
      · exact Nat.lt_of_succ_lt hLf
      · exact Nat.lt_succ_self _
    · intro h'' hled hcc hl'' hds''
      have e1 := hled (a, ao) (.head _)
      have e2 := hled (dd, dictOf [] 0) (.tail _ (.head _))
      have e3 := hled (f, fo) (.tail _ (.tail _ (.head _)))
      have e4 := hled (L' + 1, oc) (.tail _ (.tail _ (.tail _ (.head _))))
      rw [← hoa] at e1
      rw [← hof] at e3
      refine .mk (t := .p cs) (by rw [T.nm, T.n, T.dp, dots]; exact e1) e2 (.p ⟨⟨L' + 1, oc, c', _, _, e3, hcc, e4, d1⟩⟩ hl'' hds'')
  | false =>
    simp only [sg] at F8
    k_steps
    rename Fr _ _ _ _ => F12
    rename News _ _ _ _ => N12'
    have N12 : News g L' _ [(88, tabObj ps), (L' + 1, oc)] := fun p hp => N12' p (by rcases List.mem_cons.mp hp with rfl | hp; exact .tail _ (.head _); rw [List.mem_singleton.mp hp]; exact .head _)
    have ht12 := htg.keep (T := []) (fun b o _ e => F12.keep b o e) (fun _ ha => nomatch ha)
    refine kla_eval rfl ?_
    generalize hqn : (Env.qual _ ++ _ : Str) = qn
    have hqe : qn = lamQual := by rw [← hqn]; kernel_rfl
    subst hqe
    refine lam_tab F12 N12 T C1 rfl (UpdF.head (fun p hp => by rw [List.mem_singleton.mp hp]; exact Nat.ne_of_gt (Nat.lt_succ_of_lt e88))) ht12 (by with_unfolding_all rfl) fun f c' ctv ps' h13 tk13 F13 N13 ht13 hc13 hlt13 => ?_
    k_steps
    generalize hof : kla_obj _ _ _ _ _ _ _ _ _ = fo at N13
    obtain ⟨ex1, NX1, kx1, _⟩ := code_led F13 hc13
    obtain ⟨ex2, NX2, kx2, _⟩ := tab_led F13 ht13
    refine desc_use2 Y B' F13 (news_app N13 (news_app NX1 NX2)) rfl (by omega) fun a dd h14 tk14 F14 N14 hlt14 hlt15 => ?_
    generalize hoa : dObj _ _ _ _ _ _ _ _ = ao at N14
    have hLf : L' + 1 < f := hlt13 (L' + 1, oc) (.tail _ (.head _))
    have hfd : f < dd := hlt14 _ (List.mem_append_left _ (.head _))
    have hfr : ∀ a : Nat, @LT.lt Nat _ L' a → s.heap.get? a = none := fun a ha => Heap.get?_none_of_le (Nat.le_trans EN.room (Nat.le_of_lt ha))
    refine hq _ _ (h a [(a, ao), (dd, dictOf [] 0), (f, fo), (L' + 1, oc)] c' h14 tk14 ps' (EN.keepBut F14 fun p hp hnn => absurd (by rw [List.mem_singleton.mp hp]; exact .head _) hnn) ?_ (kx1 h14 F14.keep fun p hp => (N14 p (.tail _ (.tail _ (List.mem_append_right _ (List.mem_append_left _ hp))))).1) (N14 (88, tabObj ps') (.tail _ (.tail _ (List.mem_append_left _ (.tail _ (.head _)))))).1 (kx2 h14 F14.keep fun p hp => (N14 p (.tail _ (.tail _ (List.mem_append_right _ (List.mem_append_right _ hp))))).1) ?_)
    · refine List.forall_mem_cons.mpr ⟨⟨(N14 _ (.head _)).1, hfr _ ?_⟩, List.forall_mem_cons.mpr ⟨⟨(N14 _ (.tail _ (.head _))).1, hfr _ ?_⟩, List.forall_mem_cons.mpr ⟨⟨(N14 _ (.tail _ (.tail _ (.head _)))).1, hfr _ ?_⟩, List.forall_mem_cons.mpr ⟨⟨(N14 (L' + 1, oc) (.tail _ (.tail _ (.tail _ (.tail _ (.head _)))))).1, hfr _ ?_⟩, List.forall_mem_nil _⟩⟩⟩⟩
      · exact Nat.lt_trans (Nat.lt_trans (Nat.lt_of_succ_lt hLf) hfd) hlt15
      · exact Nat.lt_trans (Nat.lt_of_succ_lt hLf) hfd
      · exact Nat.lt_of_succ_lt hLf
      · exact Nat.lt_succ_self _
    · intro h'' hled hcc hl'' hds''
      have e1 := hled (a, ao) (.head _)
      have e2 := hled (dd, dictOf [] 0) (.tail _ (.head _))
      have e3 := hled (f, fo) (.tail _ (.tail _ (.head _)))
      have e4 := hled (L' + 1, oc) (.tail _ (.tail _ (.tail _ (.head _))))
      rw [← hoa] at e1
      rw [← hof] at e3
      refine .mk (t := .c cs) (by rw [T.nm, T.n, T.dp, dots]; exact e1) e2 (.c ⟨⟨L' + 1, oc, c', _, _, e3, hcc, e4, d1⟩⟩ hl'' hds'')
end
end Mine
end
theorem Mine.anewMade2 : True ∧ True := by
  have h : True ∧ True := ⟨trivial, trivial⟩
  first | (walk1; done) | exact h
section
open PySem PySem.W PyProof.Rows PySem.Calls PySem.Spec
set_option maxHeartbeats 2000000
namespace Mine

noncomputable abbrev frObj (sgn : Str) (t1 : Tok) (c v : Addr) (os : List UInt8) (t2 : Tok) (n : Nat) : Obj := listOf #[.str sgn t1, .ref c, .ref v, .bytes os.toArray t2] n
section
variable {prog : Program} {w : World} {A : Around} {E : Value → Shared → Prop} {s : Shared} {env : Env} {h₀ : Heap} {L : Addr} {m : Str → Option Value} {news : List (Addr × Obj)}
theorem draw_list {it t : Addr} {items : Array Value} (hne : t ≠ it) : ∀ (n i : Nat) (s : Shared) (Q : List Value → Shared → Prop), s.heap.IsListIter it t i → s.heap.IsList t items → i + n ≤ items.size →
    (∀ h', h'.IsListIter it t (i + n) → Heap.SameBut it s.heap h' → Q ((items.toList.drop i).take n) { s with heap := h' }) → wpAny (model prog w) A (draw (.ref it) n) Q E s
  | 0, i, s, Q, hit, _, _, hQ => by
    show wpAny _ _ (pure []) Q E s
    exact wpAny_pure (by simpa using hQ s.heap hit (Heap.SameBut.refl ..))
  | n + 1, i, s, Q, hit, ht, hle, hQ => by
    have hlt : i < items.size := by omega
    show wpAny _ _ (pyNext (.ref it) >>= _) Q E s
    refine wpAny_bind (wpAny_pyNext_list_item hit ht (x := items[i]) (by simp [hlt]) fun h₁ hit₁ hs₁ => ?_)
    refine wpAny_bind (wpAny_holding (draw_list hne n (i + 1) _ _ hit₁ (ht.extBut hs₁.extBut hne) (by omega) fun h₂ hit₂ hs₂ => wpAny_pure ?_))
    have hd : items.toList.drop i = items[i] :: items.toList.drop (i + 1) := by simp [List.drop_eq_getElem_cons, hlt]
    have := hQ h₂ (by rw [show i + (n + 1) = i + 1 + n by omega]; exact hit₂) (hs₁.trans hs₂)
    rw [hd, List.take_succ_cons] at this
    exact this

/-- a, b, .. = a list -/
theorem unpack_list {elts : List Expr} {k} {pos : Pos} {t : Addr} {items : Array Value} {Q : Unit → Shared → Prop} (F : Fr h₀ L s.heap m) (N : News h₀ L s.heap news) (ht : s.heap.IsList t items)
    (hh : A.handled = none) (hn : (assignEach elts env).length = items.size) (hstar : (assignEach elts env).findIdx? (·.1) = none)
    (h : ∀ h', Fr h₀ L h' m → News h₀ L h' news → wpAny (model prog w) A (assignInOrder ((assignEach elts env).map (·.2)) items.toList) Q E { s with heap := h' }) :
    wpAny (model prog w) A (assign (.Tuple elts k pos) env (.ref t)) Q E s := by
  have hlt : t ≠ s.heap.objs.size := by obtain ⟨o, ho, _⟩ := ht; exact Nat.ne_of_lt (Heap.lt_size ho)
  rw [assign_Tuple]
  refine wpAny_bind (wpAny_standAt ?_)
  unfold unpack
  rw [hn, hstar]
  refine wpAny_bind (wpAny_holding ?_)
  unfold unpackItems
  refine wpAny_bind ?_
  unfold notIterableAtAll
  refine wpAny_bind (wpAny_specialOf ht.typeIs slot_list_iter.lookup ?_)
  refine wpAny_pure ?_
  simp only [Bool.false_eq_true, if_false]
  refine wpAny_bind (wpAny_holding (wpAny_pyIter_list ht ?_))
  refine wpAny_bind (wpAny_holding (draw_list hlt items.size 0 _ _ ⟨_, Heap.get?_push_size _ rfl, rfl, rfl⟩ (ht.push _) (by omega) fun h₁ hit₁ hs₁ => ?_))
  have hall : List.take items.size (List.drop 0 items.toList) = items.toList := by
    rw [List.drop_zero]; exact List.take_of_length_le (by simp)
  rw [hall]
  rw [if_neg (by simp)]
  have ht₁ : h₁.IsList t items := (ht.push _).extBut hs₁.extBut hlt
  refine wpAny_bind (wpAny_holding (wpAny_pyNext_list_end hh hit₁ ht₁ (by simp) fun h₂ he₂ => ?_))
  simp only [Option.isSome_none, Bool.false_eq_true, if_false]
  have hx : Heap.ExtBut s.heap.objs.size s.heap h₂ := fun b o hb e => he₂ b o hb (hs₁.extBut b o hb (Heap.get?_push_of_some _ e))
  exact wpAny_pure (h h₂ (F.extBut hx (Nat.le_refl _)) (N.extBut hx (Nat.le_refl _)))

/-- xs[-1] -/
theorem item_last {value slice : Expr} {l : Addr} {p : List Value} {y : Value} {u : Tok} {Q : Value → Shared → Prop} (hl : s.heap.IsList l (p ++ [y]).toArray) (h : Q y s)
    (hs : subscripted slice false (.ref l) (.int (-1) u) = operate [.ref l, .int (-1) u] (getItem (.ref l) (.int (-1) u)) := by with_unfolding_all rfl) :
    wpAny (model prog w) A (subscriptTail value slice (.ref l) (.int (-1) u)) Q E s :=
  tail_any hl.typeIs slot_list_getitem.lookup (wpAny_getItem_list_neg hl (by decide) (by rw [List.size_toArray, List.length_append]; simp only [List.length_cons, List.length_nil]; omega) (by decide) (by
    rw [List.size_toArray, List.length_append, show ((-1 : Int) + ((p.length + [y].length : Nat) : Int)).toNat = p.length from by simp only [List.length_cons, List.length_nil]; omega]
    simp) h) hs
theorem item_lastN {value slice : Expr} {l : Addr} {p : List Value} {y : Value} {n : Nat} {u : Tok} {Q : Value → Shared → Prop} (N : News h₀ L s.heap news) (hm : (l, listOf (p ++ [y]).toArray n) ∈ news) (h : Q y s)
    (hs : subscripted slice false (.ref l) (.int (-1) u) = operate [.ref l, .int (-1) u] (getItem (.ref l) (.int (-1) u)) := by with_unfolding_all rfl) :
    wpAny (model prog w) A (subscriptTail value slice (.ref l) (.int (-1) u)) Q E s := item_last ⟨_, (N _ hm).1, rfl, _, rfl⟩ h hs
theorem item_frN {value slice : Expr} {l c v : Addr} {sgn : Str} {t1 t2 : Tok} {os : List UInt8} {n : Nat} {k : Int} {x : Value} {u : Tok} {Q : Value → Shared → Prop} (N : News h₀ L s.heap news) (hm : (l, frObj sgn t1 c v os t2 n) ∈ news)
    (h0 : 0 ≤ k) (h1 : k < 2 ^ 63) (hx : [Value.str sgn t1, .ref c, .ref v, .bytes os.toArray t2][k.toNat]? = some x) (h : Q x s)
    (hs : subscripted slice false (.ref l) (.int k u) = operate [.ref l, .int k u] (getItem (.ref l) (.int k u)) := by with_unfolding_all rfl) :
    wpAny (model prog w) A (subscriptTail value slice (.ref l) (.int k u)) Q E s := item_litK (vs := [Value.str sgn t1, .ref c, .ref v, .bytes os.toArray t2]) ⟨_, (N _ hm).1, rfl, _, rfl⟩ h0 h1 hx h hs
end
end Mine
end
theorem Mine.anewLists : True ∧ True := by
  have h : True ∧ True := ⟨trivial, trivial⟩
  first | (walk1; done) | exact h
section
open PySem PySem.W PyProof.Rows PySem.Calls PySem.Spec
set_option maxHeartbeats 2000000
namespace Mine

noncomputable def V.mk : Bool → List V → V
  | true, vs => .list vs
  | false, vs => .list (vs ++ [.bytes []])
noncomputable def sgEnd : Bool → Str
  | true => Str.ofString ")"
  | false => Str.ofString ">"

theorem kl_last_app : ∀ (p : List Value) (y : Value), kl_last (p ++ [y]) = some (p, y)
  | [], y => rfl
  | x :: r, y => by
    rw [List.cons_append, kl_last, kl_last_app r y]

local macro_rules | `(tactic| walk_at "subscriptTail") => `(tactic| (k_here; (with_reducible show wpAny _ _ (subscriptTail _ _ (Value.ref _) (Value.int _ _)) _ _ _); (rename News _ _ _ _ => kN'); (refine item_frN kN' (List.Mem.tail _ (List.Mem.head _)) (by decide) (by decide) (by rfl) ?_)))
local macro_rules | `(tactic| walk_at "subscriptTail") => `(tactic| (k_here; (with_reducible show wpAny _ _ (subscriptTail _ _ (Value.ref _) (Value.int (-1) _)) _ _ _); (rename News _ _ _ _ => kN'); (refine item_lastN kN' (List.Mem.head _) ?_)))
local macro_rules | `(tactic| walk_at "call builtin:len") => `(tactic| (k_here; (with_reducible show wpAny _ _ (call (Value.builtin "len") [Value.bytes _ _]) _ _ _); (refine len_bytes (by simp only [List.size_toArray]; omega) ?_); (simp only [List.size_toArray])))
theorem ne_same {prog : Program} {w : World} {A : Around} {E : Value → Shared → Prop} {s : Shared} {a : Int} {t u : Tok} {Q : Value → Shared → Prop} (h : Q (.bool false) s) : wpAny (model prog w) A (compareOp .NotEq (.int a t) (.int a u)) Q E s := by
  refine PyProof.Rows.ne_int ?_
  rw [bne_self_eq_false]; exact h
local macro_rules | `(tactic| walk_at "compareOp NotEq int int") => `(tactic| (k_here; refine ne_same ?_))
local macro_rules | `(tactic| walk_at "binaryOp Add ref ref") => `(tactic| (k_here; refine stop ?_))
local macro_rules | `(tactic| k_all) => `(tactic| first | exact List.forall_mem_nil _ | with_reducible assumption | (refine List.forall_mem_cons.mpr ⟨?_, ?_⟩; (focus k_ne); k_all))
local macro_rules | `(tactic| walk_at "call builtin:list.append") => `(tactic| (k_here; refine stop ?_))
local macro_rules | `(tactic| walk_at "call builtin:list.pop") => `(tactic| (k_here; refine stop ?_))

local macro_rules | `(tactic| walk_at "eval Name") => `(tactic| (k_here; (with_reducible rename Fr _ _ _ _ => kF); refine nameX_L kF (by first | with_reducible assumption | assumption) ?_))
local macro_rules | `(tactic| walk_at "binaryOp Add bytes bytes") => `(tactic| (k_here; (refine bytes_add_K (by simp only [List.size_toArray, List.length_cons, List.length_nil, List.length_append]; omega) rfl ?_); intro _ _))
theorem news_put {g h : Heap} {L : Addr} {x y a b c d : Addr × Obj} {tl : List (Addr × Obj)} (N : News g L h (x :: y :: a :: b :: c :: d :: tl)) : News g L h (a :: b :: c :: d :: x :: tl) :=
  List.forall_mem_cons.mpr ⟨N _ (.tail _ (.tail _ (.head _))), List.forall_mem_cons.mpr ⟨N _ (.tail _ (.tail _ (.tail _ (.head _)))), List.forall_mem_cons.mpr ⟨N _ (.tail _ (.tail _ (.tail _ (.tail _ (.head _))))), List.forall_mem_cons.mpr ⟨N _ (.tail _ (.tail _ (.tail _ (.tail _ (.tail _ (.head _)))))), List.forall_mem_cons.mpr ⟨N _ (.head _), fun p hp => N p (.tail _ (.tail _ (.tail _ (.tail _ (.tail _ (.tail _ hp))))))⟩⟩⟩⟩⟩
noncomputable def closeBody : List Stmt := bodyOf (stAt 14)
section
variable {prog : Program} {w : World} {A : Around} {g : Heap} {s : Shared} {mean : ExcName → Option Value} {mg mb : Str → Option Value} {L : Addr} {m : Str → Option Value} {qk : Flow → Shared → Prop} {ek : Value → Shared → Prop} {cn : Str} {fa : Addr} {ccd : Value} {fr : List Env}
set_option maxHeartbeats 8000000 in
theorem close_tailT {O a2 c2 v2 v1 a : Addr} {pre its2 vs2 : List Value} {nO n2 m2 k2 : Nat} {s2 : Str} {t1 t2 t2' t1' : Tok} {o2 os : List UInt8} {tl : List (Addr × Obj)}
    (X : (hd.heap_39 w.params).In g) (T : Top topProg LL mean mg mb g) (F : Fr g L s.heap m) (N : News g L s.heap ([(O, listOf (pre ++ [Value.ref a2]).toArray nO), (a2, frObj s2 t2 c2 v2 o2 t2' n2), (c2, listOf its2.toArray m2), (v2, listOf vs2.toArray k2)] ++ tl))
    (n1 : @Ne Nat O a2) (n2' : @Ne Nat O c2) (n3 : @Ne Nat O v2) (n7 : @Ne Nat a2 c2) (n8 : @Ne Nat a2 v2) (n12 : @Ne Nat c2 v2)
    (u1 : ∀ p ∈ tl, p.1 ≠ O) (u2 : ∀ p ∈ tl, p.1 ≠ a2) (u3 : ∀ p ∈ tl, p.1 ≠ c2) (u4 : ∀ p ∈ tl, p.1 ≠ v2) 
    (m1 : m (Str.ofString "opened") = some (.ref O)) (m2' : m (Str.ofString "sign") = some (.str (Str.ofString "(") t1)) (m3 : m (Str.ofString "values") = some (.ref v1)) (m4 : m (Str.ofString "octets") = some (.bytes os.toArray t1')) (m5 : m (Str.ofString "made") = some (.ref a))
    (hos : os.length ≤ 255) (hpre : pre.length ≤ 1000) (hi2 : its2.length ≤ 1000) (hv2 : vs2.length ≤ 1000) (ho2 : o2.length ≤ 1000)
    (h : ∀ h' tk t3 tk', Fr g L h' m → News g L h' ([(O, listOf (pre ++ [Value.ref a2]).toArray nO), (a2, frObj s2 t2 c2 v2 (o2 ++ os) t3 n2), (c2, listOf (its2 ++ [Value.ref a]).toArray (m2 + 1)), (v2, listOf (vs2 ++ [Value.ref v1]).toArray (k2 + 1))] ++ tl) → qk (.ret (.str (Str.ofString ")") tk')) { s with heap := h', toks := tk }) :
    wpAny (model prog w) (A.deeper (envX cn (scopeOf (stAt 14)) L fa ccd [])) (execs (closeBody.drop 3) (envX cn (scopeOf (stAt 14)) L fa ccd [])) qk ek s := by
  simp only [List.cons_append, List.nil_append] at N
  show wpAny _ _ (execs (_ :: _ :: _ :: _ :: []) _) _ _ _
  have ofStop : ∀ {p : Prop}, p → Stop p := fun h => h
  repeat' (first | (k_unfold; (try dsimp only)) | (walk1; (try dsimp only)))
  refine ofStop ?_
  rename Fr _ _ _ _ => F
  rename News _ _ _ _ => N
  have z6 : its2.toArray.size ≤ sizeLine := by rw [List.size_toArray]; exact fits24 (by omega)
  refine append_K (its := its2.toArray) (n := m2) (x := .ref a) F N (.tail (by k_ne) (.tail (by k_ne) (.head (by k_all)))) (fun h7 F7 N7 => ?_) z6
  rw [List.push_toArray] at N7
  clear F N
  dsimp only at F7 N7 ⊢
  repeat' (first | (k_unfold; (try dsimp only)) | (walk1; (try dsimp only)))
  refine ofStop ?_
  rename Fr _ _ _ _ => F
  rename News _ _ _ _ => N
  have z7 : vs2.toArray.size ≤ sizeLine := by rw [List.size_toArray]; exact fits24 (by omega)
  refine append_K (its := vs2.toArray) (n := k2) (x := .ref v1) F N (.tail (by k_ne) (.tail (by k_ne) (.tail (by k_ne) (.head (by k_all))))) (fun h8 F8 N8 => ?_) z7
  rw [List.push_toArray] at N8
  clear F N
  dsimp only at F8 N8 ⊢
  repeat' (first | (k_unfold; (try dsimp only)) | (walk1; (try dsimp only)))
  rename Fr _ _ _ _ => F
  rename News _ _ _ _ => N
  exact h _ _ _ _ F N
set_option maxHeartbeats 8000000 in
theorem close_tailF {O a2 c2 v2 v1 a : Addr} {pre its2 vs2 vs1: List Value} {nO n2 m2 k2 k1 : Nat} {s2 : Str} {t1 t2 t2' t1' : Tok} {o2 os : List UInt8} {tl : List (Addr × Obj)}
    (X : (hd.heap_39 w.params).In g) (T : Top topProg LL mean mg mb g) (F : Fr g L s.heap m) (N : News g L s.heap ([(O, listOf (pre ++ [Value.ref a2]).toArray nO), (a2, frObj s2 t2 c2 v2 o2 t2' n2), (c2, listOf its2.toArray m2), (v2, listOf vs2.toArray k2)] ++ tl))
    (n1 : @Ne Nat O a2) (n2' : @Ne Nat O c2) (n3 : @Ne Nat O v2) (n7 : @Ne Nat a2 c2) (n8 : @Ne Nat a2 v2) (n12 : @Ne Nat c2 v2)
    (u1 : ∀ p ∈ tl, p.1 ≠ O) (u2 : ∀ p ∈ tl, p.1 ≠ a2) (u3 : ∀ p ∈ tl, p.1 ≠ c2) (u4 : ∀ p ∈ tl, p.1 ≠ v2) (hh : A.handled = none) (hv1 : (v1, listOf vs1.toArray k1) ∈ tl) (hvv : vs1.length ≤ 1000)
    (m1 : m (Str.ofString "opened") = some (.ref O)) (m2' : m (Str.ofString "sign") = some (.str (Str.ofString "<") t1)) (m3 : m (Str.ofString "values") = some (.ref v1)) (m4 : m (Str.ofString "octets") = some (.bytes os.toArray t1')) (m5 : m (Str.ofString "made") = some (.ref a))
    (hos : os.length ≤ 255) (hpre : pre.length ≤ 1000) (hi2 : its2.length ≤ 1000) (hv2 : vs2.length ≤ 1000) (ho2 : o2.length ≤ 1000)
    (h : ∀ v h' tk t3 tk' t4, Fr g L h' m → News g L h' ([(v, listOf (vs1 ++ [Value.bytes #[] t4]).toArray 0), (O, listOf (pre ++ [Value.ref a2]).toArray nO), (a2, frObj s2 t2 c2 v2 (o2 ++ (UInt8.ofNat os.length :: os)) t3 n2), (c2, listOf (its2 ++ [Value.ref a]).toArray (m2 + 1)), (v2, listOf (vs2 ++ [Value.ref v]).toArray (k2 + 1))] ++ tl) → (∀ p ∈ tl, p.1 ≠ v) → @Ne Nat v O → @Ne Nat v a2 → @Ne Nat v c2 → @Ne Nat v v2 → qk (.ret (.str (Str.ofString ">") tk')) { s with heap := h', toks := tk }) :
    wpAny (model prog w) (A.deeper (envX cn (scopeOf (stAt 14)) L fa ccd [])) (execs (closeBody.drop 3) (envX cn (scopeOf (stAt 14)) L fa ccd [])) qk ek s := by
  simp only [List.cons_append, List.nil_append] at N
  show wpAny _ _ (execs (_ :: _ :: _ :: _ :: []) _) _ _ _
  have ofStop : ∀ {p : Prop}, p → Stop p := fun h => h
  repeat' (first | (k_unfold; (try dsimp only)) | (walk1; (try dsimp only)))
  refine ofStop ?_
  rename Fr _ _ _ _ => F
  rename News _ _ _ _ => N
  have z6 : its2.toArray.size ≤ sizeLine := by rw [List.size_toArray]; exact fits24 (by omega)
  refine append_K (its := its2.toArray) (n := m2) (x := .ref a) F N (.tail (by k_ne) (.tail (by k_ne) (.head (by k_all)))) (fun h7 F7 N7 => ?_) z6
  rw [List.push_toArray] at N7
  clear F N
  dsimp only at F7 N7 ⊢
  repeat' (first | (k_unfold; (try dsimp only)) | (walk1; (try dsimp only)))
  refine ofStop ?_
  rename Fr _ _ _ _ => F
  rename News _ _ _ _ => N
  refine add_lists F N ⟨_, (N _ (.tail _ (.tail _ (.tail _ (.tail _ (.tail _ hv1)))))).1, rfl, _, rfl⟩ ⟨_, (N _ (.head _)).1, rfl, _, rfl⟩ (fun h9 F9 N9 => ?_) (fits24 (by simp only [List.length_cons, List.length_nil]; omega))
  have lt := fun p hp => Heap.lt_size (N p hp).1
  dsimp only at F9 N9 lt ⊢
  generalize Array.size _ = D at N9 lt ⊢
  have l0 : @LT.lt Nat _ O D := lt _ (.tail _ (.head _))
  have l1 : @LT.lt Nat _ a2 D := lt _ (.tail _ (.tail _ (.head _)))
  have l2 : @LT.lt Nat _ c2 D := lt _ (.tail _ (.tail _ (.tail _ (.head _))))
  have l3 : @LT.lt Nat _ v2 D := lt _ (.tail _ (.tail _ (.tail _ (.tail _ (.head _)))))
  have l4 : ∀ p ∈ tl, p.1 ≠ D := fun p hp => Nat.ne_of_lt (lt p (.tail _ (.tail _ (.tail _ (.tail _ (.tail _ hp))))))
  clear lt F N
  have N10 := news_put N9
  clear N9
  repeat' (first | (k_unfold; (try dsimp only)) | (walk1; (try dsimp only)))
  refine ofStop ?_
  rename Fr _ _ _ _ => F
  rename News _ _ _ _ => N
  have z7 : vs2.toArray.size ≤ sizeLine := by rw [List.size_toArray]; exact fits24 (by omega)
  refine append_K (its := vs2.toArray) (n := k2) (x := .ref D) F N (.tail (by k_ne) (.tail (by k_ne) (.tail (by k_ne) (.head (by k_all))))) (fun h8 F8 N8 => ?_) z7
  rw [List.push_toArray] at N8
  clear F N
  dsimp only at F8 N8 ⊢
  repeat' (first | (k_unfold; (try dsimp only)) | (walk1; (try dsimp only)))
  rename Fr _ _ _ _ => F
  rename News _ _ _ _ => N
  refine bytes_K (vs := [.int _ _]) F N ⟨_, (N _ (.head _)).1, rfl, _, rfl⟩ (.cons _ _ .nil) (fun n hn => by rw [List.mem_singleton.mp hn]; omega) (fits24 (by simp)) hh fun h11 t11 k11 F11 N11' _ => ?_
  have N11 : News g L h11 _ := fun p hp => N11' p (.tail _ hp)
  have eb : (List.map (fun n : Int => n.toNat.toUInt8) [(os.length : Int)]) = [UInt8.ofNat os.length] := rfl
  rw [eb]
  clear F N N11'
  dsimp only at F11 N11 ⊢
  repeat' (first | (k_unfold; (try dsimp only)) | (walk1; (try dsimp only)))
  rename Fr _ _ _ _ => F
  rename News _ _ _ _ => N
  refine h D _ _ _ _ _ F (List.forall_mem_cons.mpr ⟨N _ (.tail _ (.tail _ (.tail _ (.tail _ (.head _))))), List.forall_mem_cons.mpr ⟨N _ (.head _), List.forall_mem_cons.mpr ⟨N _ (.tail _ (.head _)), List.forall_mem_cons.mpr ⟨N _ (.tail _ (.tail _ (.head _))), List.forall_mem_cons.mpr ⟨N _ (.tail _ (.tail _ (.tail _ (.head _)))), fun p hp => N p (.tail _ (.tail _ (.tail _ (.tail _ (.tail _ hp)))))⟩⟩⟩⟩⟩) l4 ?_ ?_ ?_ ?_ <;> omega
end
end Mine
end
theorem Mine.anewCloseT : True ∧ True := by
  have h : True ∧ True := ⟨trivial, trivial⟩
  first | (walk1; done) | exact h
section
open PySem PySem.W PyProof.Rows PySem.Calls PySem.Spec
set_option maxHeartbeats 2000000
namespace Mine

local macro_rules | `(tactic| walk_at "subscriptTail") => `(tactic| (k_here; (with_reducible show wpAny _ _ (subscriptTail _ _ (Value.ref _) (Value.int _ _)) _ _ _); (rename News _ _ _ _ => kN'); (refine item_frN kN' (List.Mem.tail _ (List.Mem.head _)) (by decide) (by decide) (by rfl) ?_)))
local macro_rules | `(tactic| walk_at "subscriptTail") => `(tactic| (k_here; (with_reducible show wpAny _ _ (subscriptTail _ _ (Value.ref _) (Value.int (-1) _)) _ _ _); (rename News _ _ _ _ => kN'); (refine item_lastN kN' (List.Mem.head _) ?_)))
local macro_rules | `(tactic| walk_at "call builtin:len") => `(tactic| (k_here; (with_reducible show wpAny _ _ (call (Value.builtin "len") [Value.bytes _ _]) _ _ _); (refine len_bytes (by simp only [List.size_toArray]; omega) ?_); (simp only [List.size_toArray])))
local macro_rules | `(tactic| walk_at "compareOp NotEq int int") => `(tactic| (k_here; refine ne_same ?_))
local macro_rules | `(tactic| walk_at "binaryOp Add ref ref") => `(tactic| (k_here; refine stop ?_))
local macro_rules | `(tactic| k_all) => `(tactic| first | exact List.forall_mem_nil _ | with_reducible assumption | (refine List.forall_mem_cons.mpr ⟨?_, ?_⟩; (focus k_ne); k_all))
local macro_rules | `(tactic| walk_at "call builtin:list.append") => `(tactic| (k_here; refine stop ?_))
local macro_rules | `(tactic| walk_at "call builtin:list.pop") => `(tactic| (k_here; refine stop ?_))
section
variable {prog : Program} {w : World} {A : Around} {G : Heap} {frames : List Env} {s : Shared} {R : Result → Shared → Prop} {mean : ExcName → Option Value} {mg mb : Str → Option Value}
set_option maxHeartbeats 8000000 in
theorem close_call (Y : Amb w mean mg mb G) {b : Bool} {cs : List T} {Vs : List V} {O a1 c1 v1 a2 c2 v2 : Addr} {pre its1 its2 vs1 vs2 : List Value} {nO n1 m1 k1 n2 m2 k2 : Nat} {s2 : Str} {t1 t1' t2 t2' : Tok} {o2 : List UInt8} {ps : Array Value}
    (B : Below A G frames s.heap)
    (hS : Laid G frames s.heap [(O, listOf (pre ++ [Value.ref a2] ++ [Value.ref a1]).toArray nO), (a2, frObj s2 t2 c2 v2 o2 t2' n2), (c2, listOf its2.toArray m2), (v2, listOf vs2.toArray k2), (88, tabObj ps), (a1, frObj (sg b) t1 c1 v1 (octAll cs) t1' n1), (c1, listOf its1.toArray m1), (v1, listOf vs1.toArray k1)])
    (hnd : ([O, a2, c2, v2, a1, c1, v1] : List Nat).Nodup)
    (hds : ∀ h', KeepBut [O, a2, c2, v2, 88] s.heap h' → DescAll h' its1 cs) (ht : TabOk lamQual ps s.heap)
    (hroom : A.depth + 20 < recursionLimit) (hcs : szAll cs ≤ 1000) (hnm : (nmAll cs).length ≤ 10000) (hh : A.handled = none)
    (hn : b = true → nAll cs = (octAll cs).length) (hz : (octAll cs).length ≤ 255) (hpre : pre.length ≤ 1000) (hi2 : its2.length ≤ 1000) (hv2 : vs2.length ≤ 1000) (hvv : vs1.length ≤ 1000) (ho2 : o2.length ≤ 1000)
    (h : ∀ a v (led : List (Addr × Obj)) cc h' tk tk' t3 ps' nO' n2' m2' k2', KeepBut [O, a2, c2, v2, 88] s.heap h' → (∀ p ∈ led, h'.get? p.1 = some p.2 ∧ s.heap.get? p.1 = none) → h'.CodeRec (.ref cc) lamQual →
      h'.get? O = some (listOf (pre ++ [Value.ref a2]).toArray nO') → h'.get? a2 = some (frObj s2 t2 c2 v2 (o2 ++ (T.mk b cs).oct) t3 n2') → h'.get? c2 = some (listOf (its2 ++ [Value.ref a]).toArray m2') → h'.get? v2 = some (listOf (vs2 ++ [v]).toArray k2') → h'.get? 88 = some (tabObj ps') → TabOk lamQual ps' h' →
      (∀ h'', (∀ p ∈ led, h''.get? p.1 = some p.2) → h''.CodeRec (.ref cc) lamQual → h''.get? c1 = some (listOf its1.toArray m1) → DescAll h'' its1 cs → DescIn h'' (.ref a) (T.mk b cs)) →
      (∀ h'', (∀ p ∈ led, h''.get? p.1 = some p.2) → h''.get? v1 = some (listOf vs1.toArray k1) → ValAll (fun _ => True) h'' vs1 Vs → ValIn (fun _ => True) h'' v (V.mk b Vs)) →
      R (.ok (.ret (.str (sgEnd b) tk'))) { s with heap := h', toks := tk }) :
    codeAny (model prog w) A (.call (.ref 98) ⟨[.ref O], []⟩) R s := by
  have XG := Y.X.keeps B.stays
  refine enter (cl := []) (binds := [(Str.ofString "opened", .ref O)]) B hS Y.T.nolimit (XG _ _ (by k_is)) rfl (codeRec_of XG (by k_is)) (by omega) (BindsTo.of_eq (by rfl)) (locs rfl) ?_ (by decide) (by rfl) (by rfl) (by rfl)
  intro g L' h₁ EN F N
  have B' := EN.B
  have X := Y.X.keeps B'.stays
  have T := Y.T.keeps B'.stays
  have C1 := Y.c1.keeps B'.stays
  have C2 := Y.c2.keeps B'.stays
  with_reducible change wpAny _ _ _ _ _ _
  k_fold
  refine with_frames B' fun hAf => ?_
  have hq : ∀ v s', R (.ok (.ret v)) s' → qk (.ret v) s' := fun _ _ h => h
  clear_value qk ek
  have hne : ∀ {x : Addr} {o : Obj}, s.heap.get? x = some o → o ≠ tabObj ps → @Ne Nat x 88 := fun e hn q => by
    have h8 := (hS _ (.tail _ (.tail _ (.tail _ (.tail _ (.head _)))))).1
    rw [← q, e] at h8; exact hn (Option.some.inj h8)
  have d1 := hne (hS _ (.head _)).1 (fun q => nomatch congrArg Obj.cls q)
  have d2 := hne (hS _ (.tail _ (.head _))).1 (fun q => nomatch congrArg Obj.cls q)
  have d3 := hne (hS _ (.tail _ (.tail _ (.head _)))).1 (fun q => nomatch congrArg Obj.cls q)
  have d4 := hne (hS _ (.tail _ (.tail _ (.tail _ (.head _))))).1 (fun q => nomatch congrArg Obj.cls q)
  have d5 := hne (hS _ (.tail _ (.tail _ (.tail _ (.tail _ (.tail _ (.head _))))))).1 (fun q => nomatch congrArg Obj.cls q)
  have d6 := hne (hS _ (.tail _ (.tail _ (.tail _ (.tail _ (.tail _ (.tail _ (.head _)))))))).1 (fun q => nomatch congrArg Obj.cls q)
  have d7 := hne (hS _ (.tail _ (.tail _ (.tail _ (.tail _ (.tail _ (.tail _ (.tail _ (.head _))))))))).1 (fun q => nomatch congrArg Obj.cls q)
  simp only [List.nodup_cons, List.mem_cons, List.not_mem_nil, or_false, not_or, not_false_iff, List.nodup_nil, and_true] at hnd
  obtain ⟨⟨n1', n2', n3, n4, n5, n6⟩, ⟨n7, n8, n9, n10, n11⟩, ⟨n12, n13, n14, n15⟩, ⟨n16, n17, n18⟩, ⟨n19, n20⟩, n21⟩ := hnd
  k_steps
  have ofStop : ∀ {p : Prop}, p → Stop p := fun h => h
  refine ofStop ?_
  have e0 : kl_last (pre ++ [Value.ref a2] ++ [Value.ref a1]).toArray.toList = some (pre ++ [Value.ref a2], Value.ref a1) := by rw [List.toList_toArray]; exact kl_last_app _ _
  have z0 : (pre ++ [Value.ref a2] ++ [Value.ref a1]).toArray.toList.length ≤ sizeLine := by
    rw [List.toList_toArray]; simp only [List.length_append, List.length_cons, List.length_nil]; exact fits24 (by omega)
  have u0 : ∀ p ∈ [(a2, frObj s2 t2 c2 v2 o2 t2' n2), (c2, listOf its2.toArray m2), (v2, listOf vs2.toArray k2), (88, tabObj ps), (a1, frObj (sg b) t1 c1 v1 (octAll cs) t1' n1), (c1, listOf its1.toArray m1), (v1, listOf vs1.toArray k1)], p.1 ≠ O :=
    List.forall_mem_cons.mpr ⟨Ne.symm n1', List.forall_mem_cons.mpr ⟨Ne.symm n2', List.forall_mem_cons.mpr ⟨Ne.symm n3, List.forall_mem_cons.mpr ⟨Ne.symm d1, List.forall_mem_cons.mpr ⟨Ne.symm n4, List.forall_mem_cons.mpr ⟨Ne.symm n5, List.forall_mem_cons.mpr ⟨Ne.symm n6, List.forall_mem_nil _⟩⟩⟩⟩⟩⟩⟩
  refine kl_pop F N e0 (.head u0) z0 fun h2 F2 N2 => ?_
  refine unpack_list F2 N2 ⟨_, (N2 _ (.tail _ (.tail _ (.tail _ (.tail _ (.tail _ (.head _))))))).1, rfl, _, rfl⟩ hh rfl rfl fun h3 F3 N3 => ?_
  k_steps
  rename Fr _ _ _ _ => F4
  rename News _ _ _ _ => N4
  rename Heap => h4
  have keepS : ∀ {h4 : Heap} {m4 : Str → Option Value}, Fr g L' h4 m4 → h4.get? a1 = some (frObj (sg b) t1 c1 v1 (octAll cs) t1' n1) → h4.get? c1 = some (listOf its1.toArray m1) → h4.get? v1 = some (listOf vs1.toArray k1) → KeepBut [O, a2, c2, v2, 88] s.heap h4 := fun F e1 e2 e3 => EN.keepBut F (List.forall_mem_cons.mpr ⟨fun q => absurd (by simp) q, List.forall_mem_cons.mpr ⟨fun q => absurd (by simp) q, List.forall_mem_cons.mpr ⟨fun q => absurd (by simp) q, List.forall_mem_cons.mpr ⟨fun q => absurd (by simp) q, List.forall_mem_cons.mpr ⟨fun q => absurd (by simp) q, List.forall_mem_cons.mpr ⟨fun _ => e1, List.forall_mem_cons.mpr ⟨fun _ => e2, List.forall_mem_cons.mpr ⟨fun _ => e3, List.forall_mem_nil _⟩⟩⟩⟩⟩⟩⟩⟩)
  have kb4 := keepS F4 (N4 _ (.tail _ (.tail _ (.tail _ (.tail _ (.tail _ (.head _))))))).1 (N4 _ (.tail _ (.tail _ (.tail _ (.tail _ (.tail _ (.tail _ (.head _)))))))).1 (N4 _ (.tail _ (.tail _ (.tail _ (.tail _ (.tail _ (.tail _ (.tail _ (.head _))))))))).1
  have noC : ∀ a ∈ [O, a2, c2, v2, 88], ∀ o, s.heap.get? a = some o → NoCode o := fun a ha o e => by
    simp only [List.mem_cons, List.not_mem_nil, or_false] at ha
    rcases ha with rfl | rfl | rfl | rfl | rfl
    · rw [(hS _ (.head _)).1] at e; cases e; intro _ _ _ q; cases q
    · rw [(hS _ (.tail _ (.head _))).1] at e; cases e; intro _ _ _ q; cases q
    · rw [(hS _ (.tail _ (.tail _ (.head _)))).1] at e; cases e; intro _ _ _ q; cases q
    · rw [(hS _ (.tail _ (.tail _ (.tail _ (.head _))))).1] at e; cases e; intro _ _ _ q; cases q
    · rw [(hS _ (.tail _ (.tail _ (.tail _ (.tail _ (.head _)))))).1] at e; cases e; exact noCode_tab ht.1
  have N88 : News g L' _ [(88, tabObj ps)] := fun p hp => N4 p (by rw [List.mem_singleton.mp hp]; exact .tail _ (.tail _ (.tail _ (.tail _ (.head _)))))
  refine wpAny_call (made_call (b := b) (ts := t1) (cs := cs) (l := c1) (its := its1) (n := m1) (ps := ps) Y (pushX B' F4 rfl rfl) (N4 _ (.tail _ (.tail _ (.tail _ (.tail _ (.tail _ (.tail _ (.head _)))))))).1 (hds _ kb4) (laid_news B' N88 rfl) (ht.keep kb4 noC) (by show A.depth + 1 + 12 < _; omega) hcs hnm (fun q => by rw [hn q]; exact Int.natCast_nonneg _) hh fun a led cc h5 tk5 ps5 kb5 hled hcode h88 ht5 hdesc => ?_)
  dsimp only at kb5 hled
  have F5 := fr_keep F4 kb5 (fun q => N88 _ (.head _) |>.2.1 (List.mem_singleton.mp q).symm) (fun a ha => by rw [List.mem_singleton.mp ha]; exact (N88 _ (.head _)).2.2)
  obtain ⟨ex1, NX1, kx1, kd1⟩ := code_led F5 hcode
  obtain ⟨ex2, NX2, kx2, kd2⟩ := tab_led F5 ht5
  have NL : News g L' h5 led := fun p hp => by
    refine ⟨(hled p hp).1, fun q => ?_, ?_⟩
    · obtain ⟨o, _, _, ho, _⟩ := F4.ns
      have := (hled p hp).2
      rw [q, ho] at this; cases this
    · cases q : g.get? p.1 with
      | none => rfl
      | some o => have := (hled p hp).2; rw [F4.keep _ _ q] at this; cases this
  have hold : ∀ b, h4.get? b = none → s.heap.get? b = none := fun b hb => by
    cases q : s.heap.get? b with
    | none => rfl
    | some o =>
      by_cases hm : b ∈ [O, a2, c2, v2, 88]
      · simp only [List.mem_cons, List.not_mem_nil, or_false] at hm
        rcases hm with rfl | rfl | rfl | rfl | rfl
        · have := (N4 _ (.head _)).1
          rw [hb] at this; cases this
        · have := (N4 _ (.tail _ (.head _))).1
          rw [hb] at this; cases this
        · have := (N4 _ (.tail _ (.tail _ (.head _)))).1
          rw [hb] at this; cases this
        · have := (N4 _ (.tail _ (.tail _ (.tail _ (.head _))))).1
          rw [hb] at this; cases this
        · have := (N4 _ (.tail _ (.tail _ (.tail _ (.tail _ (.head _)))))).1
          rw [hb] at this; cases this
      · rw [kb4 b o hm q] at hb; cases hb
  have N5' : News g L' h5 [(O, listOf (pre ++ [Value.ref a2]).toArray (nO + 1)), (a2, frObj s2 t2 c2 v2 o2 t2' n2), (c2, listOf its2.toArray m2), (v2, listOf vs2.toArray k2), (88, tabObj ps5), (a1, frObj (sg b) t1 c1 v1 (octAll cs) t1' n1), (c1, listOf its1.toArray m1), (v1, listOf vs1.toArray k1)] := by
    refine List.forall_mem_cons.mpr ⟨?_, List.forall_mem_cons.mpr ⟨?_, List.forall_mem_cons.mpr ⟨?_, List.forall_mem_cons.mpr ⟨?_, List.forall_mem_cons.mpr ⟨?_, List.forall_mem_cons.mpr ⟨?_, List.forall_mem_cons.mpr ⟨?_, List.forall_mem_cons.mpr ⟨?_, List.forall_mem_nil _⟩⟩⟩⟩⟩⟩⟩⟩
    · exact ⟨kb5 _ _ (fun q => absurd (List.mem_singleton.mp q) d1) (N4 _ (.head _)).1, (N4 _ (.head _)).2⟩
    · exact ⟨kb5 _ _ (fun q => absurd (List.mem_singleton.mp q) d2) (N4 _ (.tail _ (.head _))).1, (N4 _ (.tail _ (.head _))).2⟩
    · exact ⟨kb5 _ _ (fun q => absurd (List.mem_singleton.mp q) d3) (N4 _ (.tail _ (.tail _ (.head _)))).1, (N4 _ (.tail _ (.tail _ (.head _)))).2⟩
    · exact ⟨kb5 _ _ (fun q => absurd (List.mem_singleton.mp q) d4) (N4 _ (.tail _ (.tail _ (.tail _ (.head _))))).1, (N4 _ (.tail _ (.tail _ (.tail _ (.head _))))).2⟩
    · exact ⟨h88, (N4 _ (.tail _ (.tail _ (.tail _ (.tail _ (.head _)))))).2⟩
    · exact ⟨kb5 _ _ (fun q => absurd (List.mem_singleton.mp q) d5) (N4 _ (.tail _ (.tail _ (.tail _ (.tail _ (.tail _ (.head _))))))).1, (N4 _ (.tail _ (.tail _ (.tail _ (.tail _ (.tail _ (.head _))))))).2⟩
    · exact ⟨kb5 _ _ (fun q => absurd (List.mem_singleton.mp q) d6) (N4 _ (.tail _ (.tail _ (.tail _ (.tail _ (.tail _ (.tail _ (.head _)))))))).1, (N4 _ (.tail _ (.tail _ (.tail _ (.tail _ (.tail _ (.tail _ (.head _)))))))).2⟩
    · exact ⟨kb5 _ _ (fun q => absurd (List.mem_singleton.mp q) d7) (N4 _ (.tail _ (.tail _ (.tail _ (.tail _ (.tail _ (.tail _ (.tail _ (.head _))))))))).1, (N4 _ (.tail _ (.tail _ (.tail _ (.tail _ (.tail _ (.tail _ (.tail _ (.head _))))))))).2⟩
  have dT : ∀ x o, (x, o) ∈ [(O, listOf (pre ++ [Value.ref a2]).toArray (nO + 1)), (a2, frObj s2 t2 c2 v2 o2 t2' n2), (c2, listOf its2.toArray m2), (v2, listOf vs2.toArray k2)] → ∀ p ∈ led ++ (ex1 ++ ex2), p.1 ≠ x := fun x o hx p hp q => by
    have hs : ∃ vs n, o.data = .seq vs n := by
      simp only [List.mem_cons, List.not_mem_nil, or_false, Prod.mk.injEq] at hx
      rcases hx with ⟨_, rfl⟩ | ⟨_, rfl⟩ | ⟨_, rfl⟩ | ⟨_, rfl⟩ <;> exact ⟨_, _, rfl⟩
    have hx4 : (x, o) ∈ [(O, listOf (pre ++ [Value.ref a2]).toArray (nO + 1)), (a2, frObj s2 t2 c2 v2 o2 t2' n2), (c2, listOf its2.toArray m2), (v2, listOf vs2.toArray k2), (88, tabObj ps), (a1, frObj (sg b) t1 c1 v1 (octAll cs) t1' n1), (c1, listOf its1.toArray m1), (v1, listOf vs1.toArray k1)] := by
      simp only [List.mem_cons, List.not_mem_nil, or_false] at hx ⊢
      rcases hx with h | h | h | h <;> simp [h]
    have hx5 : (x, o) ∈ [(O, listOf (pre ++ [Value.ref a2]).toArray (nO + 1)), (a2, frObj s2 t2 c2 v2 o2 t2' n2), (c2, listOf its2.toArray m2), (v2, listOf vs2.toArray k2), (88, tabObj ps5), (a1, frObj (sg b) t1 c1 v1 (octAll cs) t1' n1), (c1, listOf its1.toArray m1), (v1, listOf vs1.toArray k1)] := by
      simp only [List.mem_cons, List.not_mem_nil, or_false] at hx ⊢
      rcases hx with h | h | h | h <;> simp [h]
    obtain ⟨vs, n, hs⟩ := hs
    rcases List.mem_append.mp hp with hp | hp
    · have e1 := (hled p hp).2
      rw [q, (N4 _ hx4).1] at e1; cases e1
    · have hf : h5.get? p.1 = some p.2 ∧ ∃ vs, p.2.data = .fields vs := by
        rcases List.mem_append.mp hp with hp | hp
        · exact ⟨(NX1 p hp).1, kd1 p hp⟩
        · exact ⟨(NX2 p hp).1, kd2 p hp⟩
      obtain ⟨e1, vs', e2⟩ := hf
      rw [q, (N5' _ hx5).1] at e1
      rw [← Option.some.inj e1, hs] at e2; cases e2
  obtain ⟨tl, htl⟩ : ∃ tl, tl = led ++ (ex1 ++ ex2) := ⟨_, rfl⟩
  have NT : News g L' h5 tl := by rw [htl]; exact news_app NL (news_app NX1 NX2)
  rw [← htl] at dT
  have u1 := dT _ _ (.head _)
  have u2 := dT _ _ (.tail _ (.head _))
  have u3 := dT _ _ (.tail _ (.tail _ (.head _)))
  have u4 := dT _ _ (.tail _ (.tail _ (.tail _ (.head _))))
  have N5 := news_app N5' NT
  simp only [List.cons_append, List.nil_append] at N5
  clear N5' dT
  dsimp only
  have hdsc : ∀ {h6 : Heap} {m6 : Str → Option Value}, Fr g L' h6 m6 → News g L' h6 tl → h6.get? a1 = some (frObj (sg b) t1 c1 v1 (octAll cs) t1' n1) → h6.get? c1 = some (listOf its1.toArray m1) → h6.get? v1 = some (listOf vs1.toArray k1) → DescIn h6 (.ref a) (Mine.T.mk b cs) := fun F6 N6 e1 e2 e3 =>
    hdesc _ (fun p hp => (N6 p (by rw [htl]; exact List.mem_append_left _ hp)).1) (kx1 _ F6.keep fun p hp => (N6 p (by rw [htl]; exact List.mem_append_right _ (List.mem_append_left _ hp))).1) e2 (hds _ (keepS F6 e1 e2 e3))
  clear F4 N4 NX1 NX2 NL N88
  have fresh : ∀ {x : Addr}, g.get? x = none → (∀ p ∈ tl, p.1 ≠ x) → x ≠ O → x ≠ a2 → x ≠ c2 → x ≠ v2 → (∀ p ∈ [(O, listOf (pre ++ [Value.ref a2] ++ [Value.ref a1]).toArray nO), (a2, frObj s2 t2 c2 v2 o2 t2' n2), (c2, listOf its2.toArray m2), (v2, listOf vs2.toArray k2), (88, tabObj ps), (a1, frObj (sg b) t1 c1 v1 (octAll cs) t1' n1), (c1, listOf its1.toArray m1), (v1, listOf vs1.toArray k1)], p.1 ≠ x) → s.heap.get? x = none := fun {x} hg _ _ _ _ _ hx => by
    cases q : s.heap.get? x with
    | none => rfl
    | some o =>
      have := EN.keep x o (fun z => by
        obtain ⟨p, hp, e⟩ := List.mem_map.mp z
        exact hx p hp e) q
      rw [hg] at this; cases this
  generalize hrest : (Stmt.Expr _ _ :: _ : List Stmt) = rest
  cases b with
  | true =>
    simp only [sg] at F5 N5
    repeat' (first | (k_unfold; (try dsimp only)) | (walk1; (try dsimp only)))
    rename Fr _ _ _ _ => F6
    rename News _ _ _ _ => N6
    have hde6 := hdsc F6 (fun p hp => N6 p (List.mem_append_right [_, _, _, _, _, _, _, _] hp)) (N6 _ (.tail _ (.tail _ (.tail _ (.tail _ (.tail _ (.head _))))))).1 (N6 _ (.tail _ (.tail _ (.tail _ (.tail _ (.tail _ (.tail _ (.head _)))))))).1 (N6 _ (.tail _ (.tail _ (.tail _ (.tail _ (.tail _ (.tail _ (.tail _ (.head _))))))))).1
    refine attr_n (g := _) _ _ a _ _ _ (X.keeps F6.keep) hde6 (fun _ _ e => e) fun y tk6 hy => ?_
    obtain ⟨tn, rfl⟩ := hy _ hde6
    clear hy
    rw [show (Mine.T.mk true cs).n = ((octAll cs).length : Int) from hn rfl]
    repeat' (first | (k_unfold; (try dsimp only)) | (walk1; (try dsimp only)))
    rename Fr _ _ _ _ => F7
    rename News _ _ _ _ => N7
    subst hrest
    refine close_tailT (v1 := v1) (tl := _ :: _ :: _ :: _ :: tl) X T F7 N7 n1' n2' n3 n7 n8 n12 (List.forall_mem_cons.mpr ⟨Ne.symm d1, List.forall_mem_cons.mpr ⟨Ne.symm n4, List.forall_mem_cons.mpr ⟨Ne.symm n5, List.forall_mem_cons.mpr ⟨Ne.symm n6, u1⟩⟩⟩⟩) (List.forall_mem_cons.mpr ⟨Ne.symm d2, List.forall_mem_cons.mpr ⟨Ne.symm n9, List.forall_mem_cons.mpr ⟨Ne.symm n10, List.forall_mem_cons.mpr ⟨Ne.symm n11, u2⟩⟩⟩⟩) (List.forall_mem_cons.mpr ⟨Ne.symm d3, List.forall_mem_cons.mpr ⟨Ne.symm n13, List.forall_mem_cons.mpr ⟨Ne.symm n14, List.forall_mem_cons.mpr ⟨Ne.symm n15, u3⟩⟩⟩⟩) (List.forall_mem_cons.mpr ⟨Ne.symm d4, List.forall_mem_cons.mpr ⟨Ne.symm n16, List.forall_mem_cons.mpr ⟨Ne.symm n17, List.forall_mem_cons.mpr ⟨Ne.symm n18, u4⟩⟩⟩⟩) (by rfl) (by rfl) (by rfl) (by rfl) (by rfl) hz hpre hi2 hv2 ho2 fun h' tk t3 tk' F9 N9 => ?_
    simp only [List.cons_append, List.nil_append] at N9
    have e1 := (N9 _ (.tail _ (.tail _ (.tail _ (.tail _ (.tail _ (.head _))))))).1
    have e2 := (N9 _ (.tail _ (.tail _ (.tail _ (.tail _ (.tail _ (.tail _ (.head _)))))))).1
    have e3 := (N9 _ (.tail _ (.tail _ (.tail _ (.tail _ (.tail _ (.tail _ (.tail _ (.head _))))))))).1
    have NT9 : News g L' h' tl := fun p hp => N9 p (.tail _ (.tail _ (.tail _ (.tail _ (.tail _ (.tail _ (.tail _ (.tail _ hp))))))))
    have hl9 : ∀ p ∈ led, h'.get? p.1 = some p.2 ∧ s.heap.get? p.1 = none := fun p hp => ⟨(NT9 p (by rw [htl]; exact List.mem_append_left _ hp)).1, hold _ (hled p hp).2⟩
    have hc9 : h'.CodeRec (.ref cc) lamQual := kx1 _ F9.keep fun p hp => (NT9 p (by rw [htl]; exact List.mem_append_right _ (List.mem_append_left _ hp))).1
    have ht9 : TabOk lamQual ps5 h' := kx2 _ F9.keep fun p hp => (NT9 p (by rw [htl]; exact List.mem_append_right _ (List.mem_append_right _ hp))).1
    exact hq _ _ (h a (.ref v1) led cc h' tk tk' t3 ps5 _ _ _ _ (keepS F9 e1 e2 e3) hl9 hc9 (N9 _ (.head _)).1 (N9 _ (.tail _ (.head _))).1 (N9 _ (.tail _ (.tail _ (.head _)))).1 (N9 _ (.tail _ (.tail _ (.tail _ (.head _))))).1 (N9 _ (.tail _ (.tail _ (.tail _ (.tail _ (.head _)))))).1 ht9 hdesc fun h'' _ q1 q2 => .list trivial q1 q2)
  | false =>
    simp only [sg] at F5 N5
    repeat' (first | (k_unfold; (try dsimp only)) | (walk1; (try dsimp only)))
    rename Fr _ _ _ _ => F6
    rename News _ _ _ _ => N6
    have hde6 := hdsc F6 (fun p hp => N6 p (List.mem_append_right [_, _, _, _, _, _, _, _] hp)) (N6 _ (.tail _ (.tail _ (.tail _ (.tail _ (.tail _ (.head _))))))).1 (N6 _ (.tail _ (.tail _ (.tail _ (.tail _ (.tail _ (.tail _ (.head _)))))))).1 (N6 _ (.tail _ (.tail _ (.tail _ (.tail _ (.tail _ (.tail _ (.tail _ (.head _))))))))).1
    refine attr_n (g := _) _ _ a _ _ _ (X.keeps F6.keep) hde6 (fun _ _ e => e) fun y tk6 hy => ?_
    obtain ⟨tn, rfl⟩ := hy _ hde6
    clear hy
    rw [show (Mine.T.mk false cs).n = -2 from rfl]
    repeat' (first | (k_unfold; (try dsimp only)) | (walk1; (try dsimp only)))
    rename Fr _ _ _ _ => F7
    rename News _ _ _ _ => N7
    subst hrest
    refine close_tailF (v1 := v1) (tl := _ :: _ :: _ :: _ :: tl) X T F7 N7 n1' n2' n3 n7 n8 n12 (List.forall_mem_cons.mpr ⟨Ne.symm d1, List.forall_mem_cons.mpr ⟨Ne.symm n4, List.forall_mem_cons.mpr ⟨Ne.symm n5, List.forall_mem_cons.mpr ⟨Ne.symm n6, u1⟩⟩⟩⟩) (List.forall_mem_cons.mpr ⟨Ne.symm d2, List.forall_mem_cons.mpr ⟨Ne.symm n9, List.forall_mem_cons.mpr ⟨Ne.symm n10, List.forall_mem_cons.mpr ⟨Ne.symm n11, u2⟩⟩⟩⟩) (List.forall_mem_cons.mpr ⟨Ne.symm d3, List.forall_mem_cons.mpr ⟨Ne.symm n13, List.forall_mem_cons.mpr ⟨Ne.symm n14, List.forall_mem_cons.mpr ⟨Ne.symm n15, u3⟩⟩⟩⟩) (List.forall_mem_cons.mpr ⟨Ne.symm d4, List.forall_mem_cons.mpr ⟨Ne.symm n16, List.forall_mem_cons.mpr ⟨Ne.symm n17, List.forall_mem_cons.mpr ⟨Ne.symm n18, u4⟩⟩⟩⟩) hh (.tail _ (.tail _ (.tail _ (.head _)))) hvv (by rfl) (by rfl) (by rfl) (by rfl) (by rfl) hz hpre hi2 hv2 ho2 fun D h' tk t3 tk' t4 F9 N9' q1 q2 q3 q4 q5 => ?_
    have N9 := fun p hp => N9' p (.tail _ hp)
    have ND := N9' _ (.head _)
    try simp only [List.cons_append, List.nil_append] at N9
    have e1 := (N9 _ (.tail _ (.tail _ (.tail _ (.tail _ (.tail _ (.head _))))))).1
    have e2 := (N9 _ (.tail _ (.tail _ (.tail _ (.tail _ (.tail _ (.tail _ (.head _)))))))).1
    have e3 := (N9 _ (.tail _ (.tail _ (.tail _ (.tail _ (.tail _ (.tail _ (.tail _ (.head _))))))))).1
    have NT9 : News g L' h' tl := fun p hp => N9 p (.tail _ (.tail _ (.tail _ (.tail _ (.tail _ (.tail _ (.tail _ (.tail _ hp))))))))
    have hl9 : ∀ p ∈ led, h'.get? p.1 = some p.2 ∧ s.heap.get? p.1 = none := fun p hp => ⟨(NT9 p (by rw [htl]; exact List.mem_append_left _ hp)).1, hold _ (hled p hp).2⟩
    have hc9 : h'.CodeRec (.ref cc) lamQual := kx1 _ F9.keep fun p hp => (NT9 p (by rw [htl]; exact List.mem_append_right _ (List.mem_append_left _ hp))).1
    have ht9 : TabOk lamQual ps5 h' := kx2 _ F9.keep fun p hp => (NT9 p (by rw [htl]; exact List.mem_append_right _ (List.mem_append_right _ hp))).1
    have hD := fresh ND.2.2 (fun p hp => q1 p (.tail _ (.tail _ (.tail _ (.tail _ hp))))) q2 q3 q4 q5 (List.forall_mem_cons.mpr ⟨Ne.symm q2, List.forall_mem_cons.mpr ⟨Ne.symm q3, List.forall_mem_cons.mpr ⟨Ne.symm q4, List.forall_mem_cons.mpr ⟨Ne.symm q5, List.forall_mem_cons.mpr ⟨q1 (88, tabObj ps5) (.head _), List.forall_mem_cons.mpr ⟨q1 _ (.tail _ (.head _)), List.forall_mem_cons.mpr ⟨q1 _ (.tail _ (.tail _ (.head _))), List.forall_mem_cons.mpr ⟨q1 _ (.tail _ (.tail _ (.tail _ (.head _)))), List.forall_mem_nil _⟩⟩⟩⟩⟩⟩⟩⟩)
    exact hq _ _ (h a (.ref D) ((D, listOf (vs1 ++ [Value.bytes #[] t4]).toArray 0) :: led) cc h' tk tk' t3 ps5 _ _ _ _ (keepS F9 e1 e2 e3) (List.forall_mem_cons.mpr ⟨⟨ND.1, hD⟩, hl9⟩) hc9 (N9 _ (.head _)).1 (N9 _ (.tail _ (.head _))).1 (N9 _ (.tail _ (.tail _ (.head _)))).1 (N9 _ (.tail _ (.tail _ (.tail _ (.head _))))).1 (N9 _ (.tail _ (.tail _ (.tail _ (.tail _ (.head _)))))).1 ht9 (fun h'' hp => hdesc h'' fun p hp' => hp p (.tail _ hp')) fun h'' hp q1 q2 => .list trivial (hp _ (.head _)) (q2.append (.cons (.bytes [] _) .nil)))
end
end Mine
end
theorem Mine.anewClose : True ∧ True := by
  have h : True ∧ True := ⟨trivial, trivial⟩
  first | (walk1; done) | exact h
section
open PySem PySem.W PyProof.Rows PySem.Calls PySem.Spec
set_option maxHeartbeats 2000000
namespace Mine

mutual
/-- what a tree's reader gives on the tree's own octets -/
noncomputable def T.val : T → V
  | .u b => .int b.toNat
  | .p cs => .list (valAll cs)
  | .c cs => .list (valAll cs ++ [.bytes []])
noncomputable def valAll : List T → List V
  | [] => []
  | t :: ts => t.val :: valAll ts
end

mutual
theorem oct_le : ∀ t : T, t.oct.length ≤ t.sz
  | .u b => by simp [T.oct, T.sz]
  | .p cs => by rw [T.oct, T.sz]; have := octAll_le cs; omega
  | .c cs => by rw [T.oct, T.sz, List.length_cons]; have := octAll_le cs; omega
theorem octAll_le : ∀ cs : List T, (octAll cs).length ≤ szAll cs
  | [] => by simp [octAll, szAll]
  | t :: ts => by
    have h1 := oct_le t
    have h2 := octAll_le ts
    rw [octAll, szAll, List.length_append]; omega
end
mutual
theorem ht_sz : ∀ t : T, t.ht ≤ t.sz
  | .u _ => Nat.zero_le _
  | .p cs => by rw [T.ht, T.sz]; have := htAll_sz cs; omega
  | .c cs => by rw [T.ht, T.sz]; have := htAll_sz cs; omega
theorem htAll_sz : ∀ cs : List T, htAll cs ≤ szAll cs
  | [] => Nat.zero_le _
  | t :: ts => by
    have h1 := ht_sz t
    have h2 := htAll_sz ts
    rw [htAll, szAll]; omega
end

theorem ofNat_toNat {n : Nat} (h : n < 256) : (UInt8.ofNat n).toNat = n := by
  rw [UInt8.toNat_ofNat']; exact Nat.mod_eq_of_lt h

mutual
theorem parse_oct : ∀ (t : T) (r : List UInt8), t.sz ≤ 200 → t.parse (t.oct ++ r) = (r, .ok t.val)
  | .u b, r, _ => by rw [T.oct, T.val]; rfl
  | .p cs, r, h => by
    rw [T.sz] at h
    rw [T.oct, T.parse, parseAll_oct cs r (by omega), T.val]
  | .c cs, r, h => by
    rw [T.sz] at h
    have hl := octAll_le cs
    have e := ofNat_toNat (n := (octAll cs).length) (by omega)
    have hp := parseAll_oct cs [] (by omega)
    rw [List.append_nil] at hp
    rw [T.oct, List.cons_append, T.parse, e, if_pos (by rw [List.length_append]; omega), List.take_left, List.drop_left, hp, T.val]
theorem parseAll_oct : ∀ (cs : List T) (r : List UInt8), szAll cs ≤ 200 → parseAll cs (octAll cs ++ r) = (r, .ok (valAll cs))
  | [], r, _ => by rw [octAll, valAll]; rfl
  | t :: ts, r, h => by
    rw [szAll] at h
    rw [octAll, List.append_assoc, parseAll, parse_oct t _ (by omega)]
    simp only [parseAll_oct ts r (by omega), valAll]
end

/-! the units of a content -/
mutual
noncomputable def T.units : T → Int → List (Int × Int)
  | .u _, s => [(s, 1)]
  | .p cs, s => unitsAll cs s
  | .c cs, s => [(s, 1 + (octAll cs).length)]
noncomputable def unitsAll : List T → Int → List (Int × Int)
  | [], _ => []
  | t :: ts, s => t.units s ++ unitsAll ts (s + t.oct.length)
end
noncomputable def isIn (p : Int) (u : Int × Int) : Bool := decide (u.1 ≤ p) && decide (p < u.1 + u.2)
/-- the words at a cut -/
noncomputable def wordsAt (p : Int) (u : Int × Int) : Str := if p = u.1 then noData else cutWords (u.2 - 1) (p - u.1 - 1)
mutual
theorem units_bound : ∀ (t : T) (s : Int), ∀ u ∈ t.units s, s ≤ u.1 ∧ u.1 + u.2 ≤ s + t.oct.length
  | .u b, s, u, h => by
    rw [T.units] at h
    rw [List.mem_singleton.mp h, T.oct]; simp
  | .p cs, s, u, h => by
    rw [T.units] at h
    rw [T.oct]; exact unitsAll_bound cs s u h
  | .c cs, s, u, h => by
    rw [T.units] at h
    rw [List.mem_singleton.mp h, T.oct, List.length_cons]; simp; omega
theorem unitsAll_bound : ∀ (cs : List T) (s : Int), ∀ u ∈ unitsAll cs s, s ≤ u.1 ∧ u.1 + u.2 ≤ s + (octAll cs).length
  | [], s, u, h => by rw [unitsAll] at h; cases h
  | t :: ts, s, u, h => by
    rw [unitsAll] at h
    rw [octAll, List.length_append]
    rcases List.mem_append.mp h with h | h
    · have := units_bound t s u h; omega
    · have := unitsAll_bound ts _ u h; omega
end
theorem filter_out {p : Int} {us : List (Int × Int)} (h : ∀ u ∈ us, p < u.1 ∨ u.1 + u.2 ≤ p) : us.filter (isIn p) = [] := by
  rw [List.filter_eq_nil_iff]
  intro u hu q
  have := h u hu
  simp only [isIn, Bool.and_eq_true, decide_eq_true_eq] at q
  omega
mutual
theorem cut_one : ∀ (t : T) (s : Int) (k : Nat), t.sz ≤ 200 → k < t.oct.length →
    ∃ u r, (t.units s).filter (isIn (s + k)) = [u] ∧ t.parse (t.oct.take k) = (r, .error (wordsAt (s + k) u))
  | .u b, s, k, _, h => by
    rw [T.oct] at h ⊢
    have hk : k = 0 := by simp at h; exact h
    subst hk
    refine ⟨(s, 1), [], ?_, ?_⟩
    · rw [T.units]; simp [isIn]; omega
    · simp [T.parse, wordsAt]
  | .p cs, s, k, hs, h => by
    rw [T.sz] at hs
    rw [T.oct] at h ⊢
    obtain ⟨u, r, e1, e2⟩ := cut_all cs s k (by omega) h
    refine ⟨u, r, by rw [T.units]; exact e1, ?_⟩
    rw [T.parse, e2]
  | .c cs, s, k, hs, h => by
    rw [T.sz] at hs
    rw [T.oct, List.length_cons] at h
    have hl := octAll_le cs
    have e := ofNat_toNat (n := (octAll cs).length) (by omega)
    cases k with
    | zero =>
      refine ⟨(s, 1 + (octAll cs).length), [], ?_, ?_⟩
      · rw [T.units]; simp [isIn]; omega
      · rw [T.oct]; simp [T.parse, wordsAt]
    | succ k =>
      have hm : ((octAll cs).take k).length = k := by rw [List.length_take]; omega
      refine ⟨(s, 1 + (octAll cs).length), [], ?_, ?_⟩
      · rw [T.units]; simp [isIn]; omega
      · rw [T.oct, List.take_succ_cons, T.parse, e, hm, if_neg (by omega)]
        have : ¬ (s + ((k + 1 : Nat) : Int) = s) := by omega
        simp only [wordsAt, if_neg this]
        rw [show (1 + ((octAll cs).length : Int) - 1) = (octAll cs).length by omega, show (s + ((k + 1 : Nat) : Int) - s - 1) = (k : Int) by omega]
theorem cut_all : ∀ (cs : List T) (s : Int) (k : Nat), szAll cs ≤ 200 → k < (octAll cs).length →
    ∃ u r, (unitsAll cs s).filter (isIn (s + k)) = [u] ∧ parseAll cs ((octAll cs).take k) = (r, .error (wordsAt (s + k) u))
  | [], s, k, _, h => by rw [octAll] at h; simp at h
  | t :: ts, s, k, hs, h => by
    rw [szAll] at hs
    rw [octAll, List.length_append] at h
    rw [unitsAll, octAll, List.filter_append]
    by_cases hk : k < t.oct.length
    · obtain ⟨u, r, e1, e2⟩ := cut_one t s k (by omega) hk
      refine ⟨u, r, ?_, ?_⟩
      · rw [e1, filter_out fun u hu => ?_, List.append_nil]
        have := unitsAll_bound ts _ u hu; omega
      · rw [List.take_append_of_le_length (by omega), parseAll, e2]
    · obtain ⟨u, r, e1, e2⟩ := cut_all ts (s + t.oct.length) (k - t.oct.length) (by omega) (by omega)
      have ek : s + (t.oct.length : Int) + ((k - t.oct.length : Nat) : Int) = s + k := by omega
      rw [ek] at e1 e2
      refine ⟨u, r, ?_, ?_⟩
      · rw [e1, filter_out fun u hu => ?_, List.nil_append]
        have := units_bound t s u hu; omega
      · rw [List.take_append, List.take_of_length_le (by omega), parseAll, parse_oct t _ (by omega)]
        simp only [e2]
end

/-! the tokens' loop -/
structure TS where
  d : Int
  m : Int
  pl : Int
  w : Int
  us : List (Int × Int)
noncomputable def TS.size (c : Nat) (o : Int) : Int := if c = 117 then 1 else 1 + o
noncomputable def TS.isU (c : Nat) : Bool := c == 117 || c == 60
noncomputable def TS.up (c : Nat) : Int := if c = 40 ∨ c = 60 then 1 else 0
noncomputable def TS.dn (c : Nat) : Int := if c = 41 ∨ c = 62 then 1 else 0
noncomputable def TS.step (s : TS) (c : Nat) (o : Int) : TS :=
  { d := s.d + TS.up c - TS.dn c, m := max s.m (s.d + TS.up c - TS.dn c),
    pl := if s.w = 0 ∧ TS.isU c = true then s.pl + TS.size c o else s.pl,
    w := s.w + (if c = 60 then 1 else 0) - (if c = 62 then 1 else 0),
    us := if s.w = 0 ∧ TS.isU c = true then s.us ++ [(s.pl - 1, TS.size c o)] else s.us }
/-- a run over signs; where a count is read, it stands there -/
inductive Run (os : List UInt8) : TS → List Nat → TS → Prop
  | nil {s : TS} : Run os s [] s
  | cons {s s' : TS} {c : Nat} {cs : List Nat} {o : Int} : (c = 40 ∨ c = 41 ∨ c = 60 ∨ c = 62 ∨ c = 117) → (s.w = 0 → c = 60 → ∃ k b, s.pl = ((k : Nat) : Int) ∧ os[k]? = some b ∧ o = ((b : UInt8).toNat : Int)) → Run os (s.step c o) cs s' → Run os s (c :: cs) s'
theorem Run.app {os : List UInt8} : ∀ {s s' s'' : TS} {a b : List Nat}, Run os s a s' → Run os s' b s'' → Run os s (a ++ b) s''
  | _, _, _, _, _, .nil, k => k
  | _, _, _, _, _, .cons h1 h2 r, k => .cons h1 h2 (r.app k)
theorem cps_app (a b : Str) : (a ++ b).cps.toList = a.cps.toList ++ b.cps.toList := by
  show (a.cps ++ b.cps).toList = _
  rw [Array.toList_append]
theorem cps1 : (Str.ofString "u").cps.toList = [117] := by decide +kernel
theorem cps2 : (Str.ofString "(").cps.toList = [40] := by decide +kernel
theorem cps3 : (Str.ofString ")").cps.toList = [41] := by decide +kernel
theorem cps4 : (Str.ofString "<").cps.toList = [60] := by decide +kernel
theorem cps5 : (Str.ofString ">").cps.toList = [62] := by decide +kernel
theorem cps0 : Str.empty.cps.toList = [] := by decide +kernel

theorem maxTwo (m d : Int) (a b : Nat) : max m (d + ((max a b : Nat) : Int)) = max (max m (d + a)) (d + b) := by
  rw [Int.max_assoc]
  rcases Nat.le_total a b with h | h
  · rw [Nat.max_eq_right h, Int.max_eq_right (Int.add_le_add_left (Int.ofNat_le.mpr h) d)]
  · rw [Nat.max_eq_left h, Int.max_eq_left (Int.add_le_add_left (Int.ofNat_le.mpr h) d)]
theorem maxDeep (m d : Int) (a : Nat) : max (max m (d + 1)) (d + 1 + (a : Int)) = max m (d + ((a + 1 : Nat) : Int)) := by
  rw [Int.max_assoc, Int.max_eq_right (Int.le_add_of_nonneg_right (Int.natCast_nonneg a)), Int.add_assoc, Int.add_comm 1, Int.natCast_add]; rfl
mutual
/-- within a count -/
theorem run_in (os : List UInt8) : ∀ (t : T) (s : TS), 0 < s.w → s.d ≤ s.m → Run os s t.nm.cps.toList { s with m := max s.m (s.d + t.dp) }
  | .u b, s, hw, hm => by
    rw [T.nm, cps1, T.dp]
    refine .cons (o := 0) (by simp) (fun h => absurd h (by omega)) ?_
    have e : s.step 117 0 = { s with m := max s.m (s.d + (0 : Nat)) } := by
      have h0 : ¬ s.w = 0 := by omega
      cases s; simp_all [TS.step, TS.up, TS.dn]
    rw [e]; exact .nil
  | .p cs, s, hw, hm => by
    rw [T.nm, cps_app, cps_app, cps2, cps3, T.dp]
    refine .cons (o := 0) (by simp) (fun h => absurd h (by omega)) ?_
    have h0 : ¬ s.w = 0 := by omega
    have e : s.step 40 0 = { s with d := s.d + 1, m := max s.m (s.d + 1) } := by
      cases s; simp_all [TS.step, TS.up, TS.dn]
    rw [e]
    refine (runAll_in os cs { s with d := s.d + 1, m := max s.m (s.d + 1) } hw (by simp only; omega)).app (.cons (c := 41) (o := 0) (by simp) (fun h => absurd h h0) ?_)
    have e : TS.step { s with d := s.d + 1, m := max (max s.m (s.d + 1)) (s.d + 1 + (dpAll cs : Int)) } 41 0 = { s with m := max s.m (s.d + ((dpAll cs + 1 : Nat) : Int)) } := by
      rw [maxDeep]
      simp only [TS.step, TS.up, TS.dn, h0]
      simp
      exact congrArg (max s.m) (Int.max_eq_left (by omega))
    simp only at e ⊢
    rw [e]; exact .nil
  | .c cs, s, hw, hm => by
    rw [T.nm, cps_app, cps_app, cps4, cps5, T.dp]
    refine .cons (o := 0) (by simp) (fun h => absurd h (by omega)) ?_
    have h0 : ¬ s.w = 0 := by omega
    have e : s.step 60 0 = { s with d := s.d + 1, m := max s.m (s.d + 1), w := s.w + 1 } := by
      cases s; simp_all [TS.step, TS.up, TS.dn]
    rw [e]
    refine (runAll_in os cs { s with d := s.d + 1, m := max s.m (s.d + 1), w := s.w + 1 } (by simp only; omega) (by simp only; omega)).app (.cons (c := 62) (o := 0) (by simp) (fun h => absurd h (by simp only; omega)) ?_)
    have h1 : ¬ s.w + 1 = 0 := by omega
    have e : TS.step { s with d := s.d + 1, m := max (max s.m (s.d + 1)) (s.d + 1 + (dpAll cs : Int)), w := s.w + 1 } 62 0 = { s with m := max s.m (s.d + ((dpAll cs + 1 : Nat) : Int)) } := by
      rw [maxDeep]
      simp only [TS.step, TS.up, TS.dn, h1]
      simp
      exact congrArg (max s.m) (Int.max_eq_left (by omega))
    simp only at e ⊢
    rw [e]; exact .nil
theorem runAll_in (os : List UInt8) : ∀ (cs : List T) (s : TS), 0 < s.w → s.d ≤ s.m → Run os s (nmAll cs).cps.toList { s with m := max s.m (s.d + dpAll cs) }
  | [], s, hw, hm => by
    rw [nmAll, cps0, dpAll]
    have e : ({ s with m := max s.m (s.d + (0 : Nat)) } : TS) = s := by
      cases s; simp_all; omega
    rw [e]; exact .nil
  | t :: ts, s, hw, hm => by
    rw [nmAll, cps_app, dpAll]
    have r2 := runAll_in os ts { s with m := max s.m (s.d + t.dp) } hw (by simp only; omega)
    have e : ({ s with m := max s.m (s.d + ((max t.dp (dpAll ts) : Nat) : Int)) } : TS) = { s with m := max (max s.m (s.d + t.dp)) (s.d + dpAll ts) } := by
      rw [maxTwo]
    rw [e]
    exact (run_in os t s hw hm).app r2
end
mutual
/-- outside of every count -/
theorem run_out (os : List UInt8) : ∀ (t : T) (s : TS) (k : Nat) (r : List UInt8), t.sz ≤ 200 → s.w = 0 → s.d ≤ s.m → s.pl = k → os.drop k = t.oct ++ r →
    Run os s t.nm.cps.toList { s with m := max s.m (s.d + t.dp), pl := s.pl + t.oct.length, us := s.us ++ t.units (s.pl - 1) }
  | .u b, s, k, r, hs, hw, hm, hk, ho => by
    rw [T.nm, cps1, T.dp, T.oct, T.units]
    refine .cons (o := 0) (by simp) (fun _ h => absurd h (by decide)) ?_
    have e : s.step 117 0 = { s with m := max s.m (s.d + (0 : Nat)), pl := s.pl + ([b] : List UInt8).length, us := s.us ++ [(s.pl - 1, 1)] } := by
      cases s; simp_all [TS.step, TS.up, TS.dn, TS.isU, TS.size]
    rw [e]; exact .nil
  | .p cs, s, k, r, hs, hw, hm, hk, ho => by
    rw [T.sz] at hs
    rw [T.oct] at ho
    rw [T.nm, cps_app, cps_app, cps2, cps3, T.dp, T.oct, T.units]
    refine .cons (o := 0) (by simp) (fun _ h => absurd h (by decide)) ?_
    have e : s.step 40 0 = { s with d := s.d + 1, m := max s.m (s.d + 1) } := by
      cases s; simp_all [TS.step, TS.up, TS.dn, TS.isU]
    rw [e]
    refine (runAll_out os cs { s with d := s.d + 1, m := max s.m (s.d + 1) } k r (by omega) hw (by simp only; omega) hk ho).app (.cons (c := 41) (o := 0) (by simp) (fun _ h => absurd h (by decide)) ?_)
    have e : ∀ (pl : Int) (us : List (Int × Int)), TS.step { s with d := s.d + 1, m := max (max s.m (s.d + 1)) (s.d + 1 + (dpAll cs : Int)), pl := pl, us := us } 41 0 = { s with m := max s.m (s.d + ((dpAll cs + 1 : Nat) : Int)), pl := pl, us := us } := by
      intro pl us
      rw [maxDeep]
      simp only [TS.step, TS.up, TS.dn, TS.isU]
      simp
      exact congrArg (max s.m) (Int.max_eq_left (by omega))
    simp only at e ⊢
    rw [e]; exact .nil
  | .c cs, s, k, r, hs, hw, hm, hk, ho => by
    rw [T.sz] at hs
    rw [T.oct, List.cons_append] at ho
    rw [T.nm, cps_app, cps_app, cps4, cps5, T.dp, T.oct, T.units]
    have hl := octAll_le cs
    have hn := ofNat_toNat (n := (octAll cs).length) (by omega)
    have hb : os[k]? = some (UInt8.ofNat (octAll cs).length) := by
      have := congrArg (fun l => l[0]?) ho
      simpa using this
    refine .cons (o := ((octAll cs).length : Int)) (by simp) (fun _ _ => ⟨k, _, hk, hb, by rw [hn]⟩) ?_
    have e : s.step 60 ((octAll cs).length : Int) = { s with d := s.d + 1, m := max s.m (s.d + 1), w := 1, pl := s.pl + (1 + ((octAll cs).length : Int)), us := s.us ++ [(s.pl - 1, 1 + ((octAll cs).length : Int))] } := by
      cases s; simp_all [TS.step, TS.up, TS.dn, TS.isU, TS.size]
    rw [e]
    refine (runAll_in os cs { s with d := s.d + 1, m := max s.m (s.d + 1), w := 1, pl := s.pl + (1 + ((octAll cs).length : Int)), us := s.us ++ [(s.pl - 1, 1 + ((octAll cs).length : Int))] } (by simp only; omega) (by simp only; omega)).app (.cons (c := 62) (o := 0) (by simp) (fun h => absurd h (by simp only; omega)) ?_)
    have e : ∀ (pl : Int) (us : List (Int × Int)), TS.step { s with d := s.d + 1, m := max (max s.m (s.d + 1)) (s.d + 1 + (dpAll cs : Int)), w := 1, pl := pl, us := us } 62 0 = { s with m := max s.m (s.d + ((dpAll cs + 1 : Nat) : Int)), pl := pl, us := us } := by
      intro pl us
      rw [maxDeep]
      simp only [TS.step, TS.up, TS.dn, TS.isU]
      simp [hw]
      exact congrArg (max s.m) (Int.max_eq_left (by omega))
    simp only at e ⊢
    rw [e, List.length_cons, show (((octAll cs).length + 1 : Nat) : Int) = 1 + ((octAll cs).length : Int) by omega]
    exact .nil
theorem runAll_out (os : List UInt8) : ∀ (cs : List T) (s : TS) (k : Nat) (r : List UInt8), szAll cs ≤ 200 → s.w = 0 → s.d ≤ s.m → s.pl = k → os.drop k = octAll cs ++ r →
    Run os s (nmAll cs).cps.toList { s with m := max s.m (s.d + dpAll cs), pl := s.pl + (octAll cs).length, us := s.us ++ unitsAll cs (s.pl - 1) }
  | [], s, k, r, hs, hw, hm, hk, ho => by
    rw [nmAll, cps0, dpAll, octAll, unitsAll]
    have e : ({ s with m := max s.m (s.d + (0 : Nat)), pl := s.pl + ([] : List UInt8).length, us := s.us ++ [] } : TS) = s := by
      cases s; simp_all; omega
    rw [e]; exact .nil
  | t :: ts, s, k, r, hs, hw, hm, hk, ho => by
    rw [szAll] at hs
    rw [octAll, List.append_assoc] at ho
    rw [nmAll, cps_app, dpAll, octAll, unitsAll]
    have ho2 : os.drop (k + t.oct.length) = octAll ts ++ r := by rw [← List.drop_drop, ho, List.drop_left]
    have r1 := run_out os t s k _ (by omega) hw hm hk ho
    have r2 := runAll_out os ts { s with m := max s.m (s.d + t.dp), pl := s.pl + t.oct.length, us := s.us ++ t.units (s.pl - 1) } (k + t.oct.length) r (by omega) hw (by simp only; omega) (by simp only; omega) ho2
    have e : ({ s with m := max s.m (s.d + ((max t.dp (dpAll ts) : Nat) : Int)), pl := s.pl + ((t.oct ++ octAll ts).length : Nat), us := s.us ++ (t.units (s.pl - 1) ++ unitsAll ts (s.pl - 1 + t.oct.length)) } : TS) =
        { s with m := max (max s.m (s.d + t.dp)) (s.d + dpAll ts), pl := s.pl + t.oct.length + (octAll ts).length, us := s.us ++ t.units (s.pl - 1) ++ unitsAll ts (s.pl + t.oct.length - 1) } := by
      congr 1
      · exact maxTwo ..
      · rw [List.length_append]; omega
      · rw [List.append_assoc, show s.pl + (t.oct.length : Int) - 1 = s.pl - 1 + t.oct.length by omega]
    rw [e]
    exact r1.app r2
end
end Mine
end
theorem Mine.anewPlain : True ∧ True := by
  have h : True ∧ True := ⟨trivial, trivial⟩
  first | (walk1; done) | exact h
section
open PySem PySem.W PyProof.Rows PySem.Calls PySem.Spec
set_option maxHeartbeats 2000000
namespace Mine
/-- the sign of an open one: none at the bottom -/
noncomputable def sgo : Option Bool → Str
  | none => Str.ofString ""
  | some b => sg b
/-- an open one: its list, its children's list, its values' list -/
structure Fm where
  s : Option Bool
  a : Addr
  c : Addr
  v : Addr
  t1 : Tok
  t2 : Tok
  n : Nat
  m : Nat
  k : Nat
  its : List Value
  vs : List Value
  cs : List T
noncomputable def Fm.led (f : Fm) : List (Addr × Obj) := [(f.a, frObj (sgo f.s) f.t1 f.c f.v (octAll f.cs) f.t2 f.n), (f.c, listOf f.its.toArray f.m), (f.v, listOf f.vs.toArray f.k)]
noncomputable def Fm.adr (f : Fm) : List Addr := [f.a, f.c, f.v]
noncomputable def ledAll : List Fm → List (Addr × Obj)
  | [] => []
  | f :: r => f.led ++ ledAll r
noncomputable def adrAll : List Fm → List Addr
  | [] => []
  | f :: r => f.adr ++ adrAll r
theorem led_adr : ∀ st : List Fm, (ledAll st).map (·.1) = adrAll st
  | [] => rfl
  | f :: r => by rw [ledAll, adrAll, List.map_append, led_adr r]; rfl
noncomputable def refs (st : List Fm) : List Value := (st.map fun f => Value.ref f.a).reverse
theorem refs_cons (f : Fm) (r : List Fm) : refs (f :: r) = refs r ++ [.ref f.a] := by simp [refs]
theorem refs_len (st : List Fm) : (refs st).length = st.length := by simp [refs]

/-- a tail of closed things, and what it bears -/
structure Bears (g : Heap) (ps : Array Value) (st : List Fm) (tl : List (Addr × Obj)) : Prop where
  desc : ∀ h' : Heap, g.StaysIn h' → (∀ p ∈ tl, h'.get? p.1 = some p.2) → ∀ f ∈ st, DescAll h' f.its f.cs
  val : ∀ h' : Heap, g.StaysIn h' → (∀ p ∈ tl, h'.get? p.1 = some p.2) → ∀ f ∈ st, ValAll (fun _ => True) h' f.vs (valAll f.cs)
  tab : ∀ h' : Heap, g.StaysIn h' → (∀ p ∈ tl, h'.get? p.1 = some p.2) → TabOk lamQual ps h'

/-- the whole ledger of the building -/
noncomputable def whole (L O : Addr) (oc : Obj) (nO : Nat) (ps : Array Value) (st : List Fm) (tl : List (Addr × Obj)) : List (Addr × Obj) :=
  (O, listOf (refs st).toArray nO) :: (ledAll st ++ ([(88, tabObj ps), (76, tabObj #[]), (L + 1, oc)] ++ tl))
structure Apart (L O : Addr) (st : List Fm) (tl : List (Addr × Obj)) : Prop where
  nd : (O :: adrAll st).Nodup
  off : ∀ p ∈ tl, p.1 ∉ 88 :: O :: adrAll st
  o76 : ∀ p ∈ tl, p.1 ≠ 76
  oC : ∀ p ∈ tl, p.1 ≠ L + 1

/-! the plain side of the building -/
noncomputable def nOk : List T → Prop := fun cs => nAll cs = ((octAll cs).length : Int)
/-- the signs and the lengths of the open ones, top first -/
noncomputable def Sound : List Fm → Prop
  | [] => False
  | [f] => f.s = none
  | f :: p :: r => (∃ b, f.s = some b ∧ (b = true → nOk f.cs) ∧ (p.s = some true → b = true)) ∧ Sound (p :: r)
noncomputable def tok : List Fm → Str
  | [] => Str.ofString ""
  | f :: r => tok r ++ sgo f.s ++ nmAll f.cs
noncomputable def tot : List Fm → Nat
  | [] => 0
  | f :: r => szAll f.cs + 1 + tot r

theorem octAll_app : ∀ a b : List T, octAll (a ++ b) = octAll a ++ octAll b
  | [], b => rfl
  | t :: ts, b => by rw [List.cons_append, octAll, octAll, octAll_app ts b, List.append_assoc]
theorem str_assoc (a b c : Str) : a ++ b ++ c = a ++ (b ++ c) := by
  have h : ∀ x y : Str, x.cps = y.cps → x = y := fun x y e => by cases x; cases y; cases e; rfl
  exact h _ _ (by show (a.cps ++ b.cps) ++ c.cps = a.cps ++ (b.cps ++ c.cps); exact Array.append_assoc)
theorem nmAll_app : ∀ a b : List T, nmAll (a ++ b) = nmAll a ++ nmAll b
  | [], b => by
    have h : ∀ x y : Str, x.cps = y.cps → x = y := fun x y e => by cases x; cases y; cases e; rfl
    exact h _ _ (by show (nmAll b).cps = #[] ++ (nmAll b).cps; simp)
  | t :: ts, b => by rw [List.cons_append, nmAll, nmAll, nmAll_app ts b, str_assoc]
theorem nAll_app : ∀ a b : List T, nAll (a ++ b) = nAll a + nAll b
  | [], b => by rw [List.nil_append, nAll]; omega
  | t :: ts, b => by rw [List.cons_append, nAll, nAll, nAll_app ts b]; omega
theorem szAll_app : ∀ a b : List T, szAll (a ++ b) = szAll a + szAll b
  | [], b => by rw [List.nil_append, szAll]; omega
  | t :: ts, b => by rw [List.cons_append, szAll, szAll, szAll_app ts b]; omega
theorem valAll_app : ∀ a b : List T, valAll (a ++ b) = valAll a ++ valAll b
  | [], b => rfl
  | t :: ts, b => by rw [List.cons_append, valAll, valAll, valAll_app ts b]; rfl
theorem str_empty (x : Str) : x ++ Str.empty = x := Str.append_right_empty rfl
theorem nm_one (t : T) : nmAll [t] = t.nm := by rw [nmAll, nmAll, str_empty]
theorem oct_one (t : T) : octAll [t] = t.oct := by rw [octAll, octAll, List.append_nil]
theorem val_one (t : T) : valAll [t] = [t.val] := by rw [valAll, valAll]
theorem sz_one (t : T) : szAll [t] = t.sz := by rw [szAll, szAll]; omega
theorem n_one (t : T) : nAll [t] = t.n := by rw [nAll, nAll]; omega
theorem mk_nm (b : Bool) (cs : List T) : (T.mk b cs).nm = sg b ++ nmAll cs ++ sgEnd b := by cases b <;> rfl
theorem mk_sz (b : Bool) (cs : List T) : (T.mk b cs).sz = szAll cs + 1 := by cases b <;> rfl
theorem mk_val (b : Bool) (cs : List T) : (T.mk b cs).val = V.mk b (valAll cs) := by cases b <;> rfl

mutual
theorem nm_sz : ∀ t : T, t.nm.length ≤ 2 * t.sz
  | .u _ => by rw [T.nm, T.sz]; decide
  | .p cs => by rw [T.nm, T.sz, len_app, len_app, len_paren, len_paren2]; have := nmAll_sz cs; omega
  | .c cs => by rw [T.nm, T.sz, len_app, len_app, len_less, len_more]; have := nmAll_sz cs; omega
theorem nmAll_sz : ∀ cs : List T, (nmAll cs).length ≤ 2 * szAll cs
  | [] => Nat.zero_le _
  | t :: ts => by rw [nmAll, szAll, len_app]; have := nm_sz t; have := nmAll_sz ts; omega
end
theorem sgo_len : ∀ s : Option Bool, (sgo s).length ≤ 1
  | none => by decide
  | some true => by decide
  | some false => by decide
theorem tok_len : ∀ st : List Fm, (tok st).length ≤ 2 * tot st
  | [] => Nat.zero_le _
  | f :: r => by rw [tok, tot, len_app, len_app]; have := nmAll_sz f.cs; have := tok_len r; have := sgo_len f.s; omega
theorem len_le_tot : ∀ st : List Fm, st.length ≤ tot st
  | [] => Nat.zero_le _
  | f :: r => by rw [tot, List.length_cons]; have := len_le_tot r; omega

/-- the newest of a child, of an octet, closed -/
noncomputable def Fm.push (f : Fm) (t : T) (d v : Value) (t2 : Tok) (n m k : Nat) : Fm := { f with cs := f.cs ++ [t], its := f.its ++ [d], vs := f.vs ++ [v], t2 := t2, n := n, m := m, k := k }

theorem sound_u {f : Fm} {r : List Fm} {b : UInt8} {d v : Value} {t2 : Tok} {n m k : Nat} (h : Sound (f :: r)) : Sound (f.push (.u b) d v t2 n m k :: r) := by
  cases r with
  | nil => exact h
  | cons p r =>
    obtain ⟨⟨bb, h1, h2, h3⟩, h4⟩ := h
    refine ⟨⟨bb, h1, fun q => ?_, h3⟩, h4⟩
    have := h2 q
    show nAll (f.cs ++ [.u b]) = _
    unfold nOk at this
    rw [nAll_app, this]
    show _ + nAll [.u b] = ((octAll (f.cs ++ [.u b])).length : Int)
    rw [octAll_app, List.length_append, n_one, oct_one]
    simp [T.n, T.oct]
theorem tok_u {f : Fm} {r : List Fm} {b : UInt8} {d v : Value} {t2 : Tok} {n m k : Nat} : tok (f.push (.u b) d v t2 n m k :: r) = tok (f :: r) ++ Str.ofString "u" := by
  rw [tok, tok]
  show _ ++ sgo f.s ++ nmAll (f.cs ++ [.u b]) = _
  rw [nmAll_app, nm_one, T.nm, ← str_assoc]
theorem tot_u {f : Fm} {r : List Fm} {b : UInt8} {d v : Value} {t2 : Tok} {n m k : Nat} : tot (f.push (.u b) d v t2 n m k :: r) = tot (f :: r) + 1 := by
  rw [tot, tot]
  show szAll (f.cs ++ [.u b]) + 1 + tot r = _
  rw [szAll_app, sz_one, T.sz]; omega
theorem sound_close {f p : Fm} {r : List Fm} {b : Bool} {d v : Value} {t2 : Tok} {n m k : Nat} (h : Sound (f :: p :: r)) (hb : f.s = some b) : Sound (p.push (T.mk b f.cs) d v t2 n m k :: r) := by
  obtain ⟨⟨b', h1, h2, h3⟩, h4⟩ := h
  rw [hb] at h1; cases h1
  cases r with
  | nil => exact h4
  | cons q r =>
    obtain ⟨⟨b2, k1, k2, k3⟩, k4⟩ := h4
    refine ⟨⟨b2, k1, fun z => ?_, k3⟩, k4⟩
    subst z
    have hb2 := h3 k1
    subst hb2
    have e1 := k2 rfl
    have e2 := h2 rfl
    unfold nOk at e1 e2
    show nAll (p.cs ++ [T.mk true f.cs]) = ((octAll (p.cs ++ [T.mk true f.cs])).length : Int)
    rw [nAll_app, octAll_app, List.length_append, n_one, oct_one, e1]
    show _ + nAll f.cs = ((_ + (octAll f.cs).length : Nat) : Int)
    rw [e2]; omega
theorem tok_close {f p : Fm} {r : List Fm} {b : Bool} {d v : Value} {t2 : Tok} {n m k : Nat} (hb : f.s = some b) : tok (p.push (T.mk b f.cs) d v t2 n m k :: r) = tok (f :: p :: r) ++ sgEnd b := by
  rw [tok, tok, tok]
  show _ ++ sgo p.s ++ nmAll (p.cs ++ [T.mk b f.cs]) = _
  rw [nmAll_app, nm_one, mk_nm, hb]
  show _ = tok r ++ sgo p.s ++ nmAll p.cs ++ sg b ++ nmAll f.cs ++ sgEnd b
  simp only [str_assoc]
theorem tot_close {f p : Fm} {r : List Fm} {b : Bool} {d v : Value} {t2 : Tok} {n m k : Nat} : tot (p.push (T.mk b f.cs) d v t2 n m k :: r) = tot (f :: p :: r) := by
  rw [tot, tot, tot]
  show szAll (p.cs ++ [T.mk b f.cs]) + 1 + tot r = _
  rw [szAll_app, sz_one, mk_sz]; omega
end Mine
end
theorem Mine.anewLed : True ∧ True := by
  have h : True ∧ True := ⟨trivial, trivial⟩
  first | (walk1; done) | exact h
section
open PySem PySem.W PyProof.Rows PySem.Calls PySem.Spec
set_option maxHeartbeats 2000000
namespace Mine
theorem DescAll.len {h : Heap} {its : List Value} {cs : List T} (x : DescAll h its cs) : its.length = cs.length := x.length
theorem valAll_len : ∀ cs : List T, (valAll cs).length = cs.length
  | [] => rfl
  | t :: ts => by rw [valAll, List.length_cons, List.length_cons, valAll_len ts]
/-- the records that a fact leans on, as a ledger of records -/
theorem code_led2 {g h : Heap} {L : Addr} {m : Str → Option Value} {cv : Value} {q : Str} (F : Fr g L h m) (c : h.CodeRec cv q) :
    ∃ ex : List (Addr × Obj), News g L h ex ∧ (∀ h' : Heap, (∀ b o, g.get? b = some o → h'.get? b = some o) → (∀ p ∈ ex, h'.get? p.1 = some p.2) → h'.CodeRec cv q) ∧ ∀ p ∈ ex, ¬ NoCode p.2 := by
  obtain ⟨a, o, vs, t, e1, e2, e3, e4⟩ := c
  cases hg : g.get? a with
  | some o' =>
    have := F.keep _ _ hg
    rw [e2] at this; cases this
    exact ⟨[], fun p hp => (nomatch hp), fun h' k _ => ⟨a, o, vs, t, e1, k _ _ hg, e3, e4⟩, fun p hp => (nomatch hp)⟩
  | none =>
    refine ⟨[(a, o)], fun p hp => ?_, fun h' _ k => ⟨a, o, vs, t, e1, k (a, o) (.head _), e3, e4⟩, fun p hp hn => by rw [List.mem_singleton.mp hp] at hn; exact hn vs _ t e3 e4⟩
    rw [List.mem_singleton.mp hp]
    refine ⟨e2, fun q => ?_, hg⟩
    obtain ⟨o', es, ep, ho, hd, _⟩ := F.ns
    dsimp only at q
    rw [q, ho] at e2; cases e2; rw [hd] at e3; cases e3
theorem codes_led2 {g h : Heap} {L : Addr} {m : Str → Option Value} {q : Str} (F : Fr g L h m) : ∀ l : List Value,
    ∃ ex : List (Addr × Obj), News g L h ex ∧ (∀ h' : Heap, (∀ b o, g.get? b = some o → h'.get? b = some o) → (∀ p ∈ ex, h'.get? p.1 = some p.2) → ∀ v ∈ l, h.CodeRec v q → h'.CodeRec v q) ∧ ∀ p ∈ ex, ¬ NoCode p.2
  | [] => ⟨[], fun p hp => (nomatch hp), fun _ _ _ _ hv => (nomatch hv), fun p hp => (nomatch hp)⟩
  | x :: r => by
    obtain ⟨ex, N, k, kd⟩ := codes_led2 F r
    by_cases hx : h.CodeRec x q
    · obtain ⟨ex', N', k', kd'⟩ := code_led2 F hx
      refine ⟨ex' ++ ex, news_app N' N, fun h' hg hp v hv hc => ?_, fun p hp => (List.mem_append.mp hp).elim (kd' p) (kd p)⟩
      rcases List.mem_cons.mp hv with rfl | hv
      · exact k' h' hg (fun p hp' => hp p (List.mem_append_left _ hp'))
      · exact k h' hg (fun p hp' => hp p (List.mem_append_right _ hp')) v hv hc
    · refine ⟨ex, N, fun h' hg hp v hv hc => ?_, kd⟩
      rcases List.mem_cons.mp hv with rfl | hv
      · exact absurd hc hx
      · exact k h' hg hp v hv hc
theorem tab_led2 {g h : Heap} {L : Addr} {m : Str → Option Value} {ps : Array Value} {q : Str} (F : Fr g L h m) (t : TabOk q ps h) :
    ∃ ex : List (Addr × Obj), News g L h ex ∧ (∀ h' : Heap, (∀ b o, g.get? b = some o → h'.get? b = some o) → (∀ p ∈ ex, h'.get? p.1 = some p.2) → TabOk q ps h') ∧ ∀ p ∈ ex, ¬ NoCode p.2 := by
  obtain ⟨ex, N, k, kd⟩ := codes_led2 (q := q) F ps.toList
  exact ⟨ex, N, fun h' hg hp => ⟨t.1, fun pos cv e => k h' hg hp cv (codeAmong_mem t.1 e) (t.2 pos cv e)⟩, kd⟩
theorem noCode_list {its : Array Value} {n : Nat} : NoCode (listOf its n) := fun _ _ _ e => by cases e
theorem ledAll_list : ∀ (st : List Fm), ∀ p ∈ ledAll st, ∃ its n, p.2 = listOf its n
  | [], p, hp => nomatch hp
  | f :: r, p, hp => by
    rw [ledAll, Fm.led] at hp
    simp only [List.cons_append, List.nil_append, List.mem_cons] at hp
    rcases hp with rfl | rfl | rfl | hp
    · exact ⟨_, _, rfl⟩
    · exact ⟨_, _, rfl⟩
    · exact ⟨_, _, rfl⟩
    · exact ledAll_list r p hp
theorem mem_led {st : List Fm} {x : Addr} (h : x ∈ adrAll st) : ∃ o, (x, o) ∈ ledAll st := by
  rw [← led_adr, List.mem_map] at h
  obtain ⟨p, hp, rfl⟩ := h
  exact ⟨p.2, hp⟩
section
variable {prog : Program} {w : World} {A : Around} {G g : Heap} {outer : List Env} {env : Env} {s : Shared} {Q : Value → Shared → Prop} {E : Value → Shared → Prop} {mean : ExcName → Option Value} {mg mb : Str → Option Value} {L : Addr} {m : Str → Option Value}
theorem close_use (Y : Amb w mean mg mb G) (B : Below A G outer g) (F : Fr g L s.heap m) (hf : env.frame = some L) (hke : env.scope.kind = .function)
    {O : Addr} {oc : Obj} {cv : Option Value} {nO : Nat} {ps : Array Value} {f1 f2 : Fm} {r : List Fm} {tl : List (Addr × Obj)} {b : Bool} (hoc : oc.data = .cell cv) (hs : f1.s = some b) (hsd : b = true → nOk f1.cs)
    (N : News g L s.heap (whole L O oc nO ps (f1 :: f2 :: r) tl)) (be : Bears g ps (f1 :: f2 :: r) tl) (ap : Apart L O (f1 :: f2 :: r) tl)
    (hroom : A.depth + 1 + 20 < recursionLimit) (hh : A.handled = none) (htot : tot (f1 :: f2 :: r) ≤ 100)
    (h : ∀ f2' nO' ps' tl' h' tk tk', Fr g L h' m → News g L h' (whole L O oc nO' ps' (f2' :: r) (tl' ++ tl)) → Bears g ps' (f2' :: r) (tl' ++ tl) → Apart L O (f2' :: r) (tl' ++ tl) →
      (∃ d v t2 n m k, f2' = f2.push (T.mk b f1.cs) d v t2 n m k) →
      (∀ x o, s.heap.get? x = some o → NoCode o → x ∉ 88 :: O :: adrAll (f1 :: f2 :: r) → h'.get? x = some o ∧ ∀ p ∈ tl', p.1 ≠ x) → Q (.str (sgEnd b) tk') { s with heap := h', toks := tk }) :
    wpAny (model prog w) (A.deeper env) (call (.ref 98) [.ref O]) Q E s := by
  obtain ⟨hO, hL⟩ : (News g L s.heap [(O, listOf (refs (f1 :: f2 :: r)).toArray nO)]) ∧ News g L s.heap (ledAll (f1 :: f2 :: r) ++ ([(88, tabObj ps), (76, tabObj #[]), (L + 1, oc)] ++ tl)) :=
    ⟨fun p hp => N p (by rw [List.mem_singleton.mp hp]; exact .head _), fun p hp => N p (.tail _ hp)⟩
  have hLed : News g L s.heap (ledAll (f1 :: f2 :: r)) := fun p hp => hL p (List.mem_append_left _ hp)
  have hT : News g L s.heap tl := fun p hp => hL p (List.mem_append_right _ (List.mem_append_right _ hp))
  have h88 := hL (88, tabObj ps) (List.mem_append_right _ (by simp))
  have h76 := hL (76, tabObj #[]) (List.mem_append_right _ (by simp))
  have hcl := hL (L + 1, oc) (List.mem_append_right _ (by simp))
  have m1 : ∀ p ∈ f1.led, p ∈ ledAll (f1 :: f2 :: r) := fun p hp => by rw [ledAll]; exact List.mem_append_left _ hp
  have m2 : ∀ p ∈ f2.led, p ∈ ledAll (f1 :: f2 :: r) := fun p hp => by rw [ledAll, ledAll]; exact List.mem_append_right _ (List.mem_append_left _ hp)
  have m3 : ∀ p ∈ ledAll r, p ∈ ledAll (f1 :: f2 :: r) := fun p hp => by rw [ledAll, ledAll]; exact List.mem_append_right _ (List.mem_append_right _ hp)
  have hOl : s.heap.get? O = some (listOf (refs r ++ [Value.ref f2.a] ++ [Value.ref f1.a]).toArray nO) := by
    have := (hO _ (.head _)).1
    rw [refs_cons, refs_cons] at this; exact this
  have ga1 := hLed _ (m1 _ (.head _))
  have gc1 := hLed _ (m1 _ (.tail _ (.head _)))
  have gv1 := hLed _ (m1 _ (.tail _ (.tail _ (.head _))))
  have ga2 := hLed _ (m2 _ (.head _))
  have gc2 := hLed _ (m2 _ (.tail _ (.head _)))
  have gv2 := hLed _ (m2 _ (.tail _ (.tail _ (.head _))))
  -- 88 lies apart from every list
  have l88 : ∀ x its n, s.heap.get? x = some (listOf its n) → x ≠ 88 := fun x its n e q => by rw [q, h88.1] at e; cases e
  have l76 : ∀ x its n, s.heap.get? x = some (listOf its n) → x ≠ 76 := fun x its n e q => by rw [q, h76.1] at e; cases e
  have lcl : ∀ x its n, s.heap.get? x = some (listOf its n) → x ≠ L + 1 := fun x its n e q => by rw [q, hcl.1] at e; cases e; cases hoc
  have a88 : ∀ x ∈ O :: adrAll (f1 :: f2 :: r), x ≠ 88 ∧ x ≠ 76 ∧ x ≠ L + 1 ∧ ∃ o, s.heap.get? x = some o ∧ NoCode o := fun x hx => by
    rcases List.mem_cons.mp hx with rfl | hx
    · exact ⟨l88 _ _ _ hOl, l76 _ _ _ hOl, lcl _ _ _ hOl, _, hOl, noCode_list⟩
    · obtain ⟨o, ho⟩ := mem_led hx
      obtain ⟨its, n, e⟩ := ledAll_list _ _ ho
      have := (hLed _ ho).1
      dsimp only at e this
      rw [e] at this
      exact ⟨l88 _ _ _ this, l76 _ _ _ this, lcl _ _ _ this, _, this, noCode_list⟩
  have e7688 : (76 : Addr) ≠ 88 := by decide
  have ec88 : (L + 1 : Addr) ≠ 88 := fun q => by
    have h1 := hcl.1; have h2 := h88.1
    dsimp only at h1 h2
    rw [q, h2] at h1; cases h1; cases hoc
  have nd := ap.nd
  simp only [adrAll, Fm.adr, List.cons_append, List.nil_append, List.nodup_cons, List.mem_cons, not_or] at nd
  obtain ⟨⟨n1, n2, n3, n4, n5, n6, n7⟩, ⟨n8, n9, n10, n11, n12, n13⟩, ⟨n14, n15, n16, n17, n18⟩, ⟨n19, n20, n21, n22⟩, ⟨n23, n24, n25⟩, ⟨n26, n27⟩, n28, n29⟩ := nd
  have hnd : ([O, f2.a, f2.c, f2.v, f1.a, f1.c, f1.v] : List Nat).Nodup := by
    simp only [List.nodup_cons, List.mem_cons, not_or, List.not_mem_nil, not_false_iff, and_true, List.nodup_nil]
    exact ⟨⟨n4, n5, n6, n1, n2, n3⟩, ⟨n23, n24, Ne.symm n10, Ne.symm n15, Ne.symm n19⟩, ⟨n26, Ne.symm n11, Ne.symm n16, Ne.symm n20⟩, ⟨Ne.symm n12, Ne.symm n17, Ne.symm n21⟩, ⟨n8, n9⟩, n14⟩
  -- what a change at the five keeps
  have keepG : ∀ h' : Heap, KeepBut [O, f2.a, f2.c, f2.v, 88] s.heap h' → g.StaysIn h' := fun h' k x o e => k x o (fun q => by
    simp only [List.mem_cons, List.not_mem_nil, or_false] at q
    rcases q with rfl | rfl | rfl | rfl | rfl
    · rw [(hO _ (.head _)).2.2] at e; cases e
    · rw [ga2.2.2] at e; cases e
    · rw [gc2.2.2] at e; cases e
    · rw [gv2.2.2] at e; cases e
    · rw [h88.2.2] at e; cases e) (F.keep x o e)
  have five : ∀ x, x ∉ 88 :: O :: adrAll (f1 :: f2 :: r) → x ∉ [O, f2.a, f2.c, f2.v, 88] := fun x hx q => by
    simp only [adrAll, Fm.adr, List.cons_append, List.nil_append, List.mem_cons, not_or] at hx
    simp only [List.mem_cons, List.not_mem_nil, or_false] at q
    obtain ⟨x1, x2, _, _, _, x3, x4, x5, _⟩ := hx
    rcases q with q | q | q | q | q
    · exact x2 q
    · exact x3 q
    · exact x4 q
    · exact x5 q
    · exact x1 q
  have keepT : ∀ h' : Heap, KeepBut [O, f2.a, f2.c, f2.v, 88] s.heap h' → ∀ p ∈ tl, h'.get? p.1 = some p.2 := fun h' k p hp => k _ _ (five _ (ap.off p hp)) (hT p hp).1
  have hS : Laid G (env :: outer) s.heap [(O, listOf (refs r ++ [Value.ref f2.a] ++ [Value.ref f1.a]).toArray nO), (f2.a, frObj (sgo f2.s) f2.t1 f2.c f2.v (octAll f2.cs) f2.t2 f2.n), (f2.c, listOf f2.its.toArray f2.m), (f2.v, listOf f2.vs.toArray f2.k), (88, tabObj ps), (f1.a, frObj (sg b) f1.t1 f1.c f1.v (octAll f1.cs) f1.t2 f1.n), (f1.c, listOf f1.its.toArray f1.m), (f1.v, listOf f1.vs.toArray f1.k)] := by
    refine laid_news B (g := g) (L := L) ?_ hf
    have ga1' : _ := ga1
    rw [hs] at ga1'
    exact List.forall_mem_cons.mpr ⟨⟨hOl, (hO _ (.head _)).2⟩, List.forall_mem_cons.mpr ⟨ga2, List.forall_mem_cons.mpr ⟨gc2, List.forall_mem_cons.mpr ⟨gv2, List.forall_mem_cons.mpr ⟨h88, List.forall_mem_cons.mpr ⟨ga1', List.forall_mem_cons.mpr ⟨gc1, List.forall_mem_cons.mpr ⟨gv1, List.forall_mem_nil _⟩⟩⟩⟩⟩⟩⟩⟩
  have htT := fun p hp => (hT p hp).1
  have d2 := be.desc s.heap F.keep htT f2 (.tail _ (.head _))
  have v2' := be.val s.heap F.keep htT f2 (.tail _ (.head _))
  have v1' := be.val s.heap F.keep htT f1 (.head _)
  have hsz : szAll f1.cs + 1 + (szAll f2.cs + 1 + tot r) ≤ 100 := by have := htot; rw [tot, tot] at this; exact this
  have z1 := len_le_sz f1.cs
  have z2 := len_le_sz f2.cs
  have z3 := octAll_le f1.cs
  have z4 := octAll_le f2.cs
  have z5 := nmAll_sz f1.cs
  have z6 := len_le_tot r
  have dl2 := d2.length
  have vl2 := v2'.length
  have vl1 := v1'.length
  rw [valAll_len] at vl1 vl2
  refine wpAny_call (close_call (Vs := valAll f1.cs) Y (pushX B F hf hke) hS hnd (fun h' k => be.desc h' (keepG h' k) (keepT h' k) f1 (.head _)) (be.tab s.heap F.keep htT) hroom (by omega) (by omega) hh hsd (by omega) (by rw [refs_len]; omega) (by omega) (by omega) (by omega) (by omega)
    fun a v led cc h' tk tk' t3 ps' nO' n2' m2' k2' kb hled hcode kO ka2 kc2 kv2 k88 htab hdesc hval => ?_)
  have F' : Fr g L h' m := fr_keep F kb (fun q => by
      simp only [List.mem_cons, List.not_mem_nil, or_false] at q
      rcases q with q | q | q | q | q
      · exact (hO _ (.head _)).2.1 q.symm
      · exact ga2.2.1 q.symm
      · exact gc2.2.1 q.symm
      · exact gv2.2.1 q.symm
      · exact h88.2.1 q.symm) (fun x hx => by
      simp only [List.mem_cons, List.not_mem_nil, or_false] at hx
      rcases hx with rfl | rfl | rfl | rfl | rfl
      · exact (hO _ (.head _)).2.2
      · exact ga2.2.2
      · exact gc2.2.2
      · exact gv2.2.2
      · exact h88.2.2)
  obtain ⟨ex1, NX1, kx1, kd1⟩ := code_led2 F' hcode
  obtain ⟨ex2, NX2, kx2, kd2⟩ := tab_led2 F' htab
  have NL : News g L h' led := fun p hp => by
    refine ⟨(hled p hp).1, fun q => ?_, ?_⟩
    · obtain ⟨o, _, _, ho, _⟩ := F.ns
      have := (hled p hp).2
      rw [q, ho] at this; cases this
    · cases q : g.get? p.1 with
      | none => rfl
      | some o => have := (hled p hp).2; rw [F.keep _ _ q] at this; cases this
  have k1 : ∀ p ∈ f1.led, h'.get? p.1 = some p.2 := fun p hp => kb _ _ (fun q => by
    simp only [List.mem_cons, List.not_mem_nil, or_false] at q
    rw [Fm.led] at hp
    simp only [List.mem_cons, List.not_mem_nil, or_false] at hp
    have w1 := (a88 f1.a (by simp [adrAll, Fm.adr])).1
    have w2 := (a88 f1.c (by simp [adrAll, Fm.adr])).1
    have w3 := (a88 f1.v (by simp [adrAll, Fm.adr])).1
    rcases hp with rfl | rfl | rfl
    · rcases q with q | q | q | q | q
      · exact n1 q.symm
      · exact n10 q
      · exact n11 q
      · exact n12 q
      · exact w1 q
    · rcases q with q | q | q | q | q
      · exact n2 q.symm
      · exact n15 q
      · exact n16 q
      · exact n17 q
      · exact w2 q
    · rcases q with q | q | q | q | q
      · exact n3 q.symm
      · exact n19 q
      · exact n20 q
      · exact n21 q
      · exact w3 q) (hLed p (m1 p hp)).1
  have kr : ∀ p ∈ ledAll r, h'.get? p.1 = some p.2 := fun p hp => kb _ _ (fun q => by
    have hm : p.1 ∈ adrAll r := by rw [← led_adr]; exact List.mem_map_of_mem hp
    have w := (a88 p.1 (by simp only [adrAll, List.mem_cons, List.mem_append]; exact .inr (.inr (.inr hm)))).1
    simp only [List.mem_cons, List.not_mem_nil, or_false] at q
    rcases q with q | q | q | q | q
    · rw [q] at hm; exact n7 hm
    · rw [q] at hm; exact n25 hm
    · rw [q] at hm; exact n27 hm
    · rw [q] at hm; exact n28 hm
    · exact w q) (hLed p (m3 p hp)).1
  have w76 : (76 : Addr) ∉ [O, f2.a, f2.c, f2.v, 88] := fun q => by
    simp only [List.mem_cons, List.not_mem_nil, or_false] at q
    rcases q with q | q | q | q | q
    · exact (a88 O (.head _)).2.1 q.symm
    · exact (a88 f2.a (by simp [adrAll, Fm.adr])).2.1 q.symm
    · exact (a88 f2.c (by simp [adrAll, Fm.adr])).2.1 q.symm
    · exact (a88 f2.v (by simp [adrAll, Fm.adr])).2.1 q.symm
    · exact e7688 q
  have wcl : (L + 1 : Addr) ∉ [O, f2.a, f2.c, f2.v, 88] := fun q => by
    simp only [List.mem_cons, List.not_mem_nil, or_false] at q
    rcases q with q | q | q | q | q
    · exact (a88 O (.head _)).2.2.1 q.symm
    · exact (a88 f2.a (by simp [adrAll, Fm.adr])).2.2.1 q.symm
    · exact (a88 f2.c (by simp [adrAll, Fm.adr])).2.2.1 q.symm
    · exact (a88 f2.v (by simp [adrAll, Fm.adr])).2.2.1 q.symm
    · exact ec88 q
  -- what is code lies apart from the open ones
  have codeOff : ∀ p : Addr × Obj, h'.get? p.1 = some p.2 → ¬ NoCode p.2 → p.1 ∉ 88 :: O :: adrAll (f1 :: f2 :: r) := fun p hp hn q => by
    have hno : ∀ o, h'.get? p.1 = some o → NoCode o → False := fun o e k => hn (by rw [hp] at e; cases e; exact k)
    rcases List.mem_cons.mp q with q | q
    · exact hno _ (by rw [q]; exact k88) (noCode_tab htab.1)
    rcases List.mem_cons.mp q with q | q
    · exact hno _ (by rw [q]; exact kO) noCode_list
    simp only [adrAll, Fm.adr, List.cons_append, List.nil_append, List.mem_cons] at q
    rcases q with q | q | q | q | q | q | q
    · exact hno _ (by rw [q]; exact k1 _ (.head _)) noCode_list
    · exact hno _ (by rw [q]; exact k1 _ (.tail _ (.head _))) noCode_list
    · exact hno _ (by rw [q]; exact k1 _ (.tail _ (.tail _ (.head _)))) noCode_list
    · exact hno _ (by rw [q]; exact ka2) noCode_list
    · exact hno _ (by rw [q]; exact kc2) noCode_list
    · exact hno _ (by rw [q]; exact kv2) noCode_list
    · obtain ⟨o, ho⟩ := mem_led q
      obtain ⟨its, n, e⟩ := ledAll_list _ _ ho
      exact hno o (kr (p.1, o) ho) (by dsimp only at e; rw [e]; exact noCode_list)
  have live : ∀ x ∈ 88 :: O :: adrAll (f1 :: f2 :: r), s.heap.get? x ≠ none := fun x hx => by
    rcases List.mem_cons.mp hx with rfl | hx
    · rw [h88.1]; exact fun q => nomatch q
    · obtain ⟨_, _, _, o, e, _⟩ := a88 x hx
      rw [e]; exact fun q => nomatch q
  have NT : News g L h' ((f1.led ++ (led ++ (ex1 ++ ex2))) ++ tl) :=
    news_app (news_app (fun p hp => ⟨k1 p hp, (hLed p (m1 p hp)).2⟩) (news_app NL (news_app NX1 NX2))) (fun p hp => ⟨keepT h' kb p hp, (hT p hp).2⟩)
  have adr' : ∀ (d v' : Value) (t2 : Tok) (n m k : Nat), adrAll (f2.push (T.mk b f1.cs) d v' t2 n m k :: r) = adrAll (f2 :: r) := fun _ _ _ _ _ _ => rfl
  have sub : ∀ x ∈ 88 :: O :: adrAll (f2 :: r), x ∈ 88 :: O :: adrAll (f1 :: f2 :: r) := fun x hx => by
    simp only [adrAll, List.mem_cons, List.mem_append] at hx ⊢
    rcases hx with h | h | h | h
    · exact .inl h
    · exact .inr (.inl h)
    · exact .inr (.inr (.inr (.inl h)))
    · exact .inr (.inr (.inr (.inr h)))
  refine h (f2.push (T.mk b f1.cs) (.ref a) v t3 n2' m2' k2') nO' ps' (f1.led ++ (led ++ (ex1 ++ ex2))) h' tk tk' F' ?_ ⟨?_, ?_, ?_⟩ ⟨?_, ?_, ?_, ?_⟩ ⟨_, _, _, _, _, _, rfl⟩ ?_
  · -- the ledger
    refine List.forall_mem_cons.mpr ⟨⟨by rw [refs_cons]; exact kO, (hO _ (.head _)).2⟩, news_app ?_ (news_app ?_ NT)⟩
    · rw [ledAll]
      refine news_app (List.forall_mem_cons.mpr ⟨⟨?_, ga2.2⟩, List.forall_mem_cons.mpr ⟨⟨kc2, gc2.2⟩, List.forall_mem_cons.mpr ⟨⟨kv2, gv2.2⟩, List.forall_mem_nil _⟩⟩⟩) fun p hp => ⟨kr p hp, (hLed p (m3 p hp)).2⟩
      show h'.get? f2.a = some (frObj (sgo f2.s) f2.t1 f2.c f2.v (octAll (f2.cs ++ [T.mk b f1.cs])) t3 n2')
      rw [octAll_app, oct_one]; exact ka2
    · exact List.forall_mem_cons.mpr ⟨⟨k88, h88.2⟩, List.forall_mem_cons.mpr ⟨⟨kb _ _ w76 h76.1, h76.2⟩, List.forall_mem_cons.mpr ⟨⟨kb _ _ wcl hcl.1, hcl.2⟩, List.forall_mem_nil _⟩⟩⟩
  · intro h'' hg hp f hf'
    have hpt : ∀ p ∈ tl, h''.get? p.1 = some p.2 := fun p hp' => hp p (List.mem_append_right _ hp')
    have hp1 : ∀ p ∈ f1.led, h''.get? p.1 = some p.2 := fun p hp' => hp p (List.mem_append_left _ (List.mem_append_left _ hp'))
    have hpl : ∀ p ∈ led, h''.get? p.1 = some p.2 := fun p hp' => hp p (List.mem_append_left _ (List.mem_append_right _ (List.mem_append_left _ hp')))
    have hpx : ∀ p ∈ ex1, h''.get? p.1 = some p.2 := fun p hp' => hp p (List.mem_append_left _ (List.mem_append_right _ (List.mem_append_right _ (List.mem_append_left _ hp'))))
    rcases List.mem_cons.mp hf' with rfl | hf'
    · exact (be.desc h'' hg hpt f2 (.tail _ (.head _))).append (.cons (hdesc h'' hpl (kx1 h'' hg hpx) (hp1 _ (.tail _ (.head _))) (be.desc h'' hg hpt f1 (.head _))) .nil)
    · exact be.desc h'' hg hpt f (.tail _ (.tail _ hf'))
  · intro h'' hg hp f hf'
    have hpt : ∀ p ∈ tl, h''.get? p.1 = some p.2 := fun p hp' => hp p (List.mem_append_right _ hp')
    have hp1 : ∀ p ∈ f1.led, h''.get? p.1 = some p.2 := fun p hp' => hp p (List.mem_append_left _ (List.mem_append_left _ hp'))
    have hpl : ∀ p ∈ led, h''.get? p.1 = some p.2 := fun p hp' => hp p (List.mem_append_left _ (List.mem_append_right _ (List.mem_append_left _ hp')))
    rcases List.mem_cons.mp hf' with rfl | hf'
    · show ValAll _ h'' (f2.vs ++ [v]) (valAll (f2.cs ++ [T.mk b f1.cs]))
      rw [valAll_app, val_one, mk_val]
      exact (be.val h'' hg hpt f2 (.tail _ (.head _))).append (.cons (hval h'' hpl (hp1 _ (.tail _ (.tail _ (.head _)))) (be.val h'' hg hpt f1 (.head _))) .nil)
    · exact be.val h'' hg hpt f (.tail _ (.tail _ hf'))
  · intro h'' hg hp
    exact kx2 h'' hg fun p hp' => hp p (List.mem_append_left _ (List.mem_append_right _ (List.mem_append_right _ (List.mem_append_right _ hp'))))
  · rw [adr']
    have := ap.nd
    rw [adrAll] at this
    rw [List.nodup_cons, List.nodup_append] at this
    obtain ⟨q1, q2, q3, q4⟩ := this
    exact List.nodup_cons.mpr ⟨fun q => q1 (List.mem_append_right _ q), q3⟩
  · rw [adr']
    intro p hp q
    have q' := sub _ q
    rcases List.mem_append.mp hp with hp | hp
    · rcases List.mem_append.mp hp with hp | hp
      · rw [Fm.led] at hp
        simp only [adrAll, Fm.adr, List.cons_append, List.nil_append, List.mem_cons] at q
        simp only [List.mem_cons, List.not_mem_nil, or_false] at hp
        have w1 := (a88 f1.a (by simp [adrAll, Fm.adr])).1
        have w2 := (a88 f1.c (by simp [adrAll, Fm.adr])).1
        have w3 := (a88 f1.v (by simp [adrAll, Fm.adr])).1
        rcases hp with rfl | rfl | rfl
        · rcases q with q | q | q | q | q | q
          · exact w1 q
          · exact n1 q.symm
          · exact n10 q
          · exact n11 q
          · exact n12 q
          · exact n13 q
        · rcases q with q | q | q | q | q | q
          · exact w2 q
          · exact n2 q.symm
          · exact n15 q
          · exact n16 q
          · exact n17 q
          · exact n18 q
        · rcases q with q | q | q | q | q | q
          · exact w3 q
          · exact n3 q.symm
          · exact n19 q
          · exact n20 q
          · exact n21 q
          · exact n22 q
      · rcases List.mem_append.mp hp with hp | hp
        · exact live _ q' (hled p hp).2
        · rcases List.mem_append.mp hp with hp | hp
          · exact codeOff p (NX1 p hp).1 (kd1 p hp) q'
          · exact codeOff p (NX2 p hp).1 (kd2 p hp) q'
    · exact ap.off p hp q'
  · intro p hp q
    have k76 : h'.get? 76 = some (tabObj #[]) := kb _ _ w76 h76.1
    rcases List.mem_append.mp hp with hp | hp
    · rcases List.mem_append.mp hp with hp | hp
      · have hm : p.1 ∈ adrAll (f1 :: f2 :: r) := by rw [← led_adr]; exact List.mem_map_of_mem (m1 p hp)
        exact (a88 p.1 (.tail _ hm)).2.1 q
      · rcases List.mem_append.mp hp with hp | hp
        · have := (hled p hp).2
          rw [q, h76.1] at this; cases this
        · have hno : ∀ o, h'.get? p.1 = some o → ¬ NoCode o → False := fun o e k => by
            rw [q, k76] at e; cases e; exact k (noCode_tab trivial)
          rcases List.mem_append.mp hp with hp | hp
          · exact hno _ (NX1 p hp).1 (kd1 p hp)
          · exact hno _ (NX2 p hp).1 (kd2 p hp)
    · exact ap.o76 p hp q
  · intro p hp q
    have k76 : h'.get? (L + 1) = some oc := kb _ _ wcl hcl.1
    rcases List.mem_append.mp hp with hp | hp
    · rcases List.mem_append.mp hp with hp | hp
      · have hm : p.1 ∈ adrAll (f1 :: f2 :: r) := by rw [← led_adr]; exact List.mem_map_of_mem (m1 p hp)
        exact (a88 p.1 (.tail _ hm)).2.2.1 q
      · rcases List.mem_append.mp hp with hp | hp
        · have := (hled p hp).2
          rw [q, hcl.1] at this; cases this
        · have hno : ∀ o, h'.get? p.1 = some o → ¬ NoCode o → False := fun o e k => by
            rw [q, k76] at e; cases e; exact k (noCode_cell hoc)
          rcases List.mem_append.mp hp with hp | hp
          · exact hno _ (NX1 p hp).1 (kd1 p hp)
          · exact hno _ (NX2 p hp).1 (kd2 p hp)
    · exact ap.oC p hp q
  · intro x o hx hn hoff
    have hx' := kb x o (five x hoff) hx
    refine ⟨hx', fun p hp q => ?_⟩
    rcases List.mem_append.mp hp with hp | hp
    · refine hoff ?_
      rw [← q]
      have hm : p.1 ∈ adrAll (f1 :: f2 :: r) := by rw [← led_adr]; exact List.mem_map_of_mem (m1 p hp)
      exact .tail _ (.tail _ hm)
    · rcases List.mem_append.mp hp with hp | hp
      · have := (hled p hp).2
        rw [q, hx] at this; cases this
      · rcases List.mem_append.mp hp with hp | hp
        · refine kd1 p hp ?_
          have := (NX1 p hp).1
          rw [q, hx'] at this; cases this; exact hn
        · refine kd2 p hp ?_
          have := (NX2 p hp).1
          rw [q, hx'] at this; cases this; exact hn
end
end Mine
end
theorem Mine.anewCloseU : True ∧ True := by
  have h : True ∧ True := ⟨trivial, trivial⟩
  first | (walk1; done) | exact h
section
open PySem PySem.W PyProof.Rows PySem.Calls PySem.Spec
set_option maxHeartbeats 2000000
namespace Mine
noncomputable def lawBody : List Stmt := bodyOf (stAt 15)
noncomputable def lawScope : Scope := scopeOf (stAt 15)
noncomputable def forBody : Stmt → List Stmt
  | .For _ _ b _ _ => b
  | _ => []
noncomputable def turnBody : List Stmt := forBody (lawBody.getD 3 (.Pass ⟨0, 0, 0, 0⟩))
noncomputable def elseOf : Stmt → List Stmt
  | .If _ _ b _ => b
  | _ => []
noncomputable def if1 : Stmt := turnBody.getD 1 (.Pass ⟨0, 0, 0, 0⟩)
noncomputable def if2 : Stmt := (elseOf if1).getD 0 (.Pass ⟨0, 0, 0, 0⟩)
noncomputable def if3 : Stmt := (elseOf if2).getD 0 (.Pass ⟨0, 0, 0, 0⟩)
noncomputable def if4 : Stmt := (elseOf if3).getD 0 (.Pass ⟨0, 0, 0, 0⟩)
local macro_rules | `(tactic| walk_at "subscriptTail") => `(tactic| (k_here; (with_reducible show wpAny _ _ (subscriptTail _ _ (Value.ref _) (Value.int _ _)) _ _ _); (rename News _ _ _ _ => kN'); (refine item_frN kN' (List.Mem.tail _ (List.Mem.head _)) (by decide) (by decide) (by rfl) ?_)))
local macro_rules | `(tactic| walk_at "subscriptTail") => `(tactic| (k_here; (with_reducible show wpAny _ _ (subscriptTail _ _ (Value.ref _) (Value.int (-1) _)) _ _ _); (rename News _ _ _ _ => kN'); (refine item_lastN kN' (List.Mem.head _) ?_)))
local macro_rules | `(tactic| k_all) => `(tactic| first | exact List.forall_mem_nil _ | with_reducible assumption | (refine List.forall_mem_cons.mpr ⟨?_, ?_⟩; (focus k_ne); k_all))
local macro_rules | `(tactic| walk_at "call ref") => `(tactic| (k_here; refine stop ?_))
local macro_rules | `(tactic| walk_at "call builtin:list.append") => `(tactic| (k_here; refine stop ?_))
local macro_rules | `(tactic| walk_at "binaryOp Add bytes bytes") => `(tactic| (k_here; (refine bytes_add_K (by simp only [List.size_toArray, List.length_cons, List.length_nil, List.length_append]; omega) rfl ?_); intro _ _))
section
variable {prog : Program} {w : World} {g : Heap} {s : Shared} {mean : ExcName → Option Value} {mg mb : Str → Option Value} {L : Addr} {m : Str → Option Value} {qk : Flow → Shared → Prop} {ek : Value → Shared → Prop} {cn : Str} {fa : Addr} {ccd : Value} {fr : List Env}
/-- kind and octet -/
theorem turn_head {x : Int} {t : Tok} {u : Str → Option Value} (X : (hd.heap_39 w.params).In g) (T : Top topProg LL mean mg mb g) {news : List (Addr × Obj)}
    (F : Fr g L s.heap (fun y => if y = Str.ofString "x" then some (.int x t) else u y)) (N : News g L s.heap news)
    (h : ∀ h' tk t1 t2, Fr g L h' (fun y => if y = Str.ofString "kind" then some (.int (x.fmod 6) t1) else if y = Str.ofString "octet" then some (.int ((x.fdiv 6).fmod 256) t2) else if y = Str.ofString "x" then some (.int x t) else u y) → News g L h' news →
      wpAny (model prog w) (callerA.deeper (envX cn lawScope L fa ccd [(Str.ofString "p", L + 1)])) (execs [if1] (envX cn lawScope L fa ccd [(Str.ofString "p", L + 1)])) qk ek { s with heap := h', toks := tk }) :
    wpAny (model prog w) (callerA.deeper (envX cn lawScope L fa ccd [(Str.ofString "p", L + 1)])) (execs turnBody (envX cn lawScope L fa ccd [(Str.ofString "p", L + 1)])) qk ek s := by
  generalize hr : ([if1] : List Stmt) = rest at h
  have e : turnBody = turnBody.getD 0 (.Pass ⟨0, 0, 0, 0⟩) :: rest := by rw [← hr]; rfl
  rw [e]
  clear e hr
  show wpAny _ _ (execs (Stmt.Assign _ _ _ :: rest) _) _ _ _
  repeat' (first | (k_unfold; (try dsimp only)) | (walk1; (try dsimp only)))
  rename Fr _ _ _ _ => F
  rename News _ _ _ _ => N
  exact h _ _ _ _ F (fun p hp => N p (.tail _ hp))

noncomputable abbrev turnMap (k o x : Int) (t1 t2 t : Tok) (O : Addr) (tks : Str) (tt : Tok) (u : Str → Option Value) : Str → Option Value := fun y =>
  if y = Str.ofString "kind" then some (.int k t1) else if y = Str.ofString "octet" then some (.int o t2) else if y = Str.ofString "x" then some (.int x t) else if y = Str.ofString "opened" then some (.ref O) else if y = Str.ofString "tokens" then some (.str tks tt) else u y
theorem len_u : (Str.ofString "u").length = 1 := by decide
local macro_rules | `(tactic| walk_at "binaryOp Add str str") => `(tactic| (k_here; (with_reducible show wpAny _ _ (binaryOp Operator.Add (Value.str _ _) (Value.str _ _)) _ _ _); (refine PySem.SB.add ?_ (hsz := fits24 (by simp only [len_app, len_paren, len_paren2, len_less, len_more, len_u]; omega))); intro _ _))
theorem ite_no {c : Prop} [Decidable c] {P Q : Prop} (h : ¬ c) (q : Q) : if c then P else Q := by rw [if_neg h]; exact q
theorem ite_yes {c : Prop} [Decidable c] {P Q : Prop} (h : c) (q : P) : if c then P else Q := by rw [if_pos h]; exact q
local macro_rules | `(tactic| walk_at "ite") => `(tactic| (k_here; first | refine ite_no (by (try simp only [decide_eq_true_eq, beq_iff_eq]); omega) ?_ | refine ite_yes (by (try simp only [decide_eq_true_eq, beq_iff_eq]); omega) ?_))
theorem news_two {g h : Heap} {L : Addr} {x y a b c d : Addr × Obj} {tl : List (Addr × Obj)} (N : News g L h (x :: y :: a :: b :: c :: d :: tl)) : News g L h (a :: b :: c :: d :: x :: y :: tl) :=
  List.forall_mem_cons.mpr ⟨N _ (.tail _ (.tail _ (.head _))), List.forall_mem_cons.mpr ⟨N _ (.tail _ (.tail _ (.tail _ (.head _)))), List.forall_mem_cons.mpr ⟨N _ (.tail _ (.tail _ (.tail _ (.tail _ (.head _))))), List.forall_mem_cons.mpr ⟨N _ (.tail _ (.tail _ (.tail _ (.tail _ (.tail _ (.head _)))))), List.forall_mem_cons.mpr ⟨N _ (.head _), List.forall_mem_cons.mpr ⟨N _ (.tail _ (.head _)), fun p hp => N p (.tail _ (.tail _ (.tail _ (.tail _ (.tail _ (.tail _ hp))))))⟩⟩⟩⟩⟩⟩
set_option maxHeartbeats 8000000 in
theorem turn_u {k o x : Int} {t1 t2 t tt : Tok} {O a c v : Addr} {tks sgn : Str} {u : Str → Option Value} {pre its vs : List Value} {nO n mm kk : Nat} {ts t3 : Tok} {os : List UInt8} {tl : List (Addr × Obj)}
    (Y : Amb w mean mg mb g) (B : Below callerA g [] g)
    (F : Fr g L s.heap (turnMap k o x t1 t2 t O tks tt u)) (N : News g L s.heap ([(O, listOf (pre ++ [Value.ref a]).toArray nO), (a, frObj sgn ts c v os t3 n), (c, listOf its.toArray mm), (v, listOf vs.toArray kk)] ++ tl))
    (n1 : @Ne Nat O a) (n2 : @Ne Nat O c) (n3 : @Ne Nat O v) (n7 : @Ne Nat a c) (n8 : @Ne Nat a v) (n12 : @Ne Nat c v)
    (u1 : ∀ p ∈ tl, p.1 ≠ O) (u2 : ∀ p ∈ tl, p.1 ≠ a) (u3 : ∀ p ∈ tl, p.1 ≠ c) (u4 : ∀ p ∈ tl, p.1 ≠ v)
    (hk1 : 2 < k) (hk2 : k < 5) (ho : 0 ≤ o) (ho2 : o < 256) (htk : tks.length ≤ 1000) (hpre : pre.length ≤ 1000) (hi2 : its.length ≤ 1000) (hv2 : vs.length ≤ 1000) (hos : os.length ≤ 1000)
    (h : ∀ d dd h' tk e1 e2 e3 t3' tt', Fr g L h' (fun y => if y = Str.ofString "tokens" then some (.str (tks ++ Str.ofString "u") tt') else turnMap k o x t1 t2 t O tks tt u y) →
      News g L h' ([(O, listOf (pre ++ [Value.ref a]).toArray nO), (a, frObj sgn ts c v (os ++ [o.toNat.toUInt8]) t3' n), (c, listOf (its ++ [Value.ref d]).toArray (mm + 1)), (v, listOf (vs ++ [Value.int o t2]).toArray (kk + 1))] ++ ((d, dObj dd (Str.ofString "") e3 1 e2 (Str.ofString "u") e1 46) :: (dd, dictOf [] 0) :: tl)) →
      @LT.lt Nat _ O dd → @LT.lt Nat _ a dd → @LT.lt Nat _ c dd → @LT.lt Nat _ v dd → (∀ p ∈ tl, p.1 < dd) → @LT.lt Nat _ dd d → qk .next { s with heap := h', toks := tk }) :
    wpAny (model prog w) (callerA.deeper (envX cn lawScope L fa ccd [(Str.ofString "p", L + 1)])) (execs [if1] (envX cn lawScope L fa ccd [(Str.ofString "p", L + 1)])) qk ek s := by
  have X := Y.X
  have T := Y.T
  simp only [List.cons_append, List.nil_append] at N
  have ofStop : ∀ {p : Prop}, p → Stop p := fun h => h
  show wpAny _ _ (execs (Stmt.If _ _ _ _ :: []) _) _ _ _
  repeat' (first | (k_unfold; (try dsimp only)) | (walk1; (try dsimp only)))
  rename Fr _ _ _ _ => F
  rename News _ _ _ _ => N
  refine ofStop ?_
  refine desc_use Y B F N rfl (by decide) (by decide) fun d dd h2 tk2 F2 N2 l1 l2 => ?_
  have N3 := news_two N2
  have q1 : @LT.lt Nat _ O dd := l1 _ (.head _)
  have q2 : @LT.lt Nat _ a dd := l1 _ (.tail _ (.head _))
  have q3 : @LT.lt Nat _ c dd := l1 _ (.tail _ (.tail _ (.head _)))
  have q4 : @LT.lt Nat _ v dd := l1 _ (.tail _ (.tail _ (.tail _ (.head _))))
  have q5 : ∀ p ∈ tl, p.1 < dd := fun p hp => l1 p (.tail _ (.tail _ (.tail _ (.tail _ hp))))
  clear F N N2 l1
  generalize hdo : dObj _ _ _ _ _ _ _ _ = dO at N3
  dsimp only at F2 N3 ⊢
  repeat' (first | (k_unfold; (try dsimp only)) | (walk1; (try dsimp only)))
  refine ofStop ?_
  rename Fr _ _ _ _ => F
  rename News _ _ _ _ => N
  have z6 : its.toArray.size ≤ sizeLine := by rw [List.size_toArray]; exact fits24 (by omega)
  refine append_K (its := its.toArray) (n := mm) (x := .ref d) F N (.tail (by k_ne) (.tail (by k_ne) (.head (by k_all)))) (fun h7 F7 N7 => ?_) z6
  rw [List.push_toArray] at N7
  clear F N
  dsimp only at F7 N7 ⊢
  repeat' (first | (k_unfold; (try dsimp only)) | (walk1; (try dsimp only)))
  refine ofStop ?_
  rename Fr _ _ _ _ => F
  rename News _ _ _ _ => N
  have z7 : vs.toArray.size ≤ sizeLine := by rw [List.size_toArray]; exact fits24 (by omega)
  refine append_K (its := vs.toArray) (n := kk) (x := .int o t2) F N (.tail (by k_ne) (.tail (by k_ne) (.tail (by k_ne) (.head (by k_all))))) (fun h8 F8 N8 => ?_) z7
  rw [List.push_toArray] at N8
  clear F N
  dsimp only at F8 N8 ⊢
  repeat' (first | (k_unfold; (try dsimp only)) | (walk1; (try dsimp only)))
  rename Fr _ _ _ _ => F
  rename News _ _ _ _ => N0
  have N : News g L _ _ := fun p hp => N0 p (.tail _ hp)
  clear N0
  repeat' (first | (k_unfold; (try dsimp only)) | (walk1; (try dsimp only)))
  rename Fr _ _ _ _ => F
  rename News _ _ _ _ => N
  subst hdo
  exact h d dd _ _ _ _ _ _ _ F N q1 q2 q3 q4 q5 l2
end
end Mine
end
theorem Mine.anewTurn : True ∧ True := by
  have h : True ∧ True := ⟨trivial, trivial⟩
  first | (walk1; done) | exact h
section
open PySem PySem.W PyProof.Rows PySem.Calls PySem.Spec
set_option maxHeartbeats 2000000
namespace Mine
local macro_rules | `(tactic| walk_at "subscriptTail") => `(tactic| (k_here; (with_reducible show wpAny _ _ (subscriptTail _ _ (Value.ref _) (Value.int _ _)) _ _ _); (rename News _ _ _ _ => kN'); (refine item_frN kN' (List.Mem.tail _ (List.Mem.head _)) (by decide) (by decide) (by rfl) ?_)))
local macro_rules | `(tactic| walk_at "subscriptTail") => `(tactic| (k_here; (with_reducible show wpAny _ _ (subscriptTail _ _ (Value.ref _) (Value.int (-1) _)) _ _ _); (rename News _ _ _ _ => kN'); (refine item_lastN kN' (List.Mem.head _) ?_)))
local macro_rules | `(tactic| k_all) => `(tactic| first | exact List.forall_mem_nil _ | with_reducible assumption | (refine List.forall_mem_cons.mpr ⟨?_, ?_⟩; (focus k_ne); k_all))
local macro_rules | `(tactic| walk_at "call ref") => `(tactic| (k_here; refine stop ?_))
local macro_rules | `(tactic| walk_at "call builtin:list.append") => `(tactic| (k_here; refine stop ?_))
local macro_rules | `(tactic| walk_at "binaryOp Add bytes bytes") => `(tactic| (k_here; (refine bytes_add_K (by simp only [List.size_toArray, List.length_cons, List.length_nil, List.length_append]; omega) rfl ?_); intro _ _))
section
variable {prog : Program} {w : World} {g : Heap} {s : Shared} {mean : ExcName → Option Value} {mg mb : Str → Option Value} {L : Addr} {m : Str → Option Value} {qk : Flow → Shared → Prop} {ek : Value → Shared → Prop} {cn : Str} {fa : Addr} {ccd : Value} {fr : List Env}
local macro_rules | `(tactic| walk_at "binaryOp Add str str") => `(tactic| (k_here; (with_reducible show wpAny _ _ (binaryOp Operator.Add (Value.str _ _) (Value.str _ _)) _ _ _); (refine PySem.SB.add ?_ (hsz := fits24 (by simp only [len_app, len_paren, len_paren2, len_less, len_more, len_u]; omega))); intro _ _))
local macro_rules | `(tactic| walk_at "ite") => `(tactic| (k_here; first | refine ite_no (by (try simp only [decide_eq_true_eq, beq_iff_eq]); omega) ?_ | refine ite_yes (by (try simp only [decide_eq_true_eq, beq_iff_eq]); omega) ?_))
theorem allLt_mem {d : Nat} : ∀ {l : List (Addr × Obj)}, AllLt d l → ∀ p ∈ l, p.1 < d
  | [], _, p, hp => nomatch hp
  | q :: r, h, p, hp => by
    rcases List.mem_cons.mp hp with rfl | hp
    · exact h.1
    · exact allLt_mem h.2 p hp
theorem sg_len (b : Bool) : (sg b).length = 1 := by cases b <;> decide
local macro_rules | `(tactic| walk_at "binaryOp Add str str") => `(tactic| (k_here; (with_reducible show wpAny _ _ (binaryOp Operator.Add (Value.str _ _) (Value.str _ _)) _ _ _); (refine PySem.SB.add ?_ (hsz := fits24 (by simp only [len_app, sg_len]; omega))); intro _ _))
noncomputable def openBody : List Stmt := thenOf if1
set_option maxHeartbeats 8000000 in
theorem open_sign {k o x : Int} {t1 t2 t tt : Tok} {O a c v : Addr} {tks : Str} {b0 : Bool} {u : Str → Option Value} {pre : List Value} {nO n : Nat} {ts t3 : Tok} {os : List UInt8} {tl : List (Addr × Obj)}
    (Y : Amb w mean mg mb g) (B : Below callerA g [] g)
    (F : Fr g L s.heap (turnMap k o x t1 t2 t O tks tt u)) (N : News g L s.heap ([(O, listOf (pre ++ [Value.ref a]).toArray nO), (a, frObj (sg b0) ts c v os t3 n)] ++ tl))
    (hk1 : k = 0 ∨ k = 1)
    (h : ∀ b h' tk tsg, (b0 = true → b = true) → Fr g L h' (fun y => if y = Str.ofString "sign" then some (.str (sg b) tsg) else turnMap k o x t1 t2 t O tks tt u y) → News g L h' ([(O, listOf (pre ++ [Value.ref a]).toArray nO), (a, frObj (sg b0) ts c v os t3 n)] ++ tl) →
      wpAny (model prog w) (callerA.deeper (envX cn lawScope L fa ccd [(Str.ofString "p", L + 1)])) (execs (openBody.drop 1) (envX cn lawScope L fa ccd [(Str.ofString "p", L + 1)])) qk ek { s with heap := h', toks := tk }) :
    wpAny (model prog w) (callerA.deeper (envX cn lawScope L fa ccd [(Str.ofString "p", L + 1)])) (execs openBody (envX cn lawScope L fa ccd [(Str.ofString "p", L + 1)])) qk ek s := by
  have X := Y.X
  have T := Y.T
  simp only [List.cons_append, List.nil_append] at N
  have e : openBody = openBody.getD 0 (.Pass ⟨0, 0, 0, 0⟩) :: openBody.drop 1 := rfl
  rw [e]
  generalize openBody.drop 1 = rest at h ⊢
  show wpAny _ _ (execs (Stmt.Assign _ _ _ :: rest) _) _ _ _
  rcases hk1 with rfl | rfl
  · cases b0 with
    | true =>
      unfold sg at N
      repeat' (first | (k_unfold; (try dsimp only)) | (walk1; (try dsimp only)))
      rename Fr _ _ _ _ => F
      rename News _ _ _ _ => N
      exact h true _ _ _ (fun _ => rfl) F N
    | false =>
      unfold sg at N
      repeat' (first | (k_unfold; (try dsimp only)) | (walk1; (try dsimp only)))
      rename Fr _ _ _ _ => F
      rename News _ _ _ _ => N
      exact h false _ _ _ (fun q => q) F N
  · repeat' (first | (k_unfold; (try dsimp only)) | (walk1; (try dsimp only)))
    rename Fr _ _ _ _ => F
    rename News _ _ _ _ => N
    exact h true _ _ _ (fun _ => rfl) F N
set_option maxHeartbeats 8000000 in
theorem open_rest {k o x : Int} {t1 t2 t tt tsg : Tok} {O a : Addr} {tks : Str} {b : Bool} {u : Str → Option Value} {pre : List Value} {nO : Nat} {tl : List (Addr × Obj)} {oa : Obj}
    (Y : Amb w mean mg mb g) (B : Below callerA g [] g)
    (F : Fr g L s.heap (fun y => if y = Str.ofString "sign" then some (.str (sg b) tsg) else turnMap k o x t1 t2 t O tks tt u y)) (N : News g L s.heap ([(O, listOf (pre ++ [Value.ref a]).toArray nO)] ++ tl))
    (u1 : ∀ p ∈ tl, p.1 ≠ O)
    (htk : tks.length ≤ 1000) (hpre : pre.length ≤ 1000)
    (h : ∀ a' c' v' h' tk t3' tt', Fr g L h' (fun y => if y = Str.ofString "tokens" then some (.str (tks ++ sg b) tt') else if y = Str.ofString "sign" then some (.str (sg b) tsg) else turnMap k o x t1 t2 t O tks tt u y) →
      News g L h' ([(O, listOf (pre ++ [Value.ref a] ++ [Value.ref a']).toArray (nO + 1)), (a', frObj (sg b) tsg c' v' [] t3' 0), (c', listOf #[] 0), (v', listOf #[] 0)] ++ tl) →
      @LT.lt Nat _ O c' → (∀ p ∈ tl, p.1 < c') → @LT.lt Nat _ c' v' → @LT.lt Nat _ v' a' → qk .next { s with heap := h', toks := tk }) :
    wpAny (model prog w) (callerA.deeper (envX cn lawScope L fa ccd [(Str.ofString "p", L + 1)])) (execs (openBody.drop 1) (envX cn lawScope L fa ccd [(Str.ofString "p", L + 1)])) qk ek s := by
  have X := Y.X
  have T := Y.T
  simp only [List.cons_append, List.nil_append] at N
  have ofStop : ∀ {p : Prop}, p → Stop p := fun h => h
  show wpAny _ _ (execs (Stmt.Expr _ _ :: Stmt.Assign _ _ _ :: []) _) _ _ _
  repeat' (first | (k_unfold; (try dsimp only)) | (walk1; (try dsimp only)))
  refine ofStop ?_
  rename Fr _ _ _ _ => F
  rename News _ _ _ _ => N
  rename_i c' _ l1 v' _ l2 a' _ l3
  have l4 := allLt_mem l1.2
  have l5 := allLt_mem l2.2.2
  have l6 := allLt_mem l3.2.2.2
  obtain ⟨l1, _⟩ := l1
  obtain ⟨l2, l2', _⟩ := l2
  obtain ⟨l3, l3', l3'', _⟩ := l3
  have z7 : (pre ++ [Value.ref a]).toArray.size ≤ sizeLine := by rw [List.size_toArray, List.length_append]; exact fits24 (by simp only [List.length_cons, List.length_nil]; omega)
  refine append_K (its := (pre ++ [Value.ref a]).toArray) (n := nO) (x := .ref a') F N (.tail (by k_ne) (.tail (by k_ne) (.tail (by k_ne) (.head (by k_all))))) (fun h8 F8 N8 => ?_) z7
  rw [List.push_toArray] at N8
  clear F N
  dsimp only at F8 N8 ⊢
  repeat' (first | (k_unfold; (try dsimp only)) | (walk1; (try dsimp only)))
  rename Fr _ _ _ _ => F
  rename News _ _ _ _ => N
  exact h a' c' v' _ _ _ _ F (List.forall_mem_cons.mpr ⟨N _ (.tail _ (.tail _ (.tail _ (.head _)))), List.forall_mem_cons.mpr ⟨N _ (.head _), List.forall_mem_cons.mpr ⟨N _ (.tail _ (.tail _ (.head _))), List.forall_mem_cons.mpr ⟨N _ (.tail _ (.head _)), fun p hp => N p (.tail _ (.tail _ (.tail _ (.tail _ hp))))⟩⟩⟩⟩) l1 l4 l2 l3
theorem if1_then {k o x : Int} {t1 t2 t tt : Tok} {O : Addr} {tks : Str} {u : Str → Option Value} {news : List (Addr × Obj)} (Y : Amb w mean mg mb g)
    (F : Fr g L s.heap (turnMap k o x t1 t2 t O tks tt u)) (N : News g L s.heap news) (hk : k < 2)
    (h : ∀ tk, wpAny (model prog w) (callerA.deeper (envX cn lawScope L fa ccd [(Str.ofString "p", L + 1)])) (execs openBody (envX cn lawScope L fa ccd [(Str.ofString "p", L + 1)])) qk ek { s with toks := tk }) : wpAny (model prog w) (callerA.deeper (envX cn lawScope L fa ccd [(Str.ofString "p", L + 1)])) (execs [if1] (envX cn lawScope L fa ccd [(Str.ofString "p", L + 1)])) qk ek s := by
  have X := Y.X
  have T := Y.T
  show wpAny _ _ (execs (Stmt.If _ openBody _ _ :: []) _) _ _ _
  generalize openBody = ob at h ⊢
  repeat' (first | (k_unfold; (try dsimp only)) | (walk1; (try dsimp only)))
  exact wpAny_mono (h _) (fun f s' hq => by cases f with | next => exact wpAny_execs_nil hq | _ => exact hq) (fun _ _ e => e)
theorem if1_none {k o x : Int} {t1 t2 t tt : Tok} {O a a2 : Addr} {tks : Str} {u : Str → Option Value} {tl : List (Addr × Obj)} {nO : Nat} (Y : Amb w mean mg mb g)
    (F : Fr g L s.heap (turnMap k o x t1 t2 t O tks tt u)) (N : News g L s.heap ((O, listOf [Value.ref a, Value.ref a2].toArray nO) :: tl)) (hk : k = 2)
    (h : ∀ tk, qk .next { s with toks := tk }) : wpAny (model prog w) (callerA.deeper (envX cn lawScope L fa ccd [(Str.ofString "p", L + 1)])) (execs [if1] (envX cn lawScope L fa ccd [(Str.ofString "p", L + 1)])) qk ek s := by
  have X := Y.X
  have T := Y.T
  show wpAny _ _ (execs (Stmt.If _ _ _ _ :: []) _) _ _ _
  repeat' (first | (k_unfold; (try dsimp only)) | (walk1; (try dsimp only)))
  exact h _
end
end Mine
end
theorem Mine.anewTurnO : True ∧ True := by
  have h : True ∧ True := ⟨trivial, trivial⟩
  first | (walk1; done) | exact h
section
open PySem PySem.W PyProof.Rows PySem.Calls PySem.Spec
set_option maxHeartbeats 2000000
namespace Mine
local macro_rules | `(tactic| walk_at "subscriptTail") => `(tactic| (k_here; (with_reducible show wpAny _ _ (subscriptTail _ _ (Value.ref _) (Value.int _ _)) _ _ _); (rename News _ _ _ _ => kN'); (refine item_frN kN' (List.Mem.tail _ (List.Mem.head _)) (by decide) (by decide) (by rfl) ?_)))
local macro_rules | `(tactic| walk_at "subscriptTail") => `(tactic| (k_here; (with_reducible show wpAny _ _ (subscriptTail _ _ (Value.ref _) (Value.int (-1) _)) _ _ _); (rename News _ _ _ _ => kN'); (refine item_lastN kN' (List.Mem.head _) ?_)))
local macro_rules | `(tactic| k_all) => `(tactic| first | exact List.forall_mem_nil _ | with_reducible assumption | (refine List.forall_mem_cons.mpr ⟨?_, ?_⟩; (focus k_ne); k_all))
local macro_rules | `(tactic| walk_at "call ref") => `(tactic| (k_here; refine stop ?_))
local macro_rules | `(tactic| walk_at "call builtin:list.append") => `(tactic| (k_here; refine stop ?_))
local macro_rules | `(tactic| walk_at "binaryOp Add bytes bytes") => `(tactic| (k_here; (refine bytes_add_K (by simp only [List.size_toArray, List.length_cons, List.length_nil, List.length_append]; omega) rfl ?_); intro _ _))
section
variable {prog : Program} {w : World} {g : Heap} {s : Shared} {mean : ExcName → Option Value} {mg mb : Str → Option Value} {L : Addr} {m : Str → Option Value} {qk : Flow → Shared → Prop} {ek : Value → Shared → Prop} {cn : Str} {fa : Addr} {ccd : Value} {fr : List Env}
local macro_rules | `(tactic| walk_at "ite") => `(tactic| (k_here; first | refine ite_no (by (try simp only [decide_eq_true_eq, beq_iff_eq]); omega) ?_ | refine ite_yes (by (try simp only [decide_eq_true_eq, beq_iff_eq]); omega) ?_))
theorem sgEnd_len (b : Bool) : (sgEnd b).length = 1 := by cases b <;> decide
local macro_rules | `(tactic| walk_at "binaryOp Add str str") => `(tactic| (k_here; (with_reducible show wpAny _ _ (binaryOp Operator.Add (Value.str _ _) (Value.str _ _)) _ _ _); (refine PySem.SB.add ?_ (hsz := fits24 (by simp only [len_app, sgEnd_len]; omega))); intro _ _))
theorem len_refs2 {A : Around} {Q : Value → Shared → Prop} {E : Value → Shared → Prop} {O : Addr} {nO : Nat} {f1 f2 : Fm} {r : List Fm} {rest : List (Addr × Obj)} (N : News g L s.heap ((O, listOf (refs (f1 :: f2 :: r)).toArray nO) :: rest)) (hb : r.length ≤ 1000)
    (h : Q (.int ((r.length + 2 : Nat) : Int) (s.toks + 1)) { s with toks := s.toks + 1 + 1 }) : wpAny (model prog w) A (call (.builtin "len") [.ref O]) Q E s := by
  have e : (refs (f1 :: f2 :: r)).toArray.size = r.length + 2 := by rw [List.size_toArray, refs_len]; rfl
  refine PyProof.Rows.len_list ⟨_, (N _ (.head _)).1, rfl, _, rfl⟩ ?_ ?_
  · rw [e]; omega
  · rw [e]; exact h
local macro_rules | `(tactic| walk_at "call builtin:len") => `(tactic| (k_here; (rename News _ _ _ _ => kN'); refine len_refs2 kN' (by omega) ?_))
theorem whole_sub {O : Addr} {oc : Obj} {nO : Nat} {ps : Array Value} {st : List Fm} {tl own : List (Addr × Obj)} {p : Addr × Obj} (hp : p ∈ whole L O oc nO ps st tl) : p ∈ whole L O oc nO ps st (own ++ tl) := by
  rcases List.mem_cons.mp hp with rfl | hp
  · exact .head _
  · rcases List.mem_append.mp hp with hp | hp
    · exact .tail _ (List.mem_append_left _ hp)
    · rcases List.mem_append.mp hp with hp | hp
      · exact .tail _ (List.mem_append_right _ (List.mem_append_left _ hp))
      · exact .tail _ (List.mem_append_right _ (List.mem_append_right _ (List.mem_append_right _ hp)))
theorem whole_own {O : Addr} {oc : Obj} {nO : Nat} {ps : Array Value} {st : List Fm} {tl own : List (Addr × Obj)} {p : Addr × Obj} (hp : p ∈ own) : p ∈ whole L O oc nO ps st (own ++ tl) :=
  .tail _ (List.mem_append_right _ (List.mem_append_right _ (List.mem_append_left _ hp)))
set_option maxHeartbeats 8000000 in
theorem turn_close {k o x : Int} {t1 t2 t tt : Tok} {O : Addr} {tks : Str} {u : Str → Option Value} {oc : Obj} {cv : Option Value} {nO : Nat} {ps : Array Value} {f1 f2 f3 : Fm} {r : List Fm} {tl own : List (Addr × Obj)} {b : Bool}
    (Y : Amb w mean mg mb g) (B : Below callerA g [] g)
    (F : Fr g L s.heap (turnMap k o x t1 t2 t O tks tt u)) (N : News g L s.heap (whole L O oc nO ps (f1 :: f2 :: f3 :: r) (own ++ tl))) (hno : ∀ p ∈ own, NoCode p.2 ∧ p.1 ∉ 88 :: O :: adrAll (f1 :: f2 :: f3 :: r))
    (hoc : oc.data = .cell cv) (hs : f1.s = some b) (hsd : b = true → nOk f1.cs) (be : Bears g ps (f1 :: f2 :: f3 :: r) tl) (ap : Apart L O (f1 :: f2 :: f3 :: r) tl) (htot : tot (f1 :: f2 :: f3 :: r) ≤ 100)
    (hk1 : k = 2) (htk : tks.length ≤ 1000)
    (h : ∀ f2' nO' ps' tl' h' tk tt', Fr g L h' (fun y => if y = Str.ofString "tokens" then some (.str (tks ++ sgEnd b) tt') else turnMap k o x t1 t2 t O tks tt u y) →
      News g L h' (own ++ whole L O oc nO' ps' (f2' :: f3 :: r) (tl' ++ tl)) → Bears g ps' (f2' :: f3 :: r) (tl' ++ tl) → Apart L O (f2' :: f3 :: r) (tl' ++ tl) →
      (∃ d v t2 n m k, f2' = f2.push (T.mk b f1.cs) d v t2 n m k) →
      (∀ q ∈ own, ∀ p ∈ tl', p.1 ≠ q.1) → qk .next { s with heap := h', toks := tk }) :
    wpAny (model prog w) (callerA.deeper (envX cn lawScope L fa ccd [(Str.ofString "p", L + 1)])) (execs [if1] (envX cn lawScope L fa ccd [(Str.ofString "p", L + 1)])) qk ek s := by
  have X := Y.X
  have T := Y.T
  have hr : r.length + 1 ≤ 100 := by
    have := len_le_tot (f1 :: f2 :: f3 :: r)
    simp only [List.length_cons] at this; omega
  have hr2 : (f3 :: r).length = r.length + 1 := rfl
  have ofStop : ∀ {p : Prop}, p → Stop p := fun h => h
  show wpAny _ _ (execs (Stmt.If _ _ _ _ :: []) _) _ _ _
  repeat' (first | (k_unfold; (try dsimp only)) | (walk1; (try dsimp only)))
  refine ofStop ?_
  rename Fr _ _ _ _ => F
  rename News _ _ _ _ => N
  refine' close_use ?y ?b ?f rfl rfl ?o ?s ?d ?n ?be ?ap (by decide) rfl ?t ?_
  case y => exact Y
  case b => exact B
  case f => exact F
  case o => exact hoc
  case s => exact hs
  case d => exact hsd
  case n => exact fun p hp => N p (whole_sub hp)
  case be => exact be
  case ap => exact ap
  case t => exact htot
  intro f2' nO' ps' tl' h' tk tk' F' N' be' ap' hf' hx
  dsimp only at hx ⊢
  have hx' : ∀ q ∈ own, h'.get? q.1 = some q.2 ∧ ∀ p ∈ tl', p.1 ≠ q.1 := fun q hq => hx q.1 q.2 (N q (whole_own hq)).1 (hno q hq).1 (hno q hq).2
  have N9 : News g L h' (own ++ whole L O oc nO' ps' (f2' :: f3 :: r) (tl' ++ tl)) := news_app (fun q hq => ⟨(hx' q hq).1, (N q (whole_own hq)).2⟩) N'
  clear F N N'
  repeat' (first | (k_unfold; (try dsimp only)) | (walk1; (try dsimp only)))
  rename Fr _ _ _ _ => F
  rename News _ _ _ _ => N
  exact h f2' nO' ps' tl' _ _ _ F N be' ap' hf' fun q hq => (hx' q hq).2
end
end Mine
end
theorem Mine.anewTurnC : True ∧ True := by
  have h : True ∧ True := ⟨trivial, trivial⟩
  first | (walk1; done) | exact h
section
open PySem PySem.W PyProof.Rows PySem.Calls PySem.Spec
set_option maxHeartbeats 2000000
namespace Mine
theorem fr_slots {g h h' : Heap} {L : Addr} {m : Str → Option Value} (F : Fr g L h m) (k : g.StaysIn h') (e : ∀ o, h.get? L = some o → ∃ sl, h'.get? L = some { o with slots := sl }) : Fr g L h' m := by
  obtain ⟨oL, es, ep, ho, r⟩ := F.ns
  obtain ⟨sl, e⟩ := e oL ho
  exact ⟨⟨{ oL with slots := sl }, es, ep, e, r⟩, k, F.above⟩
theorem fr_up {g h h' : Heap} {L : Addr} {m : Str → Option Value} (F : Fr g L h m) (k : h.UpToSlots h') : ∀ o, h.get? L = some o → ∃ sl, h'.get? L = some { o with slots := sl } := fun o ho => by
  obtain ⟨oL, es, ep, ho', hd, r⟩ := F.ns
  rw [ho] at ho'; cases ho'
  exact k L o ho fun vs q => by rw [hd] at q; cases q
section
variable {prog : Program} {w : World} {A : Around} {E : Value → Shared → Prop} {s' : Shared} {g h B : Heap} {outer : List Env} {L e : Addr} {m : Str → Option Value} {a0 : Value}
  {n : Str} {b₀ : Stmt} {suite : List Stmt} {pos np : Pos} {rest : List ExceptHandler} {Q : Flow → Shared → Prop} {news : List (Addr × Obj)}
  {mean : ExcName → Option Value} {mg mb : Str → Option Value} {x : Str} {X T' : String} {cn : Str} {cs : Scope} {fa : Addr} {ccd : Value} {cl : List (Str × Addr)}
/-- a clause without a name takes what flies -/
theorem catch_plain (Y : Amb w mean mg mb g) (hfr : A.frames = some (envX cn cs L fa ccd cl :: outer)) (F : Fr g L h m) (hLs : ∀ o, h.get? L = some o → ∃ sl, s'.heap.get? L = some { o with slots := sl })
    (hB : g.StaysIn B) (hl : ∀ q ∈ news, B.get? q.1 = some q.2 ∧ g.get? q.1 = none) (hfl : Heap.FlyingW B (envX cn cs L fa ccd cl :: outer) e (.type X) a0 s'.heap)
    (hx : nsIn (hd.heap_39 w.params) mainGlobals x = some none) (hv : bootBuiltins x = some (.type T')) (hn : x ≠ "__name__")
    (hexc : isSubtype (.type T') (.type "BaseException") = pure true) (hnt : isSubtype (.type ((Manifest.find? T').elim "type" fun y => y.metatype)) (.type "tuple") = pure false) (hsub : isSubtype (.type X) (.type T') = pure true)
    (k : ∀ h' E', Fr g L h' m → News g L h' news → wpAny (model prog w) (A.mark (some (.ref e))) (execs (b₀ :: suite) (envX cn cs L fa ccd cl)) Q E' { s' with heap := h' })
    (hk : cs.kind = .function) (hkx : (envX cn cs L fa ccd cl).kindOf x = some .globalImplicit) (hdb : (x == ("__debug__" : Str)) = false) :
    wpAny (model prog w) A (noteFrame (.ref e) (envX cn cs L fa ccd cl))
      (fun _ s₂ => wpAny (model prog w) A (setFlight (.ref e) none) (fun _ s₃ =>
        wpAny (model prog w) A (handleBy (.ref e) (envX cn cs L fa ccd cl) (.ExceptHandler (some (.Name x np)) none (b₀ :: suite) pos :: rest)) Q E s₃) E s₂) E s' := by
  have hL : B.get? L = none := by
    obtain ⟨_, ⟨L', _, hf, hn', _⟩, _⟩ := hfl.2.2.1
    obtain rfl : L = L' := Option.some.inj hf
    exact hn'
  have F' := fr_slots F (fun b o q => hfl.1 b o (hB b o q)) hLs
  refine wpAny_looks_onW hfr rfl hfl fun h₄ hheld₄ hsm₄ => ?_
  refine wpAny_landsW hheld₄ fun h₅ hheld hsm₅' => ?_
  have hsm₅ := hsm₄.trans hsm₅'
  have hheld' := flyingW_base hB hheld
  have F₅ := F'.of_stays hheld'.1 hsm₅
  obtain ⟨ob, hob, hobc⟩ := hheld'.there
  refine wpAny_handleBy_builtin (X := X) (T := T') (b := true) hexc hnt hsub (nameX_B F₅ Y.X (topRead_of Y.T) hx hv hn ⟨rfl, ⟨ob, hob, hobc⟩, ?_⟩ hk hkx hdb)
  refine lands_againW hheld fun h₆ hfl₆ hsm₆ => ?_
  exact k h₆ _ (F'.of_stays (flyingW_base hB hfl₆).1 (hsm₅.trans hsm₆)) fun q hq => ⟨hfl₆.1 _ _ (hl q hq).1, (fun z => by have := (hl q hq).1; rw [z, hL] at this; cases this), (hl q hq).2⟩
/-- a clause with a name; what flies is in the ledger then -/
theorem catch_as {t : Addr} {vs : List Value} (Y : Amb w mean mg mb g) (hfr : A.frames = some (envX cn cs L fa ccd cl :: outer)) (F : Fr g L h m) (hLs : ∀ o, h.get? L = some o → ∃ sl, s'.heap.get? L = some { o with slots := sl })
    (hB : g.StaysIn B) (hl : ∀ q ∈ news, B.get? q.1 = some q.2 ∧ g.get? q.1 = none) (hfl : Heap.FlyingW B (envX cn cs L fa ccd cl :: outer) e (.type X) (.ref t) s'.heap) (htup : s'.heap.TupAt t vs) (hnew : B.get? t = none)
    (hx : nsIn (hd.heap_39 w.params) mainGlobals x = some none) (hv : bootBuiltins x = some (.type T')) (hn : x ≠ "__name__")
    (hexc : isSubtype (.type T') (.type "BaseException") = pure true) (hnt : isSubtype (.type ((Manifest.find? T').elim "type" fun y => y.metatype)) (.type "tuple") = pure false) (hsub : isSubtype (.type X) (.type T') = pure true)
    (k : ∀ h' tk E' oe ot ws nt, Fr g L h' (fun y => if y = n then some (.ref e) else m y) → News g L h' ((e, oe) :: (t, ot) :: news) → oe.cls = .type X → oe.data = .fields ws → ws[0]? = some (.ref t) → ot.cls = .type "tuple" → ot.data = .seq vs.toArray nt → (∀ p ∈ news, p.1 ≠ e ∧ p.1 ≠ t) →
      wpAny (model prog w) (A.mark (some (.ref e))) (execs (b₀ :: suite) (envX cn cs L fa ccd cl))
        (fun f s₄ => wpAny (model prog w) A (do bindName (envX cn cs L fa ccd cl) n .none; unbindBehindTheSuite (envX cn cs L fa ccd cl) n pos) (fun _ s₅ => Q f s₅) E s₄) E' { s' with heap := h', toks := tk })
    (hk : cs.kind = .function) (hkx : (envX cn cs L fa ccd cl).kindOf x = some .globalImplicit) (hkn : (envX cn cs L fa ccd cl).kindOf n = some .local) (hdb : (x == ("__debug__" : Str)) = false) :
    wpAny (model prog w) A (noteFrame (.ref e) (envX cn cs L fa ccd cl))
      (fun _ s₂ => wpAny (model prog w) A (setFlight (.ref e) none) (fun _ s₃ =>
        wpAny (model prog w) A (handleBy (.ref e) (envX cn cs L fa ccd cl) (.ExceptHandler (some (.Name x np)) (some n) (b₀ :: suite) pos :: rest)) Q E s₃) E s₂) E s' := by
  have hL : B.get? L = none := by
    obtain ⟨_, ⟨L', _, hf, hn', _⟩, _⟩ := hfl.2.2.1
    obtain rfl : L = L' := Option.some.inj hf
    exact hn'
  have F' := fr_slots F (fun b o q => hfl.1 b o (hB b o q)) hLs
  refine wpAny_looks_onW hfr rfl hfl fun h₄ hheld₄ hsm₄ => ?_
  refine wpAny_landsW hheld₄ fun h₅ hheld hsm₅' => ?_
  have hsm₅ := hsm₄.trans hsm₅'
  have hheld' := flyingW_base hB hheld
  have F₅ := F'.of_stays hheld'.1 hsm₅
  obtain ⟨ob, hob, hobc⟩ := hheld'.there
  refine wpAny_handleBy_builtin_as (X := X) (T := T') (b := true) hexc hnt hsub (nameX_B F₅ Y.X (topRead_of Y.T) hx hv hn ⟨rfl, ⟨ob, hob, hobc⟩, ?_⟩ hk hkx hdb)
  refine lands_againW hheld fun h₆ hfl₆ hsm₆ => ?_
  have hfl₆' := flyingW_base hB hfl₆
  have F₆ := F'.of_stays hfl₆'.1 (hsm₅.trans hsm₆)
  obtain ⟨oe, ws, hoe, hoec, hoed, hoe0⟩ := hfl₆'.first
  obtain ⟨ot, nt, hot, hotc, hotd⟩ := (htup.of_slots hsm₅).of_slots hsm₆
  have N₆ := News.more F₆ (News.more F₆ News.nil hot (fun es n q => by rw [hotd] at q; cases q) (fresh_of_stays hB hnew)) hoe (fun es n q => by rw [hoed] at q; cases q) hfl₆'.2.1
  have Nl : News g L h₆ news := fun q hq => ⟨hfl₆.1 _ _ (hl q hq).1, (fun z => by have := (hl q hq).1; rw [z, hL] at this; cases this), (hl q hq).2⟩
  refine wpAny_storeName_local hkn F₆.ns (fun h₇ hn₇ hs₇ => ?_) (by rw [show (envX cn cs L fa ccd cl).scope = cs from rfl, hk]; rfl)
  have N₇ : News g L h₆ ((e, oe) :: (t, ot) :: news) := List.forall_mem_cons.mpr ⟨N₆ _ (.head _), List.forall_mem_cons.mpr ⟨N₆ _ (.tail _ (.head _)), Nl⟩⟩
  refine k h₇ _ _ oe ot ws nt (F₆.set hn₇ hs₇) (News.set N₇ hs₇) hoec hoed hoe0 hotc hotd fun p hp => ⟨fun q => ?_, fun q => ?_⟩
  · have := (hl p hp).1
    rw [q, hfl₆.2.1] at this; cases this
  · have := (hl p hp).1
    rw [q, hnew] at this; cases this
end
end Mine
end
theorem Mine.anewCatch : True ∧ True := by
  have h : True ∧ True := ⟨trivial, trivial⟩
  first | (walk1; done) | exact h
section
open PySem PySem.W PyProof.Rows PySem.Calls PySem.Spec
set_option maxHeartbeats 2000000
namespace Mine
local macro_rules | `(tactic| walk_at "subscriptTail") => `(tactic| (k_here; (with_reducible show wpAny _ _ (subscriptTail _ _ (Value.ref _) (Value.int _ _)) _ _ _); (rename News _ _ _ _ => kN'); (refine item_frN kN' (List.Mem.tail _ (List.Mem.head _)) (by decide) (by decide) (by rfl) ?_)))
local macro_rules | `(tactic| walk_at "subscriptTail") => `(tactic| (k_here; (with_reducible show wpAny _ _ (subscriptTail _ _ (Value.ref _) (Value.int (-1) _)) _ _ _); (rename News _ _ _ _ => kN'); (refine item_lastN kN' (List.Mem.head _) ?_)))
local macro_rules | `(tactic| walk_at "call builtin:list.append") => `(tactic| (k_here; refine stop ?_))
local macro_rules | `(tactic| walk_at "binaryOp Add bytes bytes") => `(tactic| (k_here; (refine bytes_add_K (by simp only [List.size_toArray, List.length_cons, List.length_nil, List.length_append]; omega) rfl ?_); intro _ _))
section
variable {prog : Program} {w : World} {g : Heap} {s : Shared} {mean : ExcName → Option Value} {mg mb : Str → Option Value} {L : Addr} {m : Str → Option Value} {qk : Flow → Shared → Prop} {ek : Value → Shared → Prop} {cn : Str} {fa : Addr} {ccd : Value} {fr : List Env}
local macro_rules | `(tactic| walk_at "ite") => `(tactic| (k_here; first | refine ite_no (by (try simp only [decide_eq_true_eq, beq_iff_eq]); omega) ?_ | refine ite_yes (by (try simp only [decide_eq_true_eq, beq_iff_eq]); omega) ?_))
local macro_rules | `(tactic| k_room) => `(tactic| ((try simp only [depth_mark, depth_under_make, depth_under_kw, depth_in1, depth_deeper, depth_caller]); omega))
local macro_rules | `(tactic| k_enter) => `(tactic| (refine' code_def ?k1 ?k2 ?k3 ?k4 ?k5 ?kA ?kF ?kK ?k6 ?k7 ?k8 ?k9 ?kB ?_ ?c2 ?c3 ?c4 ?c5; (case kA => assumption); (case kF => exact rfl); (case kK => first | exact rfl | assumption); (case k1 => k_asm); (case k2 => k_asm); (case k3 => k_asm); (case k4 => k_asm); (case k5 => k_asm); (case k6 => k_is); (case k7 => k_is); (case k8 => k_room); (case k9 => first | exact BindsTo.of_eq rfl | exact binds_K (by k_in) rfl (by k_is) rfl rfl rfl | fail "k_enter: no rule for these arguments"); (case c5 => decide); (case kB => exact locs rfl); (case c2 => exact rfl); (case c3 => exact rfl); (case c4 => exact rfl); k_whole; intro g' L' h' FG' F' N' B' X' T'; (try dsimp only); (try k_lift B'); (try k_fold)))
local macro_rules | `(tactic| k_all) => `(tactic| exact lt_ne (by assumption) (by omega))
local macro_rules | `(tactic| walk_at "ite") => `(tactic| (k_here; refine ite_no (fun q => Bool.false_ne_true ((by assumption : List.any _ _ = false).symm.trans q)) ?_))
local macro_rules | `(tactic| walk_at "exec Try") => `(tactic| (k_here; refine wpAny_Try_except ?_))
set_option maxHeartbeats 8000000 in
theorem turn_err {k o x : Int} {t1 t2 t tt : Tok} {O : Addr} {tks : Str} {u : Str → Option Value} {news : List (Addr × Obj)}
    (Y : Amb w mean mg mb g) (B : Below callerA g [] g)
    (F : Fr g L s.heap (turnMap k o x t1 t2 t O tks tt u)) (N : News g L s.heap news)
    (hk1 : k = 5)
    (h : ∀ h' tk, Fr g L h' (turnMap k o x t1 t2 t O tks tt u) → News g L h' news → qk .next { s with heap := h', toks := tk }) :
    wpAny (model prog w) (callerA.deeper (envX cn lawScope L fa ccd [(Str.ofString "p", L + 1)])) (execs [if1] (envX cn lawScope L fa ccd [(Str.ofString "p", L + 1)])) qk ek s := by
  have X := Y.X
  have T := Y.T
  have hx0 : (0 : Int) ≤ (if x < 0 then -x else x) := by split <;> omega
  have hany : ([-1, -2, -3, -4, -5].any fun z : Int => z == -6 - if x < 0 then -x else x) = false := by
    rw [List.any_eq_false]
    intro z hz q
    have q := eq_of_beq q
    simp only [List.mem_cons, List.not_mem_nil, or_false] at hz
    omega
  refine with_frames B fun hAf => ?_
  show wpAny _ _ (execs (Stmt.If _ _ _ _ :: []) _) _ _ _
  repeat' (first | (k_unfold; (try dsimp only)) | (walk1; (try dsimp only)))
  rename RaisedN _ _ _ _ _ _ => R
  rename Heap.UpToSlots _ _ => U
  rename Fr g L _ _ => FG
  obtain ⟨BB, a0, hB, hl, hfl⟩ := R
  unfold InitBack
  dsimp only
  refine catch_plain (news := news) Y hAf FG (fr_up FG U) hB (fun q hq => hl q (.tail _ (.tail _ (.tail _ hq)))) hfl (by k_is) PyProof.Rows.Boot.«AssertionError» (by decide) PySem.F.isExc_AssertionError PySem.F.notTuple_AssertionError (by rw [isSubtype_type]; kernel_rfl) (fun h9 E9 F9 N9 => ?_) rfl rfl (by decide)
  clear FG U
  repeat' (first | (k_unfold; (try dsimp only)) | (walk1; (try dsimp only)))
  exact h _ _ F9 N9
end
end Mine
end
theorem Mine.anewTurnE : True ∧ True := by
  have h : True ∧ True := ⟨trivial, trivial⟩
  first | (walk1; done) | exact h
section
open PySem PySem.W PyProof.Rows PySem.Calls PySem.Spec
set_option maxHeartbeats 2000000
namespace Mine
noncomputable abbrev restOf (L : Addr) (oc : Obj) (ps : Array Value) (r : List Fm) (tl : List (Addr × Obj)) : List (Addr × Obj) := ledAll r ++ ([(88, tabObj ps), (76, tabObj #[]), (L + 1, oc)] ++ tl)
section
variable {g h : Heap} {L O : Addr} {oc : Obj} {cv : Option Value} {nO : Nat} {ps : Array Value} {f : Fm} {r st : List Fm} {tl : List (Addr × Obj)}
theorem whole_top : whole L O oc nO ps (f :: r) tl = (O, listOf (refs r ++ [Value.ref f.a]).toArray nO) :: (f.led ++ restOf L oc ps r tl) := by
  unfold whole restOf
  rw [refs_cons, ledAll, List.append_assoc]
theorem open_list (N : News g L h (whole L O oc nO ps st tl)) : ∀ x ∈ O :: adrAll st, ∃ its n, h.get? x = some (listOf its n) ∧ x ≠ L ∧ g.get? x = none := fun x hx => by
  rcases List.mem_cons.mp hx with rfl | hx
  · have := N _ (.head _)
    exact ⟨_, _, this.1, this.2⟩
  · obtain ⟨o, ho⟩ := mem_led hx
    obtain ⟨its, n, e⟩ := ledAll_list _ _ ho
    have := N (x, o) (.tail _ (List.mem_append_left _ ho))
    dsimp only at e this
    rw [e] at this
    exact ⟨_, _, this.1, this.2⟩
theorem apart_top (hoc : oc.data = .cell cv) (N : News g L h (whole L O oc nO ps (f :: r) tl)) (ap : Apart L O (f :: r) tl) :
    ∀ x ∈ O :: f.adr, ∀ p ∈ restOf L oc ps r tl, p.1 ≠ x := fun x hx p hp q => by
  have hx' : x ∈ O :: adrAll (f :: r) := by
    rcases List.mem_cons.mp hx with rfl | hx
    · exact .head _
    · rw [adrAll]; exact .tail _ (List.mem_append_left _ hx)
  obtain ⟨its, n, e, _⟩ := open_list N x hx'
  have nd := ap.nd
  rw [adrAll, List.nodup_cons, List.nodup_append] at nd
  obtain ⟨d1, d2, d3, d4⟩ := nd
  have tail : ∀ y, y ∈ restOf L oc ps r tl → h.get? y.1 = some y.2 := fun y hy => (N y (by rw [whole_top]; exact .tail _ (List.mem_append_right _ hy))).1
  rcases List.mem_append.mp hp with hp | hp
  · have hm : p.1 ∈ adrAll r := by rw [← led_adr]; exact List.mem_map_of_mem hp
    rcases List.mem_cons.mp hx with rfl | hx
    · exact d1 (List.mem_append_right _ (q ▸ hm))
    · exact d4 x hx p.1 hm q.symm
  · rcases List.mem_append.mp hp with hp' | hp'
    · have ht := tail p (List.mem_append_right _ hp)
      rw [q, e] at ht
      simp only [List.mem_cons, List.not_mem_nil, or_false] at hp'
      rcases hp' with rfl | rfl | rfl
      · cases ht
      · cases ht
      · dsimp only at ht; cases ht; cases hoc
    · have := ap.off p hp'
      rw [q] at this
      exact this (.tail _ hx')
theorem nodup_top (ap : Apart L O (f :: r) tl) : @Ne Nat O f.a ∧ @Ne Nat O f.c ∧ @Ne Nat O f.v ∧ @Ne Nat f.a f.c ∧ @Ne Nat f.a f.v ∧ @Ne Nat f.c f.v := by
  have nd := ap.nd
  simp only [adrAll, Fm.adr, List.cons_append, List.nil_append, List.nodup_cons, List.mem_cons, not_or] at nd
  exact ⟨nd.1.1, nd.1.2.1, nd.1.2.2.1, nd.2.1.1, nd.2.1.2.1, nd.2.2.1.1⟩
theorem Bears.mono {tl' : List (Addr × Obj)} (b : Bears g ps st tl) (k : ∀ p ∈ tl, p ∈ tl') : Bears g ps st tl' :=
  ⟨fun h' hg hp => b.desc h' hg fun p hq => hp p (k p hq), fun h' hg hp => b.val h' hg fun p hq => hp p (k p hq), fun h' hg hp => b.tab h' hg fun p hq => hp p (k p hq)⟩
theorem whole_off {wr : List Addr} (h1 : ∀ x ∈ O :: adrAll st, x ∉ wr) (h2 : (88 : Addr) ∉ wr ∧ (76 : Addr) ∉ wr ∧ (L + 1 : Addr) ∉ wr) (h3 : ∀ p ∈ tl, p.1 ∉ wr) : ∀ p ∈ whole L O oc nO ps st tl, p.1 ∉ wr := fun p hp => by
  rcases List.mem_cons.mp hp with rfl | hp
  · exact h1 _ (.head _)
  · rcases List.mem_append.mp hp with hp | hp
    · exact h1 _ (.tail _ (by rw [← led_adr]; exact List.mem_map_of_mem hp))
    · rcases List.mem_append.mp hp with hp | hp
      · simp only [List.mem_cons, List.not_mem_nil, or_false] at hp
        rcases hp with rfl | rfl | rfl
        · exact h2.1
        · exact h2.2.1
        · exact h2.2.2
      · exact h3 p hp
theorem off_whole {wr : List Addr} (k : ∀ p ∈ whole L O oc nO ps st tl, p.1 ∉ wr) : (∀ x ∈ O :: adrAll st, x ∉ wr) ∧ ((88 : Addr) ∉ wr ∧ (76 : Addr) ∉ wr ∧ (L + 1 : Addr) ∉ wr) ∧ ∀ p ∈ tl, p.1 ∉ wr := by
  refine ⟨fun x hx => ?_, ⟨k (88, tabObj ps) ?_, k (76, tabObj #[]) ?_, k (L + 1, oc) ?_⟩, fun p hp => k p ?_⟩
  · rcases List.mem_cons.mp hx with rfl | hx
    · exact k _ (.head _)
    · obtain ⟨o, ho⟩ := mem_led hx
      exact k (x, o) (.tail _ (List.mem_append_left _ ho))
  · exact .tail _ (List.mem_append_right _ (by simp))
  · exact .tail _ (List.mem_append_right _ (by simp))
  · exact .tail _ (List.mem_append_right _ (by simp))
  · exact .tail _ (List.mem_append_right _ (List.mem_append_right _ hp))
theorem whole_move {own : List (Addr × Obj)} (N : News g L h (own ++ whole L O oc nO ps st tl)) : News g L h (whole L O oc nO ps st (own ++ tl)) := fun p hp => by
  rcases List.mem_cons.mp hp with rfl | hp
  · exact N _ (List.mem_append_right _ (.head _))
  · rcases List.mem_append.mp hp with hp | hp
    · exact N _ (List.mem_append_right _ (.tail _ (List.mem_append_left _ hp)))
    · rcases List.mem_append.mp hp with hp | hp
      · exact N _ (List.mem_append_right _ (.tail _ (List.mem_append_right _ (List.mem_append_left _ hp))))
      · rcases List.mem_append.mp hp with hp | hp
        · exact N _ (List.mem_append_left _ hp)
        · exact N _ (List.mem_append_right _ (.tail _ (List.mem_append_right _ (List.mem_append_right _ hp))))
theorem whole_back {own ex : List (Addr × Obj)} (N : News g L h (whole L O oc nO ps st (ex ++ (own ++ tl)))) : News g L h (own ++ whole L O oc nO ps st (ex ++ tl)) := fun p hp => by
  have inT : ∀ q ∈ ex ++ (own ++ tl), News g L h [q] := fun q hq p hp => by
    rw [List.mem_singleton.mp hp]; exact N q (.tail _ (List.mem_append_right _ (List.mem_append_right _ hq)))
  rcases List.mem_append.mp hp with hp | hp
  · exact inT p (List.mem_append_right _ (List.mem_append_left _ hp)) p (.head _)
  rcases List.mem_cons.mp hp with rfl | hp
  · exact N _ (.head _)
  · rcases List.mem_append.mp hp with hp | hp
    · exact N _ (.tail _ (List.mem_append_left _ hp))
    · rcases List.mem_append.mp hp with hp | hp
      · exact N _ (.tail _ (List.mem_append_right _ (List.mem_append_left _ hp)))
      · rcases List.mem_append.mp hp with hp | hp
        · exact inT p (List.mem_append_left _ hp) p (.head _)
        · exact inT p (List.mem_append_right _ (List.mem_append_right _ hp)) p (.head _)
end

/-- the last two: the whole one, and the bottom -/
noncomputable def RootOk (q : Prop) : List Fm → Prop
  | [] => False
  | [_] => False
  | [r, b] => r.s = some false ∧ b.s = none ∧ b.cs = [] ∧ (q → ∃ x cs, r.cs = .u x :: cs)
  | _ :: p :: o :: r => RootOk q (p :: o :: r)
theorem rootOk_mono {q q' : Prop} (h : q' → q) : ∀ {st : List Fm}, RootOk q st → RootOk q' st
  | [_, _], ⟨h1, h2, h3, h4⟩ => ⟨h1, h2, h3, fun z => h4 (h z)⟩
  | _ :: p :: o :: r, k => rootOk_mono (st := p :: o :: r) h k
theorem rootOk_push {q : Prop} {f : Fm} {t : T} {d v : Value} {t2 : Tok} {n m k : Nat} : ∀ {r : List Fm}, RootOk q (f :: r) → (r.length = 1 → q → f.cs ≠ []) → RootOk q (f.push t d v t2 n m k :: r)
  | [_], ⟨h1, h2, h3, h4⟩, hq => ⟨h1, h2, h3, fun z => by
      obtain ⟨x, cs, e⟩ := h4 z
      exact ⟨x, cs ++ [t], by show f.cs ++ [t] = _; rw [e]; rfl⟩⟩
  | _ :: _ :: _, h, _ => h
theorem rootOk_len {q : Prop} : ∀ {st : List Fm}, RootOk q st → 2 ≤ st.length
  | [_, _], _ => Nat.le_refl _
  | _ :: p :: o :: r, k => by have := rootOk_len (st := p :: o :: r) k; simp only [List.length_cons] at this ⊢; omega

/-- what stands between the turns -/
inductive JB (g : Heap) (L O : Addr) (oc : Obj) (NA : Addr) (need : List (Addr × Obj)) (i : Nat) (m : Str → Option Value) (news : List (Addr × Obj)) : Prop
  | mk (st : List Fm) (nO : Nat) (ps : Array Value) (tl : List (Addr × Obj)) (tt : Tok) (e : news = whole L O oc nO ps st tl) (be : Bears g ps st tl) (ap : Apart L O st tl) (hn : ∀ p ∈ need, p ∈ tl) (hs : Sound st) (ht : tot st ≤ i + 2) (hr : RootOk (0 < i) st)
    (m1 : m (Str.ofString "opened") = some (.ref O)) (m2 : m (Str.ofString "tokens") = some (.str (tok st) tt)) (m3 : m (Str.ofString "numbers") = some (.ref NA)) : JB g L O oc NA need i m news

theorem valU {N : Addr → Prop} {h : Heap} {o : Int} {t : Tok} (h0 : 0 ≤ o) (h1 : o < 256) : ValIn N h (.int o t) (T.u o.toNat.toUInt8).val := by
  have e : ((o.toNat.toUInt8.toNat : Nat) : Int) = o := byte_back h0 h1
  have := ValIn.int (N := N) (h := h) o.toNat.toUInt8.toNat t
  rw [e] at this
  exact this
theorem fmod_bounds (x : Int) : 0 ≤ x.fmod 6 ∧ x.fmod 6 < 6 := ⟨Int.fmod_nonneg_of_pos _ (by decide), Int.fmod_lt_of_pos _ (by decide)⟩
theorem fmod_bounds2 (x : Int) : 0 ≤ x.fmod 256 ∧ x.fmod 256 < 256 := ⟨Int.fmod_nonneg_of_pos _ (by decide), Int.fmod_lt_of_pos _ (by decide)⟩
end Mine
end
theorem Mine.anewLoop1 : True ∧ True := by
  have h : True ∧ True := ⟨trivial, trivial⟩
  first | (walk1; done) | exact h
section
open PySem PySem.W PyProof.Rows PySem.Calls PySem.Spec
set_option maxHeartbeats 2000000
namespace Mine
theorem restOf_cons {L : Addr} {oc : Obj} {ps : Array Value} {f : Fm} {r : List Fm} {tl : List (Addr × Obj)} : restOf L oc ps (f :: r) tl = f.led ++ restOf L oc ps r tl := by
  unfold restOf; rw [ledAll, List.append_assoc]
section
variable {prog : Program} {w : World} {g : Heap} {s : Shared} {mean : ExcName → Option Value} {mg mb : Str → Option Value} {L : Addr} {qk : Flow → Shared → Prop} {ek : Value → Shared → Prop} {cn : Str} {fa : Addr} {ccd : Value}
set_option maxHeartbeats 4000000 in
theorem law_turn {i : Nat} {x : Int} {t : Tok} {m₁ : Str → Option Value} {news₁ own need : List (Addr × Obj)} {wr : List Addr} {O NA : Addr} {oc : Obj} {cv : Option Value} (Y : Amb w mean mg mb g) (B : Below callerA g [] g) (hoc : oc.data = .cell cv)
    (hJ : JB g L O oc NA need i m₁ news₁) (hi : i ≤ 67) (h0 : i = 0 → x = 3) (hoff : ∀ p ∈ news₁, p.1 ∉ wr)
    (hown : ∀ p ∈ own, (p.1 ∈ wr ∨ p ∈ need) ∧ NoCode p.2) (hwr : ∀ z ∈ wr, ∃ o, (z, o) ∈ own)
    (F : Fr g L s.heap (fun y => if y = Str.ofString "x" then some (.int x t) else m₁ y)) (N : News g L s.heap (own ++ news₁))
    (h : ∀ m₂ news₂ h' tk, Fr g L h' m₂ → News g L h' (own ++ news₂) → (∀ p ∈ news₂, p.1 ∉ wr) → JB g L O oc NA need (i + 1) m₂ news₂ → qk .next { s with heap := h', toks := tk }) :
    wpAny (model prog w) (callerA.deeper (envX cn lawScope L fa ccd [(Str.ofString "p", L + 1)])) (execs turnBody (envX cn lawScope L fa ccd [(Str.ofString "p", L + 1)])) qk ek s := by
  obtain ⟨st, nO, ps, tl, tt, rfl, be, ap, hneed, hsd, htot, hro, m1, m2, m3⟩ := hJ
  obtain ⟨w1, w2, w3⟩ := off_whole hoff
  have be' : Bears g ps st (own ++ tl) := be.mono fun p hp => List.mem_append_right _ hp
  have ap' : Apart L O st (own ++ tl) := ⟨ap.nd, fun p hp q => by
    rcases List.mem_append.mp hp with hp | hp
    · rcases (hown p hp).1 with k | k
      · rcases List.mem_cons.mp q with q | q
        · rw [q] at k; exact w2.1 k
        · exact w1 _ q k
      · exact ap.off p (hneed p k) q
    · exact ap.off p hp q, fun p hp q => by
    rcases List.mem_append.mp hp with hp | hp
    · rcases (hown p hp).1 with k | k
      · rw [q] at k; exact w2.2.1 k
      · exact ap.o76 p (hneed p k) q
    · exact ap.o76 p hp q, fun p hp q => by
    rcases List.mem_append.mp hp with hp | hp
    · rcases (hown p hp).1 with k | k
      · rw [q] at k; exact w2.2.2 k
      · exact ap.oC p (hneed p k) q
    · exact ap.oC p hp q⟩
  refine turn_head Y.X Y.T F N fun h1 tk1 t1 t2 F1 N1 => ?_
  have em : (fun y => if y = Str.ofString "kind" then some (Value.int (x.fmod 6) t1) else if y = Str.ofString "octet" then some (Value.int ((x.fdiv 6).fmod 256) t2) else if y = Str.ofString "x" then some (Value.int x t) else m₁ y) = turnMap (x.fmod 6) ((x.fdiv 6).fmod 256) x t1 t2 t O (tok st) tt m₁ := by
    funext y
    unfold turnMap
    by_cases e1 : y = Str.ofString "kind"
    · rw [if_pos e1, if_pos e1]
    rw [if_neg e1, if_neg e1]
    by_cases e2 : y = Str.ofString "octet"
    · rw [if_pos e2, if_pos e2]
    rw [if_neg e2, if_neg e2]
    by_cases e3 : y = Str.ofString "x"
    · rw [if_pos e3, if_pos e3]
    rw [if_neg e3, if_neg e3]
    by_cases e4 : y = Str.ofString "opened"
    · rw [if_pos e4, e4]; exact m1
    rw [if_neg e4]
    by_cases e5 : y = Str.ofString "tokens"
    · rw [if_pos e5, e5]; exact m2
    rw [if_neg e5]
  rw [em] at F1
  clear em F N
  have N2 := whole_move N1
  have hk := fmod_bounds x
  have ho := fmod_bounds2 (x.fdiv 6)
  have hk0 : i = 0 → x.fmod 6 = 3 := fun e => by rw [h0 e]; rfl
  generalize x.fmod 6 = k at F1 hk hk0 ⊢
  generalize (x.fdiv 6).fmod 256 = o at F1 ho ⊢
  have hlen := rootOk_len hro
  have htl : (tok st).length ≤ 1000 := by have := tok_len st; omega
  have hsl : st.length ≤ 100 := by have := len_le_tot st; omega
  have hTl : ∀ p ∈ need, p ∈ tl := hneed
  -- the top
  obtain ⟨f, p, r, rfl⟩ : ∃ f p r, st = f :: p :: r := by
    match st, hlen with
    | f :: p :: r, _ => exact ⟨f, p, r, rfl⟩
  obtain ⟨⟨b0, hs, hs2, hs3⟩, hsd'⟩ : (∃ b, f.s = some b ∧ (b = true → nOk f.cs) ∧ (p.s = some true → b = true)) ∧ Sound (p :: r) := hsd
  have hprel : (refs (p :: r)).length ≤ 1000 := by rw [refs_len]; simp only [List.length_cons] at hsl ⊢; omega
  have N3 : News g L h1 ((O, listOf (refs (p :: r) ++ [Value.ref f.a]).toArray nO) :: (f.led ++ restOf L oc ps (p :: r) (own ++ tl))) := by rw [← whole_top]; exact N2
  have top := apart_top hoc N2 ap'
  obtain ⟨n1, n2, n3, n4, n5, n6⟩ := nodup_top ap'
  have htT : ∀ q ∈ own ++ tl, h1.get? q.1 = some q.2 := fun q hq => (N2 q (.tail _ (List.mem_append_right _ (List.mem_append_right _ hq)))).1
  have dl := (be'.desc h1 F1.keep htT f (.head _)).length
  have vl := (be'.val h1 F1.keep htT f (.head _)).length
  rw [valAll_len] at vl
  have z1 := len_le_sz f.cs
  have z2 := octAll_le f.cs
  have z3 : szAll f.cs + 1 ≤ tot (f :: p :: r) := by rw [tot]; omega
  by_cases hk2 : k < 2
  · -- a new one opens
    have hi0 : 0 < i := by
      rcases Nat.eq_zero_or_pos i with e | e
      · have := hk0 e; omega
      · exact e
    refine if1_then Y F1 N2 hk2 fun tk2 => ?_
    have N4 : News g L h1 ([(O, listOf (refs (p :: r) ++ [Value.ref f.a]).toArray nO), (f.a, frObj (sg b0) f.t1 f.c f.v (octAll f.cs) f.t2 f.n)] ++ ((f.c, listOf f.its.toArray f.m) :: (f.v, listOf f.vs.toArray f.k) :: restOf L oc ps (p :: r) (own ++ tl))) := by
      have := N3
      rw [Fm.led, hs] at this
      exact this
    refine open_sign (s := ⟨_, _, _, _, _⟩) Y B F1 N4 (by omega) fun b h2 tk2 tsg hb F2 N5 => ?_
    refine open_rest (s := ⟨_, _, _, _, _⟩) (tl := (f.a, frObj (sg b0) f.t1 f.c f.v (octAll f.cs) f.t2 f.n) :: (f.c, listOf f.its.toArray f.m) :: (f.v, listOf f.vs.toArray f.k) :: restOf L oc ps (p :: r) (own ++ tl)) (oa := frObj (sg b0) f.t1 f.c f.v (octAll f.cs) f.t2 f.n) Y B F2 N5 ?_ htl hprel fun a' c' v' h3 tk3 t3' tt' F3 N6 l1 l2 l3 l4 => ?_
    · exact List.forall_mem_cons.mpr ⟨Ne.symm n1, List.forall_mem_cons.mpr ⟨Ne.symm n2, List.forall_mem_cons.mpr ⟨Ne.symm n3, top O (.head _)⟩⟩⟩
    have fl : f.led = [(f.a, frObj (sg b0) f.t1 f.c f.v (octAll f.cs) f.t2 f.n), (f.c, listOf f.its.toArray f.m), (f.v, listOf f.vs.toArray f.k)] := by rw [Fm.led, hs]; rfl
    have N7 : News g L h3 (whole L O oc (nO + 1) ps (⟨some b, a', c', v', tsg, t3', 0, 0, 0, [], [], []⟩ :: f :: p :: r) (own ++ tl)) := by
      rw [whole_top, restOf_cons, refs_cons, fl]
      exact N6
    have ltT : ∀ z ∈ f.led ++ restOf L oc ps (p :: r) (own ++ tl), z.1 < c' := fun z hz => l2 z (by rw [Fm.led, hs] at hz; exact hz)
    have ltA : ∀ z ∈ O :: adrAll (f :: p :: r), z < c' := fun z hz => by
      rcases List.mem_cons.mp hz with rfl | hz
      · exact l1
      · obtain ⟨oo, hoo⟩ := mem_led hz
        refine ltT (z, oo) ?_
        rw [← restOf_cons]; exact List.mem_append_left _ hoo
    have ltTl : ∀ z ∈ own ++ tl, z.1 < c' := fun z hz => ltT z (List.mem_append_right _ (List.mem_append_right _ (List.mem_append_right _ hz)))
    have lt88 : @LT.lt Nat _ 88 c' := ltT (88, tabObj ps) (List.mem_append_right _ (List.mem_append_right _ (by simp)))
    have wrlt : ∀ z ∈ wr, z < c' := fun z hz => by
      obtain ⟨oo, hoo⟩ := hwr z hz
      exact ltTl (z, oo) (List.mem_append_left _ hoo)
    have l5 : @LT.lt Nat _ c' a' := Nat.lt_trans l3 l4
    refine h _ (whole L O oc (nO + 1) ps (⟨some b, a', c', v', tsg, t3', 0, 0, 0, [], [], []⟩ :: f :: p :: r) tl) h3 tk3 F3 (whole_back (ex := []) N7) (whole_off (fun z hz hzw => ?_) w2 w3) ⟨_, _, _, _, tt', rfl, ?_, ⟨?_, ?_, ap.o76, ap.oC⟩, hneed, ⟨⟨b, rfl, fun _ => rfl, fun q => hb (by rw [hs] at q; exact Option.some.inj q)⟩, ⟨b0, hs, hs2, hs3⟩, hsd'⟩, ?_, ?_, rfl, ?_, m3⟩
    · have hzc := wrlt z hzw
      simp only [adrAll, Fm.adr, List.cons_append, List.nil_append, List.mem_cons] at hz
      rcases hz with q | q | q | q | q
      · rw [q] at hzw; exact w1 O (.head _) hzw
      · rw [q] at hzc; exact absurd (Nat.lt_trans hzc l5) (Nat.lt_irrefl _)
      · rw [q] at hzc; exact absurd hzc (Nat.lt_irrefl _)
      · rw [q] at hzc; exact absurd (Nat.lt_trans hzc l3) (Nat.lt_irrefl _)
      · refine w1 z (List.mem_cons_of_mem _ ?_) hzw
        simp only [adrAll, Fm.adr, List.cons_append, List.nil_append, List.mem_cons]; exact q
    · refine ⟨fun h' hg hp f' hf' => ?_, fun h' hg hp f' hf' => ?_, be.tab⟩
      · rcases List.mem_cons.mp hf' with rfl | hf'
        · exact .nil
        · exact be.desc h' hg hp f' hf'
      · rcases List.mem_cons.mp hf' with rfl | hf'
        · exact .nil
        · exact be.val h' hg hp f' hf'
    · have nd := ap.nd
      have nO' : ∀ z : Addr, c' ≤ z → z ∉ O :: adrAll (f :: p :: r) := fun z hz q => absurd (Nat.lt_of_lt_of_le (ltA z q) hz) (Nat.lt_irrefl _)
      have k1 := nO' a' (Nat.le_of_lt l5)
      have k2 := nO' c' (Nat.le_refl _)
      have k3 := nO' v' (Nat.le_of_lt l3)
      rw [List.mem_cons, not_or] at k1 k2 k3
      rw [List.nodup_cons] at nd
      rw [adrAll]
      simp only [Fm.adr, List.cons_append, List.nil_append]
      refine List.nodup_cons.mpr ⟨fun q => ?_, List.nodup_cons.mpr ⟨fun q => ?_, List.nodup_cons.mpr ⟨fun q => ?_, List.nodup_cons.mpr ⟨k3.2, nd.2⟩⟩⟩⟩
      · rcases List.mem_cons.mp q with q | q
        · exact k1.1 q.symm
        rcases List.mem_cons.mp q with q | q
        · exact k2.1 q.symm
        rcases List.mem_cons.mp q with q | q
        · exact k3.1 q.symm
        · exact nd.1 q
      · rcases List.mem_cons.mp q with q | q
        · rw [q] at l5; exact absurd l5 (Nat.lt_irrefl _)
        rcases List.mem_cons.mp q with q | q
        · rw [q] at l4; exact absurd l4 (Nat.lt_irrefl _)
        · exact k1.2 q
      · rcases List.mem_cons.mp q with q | q
        · rw [q] at l3; exact absurd l3 (Nat.lt_irrefl _)
        · exact k2.2 q
    · intro z hz q
      have hzc := ltTl z (List.mem_append_right _ hz)
      have hzo := ap.off z hz
      rw [adrAll] at q
      simp only [Fm.adr, List.cons_append, List.nil_append] at q
      rcases List.mem_cons.mp q with q | q
      · exact hzo (by rw [q]; exact .head _)
      rcases List.mem_cons.mp q with q | q
      · exact hzo (by rw [q]; exact .tail _ (.head _))
      rcases List.mem_cons.mp q with q | q
      · rw [q] at hzc; exact absurd (Nat.lt_trans hzc l5) (Nat.lt_irrefl _)
      rcases List.mem_cons.mp q with q | q
      · rw [q] at hzc; exact absurd hzc (Nat.lt_irrefl _)
      rcases List.mem_cons.mp q with q | q
      · rw [q] at hzc; exact absurd (Nat.lt_trans hzc l3) (Nat.lt_irrefl _)
      · exact hzo (.tail _ (.tail _ q))
    · have : tot (⟨some b, a', c', v', tsg, t3', 0, 0, 0, [], [], []⟩ :: f :: p :: r) = 1 + tot (f :: p :: r) := by rw [tot]; show szAll [] + 1 + _ = _; rw [szAll]
      omega
    · exact rootOk_mono (q := 0 < i) (fun _ => hi0) hro
    · have : tok (⟨some b, a', c', v', tsg, t3', 0, 0, 0, [], [], []⟩ :: f :: p :: r) = tok (f :: p :: r) ++ sg b := by
        rw [tok]; show _ ++ sg b ++ nmAll [] = _; rw [nmAll, str_empty]
      rw [this]; rfl
  by_cases hk3 : k = 2
  · have hi0 : 0 < i := by
      rcases Nat.eq_zero_or_pos i with e | e
      · have := hk0 e; omega
      · exact e
    match r, hro, hsd', N2, N1, be', ap', htot, hsl, be, ap, w1 with
    | [], hro, hsd', N2, N1, be', ap', htot, hsl, be, ap, w1 =>
      have N4 : News g L h1 ((O, listOf [Value.ref p.a, Value.ref f.a].toArray nO) :: (ledAll [f, p] ++ ([(88, tabObj ps), (76, tabObj #[]), (L + 1, oc)] ++ (own ++ tl)))) := N2
      refine if1_none (s := ⟨_, _, _, _, _⟩) Y F1 N4 hk3 fun tk2 => ?_
      exact h _ _ h1 tk2 F1 N1 hoff ⟨_, _, _, _, _, rfl, be, ap, hneed, ⟨⟨b0, hs, hs2, hs3⟩, hsd'⟩, by omega, rootOk_mono (q := 0 < i) (fun _ => hi0) hro, rfl, rfl, m3⟩
    | q :: r, hro, hsd', N2, N1, be', ap', htot, hsl, be, ap, w1 =>
      refine turn_close (s := ⟨_, _, _, _, _⟩) Y B F1 N2 (fun z hz => ⟨(hown z hz).2, ap'.off z (List.mem_append_left _ hz)⟩) hoc hs hs2 be ap (by omega) hk3 htl fun f2' nO' ps' tl' h2 tk2 tt' F2 N4 be2 ap2 hf2 hx => ?_
      obtain ⟨d, v, e2, e3, e4, e5, rfl⟩ := hf2
      have adr' : adrAll (p.push (T.mk b0 f.cs) d v e2 e3 e4 e5 :: q :: r) = adrAll (p :: q :: r) := rfl
      have xw : ∀ z ∈ wr, ∀ y ∈ tl', y.1 ≠ z := fun z hz => by
        obtain ⟨oo, hoo⟩ := hwr z hz
        exact hx (z, oo) hoo
      refine h _ (whole L O oc nO' ps' (p.push (T.mk b0 f.cs) d v e2 e3 e4 e5 :: q :: r) (tl' ++ tl)) h2 tk2 F2 N4 (whole_off (fun z hz => w1 z ?_) w2 fun y hy hz => ?_) ⟨_, _, _, _, tt', rfl, be2, ap2, fun y hy => List.mem_append_right _ (hneed y hy), sound_close ⟨⟨b0, hs, hs2, hs3⟩, hsd'⟩ hs, ?_, ?_, rfl, ?_, m3⟩
      · rw [adr'] at hz
        rcases List.mem_cons.mp hz with rfl | hz
        · exact .head _
        · rw [adrAll]; exact .tail _ (List.mem_append_right _ hz)
      · rcases List.mem_append.mp hy with hy | hy
        · exact xw _ hz y hy rfl
        · exact w3 y hy hz
      · rw [tot_close]; omega
      · have h1' : RootOk (0 < i) (p :: q :: r) := hro
        refine rootOk_mono (q := 0 < i) (fun _ => hi0) (rootOk_push h1' fun e hq k => ?_)
        match r, e, h1' with
        | [], _, ⟨_, _, _, k4⟩ => obtain ⟨_, _, k5⟩ := k4 hq; rw [k5] at k; cases k
      · rw [tok_close hs]; rfl
  by_cases hk5 : k = 5
  · have hi0 : 0 < i := by
      rcases Nat.eq_zero_or_pos i with e | e
      · have := hk0 e; omega
      · exact e
    refine turn_err (s := ⟨_, _, _, _, _⟩) Y B F1 N1 hk5 fun h2 tk2 F2 N4 => ?_
    exact h _ _ h2 tk2 F2 N4 hoff ⟨_, _, _, _, _, rfl, be, ap, hneed, ⟨⟨b0, hs, hs2, hs3⟩, hsd'⟩, by omega, rootOk_mono (q := 0 < i) (fun _ => hi0) hro, rfl, rfl, m3⟩
  · refine turn_u (s := ⟨_, _, _, _, _⟩) Y B F1 N3 n1 n2 n3 n4 n5 n6 (top _ (.head _)) (top _ (.tail _ (.head _))) (top _ (.tail _ (.tail _ (.head _)))) (top _ (.tail _ (.tail _ (.tail _ (.head _))))) (by omega) (by omega) ho.1 ho.2 htl hprel (by omega) (by omega) (by omega) fun d dd h2 tk2 e1 e2 e3 t3' tt' F2 N4 l1 l2 l3 l4 l5 l6 => ?_
    have e : o.toNat.toUInt8 = o.toNat.toUInt8 := rfl
    obtain ⟨f', hf'⟩ : ∃ f' : Fm, f' = f.push (.u o.toNat.toUInt8) (.ref d) (.int o t2) t3' f.n (f.m + 1) (f.k + 1) := ⟨_, rfl⟩
    have hadr : adrAll (f' :: p :: r) = adrAll (f :: p :: r) := by rw [hf']; rfl
    have hfl : f'.led = [(f.a, frObj (sgo f.s) f.t1 f.c f.v (octAll f.cs ++ [o.toNat.toUInt8]) t3' f.n), (f.c, listOf (f.its ++ [Value.ref d]).toArray (f.m + 1)), (f.v, listOf (f.vs ++ [Value.int o t2]).toArray (f.k + 1))] := by
      rw [hf']
      show [(_, frObj _ _ _ _ (octAll (f.cs ++ [.u o.toNat.toUInt8])) _ _), _, _] = _
      rw [octAll_app, oct_one, T.oct]; rfl
    have N5 : News g L h2 (whole L O oc nO ps (f' :: p :: r) ([(d, dObj dd (Str.ofString "") e3 1 e2 (Str.ofString "u") e1 46), (dd, dictOf [] 0)] ++ (own ++ tl))) := by
      rw [whole_top, hfl, show f'.a = f.a by rw [hf']; rfl]
      have inN := N4
      intro z hz
      rcases List.mem_cons.mp hz with rfl | hz
      · exact N4 _ (.head _)
      rcases List.mem_append.mp hz with hz | hz
      · exact N4 z (List.mem_append_left _ (.tail _ hz))
      rcases List.mem_append.mp hz with hz | hz
      · exact N4 z (List.mem_append_right _ (.tail _ (.tail _ (List.mem_append_left _ hz))))
      rcases List.mem_append.mp hz with hz | hz
      · exact N4 z (List.mem_append_right _ (.tail _ (.tail _ (List.mem_append_right _ (List.mem_append_left _ hz)))))
      rcases List.mem_append.mp hz with hz | hz
      · rcases List.mem_cons.mp hz with rfl | hz
        · exact N4 _ (List.mem_append_right _ (.head _))
        · rw [List.mem_singleton.mp hz]; exact N4 _ (List.mem_append_right _ (.tail _ (.head _)))
      · exact N4 z (List.mem_append_right _ (.tail _ (.tail _ (List.mem_append_right _ (List.mem_append_right _ hz)))))
    have ltA : ∀ z ∈ 88 :: O :: adrAll (f :: p :: r), z < dd := fun z hz => by
      rcases List.mem_cons.mp hz with rfl | hz
      · exact l5 (88, tabObj ps) (List.mem_append_right _ (by simp))
      rcases List.mem_cons.mp hz with rfl | hz
      · exact l1
      rw [adrAll] at hz
      rcases List.mem_append.mp hz with hz | hz
      · simp only [Fm.adr, List.mem_cons, List.not_mem_nil, or_false] at hz
        rcases hz with rfl | rfl | rfl
        · exact l2
        · exact l3
        · exact l4
      · obtain ⟨oo, hoo⟩ := mem_led hz
        exact l5 (z, oo) (List.mem_append_left _ hoo)
    have ltO : ∀ z ∈ own ++ tl, z.1 < dd := fun z hz => l5 z (List.mem_append_right _ (List.mem_append_right _ hz))
    refine h _ (whole L O oc nO ps (f' :: p :: r) ([(d, dObj dd (Str.ofString "") e3 1 e2 (Str.ofString "u") e1 46), (dd, dictOf [] 0)] ++ tl)) h2 tk2 F2 (whole_back N5) (whole_off (by rw [hadr]; exact w1) w2 fun z hz hzw => ?_) ⟨_, _, _, _, tt', rfl, ⟨?_, ?_, fun h' hg hp => be.tab h' hg fun z hz => hp z (List.mem_append_right _ hz)⟩, ⟨by rw [hadr]; exact ap.nd, ?_, ?_, ?_⟩, fun z hz => List.mem_append_right _ (hneed z hz), by rw [hf']; exact sound_u ⟨⟨b0, hs, hs2, hs3⟩, hsd'⟩, by rw [hf', tot_u]; exact Nat.succ_le_succ htot, ?_, rfl, by rw [hf', tok_u]; rfl, m3⟩
    · rcases List.mem_append.mp hz with hz | hz
      · obtain ⟨oo, hoo⟩ := hwr _ hzw
        have := ltO _ (List.mem_append_left _ hoo)
        dsimp only at this
        rcases List.mem_cons.mp hz with rfl | hz
        · exact absurd (Nat.lt_trans this l6) (Nat.lt_irrefl _)
        · rw [List.mem_singleton.mp hz] at this; exact absurd this (Nat.lt_irrefl _)
      · exact w3 z hz hzw
    · intro h' hg hp f'' hf''
      have hpt : ∀ z ∈ tl, h'.get? z.1 = some z.2 := fun z hz => hp z (List.mem_append_right _ hz)
      rcases List.mem_cons.mp hf'' with rfl | hf''
      · rw [hf']
        exact (be.desc h' hg hpt f (.head _)).append (.cons (.mk (t := .u o.toNat.toUInt8) (hp (d, dObj dd (Str.ofString "") e3 1 e2 (Str.ofString "u") e1 46) (.head _)) (hp (dd, dictOf [] 0) (.tail _ (.head _))) .u) .nil)
      · exact be.desc h' hg hpt f'' (.tail _ hf'')
    · intro h' hg hp f'' hf''
      have hpt : ∀ z ∈ tl, h'.get? z.1 = some z.2 := fun z hz => hp z (List.mem_append_right _ hz)
      rcases List.mem_cons.mp hf'' with rfl | hf''
      · rw [hf']
        show ValAll _ h' (f.vs ++ [Value.int o t2]) (valAll (f.cs ++ [.u o.toNat.toUInt8]))
        rw [valAll_app, val_one]
        exact (be.val h' hg hpt f (.head _)).append (.cons (valU ho.1 ho.2) .nil)
      · exact be.val h' hg hpt f'' (.tail _ hf'')
    · intro z hz q
      rw [hadr] at q
      rcases List.mem_append.mp hz with hz | hz
      · have hq := ltA _ q
        rcases List.mem_cons.mp hz with rfl | hz
        · exact absurd (Nat.lt_trans hq l6) (Nat.lt_irrefl _)
        · rw [List.mem_singleton.mp hz] at hq; exact absurd hq (Nat.lt_irrefl _)
      · exact ap.off z hz q
    · intro z hz q
      have h76 : @LT.lt Nat _ 76 dd := l5 (76, tabObj #[]) (List.mem_append_right _ (by simp))
      rcases List.mem_append.mp hz with hz | hz
      · rcases List.mem_cons.mp hz with rfl | hz
        · dsimp only at q; rw [q] at l6; exact absurd (Nat.lt_trans h76 l6) (Nat.lt_irrefl _)
        · rw [List.mem_singleton.mp hz] at q; dsimp only at q; rw [q] at h76; exact absurd h76 (Nat.lt_irrefl _)
      · exact ap.o76 z hz q
    · intro z hz q
      have h76 : @LT.lt Nat _ (L + 1) dd := l5 (L + 1, oc) (List.mem_append_right _ (by simp))
      rcases List.mem_append.mp hz with hz | hz
      · rcases List.mem_cons.mp hz with rfl | hz
        · dsimp only at q; rw [q] at l6; exact absurd (Nat.lt_trans h76 l6) (Nat.lt_irrefl _)
        · rw [List.mem_singleton.mp hz] at q; dsimp only at q; rw [q] at h76; exact absurd h76 (Nat.lt_irrefl _)
      · exact ap.oC z hz q
    · rw [hf']
      by_cases hi0 : 0 < i
      · refine rootOk_mono (q := 0 < i) (fun _ => hi0) (rootOk_push hro fun e hq k => ?_)
        match r, e, hro with
        | [], _, ⟨_, _, _, k4⟩ => obtain ⟨_, _, k5⟩ := k4 hq; rw [k5] at k; cases k
      · -- the first turn
        have hi1 : i = 0 := by omega
        match r, hro, htot with
        | [], ⟨k1, k2, k3, _⟩, htot =>
          have hc : f.cs = [] := by
            have := len_le_sz f.cs
            rw [tot, tot, tot] at htot
            exact List.eq_nil_of_length_eq_zero (by omega)
          exact ⟨k1, k2, k3, fun _ => ⟨o.toNat.toUInt8, [], by show f.cs ++ _ = _; rw [hc]; rfl⟩⟩
        | q :: r, _, htot => rw [tot, tot, tot] at htot; omega
end
end Mine
end
theorem Mine.anewLoop1b : True ∧ True := by
  have h : True ∧ True := ⟨trivial, trivial⟩
  first | (walk1; done) | exact h
section
open PySem PySem.W PyProof.Rows PySem.Calls PySem.Spec
set_option maxHeartbeats 2000000
namespace Mine
theorem noCode_iter {h : Heap} {I l : Addr} {i : Nat} (x : h.IsListIter I l i) : ∀ o, h.get? I = some o → NoCode o := fun o e => by
  obtain ⟨o', ho', _, hd⟩ := x
  rw [e] at ho'; cases ho'
  intro vs q t e1 e2
  rw [hd] at e1; cases e1; cases e2
section
variable {prog : Program} {w : World} {g : Heap} {s : Shared} {mean : ExcName → Option Value} {mg mb : Str → Option Value} {L : Addr} {Q : Flow → Shared → Prop} {E : Value → Shared → Prop} {cn : Str} {fa : Addr} {ccd : Value} {m : Str → Option Value}
theorem loop1_at {vs : List Value} {ns : List Int} {news need : List (Addr × Obj)} {l O NA : Addr} {nl : Nat} {oc : Obj} {cv : Option Value} (Y : Amb w mean mg mb g) (B : Below callerA g [] g) (hoc : oc.data = .cell cv)
    (F : Fr g L s.heap m) (N : News g L s.heap news) (hJ : JB g L O oc NA need 0 m news) (hl : (l, listOf vs.toArray nl) ∈ need) (hi : IntsAre vs (3 :: ns)) (hlen : vs.length ≤ 67)
    (done : ∀ h' tk m' news', Fr g L h' m' → News g L h' news' → JB g L O oc NA need vs.length m' news' → Q .next { s with heap := h', toks := tk }) :
    wpAny (model prog w) (callerA.deeper (envX cn lawScope L fa ccd [(Str.ofString "p", L + 1)])) (pyIter (.ref l)) (fun it s₂ => LoopAtV prog w (callerA.deeper (envX cn lawScope L fa ccd [(Str.ofString "p", L + 1)])) g (envX cn lawScope L fa ccd [(Str.ofString "p", L + 1)]) (Str.ofString "x") turnBody Q E it s₂) E s := by
  have inNews : ∀ {i : Nat} {m' : Str → Option Value} {news' : List (Addr × Obj)}, JB g L O oc NA need i m' news' → (l, listOf vs.toArray nl) ∈ news' := fun k => by
    obtain ⟨st, nO, ps, tl, tt, rfl, _, _, hneed, _⟩ := k
    exact .tail _ (List.mem_append_right _ (List.mem_append_right _ (hneed _ hl)))
  have hln := N _ (inNews hJ)
  have hls : s.heap.IsList l vs.toArray := ⟨_, hln.1, rfl, nl, rfl⟩
  have hlt : l < s.heap.objs.size := Heap.lt_size hln.1
  have hne : l ≠ s.heap.objs.size := Nat.ne_of_lt hlt
  refine wpAny_pyIter_list hls ?_
  have W := Walks.list (prog := prog) (w := w) (A := callerA.deeper (envX cn lawScope L fa ccd [(Str.ofString "p", L + 1)])) rfl s.heap.objs.size l hne vs.toArray
  refine ⟨_, _, _, vs.toArray.size, _, _, m, news, JB g L O oc NA need, rfl, W, ?_, ?_, ?_, ⟨⟨_, Heap.get?_push_size _ rfl, rfl, rfl⟩, hls.at fun o e => Heap.get?_push_of_some _ e⟩, F.push _, (fun p hp => ⟨Heap.get?_push_of_some _ (N p hp).1, (N p hp).2⟩), hJ, ?_, ?_⟩
  · intro hm
    rcases List.mem_cons.mp hm with e | hm
    · exact absurd F.ns.lt (e ▸ Nat.lt_irrefl _)
    · exact hln.2.1 (List.mem_singleton.mp hm).symm
  · intro b hb
    rw [List.mem_singleton.mp hb]
    exact next_is_new F
  · intro p hp hI
    exact absurd (Heap.lt_size (N p hp).1) ((List.mem_singleton.mp hI) ▸ Nat.lt_irrefl _)
  · rintro i v m₁ news₁ s₁ own ⟨hh', tk', rfl⟩ hin hP hJ₁ hoff hown hget hall hst F₁ N₁
    have hP' : vs[i]? = some v := by simpa using hP
    have hiv : i < vs.length := by simpa using hin
    have hin' : i < (3 :: ns).length := by rw [← hi.length]; exact hiv
    obtain ⟨t, hx⟩ := hi.get i ((3 :: ns)[i]) (by simp [hin'])
    have hv : v = .int ((3 :: ns)[i]) t := by rw [hx] at hP'; exact (Option.some.inj hP').symm
    subst hv
    have hl1 := N₁ _ (List.mem_append_right _ (inNews hJ₁))
    have hit : hh'.IsListIter s.heap.objs.size l (i + 1) := hst.1
    refine law_turn (s := ⟨_, _, _, _, _⟩) (wr := [s.heap.objs.size]) (need := need) Y B hoc hJ₁ (by omega) (fun e => by subst e; rfl) hoff (fun p hp => ?_) (fun z hz => ?_) F₁ N₁ fun m₂ news₂ h₂ tk₂ F₂ N₂ hoff₂ hJ₂ => ?_
    · have hp1 := hget p hp
      rcases List.mem_cons.mp (hown p hp) with e | e
      · refine ⟨.inl (by rw [e]; exact .head _), ?_⟩
        rw [e] at hp1
        exact noCode_iter hit _ hp1
      · have e' := List.mem_singleton.mp e
        rw [e', hl1.1] at hp1
        have hp2 := Option.some.inj hp1
        refine ⟨.inr ?_, by rw [← hp2]; exact noCode_list⟩
        have : p = (l, listOf vs.toArray nl) := by
          obtain ⟨p1, p2⟩ := p
          dsimp only at e' hp2 ⊢
          rw [e', ← hp2]
        rw [this]; exact hl
    · rw [List.mem_singleton.mp hz]
      obtain ⟨o, ho, _⟩ := hit
      exact ⟨o, hall _ (.head _) (next_is_new F) o ho⟩
    · exact LoopStepV.next (LoopStepU.intro F₂ N₂ hoff₂ hJ₂)
  · intro h' tk m' news' F' N' _ hJ'
    have := done h' tk m' news' F' N' (by simpa using hJ')
    exact this
end
end Mine
end
theorem Mine.anewLoop1c : True ∧ True := by
  have h : True ∧ True := ⟨trivial, trivial⟩
  first | (walk1; done) | exact h
section
open PySem PySem.W PyProof.Rows PySem.Calls PySem.Spec
set_option maxHeartbeats 2000000
namespace Mine
local macro_rules | `(tactic| walk_at "binaryOp Add ref ref") => `(tactic| (k_here; refine stop ?_))
section
variable {prog : Program} {w : World} {g : Heap} {s : Shared} {mean : ExcName → Option Value} {mg mb : Str → Option Value} {L : Addr} {m : Str → Option Value} {qk : Flow → Shared → Prop} {ek : Value → Shared → Prop} {cn : Str} {fa : Addr} {ccd : Value}

theorem law_for1 {vs : List Value} {ns : List Int} {NA : Addr} {nn : Nat} {news : List (Addr × Obj)} {tt : Tok} {O : Addr} {u : Str → Option Value} (Y : Amb w mean mg mb g) (B : Below callerA g [] g)
    (F : Fr g L s.heap (fun y => if y = Str.ofString "tokens" then some (Value.str (Str.ofString "<") tt) else if y = Str.ofString "opened" then some (Value.ref O) else if y = Str.ofString "numbers" then some (Value.ref NA) else u y)) (N : News g L s.heap ((NA, listOf vs.toArray nn) :: news)) (hi : IntsAre vs ns) (hn : ns.length ≤ 60)
    (hE : PassesOwn (model prog w) (callerA.deeper (envX cn lawScope L fa ccd [(Str.ofString "p", L + 1)])) (envX cn lawScope L fa ccd [(Str.ofString "p", L + 1)]) ek)
    (h : ∀ l ws h' tk, Fr g L h' (fun y => if y = Str.ofString "tokens" then some (Value.str (Str.ofString "<") tt) else if y = Str.ofString "opened" then some (Value.ref O) else if y = Str.ofString "numbers" then some (Value.ref NA) else u y) → News g L h' ((l, listOf ws.toArray 0) :: (NA, listOf vs.toArray nn) :: news) → (∀ p ∈ (NA, listOf vs.toArray nn) :: news, p.1 < l) → IntsAre ws (3 :: 1 :: 3 :: 2 :: 0 :: 3 :: 2 :: ns) →
       wpAny (model prog w) (callerA.deeper (envX cn lawScope L fa ccd [(Str.ofString "p", L + 1)])) (pyIter (.ref l)) (fun it s₂ => LoopAtV prog w (callerA.deeper (envX cn lawScope L fa ccd [(Str.ofString "p", L + 1)])) g (envX cn lawScope L fa ccd [(Str.ofString "p", L + 1)]) (Str.ofString "x") turnBody qk ek it s₂) ek { s with heap := h', toks := tk }) :
    wpAny (model prog w) (callerA.deeper (envX cn lawScope L fa ccd [(Str.ofString "p", L + 1)])) (exec (lawBody.getD 3 (.Pass ⟨0, 0, 0, 0⟩)) (envX cn lawScope L fa ccd [(Str.ofString "p", L + 1)])) qk ek s := by
  have X := Y.X
  have T := Y.T
  refine For_invV (x := Str.ofString "x") (body := turnBody) g rfl rfl ?_ (by intro _; rfl) hE
  generalize hq : (fun xv s₁ => wpAny (model prog w) (callerA.deeper (envX cn lawScope L fa ccd [(Str.ofString "p", L + 1)])) (pyIter xv) (fun it s₂ => LoopAtV prog w (callerA.deeper (envX cn lawScope L fa ccd [(Str.ofString "p", L + 1)])) g (envX cn lawScope L fa ccd [(Str.ofString "p", L + 1)]) (Str.ofString "x") turnBody qk ek it s₂) ek s₁) = QQ
  show wpAny _ _ (eval (Expr.BinOp (Expr.List _ _) _ _ _) _) _ _ _
  repeat' (first | (k_unfold; (try dsimp only)) | (walk1; (try dsimp only)))
  have ofStop : ∀ {p : Prop}, p → Stop p := fun h => h
  refine ofStop ?_
  rename Fr _ _ _ _ => F
  rename News _ _ _ _ => N
  have lt := fun p hp => Heap.lt_size (N p hp).1
  refine add_lists_ints (vs := [.int 3 _, .int 1 _, .int 3 _, .int 2 _, .int 0 _, .int 3 _, .int 2 _]) F N ⟨_, (N _ (.tail _ (.head _))).1, rfl, _, rfl⟩ ⟨_, (N _ (.head _)).1, rfl, _, rfl⟩ (.cons _ _ (.cons _ _ (.cons _ _ (.cons _ _ (.cons _ _ (.cons _ _ (.cons _ _ .nil))))))) hi (fun h9 F9 N9 hI => ?_) (fits24 (by simp only [List.length_cons, List.length_nil]; omega))
  subst hq
  refine h _ _ h9 _ F9 (fun p hp => ?_) (fun p hp => lt p (.tail _ (.tail _ hp))) hI
  rcases List.mem_cons.mp hp with rfl | hp
  · exact N9 _ (.head _)
  · exact N9 p (.tail _ (.tail _ (.tail _ hp)))
end
end Mine
end
theorem Mine.anewLawFor : True ∧ True := by
  have h : True ∧ True := ⟨trivial, trivial⟩
  first | (walk1; done) | exact h
section
open PySem PySem.W PyProof.Rows PySem.Calls PySem.Spec
set_option maxHeartbeats 2000000
namespace Mine
local macro_rules | `(tactic| walk_at "binaryOp Add ref ref") => `(tactic| (k_here; refine stop ?_))
section
variable {prog : Program} {w : World} {g : Heap} {s : Shared} {mean : ExcName → Option Value} {mg mb : Str → Option Value} {L : Addr} {m : Str → Option Value} {qk : Flow → Shared → Prop} {ek : Value → Shared → Prop} {cn : Str} {fa : Addr} {ccd : Value}
theorem tab_nil {h : Heap} : TabOk lamQual #[] h := ⟨trivial, fun pos cv e => by simp [codeAmong] at e⟩
set_option maxHeartbeats 8000000 in
theorem law_init {vs : List Value} {ns : List Int} {sa : Addr} {oc : Obj} {cv : Option Value} (Y : Amb w mean mg mb g) (B : Below callerA g [] g) (hoc : oc.data = .cell cv)
    (F : Fr g L s.heap (fun y => if y = Str.ofString "script" then some (.ref sa) else none)) (N : News g L s.heap [(L + 1, oc), (88, tabObj #[]), (76, tabObj #[])])
    (hl : g.IsList sa vs.toArray) (hi : IntsAre vs ns) (hn : ns.length ≤ 63) (e88 : 88 < L) (e76 : 76 < L) (hE : PassesOwn (model prog w) (callerA.deeper (envX cn lawScope L fa ccd [(Str.ofString "p", L + 1)])) (envX cn lawScope L fa ccd [(Str.ofString "p", L + 1)]) ek)
    (h : ∀ O NA nvs need i m' news' h' tk, Fr g L h' m' → News g L h' news' → JB g L O oc NA need i m' news' → (NA, listOf nvs.toArray 0) ∈ need → IntsAre nvs (ns.take 60) → 1 ≤ i → i ≤ 67 →
      wpAny (model prog w) (callerA.deeper (envX cn lawScope L fa ccd [(Str.ofString "p", L + 1)])) (execs (lawBody.drop 4) (envX cn lawScope L fa ccd [(Str.ofString "p", L + 1)])) qk ek { s with heap := h', toks := tk }) :
    wpAny (model prog w) (callerA.deeper (envX cn lawScope L fa ccd [(Str.ofString "p", L + 1)])) (execs lawBody (envX cn lawScope L fa ccd [(Str.ofString "p", L + 1)])) qk ek s := by
  have X := Y.X
  have T := Y.T
  have e : lawBody = lawBody.getD 0 (.Pass ⟨0, 0, 0, 0⟩) :: lawBody.getD 1 (.Pass ⟨0, 0, 0, 0⟩) :: lawBody.getD 2 (.Pass ⟨0, 0, 0, 0⟩) :: lawBody.getD 3 (.Pass ⟨0, 0, 0, 0⟩) :: lawBody.drop 4 := rfl
  rw [e]
  clear e
  generalize lawBody.drop 4 = rest4 at h ⊢
  generalize hr : lawBody.getD 3 (.Pass ⟨0, 0, 0, 0⟩) :: rest4 = rest
  show wpAny _ _ (execs (Stmt.Assign _ _ _ :: Stmt.Assign _ _ _ :: Stmt.Assign _ _ _ :: rest) _) _ _ _
  repeat' (first | (k_unfold; (try dsimp only)) | (walk1; (try dsimp only)))
  rename Fr _ _ _ _ => F
  rename News _ _ _ _ => N
  refine kmk_slice_ints (s := ⟨s.heap, s.gens, s.drawn, s.toks + 1, s.os⟩) F N (hl.at fun o e => F.keep _ o e) .none (.int _ _) hi (kmk_upto hi (by decide)) rfl (fun NA nvs h2 F2 N2 l1 hI _ _ => ?_) (by with_unfolding_all rfl) (by intro _; with_unfolding_all rfl) (kmk_sz hi (fits24 (by omega)))
  k_lt l1
  dsimp only
  clear F N
  repeat' (first | (k_unfold; (try dsimp only)) | (walk1; (try dsimp only)))
  rename_i h9 tk9 b6 _ k6 b5 _ k5 b4 _ k4 b3 _ k3 b2 _ k2 b1 _ k1 b0 _ k0 _ hF F N
  subst hr
  have hI' : IntsAre nvs (ns.take 60) := hI
  have hl60 : (ns.take 60).length ≤ 60 := by rw [List.length_take]; omega
  refine wpAny_execs_cons ?_
  have N1 : News g L hF ((NA, listOf nvs.toArray 0) :: [(b0, listOf #[Value.ref b4, Value.ref b1] 0), (b1, listOf #[Value.str (Str.ofString "<") (tk9 + 1 + 1), Value.ref b3, Value.ref b2, Value.bytes #[] (tk9 + 1 + 1 + 1)] 0), (b2, listOf #[] 0), (b3, listOf #[] 0),
      (b4, listOf #[Value.str (Str.ofString "") tk9, Value.ref b6, Value.ref b5, Value.bytes #[] (tk9 + 1)] 0), (b5, listOf #[] 0), (b6, listOf #[] 0), (L + 1, oc), (88, tabObj #[]), (76, tabObj #[])]) := fun p hp => by
    refine N p ?_
    simp only [List.mem_cons, List.not_mem_nil, or_false] at hp ⊢
    rcases hp with h | h | h | h | h | h | h | h | h | h | h <;> simp [h]
  refine law_for1 (s := ⟨_, _, _, _, _⟩) Y B F N1 hI' hl60 hE fun l ws h3 tk3 F3 N3 l3 hI3 => ?_
  have hwl : ws.length ≤ 67 := by rw [hI3.length]; simp only [List.length_cons]; omega
  have l4 := List.forall_mem_cons.mp l3
  obtain ⟨c0, l4⟩ := l4
  obtain ⟨c1, l4⟩ := List.forall_mem_cons.mp l4
  obtain ⟨c2, l4⟩ := List.forall_mem_cons.mp l4
  obtain ⟨c3, l4⟩ := List.forall_mem_cons.mp l4
  obtain ⟨c4, l4⟩ := List.forall_mem_cons.mp l4
  obtain ⟨c5, l4⟩ := List.forall_mem_cons.mp l4
  obtain ⟨c6, l4⟩ := List.forall_mem_cons.mp l4
  obtain ⟨c7, l4⟩ := List.forall_mem_cons.mp l4
  obtain ⟨c8, l4⟩ := List.forall_mem_cons.mp l4
  obtain ⟨c9, l4⟩ := List.forall_mem_cons.mp l4
  dsimp only at c0 c1 c2 c3 c4 c5 c6 c7 c8 c9
  replace c0 := ltN c0
  replace c1 := ltN c1
  replace c2 := ltN c2
  replace c3 := ltN c3
  replace c4 := ltN c4
  replace c5 := ltN c5
  replace c6 := ltN c6
  replace c7 := ltN c7
  replace c8 := ltN c8
  replace c9 := ltN c9
  have hJ : JB g L b0 oc NA [(l, listOf ws.toArray 0), (NA, listOf nvs.toArray 0)] 0 (fun y => if y = Str.ofString "tokens" then some (Value.str (Str.ofString "<") tk) else if y = Str.ofString "opened" then some (Value.ref b0) else if y = Str.ofString "numbers" then some (Value.ref NA) else if y = Str.ofString "script" then some (.ref sa) else none)
      (whole L b0 oc 0 #[] [⟨some false, b1, b3, b2, tk9 + 1 + 1, tk9 + 1 + 1 + 1, 0, 0, 0, [], [], []⟩, ⟨none, b4, b6, b5, tk9, tk9 + 1, 0, 0, 0, [], [], []⟩] [(l, listOf ws.toArray 0), (NA, listOf nvs.toArray 0)]) := by
    refine ⟨_, _, _, _, tk, rfl, ⟨fun _ _ _ f hf => ?_, fun _ _ _ f hf => ?_, fun _ _ _ => tab_nil⟩, ⟨?_, ?_, ?_, ?_⟩, fun p hp => hp, ⟨⟨false, rfl, (fun q => nomatch q), (fun q => nomatch q)⟩, rfl⟩, Nat.le_refl _, ⟨rfl, rfl, rfl, fun q => absurd q (Nat.lt_irrefl _)⟩, rfl, rfl, rfl⟩
    · simp only [List.mem_cons, List.not_mem_nil, or_false] at hf
      rcases hf with rfl | rfl <;> exact .nil
    · simp only [List.mem_cons, List.not_mem_nil, or_false] at hf
      rcases hf with rfl | rfl <;> exact .nil
    · show ([b0, b1, b3, b2, b4, b6, b5] : List Nat).Nodup
      simp only [List.nodup_cons, List.mem_cons, not_or, List.not_mem_nil, not_false_iff, and_true, List.nodup_nil]
      omega
    · intro p hp
      show p.1 ∉ ([88, b0, b1, b3, b2, b4, b6, b5] : List Nat)
      simp only [List.mem_cons, List.not_mem_nil, or_false] at hp
      simp only [List.mem_cons, not_or, List.not_mem_nil, not_false_iff, and_true]
      rcases hp with rfl | rfl
      · exact (show @Ne Nat l 88 ∧ @Ne Nat l b0 ∧ @Ne Nat l b1 ∧ @Ne Nat l b3 ∧ @Ne Nat l b2 ∧ @Ne Nat l b4 ∧ @Ne Nat l b6 ∧ @Ne Nat l b5 from by omega)
      · exact (show @Ne Nat NA 88 ∧ @Ne Nat NA b0 ∧ @Ne Nat NA b1 ∧ @Ne Nat NA b3 ∧ @Ne Nat NA b2 ∧ @Ne Nat NA b4 ∧ @Ne Nat NA b6 ∧ @Ne Nat NA b5 from by omega)
    · intro p hp
      simp only [List.mem_cons, List.not_mem_nil, or_false] at hp
      rcases hp with rfl | rfl
      · exact (show @Ne Nat l 76 from by omega)
      · exact (show @Ne Nat NA 76 from by omega)
    · intro p hp
      simp only [List.mem_cons, List.not_mem_nil, or_false] at hp
      rcases hp with rfl | rfl
      · exact (show @Ne Nat l (L + 1) from by omega)
      · exact (show @Ne Nat NA (L + 1) from by omega)
  refine loop1_at (s := ⟨_, _, _, _, _⟩) (news := whole L b0 oc 0 #[] [⟨some false, b1, b3, b2, tk9 + 1 + 1, tk9 + 1 + 1 + 1, 0, 0, 0, [], [], []⟩, ⟨none, b4, b6, b5, tk9, tk9 + 1, 0, 0, 0, [], [], []⟩] [(l, listOf ws.toArray 0), (NA, listOf nvs.toArray 0)]) Y B hoc F3 (fun p hp => N3 p ?_) hJ (.head _) hI3 hwl fun h5 tk5 m5 news5 F5 N5 hJ5 => ?_
  · simp only [whole, ledAll, Fm.led, List.cons_append, List.nil_append, List.append_nil, List.mem_cons, List.not_mem_nil, or_false] at hp ⊢
    rcases hp with h | h | h | h | h | h | h | h | h | h | h | h <;> simp [h, refs, octAll, sgo, sg]
  · exact h b0 NA nvs _ ws.length m5 news5 h5 tk5 F5 N5 hJ5 (.tail _ (.head _)) hI' (by rw [hI3.length]; simp only [List.length_cons]; omega) hwl
end
end Mine
end
theorem Mine.anewLawInit : True ∧ True := by
  have h : True ∧ True := ⟨trivial, trivial⟩
  first | (walk1; done) | exact h
section
open PySem PySem.W PyProof.Rows PySem.Calls PySem.Spec
set_option maxHeartbeats 2000000
namespace Mine
local macro_rules | `(tactic| walk_at "subscriptTail") => `(tactic| (k_here; (with_reducible show wpAny _ _ (subscriptTail _ _ (Value.ref _) (Value.int _ _)) _ _ _); (rename News _ _ _ _ => kN'); (refine item_frN kN' (List.Mem.tail _ (List.Mem.head _)) (by decide) (by decide) (by rfl) ?_)))
local macro_rules | `(tactic| walk_at "subscriptTail") => `(tactic| (k_here; (with_reducible show wpAny _ _ (subscriptTail _ _ (Value.ref _) (Value.int (-1) _)) _ _ _); (rename News _ _ _ _ => kN'); (refine item_lastN kN' (List.Mem.head _) ?_)))
local macro_rules | `(tactic| k_all) => `(tactic| first | exact List.forall_mem_nil _ | with_reducible assumption | (refine List.forall_mem_cons.mpr ⟨?_, ?_⟩; (focus k_ne); k_all))
local macro_rules | `(tactic| walk_at "call ref") => `(tactic| (k_here; refine stop ?_))
local macro_rules | `(tactic| walk_at "call builtin:list.append") => `(tactic| (k_here; refine stop ?_))
local macro_rules | `(tactic| walk_at "binaryOp Add bytes bytes") => `(tactic| (k_here; (refine bytes_add_K (by simp only [List.size_toArray, List.length_cons, List.length_nil, List.length_append]; omega) rfl ?_); intro _ _))
section
variable {prog : Program} {w : World} {g : Heap} {s : Shared} {mean : ExcName → Option Value} {mg mb : Str → Option Value} {L : Addr} {m : Str → Option Value} {qk : Flow → Shared → Prop} {ek : Value → Shared → Prop} {cn : Str} {fa : Addr} {ccd : Value} {fr : List Env}
local macro_rules | `(tactic| walk_at "ite") => `(tactic| (k_here; first | refine ite_no (by (try simp only [decide_eq_true_eq, beq_iff_eq]); omega) ?_ | refine ite_yes (by (try simp only [decide_eq_true_eq, beq_iff_eq]); omega) ?_))
local macro_rules | `(tactic| walk_at "binaryOp Add str str") => `(tactic| (k_here; (with_reducible show wpAny _ _ (binaryOp Operator.Add (Value.str _ _) (Value.str _ _)) _ _ _); (refine PySem.SB.add ?_ (hsz := fits24 (by simp only [len_app, sgEnd_len]; omega))); intro _ _))
local macro_rules | `(tactic| walk_at "call builtin:len") => `(tactic| (k_here; (rename News _ _ _ _ => kN'); refine len_refs2 kN' (by omega) ?_))
noncomputable def turnBody2 : List Stmt := forBody (lawBody.getD 4 (.Pass ⟨0, 0, 0, 0⟩))
noncomputable abbrev map2 (O : Addr) (tks : Str) (tt : Tok) (u : Str → Option Value) : Str → Option Value := fun y => if y = Str.ofString "opened" then some (.ref O) else if y = Str.ofString "tokens" then some (.str tks tt) else u y
theorem map2_of {O : Addr} {tks : Str} {tt : Tok} {u : Str → Option Value} (h1 : u (Str.ofString "opened") = some (.ref O)) (h2 : u (Str.ofString "tokens") = some (.str tks tt)) : u = map2 O tks tt u := by
  funext y
  unfold map2
  by_cases e1 : y = Str.ofString "opened"
  · rw [if_pos e1, e1]; exact h1
  rw [if_neg e1]
  by_cases e2 : y = Str.ofString "tokens"
  · rw [if_pos e2, e2]; exact h2
  rw [if_neg e2]
set_option maxHeartbeats 8000000 in
theorem close_stmt {tt : Tok} {O : Addr} {tks : Str} {u : Str → Option Value} {oc : Obj} {cv : Option Value} {nO : Nat} {ps : Array Value} {f1 f2 : Fm} {r : List Fm} {tl own : List (Addr × Obj)} {b : Bool}
    (Y : Amb w mean mg mb g) (B : Below callerA g [] g)
    (F : Fr g L s.heap (map2 O tks tt u)) (N : News g L s.heap (whole L O oc nO ps (f1 :: f2 :: r) (own ++ tl))) (hno : ∀ p ∈ own, NoCode p.2 ∧ p.1 ∉ 88 :: O :: adrAll (f1 :: f2 :: r))
    (hoc : oc.data = .cell cv) (hs : f1.s = some b) (hsd : b = true → nOk f1.cs) (be : Bears g ps (f1 :: f2 :: r) tl) (ap : Apart L O (f1 :: f2 :: r) tl) (htot : tot (f1 :: f2 :: r) ≤ 100)
    (htk : tks.length ≤ 1000)
    (h : ∀ f2' nO' ps' tl' h' tk tt', Fr g L h' (fun y => if y = Str.ofString "tokens" then some (.str (tks ++ sgEnd b) tt') else map2 O tks tt u y) →
      News g L h' (own ++ whole L O oc nO' ps' (f2' :: r) (tl' ++ tl)) → Bears g ps' (f2' :: r) (tl' ++ tl) → Apart L O (f2' :: r) (tl' ++ tl) →
      (∃ d v t2 n m k, f2' = f2.push (T.mk b f1.cs) d v t2 n m k) →
      (∀ q ∈ own, ∀ p ∈ tl', p.1 ≠ q.1) → qk .next { s with heap := h', toks := tk }) :
    wpAny (model prog w) (callerA.deeper (envX cn lawScope L fa ccd [(Str.ofString "p", L + 1)])) (execs turnBody2 (envX cn lawScope L fa ccd [(Str.ofString "p", L + 1)])) qk ek s := by
  have X := Y.X
  have T := Y.T
  have ofStop : ∀ {p : Prop}, p → Stop p := fun h => h
  show wpAny _ _ (execs (Stmt.Assign _ _ _ :: []) _) _ _ _
  repeat' (first | (k_unfold; (try dsimp only)) | (walk1; (try dsimp only)))
  refine ofStop ?_
  rename Fr _ _ _ _ => F
  rename News _ _ _ _ => N
  refine' close_use ?y ?b ?f rfl rfl ?o ?s ?d ?n ?be ?ap (by decide) rfl ?t ?_
  case y => exact Y
  case b => exact B
  case f => exact F
  case o => exact hoc
  case s => exact hs
  case d => exact hsd
  case n => exact fun p hp => N p (whole_sub hp)
  case be => exact be
  case ap => exact ap
  case t => exact htot
  intro f2' nO' ps' tl' h' tk tk' F' N' be' ap' hf' hx
  try dsimp only at hx
  try dsimp only
  have hx' : ∀ q ∈ own, h'.get? q.1 = some q.2 ∧ ∀ p ∈ tl', p.1 ≠ q.1 := fun q hq => hx q.1 q.2 (N q (whole_own hq)).1 (hno q hq).1 (hno q hq).2
  have N9 : News g L h' (own ++ whole L O oc nO' ps' (f2' :: r) (tl' ++ tl)) := news_app (fun q hq => ⟨(hx' q hq).1, (N q (whole_own hq)).2⟩) N'
  clear F N N'
  repeat' (first | (k_unfold; (try dsimp only)) | (walk1; (try dsimp only)))
  rename Fr _ _ _ _ => F
  rename News _ _ _ _ => N
  exact h f2' nO' ps' tl' _ _ _ F N be' ap' hf' fun q hq => (hx' q hq).2

/-- the whole one is made, or lies last but one -/
noncomputable def RootFin (st : List Fm) : Prop := RootOk True st ∨ ∃ f x cs, st = [f] ∧ f.cs = [.c (.u x :: cs)]
inductive JC (g : Heap) (L O : Addr) (oc : Obj) (NA : Addr) (need : List (Addr × Obj)) (n : Nat) (i : Nat) (m : Str → Option Value) (news : List (Addr × Obj)) : Prop
  | mk (st : List Fm) (nO : Nat) (ps : Array Value) (tl : List (Addr × Obj)) (tt : Tok) (e : news = whole L O oc nO ps st tl) (be : Bears g ps st tl) (ap : Apart L O st tl) (hn : ∀ p ∈ need, p ∈ tl) (hs : Sound st) (ht : tot st ≤ 69) (hr : RootFin st) (hl : st.length + i = n + 1)
    (m1 : m (Str.ofString "opened") = some (.ref O)) (m2 : m (Str.ofString "tokens") = some (.str (tok st) tt)) (m3 : m (Str.ofString "numbers") = some (.ref NA)) : JC g L O oc NA need n i m news
theorem jc_of {O NA : Addr} {oc : Obj} {need news : List (Addr × Obj)} {i : Nat} {m : Str → Option Value} (h : JB g L O oc NA need i m news) (h1 : 1 ≤ i) (h2 : i ≤ 67) : ∃ n, 1 ≤ n ∧ n ≤ 68 ∧ JC g L O oc NA need n 0 m news := by
  obtain ⟨st, nO, ps, tl, tt, e, be, ap, hn, hs, ht, hr, m1, m2, m3⟩ := h
  have := rootOk_len hr
  have := len_le_tot st
  exact ⟨st.length - 1, by omega, by omega, st, nO, ps, tl, tt, e, be, ap, hn, hs, by omega, .inl (rootOk_mono (fun _ => h1) hr), by omega, m1, m2, m3⟩
theorem law_turn2 {n i : Nat} {v : Value} {m₁ : Str → Option Value} {news₁ own need : List (Addr × Obj)} {wr : List Addr} {O NA : Addr} {oc : Obj} {cv : Option Value} (Y : Amb w mean mg mb g) (B : Below callerA g [] g) (hoc : oc.data = .cell cv)
    (hJ : JC g L O oc NA need n i m₁ news₁) (hi : i < n) (hoff : ∀ p ∈ news₁, p.1 ∉ wr)
    (hown : ∀ p ∈ own, p.1 ∈ wr ∧ NoCode p.2) (hwr : ∀ z ∈ wr, ∃ o, (z, o) ∈ own)
    (F : Fr g L s.heap (fun y => if y = Str.ofString "turn" then some v else m₁ y)) (N : News g L s.heap (own ++ news₁))
    (h : ∀ m₂ news₂ h' tk, Fr g L h' m₂ → News g L h' (own ++ news₂) → (∀ p ∈ news₂, p.1 ∉ wr) → JC g L O oc NA need n (i + 1) m₂ news₂ → qk .next { s with heap := h', toks := tk }) :
    wpAny (model prog w) (callerA.deeper (envX cn lawScope L fa ccd [(Str.ofString "p", L + 1)])) (execs turnBody2 (envX cn lawScope L fa ccd [(Str.ofString "p", L + 1)])) qk ek s := by
  obtain ⟨st, nO, ps, tl, tt, rfl, be, ap, hneed, hsd, htot, hro, hlen, m1, m2, m3⟩ := hJ
  obtain ⟨w1, w2, w3⟩ := off_whole hoff
  have hl2 : 2 ≤ st.length := by omega
  have hro' : RootOk True st := by
    rcases hro with h | ⟨f, x, cs, rfl, _⟩
    · exact h
    · simp at hl2
  obtain ⟨f, p, r, rfl⟩ : ∃ f p r, st = f :: p :: r := by
    match st, hl2 with
    | f :: p :: r, _ => exact ⟨f, p, r, rfl⟩
  obtain ⟨⟨b0, hs, hs2, hs3⟩, hsd'⟩ : (∃ b, f.s = some b ∧ (b = true → nOk f.cs) ∧ (p.s = some true → b = true)) ∧ Sound (p :: r) := hsd
  have N2 := whole_move N
  have ownOff : ∀ z ∈ own, z.1 ∉ 88 :: O :: adrAll (f :: p :: r) := fun z hz k => by
    have hw := (hown z hz).1
    rcases List.mem_cons.mp k with k | k
    · rw [k] at hw; exact w2.1 hw
    · exact w1 z.1 k hw
  have htl : (tok (f :: p :: r)).length ≤ 1000 := by have := tok_len (f :: p :: r); omega
  have em := map2_of (O := O) (tks := tok (f :: p :: r)) (tt := tt) (u := fun y => if y = Str.ofString "turn" then some v else m₁ y) m1 m2
  rw [em] at F
  refine close_stmt Y B F N2 (fun z hz => ⟨(hown z hz).2, ownOff z hz⟩) hoc hs hs2 be ap (by omega) htl fun f2' nO' ps' tl' h2 tk2 tt' F2 N4 be2 ap2 hf2 hx => ?_
  obtain ⟨d, v', e2, e3, e4, e5, rfl⟩ := hf2
  have adr' : adrAll (p.push (T.mk b0 f.cs) d v' e2 e3 e4 e5 :: r) = adrAll (p :: r) := rfl
  have xw : ∀ z ∈ wr, ∀ y ∈ tl', y.1 ≠ z := fun z hz => by
    obtain ⟨oo, hoo⟩ := hwr z hz
    exact hx (z, oo) hoo
  refine h _ (whole L O oc nO' ps' (p.push (T.mk b0 f.cs) d v' e2 e3 e4 e5 :: r) (tl' ++ tl)) h2 tk2 F2 N4 (whole_off (fun z hz => w1 z ?_) w2 fun y hy hz => ?_) ⟨_, _, _, _, tt', rfl, be2, ap2, fun y hy => List.mem_append_right _ (hneed y hy), sound_close ⟨⟨b0, hs, hs2, hs3⟩, hsd'⟩ hs, by rw [tot_close]; exact htot, ?_, ?_, rfl, by rw [tok_close hs]; rfl, m3⟩
  · rw [adr'] at hz
    rcases List.mem_cons.mp hz with rfl | hz
    · exact .head _
    · rw [adrAll]; exact .tail _ (List.mem_append_right _ hz)
  · rcases List.mem_append.mp hy with hy | hy
    · exact xw _ hz y hy rfl
    · exact w3 y hy hz
  · match r, hro' with
    | [], ⟨k1, k2, k3, k4⟩ =>
      obtain ⟨x, cs, k5⟩ := k4 trivial
      rw [hs] at k1
      have hb : b0 = false := Option.some.inj k1
      refine .inr ⟨_, x, cs, rfl, ?_⟩
      show p.cs ++ [T.mk b0 f.cs] = _
      rw [k3, hb, k5]; rfl
    | q :: r, hro' =>
      have h1' : RootOk True (p :: q :: r) := hro'
      refine .inl (rootOk_push h1' fun e hq k => ?_)
      match r, e, h1' with
      | [], _, ⟨_, _, _, k4⟩ => obtain ⟨_, _, k5⟩ := k4 hq; rw [k5] at k; cases k
  · simp only [List.length_cons] at hlen ⊢; omega
theorem noCode_riter {h : Heap} {I : Addr} {a b c : Int} (x : IsRangeIter h I a b c) : ∀ o, h.get? I = some o → NoCode o := fun o e => by
  have x' : h.get? I = some _ := x
  rw [e] at x'; cases x'
  intro vs q t e1 e2
  cases e1; cases e2
theorem loop2_at {m : Str → Option Value} {n : Nat} {news need : List (Addr × Obj)} {l O NA : Addr} {oc : Obj} {cv : Option Value} {t1 t2 t3 : Tok} (Y : Amb w mean mg mb g) (B : Below callerA g [] g) (hoc : oc.data = .cell cv)
    (F : Fr g L s.heap m) (N : News g L s.heap news) (hJ : JC g L O oc NA need n 0 m news) (hr : IsRange s.heap l 0 n 1 t1 t2 t3) (hn : n ≤ 68)
    (done : ∀ h' tk m' news', Fr g L h' m' → News g L h' news' → JC g L O oc NA need n n m' news' → qk .next { s with heap := h', toks := tk }) :
    wpAny (model prog w) (callerA.deeper (envX cn lawScope L fa ccd [(Str.ofString "p", L + 1)])) (pyIter (.ref l)) (fun it s₂ => LoopAtV prog w (callerA.deeper (envX cn lawScope L fa ccd [(Str.ofString "p", L + 1)])) g (envX cn lawScope L fa ccd [(Str.ofString "p", L + 1)]) (Str.ofString "turn") turnBody2 qk ek it s₂) ek s := by
  refine wpAny_pyIter_range hr (small_one (by omega) (by omega) (by omega) (by omega)) ?_
  have W := Walks.range (prog := prog) (w := w) (A := callerA.deeper (envX cn lawScope L fa ccd [(Str.ofString "p", L + 1)])) rfl s.heap.objs.size 0 1 n
  have hsz : Builtin.Range.rangeSize 0 (n : Int) 1 = ((n : Int) - ((0 : Nat) : Int)) := by
    rw [rangeSize_one]
    split <;> omega
  refine ⟨_, _, _, n, _, _, m, news, JC g L O oc NA need n, rfl, W, ?_, ?_, ?_, ?_, F.push _, (fun p hp => ⟨Heap.get?_push_of_some _ (N p hp).1, (N p hp).2⟩), hJ, ?_, ?_⟩
  · intro hm
    exact absurd F.ns.lt ((List.mem_singleton.mp hm) ▸ Nat.lt_irrefl _)
  · intro b hb
    rw [List.mem_singleton.mp hb]
    exact next_is_new F
  · intro p hp hI
    exact absurd (Heap.lt_size (N p hp).1) ((List.mem_singleton.mp hI) ▸ Nat.lt_irrefl _)
  · show IsRangeIter (s.heap.push _) _ _ _ _
    rw [hsz]
    exact Heap.get?_push_size _ rfl
  · rintro i v m₁ news₁ s₁ own ⟨hh', tk', rfl⟩ hin hP hJ₁ hoff hown hget hall hst F₁ N₁
    have hit : IsRangeIter hh' s.heap.objs.size _ _ _ := hst
    refine law_turn2 (s := ⟨_, _, _, _, _⟩) (wr := [s.heap.objs.size]) (need := need) Y B hoc hJ₁ hin hoff (fun p hp => ?_) (fun z hz => ?_) F₁ N₁ fun m₂ news₂ h₂ tk₂ F₂ N₂ hoff₂ hJ₂ => ?_
    · have hp1 := hget p hp
      have e := List.mem_singleton.mp (hown p hp)
      refine ⟨by rw [e]; exact .head _, ?_⟩
      rw [e] at hp1
      exact noCode_riter hit _ hp1
    · rw [List.mem_singleton.mp hz]
      exact ⟨_, hall _ (.head _) (next_is_new F) _ hit⟩
    · exact LoopStepV.next (LoopStepU.intro F₂ N₂ hoff₂ hJ₂)
  · intro h' tk m' news' F' N' _ hJ'
    exact done h' tk m' news' F' N' hJ'
local macro_rules | `(tactic| walk_at "call type:range") => `(tactic| (k_here; refine stop ?_))
set_option maxHeartbeats 8000000 in
theorem law_for2 {n : Nat} {news need : List (Addr × Obj)} {O NA : Addr} {oc : Obj} {cv : Option Value} (Y : Amb w mean mg mb g) (B : Below callerA g [] g) (hoc : oc.data = .cell cv)
    (F : Fr g L s.heap m) (N : News g L s.heap news) (hJ : JC g L O oc NA need n 0 m news) (h1 : 1 ≤ n) (h2 : n ≤ 68) (hE : PassesOwn (model prog w) (callerA.deeper (envX cn lawScope L fa ccd [(Str.ofString "p", L + 1)])) (envX cn lawScope L fa ccd [(Str.ofString "p", L + 1)]) ek)
    (h : ∀ h' tk m' news', Fr g L h' m' → News g L h' news' → JC g L O oc NA need n n m' news' → qk .next { s with heap := h', toks := tk }) :
    wpAny (model prog w) (callerA.deeper (envX cn lawScope L fa ccd [(Str.ofString "p", L + 1)])) (exec (lawBody.getD 4 (.Pass ⟨0, 0, 0, 0⟩)) (envX cn lawScope L fa ccd [(Str.ofString "p", L + 1)])) qk ek s := by
  have X := Y.X
  have T := Y.T
  obtain ⟨st, nO, ps, tl, tt, e, _, _, _, _, htot, _, hlen, m1, m2, m3⟩ := id hJ
  have ofStop : ∀ {p : Prop}, p → Stop p := fun h => h
  obtain ⟨f, p, r, rfl⟩ : ∃ f p r, st = f :: p :: r := by
    match st, hlen with
    | [], h => simp at h
    | [_], h => simp only [List.length_cons, List.length_nil] at h; omega
    | f :: p :: r, _ => exact ⟨f, p, r, rfl⟩
  have hrl : r.length + 1 = n := by simp only [List.length_cons] at hlen; omega
  refine For_invV (x := Str.ofString "turn") (body := turnBody2) g rfl rfl ?_ (by intro _; rfl) hE
  generalize hq : (fun xv s₁ => wpAny (model prog w) (callerA.deeper (envX cn lawScope L fa ccd [(Str.ofString "p", L + 1)])) (pyIter xv) (fun it s₂ => LoopAtV prog w (callerA.deeper (envX cn lawScope L fa ccd [(Str.ofString "p", L + 1)])) g (envX cn lawScope L fa ccd [(Str.ofString "p", L + 1)]) (Str.ofString "turn") turnBody2 qk ek it s₂) ek s₁) = QQ
  show wpAny _ _ (eval (Expr.Call (Expr.Name _ _) _ _ _) _) _ _ _
  have em := map2_of (O := O) m1 m2
  rw [em] at F
  rw [e] at N
  repeat' (first | (k_unfold; (try dsimp only)) | (walk1; (try dsimp only)))
  refine ofStop ?_
  rename Fr _ _ _ _ => F
  rename News _ _ _ _ => N
  rw [show (((r.length + 2 : Nat) : Int) - 1) = (n : Int) by omega]
  rw [← em] at F
  rw [← e] at N
  refine range1_rows F N fun h' tk u1 u2 u3 hR F' N' _ => ?_
  subst hq
  exact loop2_at (s := ⟨_, _, _, _, _⟩) Y B hoc F' N' hJ hR h2 h
end
end Mine
end
theorem Mine.anewLoop2 : True ∧ True := by
  have h : True ∧ True := ⟨trivial, trivial⟩
  first | (walk1; done) | exact h
section
open PySem PySem.W PyProof.Rows PySem.Calls PySem.Spec
set_option maxHeartbeats 2000000
namespace Mine
section
variable {prog : Program} {w : World} {g : Heap} {s : Shared} {mean : ExcName → Option Value} {mg mb : Str → Option Value} {L : Addr} {m : Str → Option Value} {qk : Flow → Shared → Prop} {ek : Value → Shared → Prop} {cn : Str} {fa : Addr} {ccd : Value}
noncomputable abbrev midMap (U : Addr) (e1 e2 e3 e4 : Tok) (da va : Addr) (os : List UInt8) (t2 : Tok) (u : Str → Option Value) : Str → Option Value := fun y =>
  if y = Str.ofString "units" then some (Value.ref U) else if y = Str.ofString "within" then some (Value.int 0 e4) else if y = Str.ofString "place" then some (Value.int 1 e3) else if y = Str.ofString "deepest" then some (Value.int 0 e2) else if y = Str.ofString "depth" then some (Value.int 0 e1)
  else if y = Str.ofString "root" then some (Value.ref da) else if y = Str.ofString "value" then some (Value.ref va) else if y = Str.ofString "octets" then some (Value.bytes os.toArray t2) else u y
set_option maxHeartbeats 8000000 in
theorem law_mid {O a c v da va : Addr} {nO n mm kk : Nat} {t1 t2 tt : Tok} {os : List UInt8} {tks : Str} {u : Str → Option Value} {tl : List (Addr × Obj)} (Y : Amb w mean mg mb g) (B : Below callerA g [] g)
    (F : Fr g L s.heap (map2 O tks tt u)) (N : News g L s.heap ([(O, listOf #[Value.ref a] nO), (a, frObj (Str.ofString "") t1 c v os t2 n), (c, listOf #[Value.ref da] mm), (v, listOf #[Value.ref va] kk)] ++ tl))
    (hos : os.length ≤ 1000)
    (h : ∀ U h' tk e1 e2 e3 e4, Fr g L h' (midMap U e1 e2 e3 e4 da va os t2 (map2 O tks tt u)) → News g L h' ((U, listOf #[] 0) :: tl) → (∀ p ∈ tl, p.1 < U) → wpAny (model prog w) (callerA.deeper (envX cn lawScope L fa ccd [(Str.ofString "p", L + 1)])) (execs (lawBody.drop 7) (envX cn lawScope L fa ccd [(Str.ofString "p", L + 1)])) qk ek { s with heap := h', toks := tk }) :
    wpAny (model prog w) (callerA.deeper (envX cn lawScope L fa ccd [(Str.ofString "p", L + 1)])) (execs (lawBody.drop 5) (envX cn lawScope L fa ccd [(Str.ofString "p", L + 1)])) qk ek s := by
  have X := Y.X
  have T := Y.T
  simp only [List.cons_append, List.nil_append] at N
  have e : lawBody.drop 5 = lawBody.getD 5 (.Pass ⟨0, 0, 0, 0⟩) :: lawBody.getD 6 (.Pass ⟨0, 0, 0, 0⟩) :: lawBody.drop 7 := rfl
  rw [e]
  clear e
  generalize lawBody.drop 7 = rest at h ⊢
  show wpAny _ _ (execs (Stmt.Assign _ _ _ :: Stmt.Assign _ _ _ :: rest) _) _ _ _
  repeat' (first | (k_unfold; (try dsimp only)) | (walk1; (try dsimp only)))
  rename Fr _ _ _ _ => F
  rename News _ _ _ _ => N
  rename_i U _ l1 _ _ _ _ _ _ _ _ _
  exact h U _ _ _ _ _ _ F (List.forall_mem_cons.mpr ⟨N _ (.tail _ (.head _)), fun p hp => N p (.tail _ (.tail _ (.tail _ (.tail _ (.tail _ (.tail _ (.tail _ hp)))))))⟩) (allLt_mem l1.2.2.2.2.2)
end
end Mine
end
theorem Mine.anewLawMid : True ∧ True := by
  have h : True ∧ True := ⟨trivial, trivial⟩
  first | (walk1; done) | exact h
section
open PySem PySem.W PyProof.Rows PySem.Calls PySem.Spec
set_option maxHeartbeats 2000000
namespace Mine
noncomputable def turnBody3 : List Stmt := forBody (lawBody.getD 7 (.Pass ⟨0, 0, 0, 0⟩))
noncomputable abbrev signMap (c : Nat) (ts : Tok) (st : TS) (t1 t2 t3 t4 : Tok) (U : Addr) (os : List UInt8) (to : Tok) (u : Str → Option Value) : Str → Option Value := fun y =>
  if y = Str.ofString "sign" then some (.str ⟨#[c]⟩ ts) else if y = Str.ofString "depth" then some (Value.int st.d t1) else if y = Str.ofString "deepest" then some (Value.int st.m t2) else if y = Str.ofString "place" then some (Value.int st.pl t3) else if y = Str.ofString "within" then some (Value.int st.w t4)
  else if y = Str.ofString "units" then some (Value.ref U) else if y = Str.ofString "octets" then some (Value.bytes os.toArray to) else u y
local macro_rules | `(tactic| walk_at "subscriptTail") => `(tactic| (k_here; (with_reducible show wpAny _ _ (subscriptTail _ _ (Value.ref _) (Value.int (-1) _)) _ _ _); (rename News _ _ _ _ => kN'); (refine item_lastN kN' (List.Mem.head _) ?_)))
local macro_rules | `(tactic| k_all) => `(tactic| first | exact List.forall_mem_nil _ | with_reducible assumption | (refine List.forall_mem_cons.mpr ⟨?_, ?_⟩; (focus k_ne); k_all))
local macro_rules | `(tactic| walk_at "call builtin:list.append") => `(tactic| (k_here; refine stop ?_))
local macro_rules | `(tactic| walk_at "ite") => `(tactic| (k_here; first | refine ite_no (by (try simp only [decide_eq_true_eq, beq_iff_eq]); omega) ?_ | refine ite_yes (by (try simp only [decide_eq_true_eq, beq_iff_eq]); omega) ?_))
theorem in_sign {prog : Program} {w : World} {A : Around} {E : Value → Shared → Prop} {s : Shared} {x y : Str} {t v : Tok} {b : Bool} {Q : Value → Shared → Prop} (e : (!(Builtin.Str.occurrences x y 0 x.length 1).isEmpty) = b) (h : Q (.bool b) s) : wpAny (model prog w) A (compareOp .In (.str y v) (.str x t)) Q E s :=
  PyProof.Rows.in_str (by rw [e]; exact h)
theorem eq_sign {prog : Program} {w : World} {A : Around} {E : Value → Shared → Prop} {s : Shared} {x y : Str} {t v : Tok} {b : Bool} {Q : Value → Shared → Prop} (e : (x == y) = b) (h : Q (.bool b) s) : wpAny (model prog w) A (compareOp .Eq (.str x t) (.str y v)) Q E s :=
  PyProof.Rows.eq_str (by rw [e]; exact h)
local macro_rules | `(tactic| walk_at "compareOp In str str") => `(tactic| (k_here; refine in_sign (by with_reducible assumption) ?_))
local macro_rules | `(tactic| walk_at "compareOp Eq str str") => `(tactic| (k_here; refine eq_sign (by with_reducible assumption) ?_))
theorem signMap_dm {c : Nat} {ts t1 t2 t3 t4 to t5 t6 : Tok} {st : TS} {U : Addr} {os : List UInt8} {u : Str → Option Value} {x z : Int} : (fun y => if y = Str.ofString "deepest" then some (Value.int z t6) else if y = Str.ofString "depth" then some (Value.int x t5) else signMap c ts st t1 t2 t3 t4 U os to u y) = signMap c ts { st with d := x, m := z } t5 t6 t3 t4 U os to u := by
  funext y
  by_cases qsign : y = Str.ofString "sign"
  · subst qsign; rfl
  by_cases qdepth : y = Str.ofString "depth"
  · subst qdepth; rfl
  by_cases qdeepest : y = Str.ofString "deepest"
  · subst qdeepest; rfl
  by_cases qplace : y = Str.ofString "place"
  · subst qplace; rfl
  by_cases qwithin : y = Str.ofString "within"
  · subst qwithin; rfl
  by_cases qunits : y = Str.ofString "units"
  · subst qunits; rfl
  by_cases qoctets : y = Str.ofString "octets"
  · subst qoctets; rfl
  simp only [signMap, if_neg qsign, if_neg qdepth, if_neg qdeepest, if_neg qplace, if_neg qwithin, if_neg qunits, if_neg qoctets]
theorem signMap_w {c : Nat} {ts t1 t2 t3 t4 to t5 : Tok} {st : TS} {U : Addr} {os : List UInt8} {u : Str → Option Value} {x : Int} : (fun y => if y = Str.ofString "within" then some (Value.int x t5) else signMap c ts st t1 t2 t3 t4 U os to u y) = signMap c ts { st with w := x } t1 t2 t3 t5 U os to u := by
  funext y
  by_cases qsign : y = Str.ofString "sign"
  · subst qsign; rfl
  by_cases qdepth : y = Str.ofString "depth"
  · subst qdepth; rfl
  by_cases qdeepest : y = Str.ofString "deepest"
  · subst qdeepest; rfl
  by_cases qplace : y = Str.ofString "place"
  · subst qplace; rfl
  by_cases qwithin : y = Str.ofString "within"
  · subst qwithin; rfl
  by_cases qunits : y = Str.ofString "units"
  · subst qunits; rfl
  by_cases qoctets : y = Str.ofString "octets"
  · subst qoctets; rfl
  simp only [signMap, if_neg qsign, if_neg qdepth, if_neg qdeepest, if_neg qplace, if_neg qwithin, if_neg qunits, if_neg qoctets]
theorem signMap_pl {c : Nat} {ts t1 t2 t3 t4 to t5 : Tok} {st : TS} {U : Addr} {os : List UInt8} {u : Str → Option Value} {x : Int} : (fun y => if y = Str.ofString "place" then some (Value.int x t5) else signMap c ts st t1 t2 t3 t4 U os to u y) = signMap c ts { st with pl := x } t1 t2 t5 t4 U os to u := by
  funext y
  by_cases qsign : y = Str.ofString "sign"
  · subst qsign; rfl
  by_cases qdepth : y = Str.ofString "depth"
  · subst qdepth; rfl
  by_cases qdeepest : y = Str.ofString "deepest"
  · subst qdeepest; rfl
  by_cases qplace : y = Str.ofString "place"
  · subst qplace; rfl
  by_cases qwithin : y = Str.ofString "within"
  · subst qwithin; rfl
  by_cases qunits : y = Str.ofString "units"
  · subst qunits; rfl
  by_cases qoctets : y = Str.ofString "octets"
  · subst qoctets; rfl
  simp only [signMap, if_neg qsign, if_neg qdepth, if_neg qdeepest, if_neg qplace, if_neg qwithin, if_neg qunits, if_neg qoctets]
/-- the five signs -/
noncomputable def Sgn (c : Nat) : Prop := c = 40 ∨ c = 41 ∨ c = 60 ∨ c = 62 ∨ c = 117
theorem sgn_up {c : Nat} (h : Sgn c) : (!(Builtin.Str.occurrences (Str.ofString "(<") ⟨#[c]⟩ 0 (Str.ofString "(<").length 1).isEmpty) = decide (c = 40 ∨ c = 60) := by
  rcases h with rfl | rfl | rfl | rfl | rfl <;> decide +kernel
theorem sgn_dn {c : Nat} (h : Sgn c) : (!(Builtin.Str.occurrences (Str.ofString ")>") ⟨#[c]⟩ 0 (Str.ofString ")>").length 1).isEmpty) = decide (c = 41 ∨ c = 62) := by
  rcases h with rfl | rfl | rfl | rfl | rfl <;> decide +kernel
theorem sgn_u {c : Nat} (h : Sgn c) : (!(Builtin.Str.occurrences (Str.ofString "u<") ⟨#[c]⟩ 0 (Str.ofString "u<").length 1).isEmpty) = TS.isU c := by
  rcases h with rfl | rfl | rfl | rfl | rfl <;> decide +kernel
theorem sgn_eu {c : Nat} (h : Sgn c) : ((⟨#[c]⟩ : Str) == Str.ofString "u") = decide (c = 117) := by
  rcases h with rfl | rfl | rfl | rfl | rfl <;> decide +kernel
theorem sgn_el {c : Nat} (h : Sgn c) : ((⟨#[c]⟩ : Str) == Str.ofString "<") = decide (c = 60) := by
  rcases h with rfl | rfl | rfl | rfl | rfl <;> decide +kernel
theorem sgn_em {c : Nat} (h : Sgn c) : ((⟨#[c]⟩ : Str) == Str.ofString ">") = decide (c = 62) := by
  rcases h with rfl | rfl | rfl | rfl | rfl <;> decide +kernel
section
variable {prog : Program} {w : World} {g : Heap} {s : Shared} {mean : ExcName → Option Value} {mg mb : Str → Option Value} {L : Addr} {m : Str → Option Value} {qk : Flow → Shared → Prop} {ek : Value → Shared → Prop} {cn : Str} {fa : Addr} {ccd : Value}
set_option maxHeartbeats 8000000 in
theorem turn3_a {c : Nat} {st : TS} {ts t1 t2 t3 t4 to : Tok} {U : Addr} {os : List UInt8} {u : Str → Option Value} {news : List (Addr × Obj)} (Y : Amb w mean mg mb g) (hc : Sgn c)
    (F : Fr g L s.heap (signMap c ts st t1 t2 t3 t4 U os to u)) (N : News g L s.heap news)
    (h : ∀ h' tk t1 t2, Fr g L h' (signMap c ts { st with d := st.d + TS.up c - TS.dn c, m := max st.m (st.d + TS.up c - TS.dn c) } t1 t2 t3 t4 U os to u) → News g L h' news → wpAny (model prog w) (callerA.deeper (envX cn lawScope L fa ccd [(Str.ofString "p", L + 1)])) (execs (turnBody3.drop 2) (envX cn lawScope L fa ccd [(Str.ofString "p", L + 1)])) qk ek { s with heap := h', toks := tk }) :
    wpAny (model prog w) (callerA.deeper (envX cn lawScope L fa ccd [(Str.ofString "p", L + 1)])) (execs turnBody3 (envX cn lawScope L fa ccd [(Str.ofString "p", L + 1)])) qk ek s := by
  have X := Y.X
  have T := Y.T
  have e1 := sgn_up hc
  have e2 := sgn_dn hc
  have e : turnBody3 = turnBody3.getD 0 (.Pass ⟨0, 0, 0, 0⟩) :: turnBody3.getD 1 (.Pass ⟨0, 0, 0, 0⟩) :: turnBody3.drop 2 := rfl
  rw [e]
  clear e
  generalize turnBody3.drop 2 = rest at h ⊢
  show wpAny _ _ (execs (Stmt.Assign _ _ _ :: Stmt.Assign _ _ _ :: rest) _) _ _ _
  repeat' (first | (k_unfold; (try dsimp only)) | (walk1; (try dsimp only)))
  rename Fr _ _ _ _ => F
  rename News _ _ _ _ => N
  rw [signMap_dm] at F
  have ed : ((st.d + if decide (c = 40 ∨ c = 60) = true then 1 else 0) - if decide (c = 41 ∨ c = 62) = true then 1 else 0) = st.d + TS.up c - TS.dn c := by
    unfold TS.up TS.dn; simp only [decide_eq_true_eq]
  rw [ed] at F
  have em : (if st.d + TS.up c - TS.dn c > st.m then st.d + TS.up c - TS.dn c else st.m) = max st.m (st.d + TS.up c - TS.dn c) := by
    split <;> omega
  rw [em] at F
  exact h _ _ _ _ F N
set_option maxHeartbeats 8000000 in
theorem turn3_d {c : Nat} {st : TS} {ts t1 t2 t3 t4 to : Tok} {U : Addr} {os : List UInt8} {u : Str → Option Value} {news : List (Addr × Obj)} (Y : Amb w mean mg mb g) (hc : Sgn c)
    (F : Fr g L s.heap (signMap c ts st t1 t2 t3 t4 U os to u)) (N : News g L s.heap news)
    (h : ∀ h' tk t4, Fr g L h' (signMap c ts { st with w := st.w + (if c = 60 then 1 else 0) - (if c = 62 then 1 else 0) } t1 t2 t3 t4 U os to u) → News g L h' news → qk .next { s with heap := h', toks := tk }) :
    wpAny (model prog w) (callerA.deeper (envX cn lawScope L fa ccd [(Str.ofString "p", L + 1)])) (execs (turnBody3.drop 3) (envX cn lawScope L fa ccd [(Str.ofString "p", L + 1)])) qk ek s := by
  have X := Y.X
  have T := Y.T
  have e1 := sgn_el hc
  have e2 := sgn_em hc
  show wpAny _ _ (execs (Stmt.Assign _ _ _ :: []) _) _ _ _
  repeat' (first | (k_unfold; (try dsimp only)) | (walk1; (try dsimp only)))
  rename Fr _ _ _ _ => F
  rename News _ _ _ _ => N
  rw [signMap_w] at F
  have ed : ((st.w + if decide (c = 60) = true then 1 else 0) - if decide (c = 62) = true then 1 else 0) = st.w + (if c = 60 then 1 else 0) - (if c = 62 then 1 else 0) := by
    simp only [decide_eq_true_eq]
  rw [ed] at F
  exact h _ _ _ F N
set_option maxHeartbeats 8000000 in
theorem turn3_no {c : Nat} {st : TS} {ts t1 t2 t3 t4 to : Tok} {U : Addr} {os : List UInt8} {u : Str → Option Value} {news : List (Addr × Obj)} (Y : Amb w mean mg mb g) (hc : Sgn c)
    (F : Fr g L s.heap (signMap c ts st t1 t2 t3 t4 U os to u)) (N : News g L s.heap news) (hn : st.w = 0 → TS.isU c = false)
    (h : ∀ tk, wpAny (model prog w) (callerA.deeper (envX cn lawScope L fa ccd [(Str.ofString "p", L + 1)])) (execs (turnBody3.drop 3) (envX cn lawScope L fa ccd [(Str.ofString "p", L + 1)])) qk ek { s with toks := tk }) :
    wpAny (model prog w) (callerA.deeper (envX cn lawScope L fa ccd [(Str.ofString "p", L + 1)])) (execs (turnBody3.drop 2) (envX cn lawScope L fa ccd [(Str.ofString "p", L + 1)])) qk ek s := by
  have X := Y.X
  have T := Y.T
  have e : turnBody3.drop 2 = turnBody3.getD 2 (.Pass ⟨0, 0, 0, 0⟩) :: turnBody3.drop 3 := rfl
  rw [e]
  clear e
  generalize turnBody3.drop 3 = rest at h ⊢
  show wpAny _ _ (execs (Stmt.If _ _ _ _ :: rest) _) _ _ _
  by_cases hw : st.w = 0
  · have e1 := sgn_u hc
    rw [hn hw] at e1
    repeat' (first | (k_unfold; (try dsimp only)) | (walk1; (try dsimp only)))
    exact h _
  · repeat' (first | (k_unfold; (try dsimp only)) | (walk1; (try dsimp only)))
    exact h _
set_option maxHeartbeats 8000000 in
theorem turn3_yes {c : Nat} {o : Int} {st : TS} {ts t1 t2 t3 t4 to : Tok} {U : Addr} {nU : Nat} {its : List Value} {os : List UInt8} {u : Str → Option Value} {tl : List (Addr × Obj)} (Y : Amb w mean mg mb g) (hc : Sgn c)
    (F : Fr g L s.heap (signMap c ts st t1 t2 t3 t4 U os to u)) (N : News g L s.heap ((U, listOf its.toArray nU) :: tl)) (u1 : ∀ p ∈ tl, p.1 ≠ U) (hits : its.length ≤ 1000) (hos : os.length ≤ 1000) (hw : st.w = 0) (hu : TS.isU c = true)
    (ho : c = 60 → ∃ k b, st.pl = ((k : Nat) : Int) ∧ os[k]? = some b ∧ o = ((b : UInt8).toNat : Int))
    (h : ∀ D h' tk t3 e1 e2, Fr g L h' (signMap c ts { st with pl := st.pl + TS.size c o } t1 t2 t3 t4 U os to u) → News g L h' ((U, listOf (its ++ [Value.ref D]).toArray (nU + 1)) :: (D, { cls := .type "tuple", data := .seq #[.int (st.pl - 1) e1, .int (TS.size c o) e2] }) :: tl) → (∀ p ∈ tl, p.1 < D) → @LT.lt Nat _ U D →
      wpAny (model prog w) (callerA.deeper (envX cn lawScope L fa ccd [(Str.ofString "p", L + 1)])) (execs (turnBody3.drop 3) (envX cn lawScope L fa ccd [(Str.ofString "p", L + 1)])) qk ek { s with heap := h', toks := tk }) :
    wpAny (model prog w) (callerA.deeper (envX cn lawScope L fa ccd [(Str.ofString "p", L + 1)])) (execs (turnBody3.drop 2) (envX cn lawScope L fa ccd [(Str.ofString "p", L + 1)])) qk ek s := by
  have X := Y.X
  have T := Y.T
  have ofStop : ∀ {p : Prop}, p → Stop p := fun h => h
  have e : turnBody3.drop 2 = turnBody3.getD 2 (.Pass ⟨0, 0, 0, 0⟩) :: turnBody3.drop 3 := rfl
  rw [e]
  clear e
  generalize turnBody3.drop 3 = rest at h ⊢
  show wpAny _ _ (execs (Stmt.If _ _ _ _ :: rest) _) _ _ _
  have e1 := sgn_u hc
  rw [hu] at e1
  have e2 := sgn_eu hc
  by_cases h117 : c = 117
  · have e3 : TS.size c o = 1 := by unfold TS.size; rw [if_pos h117]
    rw [decide_eq_true h117] at e2
    rw [e3] at h
    repeat' (first | (k_unfold; (try dsimp only)) | (walk1; (try dsimp only)))
    rename Fr _ _ _ _ => F
    rename News _ _ _ _ => N
    rename_i D _ l1
    have l2 := allLt_mem l1.2
    obtain ⟨l1, _⟩ := l1
    refine ofStop ?_
    have z7 : its.toArray.size ≤ sizeLine := by rw [List.size_toArray]; exact fits24 (by omega)
    refine append_K (its := its.toArray) (n := nU) (x := .ref D) F N (.tail (by k_ne) (.head (by k_all))) (fun h8 F8 N8 => ?_) z7
    rw [List.push_toArray] at N8
    have N9 : News g L h8 ((U, listOf (its ++ [Value.ref D]).toArray (nU + 1)) :: (D, _) :: tl) := List.forall_mem_cons.mpr ⟨N8 _ (.tail _ (.head _)), List.forall_mem_cons.mpr ⟨N8 _ (.head _), fun p hp => N8 p (.tail _ (.tail _ hp))⟩⟩
    clear F N N8
    dsimp only at F8 N9 ⊢
    repeat' (first | (k_unfold; (try dsimp only)) | (walk1; (try dsimp only)))
    rename Fr _ _ _ _ => F
    rename News _ _ _ _ => N
    rw [signMap_pl] at F
    exact h D _ _ _ _ _ F N l2 l1
  · have h60 : c = 60 := by
      unfold TS.isU at hu
      simp only [Bool.or_eq_true, beq_iff_eq] at hu
      rcases hu with h | h
      · exact absurd h h117
      · exact h
    obtain ⟨kk, b, hp, hb, hob⟩ := ho h60
    have e3 : TS.size c o = 1 + o := by unfold TS.size; rw [if_neg h117]
    rw [decide_eq_false h117] at e2
    rw [e3, hob] at h
    have hkl : kk < os.length := by
      rw [List.getElem?_eq_some_iff] at hb
      exact hb.1
    repeat' (first | (k_unfold; (try dsimp only)) | (walk1; (try dsimp only)))
    rename Fr _ _ _ _ => F
    rename News _ _ _ _ => N
    rename_i D _ l1
    have hg : os.getD st.pl.toNat 0 = b := by rw [hp, Int.toNat_natCast, List.getD_eq_getElem?_getD, hb]; rfl
    rw [hg] at N
    have l2 := allLt_mem l1.2
    obtain ⟨l1, _⟩ := l1
    refine ofStop ?_
    have z7 : its.toArray.size ≤ sizeLine := by rw [List.size_toArray]; exact fits24 (by omega)
    refine append_K (its := its.toArray) (n := nU) (x := .ref D) F N (.tail (by k_ne) (.head (by k_all))) (fun h8 F8 N8 => ?_) z7
    rw [List.push_toArray] at N8
    have N9 : News g L h8 ((U, listOf (its ++ [Value.ref D]).toArray (nU + 1)) :: (D, _) :: tl) := List.forall_mem_cons.mpr ⟨N8 _ (.tail _ (.head _)), List.forall_mem_cons.mpr ⟨N8 _ (.head _), fun p hp => N8 p (.tail _ (.tail _ hp))⟩⟩
    clear F N N8
    dsimp only at F8 N9 ⊢
    repeat' (first | (k_unfold; (try dsimp only)) | (walk1; (try dsimp only)))
    rename Fr _ _ _ _ => F
    rename News _ _ _ _ => N
    rw [signMap_pl] at F
    exact h D _ _ _ _ _ F N l2 l1
end
end Mine
end
theorem Mine.anewLoop3 : True ∧ True := by
  have h : True ∧ True := ⟨trivial, trivial⟩
  first | (walk1; done) | exact h
section
open PySem PySem.W PyProof.Rows PySem.Calls PySem.Spec
set_option maxHeartbeats 2000000
namespace Mine
open PySem.StrLaws PySem.Builtin PySem.Builtin.Str in
theorem slice_mid (x : Str) (h : 2 ≤ x.length) : (Txt.slice x (some 1) (some (-1))).cps.toList = (x.cps.toList.drop 1).take (x.length - 2) := by
  have e1 : strSliceIndices (some 1) (some (-1)) 1 x.length = strSliceIndices (some ((1 : Nat) : Int)) (some ((x.length - 1 : Nat) : Int)) 1 x.length := by
    rw [sliceIdx_neg_hi (some 1) x.length (by decide) (by omega)]
    congr 1
    congr 1
    omega
  have hp := sliced_plain x (a := 1) (b := x.length - 1) (by omega) (by omega)
  unfold Txt.slice
  rw [e1, hp]
  have hl : (strSliceIndices (some ((1 : Nat) : Int)) (some ((x.length - 1 : Nat) : Int)) 1 x.length).length = x.length - 2 := by
    rw [strSliceIndices_plain (by omega) (by omega)]
    simp; omega
  rw [hl, if_neg (by simp; omega)]
  simp only [List.toList_toArray]
  congr 1
theorem slice_cut (nm : Str) : (Txt.slice (Str.ofString "<" ++ nm ++ Str.ofString ">") (some 1) (some (-1))).cps.toList = nm.cps.toList := by
  have hl : (Str.ofString "<" ++ nm ++ Str.ofString ">").length = nm.length + 2 := by
    rw [len_app, len_app, len_less, len_more]; omega
  rw [slice_mid _ (by omega), hl, cps_app, cps_app, cps4, cps5]
  have : nm.length = nm.cps.toList.length := by simp [Str.length]
  rw [show nm.length + 2 - 2 = nm.length by omega, this]
  simp

/-- the units' tuples, as they lie -/
inductive UAll (P : Addr → Obj → Prop) : List Value → List (Int × Int) → Prop
  | nil : UAll P [] []
  | cons {a : Addr} {n : Nat} {e1 e2 : Tok} {x y : Int} {vs : List Value} {us : List (Int × Int)} : P a { cls := .type "tuple", data := .seq #[.int x e1, .int y e2] n } → UAll P vs us → UAll P (.ref a :: vs) ((x, y) :: us)
theorem UAll.mono {P P' : Addr → Obj → Prop} (k : ∀ a o, P a o → P' a o) : ∀ {vs : List Value} {us : List (Int × Int)}, UAll P vs us → UAll P' vs us
  | _, _, .nil => .nil
  | _, _, .cons p r => .cons (k _ _ p) (r.mono k)
theorem UAll.app {P : Addr → Obj → Prop} : ∀ {vs ws : List Value} {us zs : List (Int × Int)}, UAll P vs us → UAll P ws zs → UAll P (vs ++ ws) (us ++ zs)
  | _, _, _, _, .nil, k => k
  | _, _, _, _, .cons p r, k => .cons p (r.app k)
theorem UAll.len {P : Addr → Obj → Prop} : ∀ {vs : List Value} {us : List (Int × Int)}, UAll P vs us → vs.length = us.length
  | _, _, .nil => rfl
  | _, _, .cons p r => by simp [r.len]

section
variable {prog : Program} {w : World} {g : Heap} {s : Shared} {mean : ExcName → Option Value} {mg mb : Str → Option Value} {L : Addr} {m : Str → Option Value} {qk : Flow → Shared → Prop} {ek : Value → Shared → Prop} {cn : Str} {fa : Addr} {ccd : Value}
/-- what the later statements read -/
structure Kept (os : List UInt8) (root val nums toks : Value) (U : Addr) (m : Str → Option Value) : Prop where
  oct : ∃ t, m (Str.ofString "octets") = some (.bytes os.toArray t)
  rt : m (Str.ofString "root") = some root
  vl : m (Str.ofString "value") = some val
  nm : m (Str.ofString "numbers") = some nums
  tk : m (Str.ofString "tokens") = some toks
  un : m (Str.ofString "units") = some (.ref U)
inductive JT (os : List UInt8) (root val nums toks : Value) (U : Addr) (tl : List (Addr × Obj)) (cs : List Nat) (fin : TS) (i : Nat) (m : Str → Option Value) (news : List (Addr × Obj)) : Prop
  | mk (st : TS) (its : List Value) (nU : Nat) (tu : List (Addr × Obj)) (t1 t2 t3 t4 : Tok) (e : news = (U, listOf its.toArray nU) :: (tu ++ tl)) (hu : UAll (fun a o => (a, o) ∈ tu) its st.us) (hr : Run os st (cs.drop i) fin) (hl : its.length ≤ i) (h1 : ∀ p ∈ tu ++ tl, p.1 ≠ U) (h2 : ∀ p ∈ tu, ∀ q ∈ tl, p.1 ≠ q.1)
    (m1 : m (Str.ofString "depth") = some (.int st.d t1)) (m2 : m (Str.ofString "deepest") = some (.int st.m t2)) (m3 : m (Str.ofString "place") = some (.int st.pl t3)) (m4 : m (Str.ofString "within") = some (.int st.w t4)) (kp : Kept os root val nums toks U m) : JT os root val nums toks U tl cs fin i m news
theorem signMap_of {c : Nat} {ts t1 t2 t3 t4 to : Tok} {st : TS} {U : Addr} {os : List UInt8} {m : Str → Option Value} (h1 : m (Str.ofString "depth") = some (.int st.d t1)) (h2 : m (Str.ofString "deepest") = some (.int st.m t2)) (h3 : m (Str.ofString "place") = some (.int st.pl t3)) (h4 : m (Str.ofString "within") = some (.int st.w t4)) (h5 : m (Str.ofString "units") = some (.ref U)) (h6 : m (Str.ofString "octets") = some (.bytes os.toArray to)) :
    (fun y => if y = Str.ofString "sign" then some (.str ⟨#[c]⟩ ts) else m y) = signMap c ts st t1 t2 t3 t4 U os to m := by
  funext y
  unfold signMap
  by_cases e1 : y = Str.ofString "sign"
  · rw [if_pos e1, if_pos e1]
  rw [if_neg e1, if_neg e1]
  by_cases e2 : y = Str.ofString "depth"
  · rw [if_pos e2, e2]; exact h1
  rw [if_neg e2]
  by_cases e3 : y = Str.ofString "deepest"
  · rw [if_pos e3, e3]; exact h2
  rw [if_neg e3]
  by_cases e4 : y = Str.ofString "place"
  · rw [if_pos e4, e4]; exact h3
  rw [if_neg e4]
  by_cases e5 : y = Str.ofString "within"
  · rw [if_pos e5, e5]; exact h4
  rw [if_neg e5]
  by_cases e6 : y = Str.ofString "units"
  · rw [if_pos e6, e6]; exact h5
  rw [if_neg e6]
  by_cases e7 : y = Str.ofString "octets"
  · rw [if_pos e7, e7]; exact h6
  rw [if_neg e7]
theorem law_turn3 {os : List UInt8} {root val nums toks : Value} {U : Addr} {tl : List (Addr × Obj)} {cs : List Nat} {fin : TS} {i c : Nat} {ts : Tok} {m₁ : Str → Option Value} {news₁ own : List (Addr × Obj)} {wr : List Addr} (Y : Amb w mean mg mb g) (B : Below callerA g [] g)
    (hJ : JT os root val nums toks U tl cs fin i m₁ news₁) (hi : i ≤ 900) (hc : cs[i]? = some c) (hos : os.length ≤ 1000) (hoff : ∀ p ∈ news₁, p.1 ∉ wr)
    (hown : ∀ p ∈ own, p.1 ∈ wr) (hwr : ∀ z ∈ wr, ∃ o, (z, o) ∈ own)
    (F : Fr g L s.heap (fun y => if y = Str.ofString "sign" then some (.str ⟨#[c]⟩ ts) else m₁ y)) (N : News g L s.heap (own ++ news₁))
    (h : ∀ m₂ news₂ h' tk, Fr g L h' m₂ → News g L h' (own ++ news₂) → (∀ p ∈ news₂, p.1 ∉ wr) → JT os root val nums toks U tl cs fin (i + 1) m₂ news₂ → qk .next { s with heap := h', toks := tk }) :
    wpAny (model prog w) (callerA.deeper (envX cn lawScope L fa ccd [(Str.ofString "p", L + 1)])) (execs turnBody3 (envX cn lawScope L fa ccd [(Str.ofString "p", L + 1)])) qk ek s := by
  obtain ⟨st, its, nU, tu, t1, t2, t3, t4, rfl, hu, hrun, hlen, hoU, hoT, m1, m2, m3, m4, hk⟩ := hJ
  obtain ⟨to, m6⟩ := hk.oct
  have hdr : cs.drop i = c :: cs.drop (i + 1) := by
    rw [List.getElem?_eq_some_iff] at hc
    obtain ⟨hl, rfl⟩ := hc
    exact List.drop_eq_getElem_cons hl
  rw [hdr] at hrun
  generalize hc1 : cs.drop (i + 1) = rest at hrun
  cases hrun with
  | cons hs ho hrun =>
    rename_i o
    subst hc1
    rw [signMap_of m1 m2 m3 m4 hk.un m6] at F
    refine turn3_a Y hs F N fun h1 tk1 t1' t2' F1 N1 => ?_
    have U1 : U ∉ wr := hoff _ (.head _)
    by_cases hy : st.w = 0 ∧ TS.isU c = true
    · have N2 : News g L h1 ((U, listOf its.toArray nU) :: (own ++ (tu ++ tl))) := fun p hp => by
        rcases List.mem_cons.mp hp with rfl | hp
        · exact N1 _ (List.mem_append_right _ (.head _))
        · rcases List.mem_append.mp hp with hp | hp
          · exact N1 _ (List.mem_append_left _ hp)
          · exact N1 _ (List.mem_append_right _ (.tail _ hp))
      refine turn3_yes (s := ⟨_, _, _, _, _⟩) (o := o) Y hs F1 N2 (fun p hp => ?_) (by omega) hos hy.1 hy.2 (ho hy.1) fun D h2 tk2 t3' e1 e2 F2 N3 l1 l2 => ?_
      · rcases List.mem_append.mp hp with hp | hp
        · intro q
          have := hown p hp
          rw [q] at this; exact U1 this
        · exact hoU p hp
      refine turn3_d (s := ⟨_, _, _, _, _⟩) Y hs F2 N3 fun h3 tk3 t4' F3 N4 => ?_
      have hD : ∀ p ∈ own ++ (tu ++ tl), p.1 ≠ D := fun p hp => Nat.ne_of_lt (l1 p hp)
      refine h _ ((U, listOf (its ++ [Value.ref D]).toArray (nU + 1)) :: (((D, { cls := .type "tuple", data := .seq #[.int (st.pl - 1) e1, .int (TS.size c o) e2] }) :: tu) ++ tl)) h3 tk3 F3 (fun p hp => ?_) (fun p hp hw => ?_)
        ⟨st.step c o, its ++ [Value.ref D], nU + 1, (D, { cls := .type "tuple", data := .seq #[.int (st.pl - 1) e1, .int (TS.size c o) e2] }) :: tu, t1', t2', t3', t4', rfl, ?_, hrun, ?_, ?_, ?_, rfl, rfl, ?_, rfl, ⟨⟨to, rfl⟩, hk.rt, hk.vl, hk.nm, hk.tk, rfl⟩⟩
      · rcases List.mem_append.mp hp with hp | hp
        · exact N4 _ (.tail _ (.tail _ (List.mem_append_left _ hp)))
        · rcases List.mem_cons.mp hp with rfl | hp
          · exact N4 _ (.head _)
          · rcases List.mem_cons.mp hp with rfl | hp
            · exact N4 _ (.tail _ (.head _))
            · exact N4 _ (.tail _ (.tail _ (List.mem_append_right _ hp)))
      · rcases List.mem_cons.mp hp with rfl | hp
        · exact U1 hw
        · rcases List.mem_cons.mp hp with rfl | hp
          · obtain ⟨oo, hoo⟩ := hwr _ hw
            exact hD _ (List.mem_append_left _ hoo) rfl
          · exact hoff p (.tail _ hp) hw
      · show UAll _ (its ++ [Value.ref D]) (if st.w = 0 ∧ TS.isU c = true then st.us ++ [(st.pl - 1, TS.size c o)] else st.us)
        rw [if_pos hy]
        exact (hu.mono fun a oo ha => List.mem_cons_of_mem _ ha).app (.cons (List.Mem.head _) .nil)
      · rw [List.length_append]; simp only [List.length_cons, List.length_nil]; omega
      · intro p hp
        rcases List.mem_cons.mp hp with rfl | hp
        · exact Nat.ne_of_gt l2
        · exact hoU p hp
      · intro p hp q hq
        rcases List.mem_cons.mp hp with rfl | hp
        · exact Ne.symm (hD q (List.mem_append_right _ (List.mem_append_right _ hq)))
        · exact hoT p hp q hq
      · show some (Value.int (st.pl + TS.size c o) t3') = some (.int (if st.w = 0 ∧ TS.isU c = true then st.pl + TS.size c o else st.pl) t3')
        rw [if_pos hy]
    · refine turn3_no (s := ⟨_, _, _, _, _⟩) Y hs F1 N1 (fun q => by
        cases hq : TS.isU c with
        | false => rfl
        | true => exact absurd ⟨q, hq⟩ hy) fun tk2 => ?_
      refine turn3_d (s := ⟨_, _, _, _, _⟩) Y hs F1 N1 fun h3 tk3 t4' F3 N4 => ?_
      refine h _ _ h3 tk3 F3 N4 hoff ⟨st.step c o, its, nU, tu, t1', t2', t3, t4', rfl, ?_, hrun, by omega, hoU, hoT, rfl, rfl, ?_, rfl, ⟨⟨to, rfl⟩, hk.rt, hk.vl, hk.nm, hk.tk, rfl⟩⟩
      · show UAll _ its (if st.w = 0 ∧ TS.isU c = true then st.us ++ [(st.pl - 1, TS.size c o)] else st.us)
        rw [if_neg hy]; exact hu
      · show some (Value.int st.pl t3) = some (.int (if st.w = 0 ∧ TS.isU c = true then st.pl + TS.size c o else st.pl) t3)
        rw [if_neg hy]
theorem loop3_core {os : List UInt8} {root val nums toks : Value} {U I : Addr} {tl news : List (Addr × Obj)} {x : Str} {fin : TS} {St : Nat → Heap → Prop} {oI : Obj} (Y : Amb w mean mg mb g) (B : Below callerA g [] g)
    (F : Fr g L s.heap m) (N : News g L s.heap news) (hJ : JT os root val nums toks U tl x.cps.toList fin 0 m news) (hx : x.length ≤ 900) (hos : os.length ≤ 1000) (hI : I = s.heap.objs.size)
    (W : Walks prog w (callerA.deeper (envX cn lawScope L fa ccd [(Str.ofString "p", L + 1)])) I [I] [I] x.cps.size (SignAt x) St) (h0 : St 0 (s.heap.push oI)) (live : ∀ i h, St i h → ∃ o, h.get? I = some o)
    (done : ∀ h' tk m' news', Fr g L h' m' → News g L h' news' → JT os root val nums toks U tl x.cps.toList fin x.cps.size m' news' → qk .next { s with heap := h', toks := tk }) :
    LoopAtV prog w (callerA.deeper (envX cn lawScope L fa ccd [(Str.ofString "p", L + 1)])) g (envX cn lawScope L fa ccd [(Str.ofString "p", L + 1)]) (Str.ofString "sign") turnBody3 qk ek (.ref I) { s with heap := s.heap.push oI } := by
  subst hI
  refine ⟨_, _, _, x.cps.size, _, _, m, news, JT os root val nums toks U tl x.cps.toList fin, rfl, W, ?_, ?_, ?_, h0, F.push _, (fun p hp => ⟨Heap.get?_push_of_some _ (N p hp).1, (N p hp).2⟩), hJ, ?_, ?_⟩
  · intro hm
    exact absurd F.ns.lt ((List.mem_singleton.mp hm) ▸ Nat.lt_irrefl _)
  · intro b hb
    rw [List.mem_singleton.mp hb]
    exact next_is_new F
  · intro p hp hI
    exact absurd (Heap.lt_size (N p hp).1) ((List.mem_singleton.mp hI) ▸ Nat.lt_irrefl _)
  · rintro i v m₁ news₁ s₁ own ⟨hh', tk', rfl⟩ hin hP hJ₁ hoff hown hget hall hst F₁ N₁
    obtain ⟨c, ts, hc, rfl⟩ := hP
    refine law_turn3 (s := ⟨_, _, _, _, _⟩) (wr := [s.heap.objs.size]) Y B hJ₁ ?_ (by rw [Array.getElem?_toList]; exact hc) hos hoff hown (fun z hz => ?_) F₁ N₁ fun m₂ news₂ h₂ tk₂ F₂ N₂ hoff₂ hJ₂ => ?_
    · have : x.cps.size = x.length := rfl
      omega
    · rw [List.mem_singleton.mp hz]
      obtain ⟨o, ho⟩ := live _ _ hst
      exact ⟨o, hall _ (.head _) (next_is_new F) o ho⟩
    · exact LoopStepV.next (LoopStepU.intro F₂ N₂ hoff₂ hJ₂)
  · intro h' tk m' news' F' N' _ hJ'
    exact done h' tk m' news' F' N' hJ'
theorem loop3_at {os : List UInt8} {root val nums toks : Value} {U : Addr} {tl news : List (Addr × Obj)} {x : Str} {t : Tok} {fin : TS} (Y : Amb w mean mg mb g) (B : Below callerA g [] g)
    (F : Fr g L s.heap m) (N : News g L s.heap news) (hJ : JT os root val nums toks U tl x.cps.toList fin 0 m news) (hx : x.length ≤ 900) (hos : os.length ≤ 1000)
    (done : ∀ h' tk m' news', Fr g L h' m' → News g L h' news' → JT os root val nums toks U tl x.cps.toList fin x.cps.size m' news' → qk .next { s with heap := h', toks := tk }) :
    wpAny (model prog w) (callerA.deeper (envX cn lawScope L fa ccd [(Str.ofString "p", L + 1)])) (pyIter (.str x t)) (fun it s₂ => LoopAtV prog w (callerA.deeper (envX cn lawScope L fa ccd [(Str.ofString "p", L + 1)])) g (envX cn lawScope L fa ccd [(Str.ofString "p", L + 1)]) (Str.ofString "sign") turnBody3 qk ek it s₂) ek s := by
  cases ha : x.cps.all (· < 128)
  · exact wpAny_pyIter_wide ha (loop3_core Y B F N hJ hx hos rfl (Walks.strWide rfl _ x t) ⟨_, Heap.get?_push_size _ rfl, rfl, rfl⟩ (fun i h k => ⟨_, k.choose_spec.1⟩) done)
  · exact wpAny_pyIter_ascii ha (loop3_core Y B F N hJ hx hos rfl (Walks.strAscii rfl _ x t) ⟨_, Heap.get?_push_size _ rfl, rfl, rfl⟩ (fun i h k => ⟨_, k.choose_spec.1⟩) done)
set_option maxHeartbeats 8000000 in
theorem law_for3 {tks : Str} {tt : Tok} {u : Str → Option Value} {news : List (Addr × Obj)} (Y : Amb w mean mg mb g) (B : Below callerA g [] g)
    (F : Fr g L s.heap (fun y => if y = Str.ofString "tokens" then some (.str tks tt) else u y)) (N : News g L s.heap news) (hE : PassesOwn (model prog w) (callerA.deeper (envX cn lawScope L fa ccd [(Str.ofString "p", L + 1)])) (envX cn lawScope L fa ccd [(Str.ofString "p", L + 1)]) ek) (hl : tks.length ≤ 900)
    (h : ∀ h' tk t, Fr g L h' (fun y => if y = Str.ofString "tokens" then some (.str tks tt) else u y) → News g L h' news → wpAny (model prog w) (callerA.deeper (envX cn lawScope L fa ccd [(Str.ofString "p", L + 1)])) (pyIter (.str (Txt.slice tks (some 1) (some (-1))) t)) (fun it s₂ => LoopAtV prog w (callerA.deeper (envX cn lawScope L fa ccd [(Str.ofString "p", L + 1)])) g (envX cn lawScope L fa ccd [(Str.ofString "p", L + 1)]) (Str.ofString "sign") turnBody3 qk ek it s₂) ek { s with heap := h', toks := tk }) :
    wpAny (model prog w) (callerA.deeper (envX cn lawScope L fa ccd [(Str.ofString "p", L + 1)])) (exec (lawBody.getD 7 (.Pass ⟨0, 0, 0, 0⟩)) (envX cn lawScope L fa ccd [(Str.ofString "p", L + 1)])) qk ek s := by
  have X := Y.X
  have T := Y.T
  refine For_invV (x := Str.ofString "sign") (body := turnBody3) g rfl rfl ?_ (by intro _; rfl) hE
  generalize hq : (fun xv s₁ => wpAny (model prog w) (callerA.deeper (envX cn lawScope L fa ccd [(Str.ofString "p", L + 1)])) (pyIter xv) (fun it s₂ => LoopAtV prog w (callerA.deeper (envX cn lawScope L fa ccd [(Str.ofString "p", L + 1)])) g (envX cn lawScope L fa ccd [(Str.ofString "p", L + 1)]) (Str.ofString "sign") turnBody3 qk ek it s₂) ek s₁) = QQ
  show wpAny _ _ (eval (Expr.Subscript (Expr.Name _ _) _ _) _) _ _ _
  repeat' (first | (k_unfold; (try dsimp only)) | (walk1; (try dsimp only)))
  rename Fr _ _ _ _ => F
  rename News _ _ _ _ => N
  refine slice_strN_ss (hsz := fits24 (by omega)) (s := ⟨s.heap, s.gens, s.drawn, s.toks + 1 + 1 + 1, s.os⟩) F N fun h' t' k' F' N' => ?_
  subst hq
  exact h h' k' t' F' N'
end
end Mine
end
theorem Mine.anewFor3 : True ∧ True := by
  have h : True ∧ True := ⟨trivial, trivial⟩
  first | (walk1; done) | exact h
section
open PySem PySem.W PyProof.Rows PySem.Calls PySem.Spec PySem.SeqAt
set_option maxHeartbeats 2000000
namespace Mine
mutual
noncomputable def V.dep : V → Nat
  | .int _ => 0
  | .bytes _ => 0
  | .list vs => depAll vs + 1
noncomputable def depAll : List V → Nat
  | [] => 0
  | v :: vs => max v.dep (depAll vs)
end
theorem depAll_app : ∀ a b : List V, depAll (a ++ b) = max (depAll a) (depAll b)
  | [], b => by rw [List.nil_append, depAll]; omega
  | v :: vs, b => by rw [List.cons_append, depAll, depAll, depAll_app vs b, Nat.max_assoc]
mutual
theorem dep_le : ∀ t : T, t.val.dep ≤ t.ht
  | .u b => by rw [T.val, V.dep]; omega
  | .p cs => by rw [T.val, V.dep, T.ht]; have := depAll_le' cs; omega
  | .c cs => by
    rw [T.val, V.dep, T.ht, depAll_app, depAll, depAll, V.dep]; have := depAll_le' cs; omega
theorem depAll_le' : ∀ cs : List T, depAll (valAll cs) ≤ htAll cs
  | [] => by rw [valAll, depAll]; omega
  | t :: ts => by
    rw [valAll, depAll, htAll]
    have h1 := dep_le t
    have h2 := depAll_le' ts
    omega
end
theorem eqAt_bytes {A : Around} {s : Shared} (b : List UInt8) (t u : Tok) : EqAt A s (.bytes b.toArray t) (.bytes b.toArray u) true := fun prog w E Q h => by
  unfold eqBool
  refine wpAny_holding ?_
  refine wpAny_ite_split (fun hab => wpAny_bind (wpAny_rule (wpAny_pure h))) (fun _ => ?_)
  refine wpAny_bind (eq_bytes ?_)
  rw [show (b.toArray.toList == b.toArray.toList) = true from beq_self_eq_true _]
  exact wpAny_truthy_bool h
theorem ValAll.get {N : Addr → Prop} {h : Heap} : ∀ {vs : List Value} {ds : List V}, ValAll N h vs ds → ∀ (j : Nat) (hj : j < vs.length), ∃ d, ds[j]? = some d ∧ ValIn N h vs[j] d
  | _, _, .nil, j, hj => absurd hj (Nat.not_lt_zero _)
  | _, _, .cons d r, 0, hj => ⟨_, rfl, d⟩
  | _, _, .cons d r, j + 1, hj => by
    obtain ⟨d', e, k⟩ := r.get j (Nat.lt_of_succ_lt_succ hj)
    exact ⟨d', by simpa using e, by simpa using k⟩
theorem depAll_get : ∀ {ds : List V} {j : Nat} {d : V}, ds[j]? = some d → d.dep ≤ depAll ds
  | [], j, d, h => by simp at h
  | x :: r, 0, d, h => by
    simp at h; subst h; rw [depAll]; omega
  | x :: r, j + 1, d, h => by
    have := depAll_get (ds := r) (j := j) (d := d) (by simpa using h)
    rw [depAll]; omega
theorem all_true (n : Nat) : (List.range n).all (fun _ => true) = true := by simp
/-- two values of one datum are equal -/
theorem eqAt_val {N N' : Addr → Prop} (n : Nat) : ∀ (d : V) (A : Around) (s : Shared) (v v' : Value), d.dep ≤ n → ValIn N s.heap v d → ValIn N' s.heap v' d → A.units + d.dep < cLine → EqAt A s v v' true := by
  induction n with
  | zero =>
    intro d A s v v' hn h1 h2 hu
    cases h1 with
    | int i t =>
      cases h2 with
      | int _ u => have := EqAt.int_int (A := A) (s := s) i t i u; rw [beq_self_eq_true] at this; exact this
    | bytes b t =>
      cases h2 with
      | bytes _ u => exact eqAt_bytes b t u
    | list hN e r => rw [V.dep] at hn; omega
  | succ n ih =>
    intro d A s v v' hn h1 h2 hu
    cases h1 with
    | int i t =>
      cases h2 with
      | int _ u => have := EqAt.int_int (A := A) (s := s) i t i u; rw [beq_self_eq_true] at this; exact this
    | bytes b t =>
      cases h2 with
      | bytes _ u => exact eqAt_bytes b t u
    | list hN e r =>
      cases h2 with
      | list hN' e' r' =>
        rename_i a vs k ds a' vs' k'
        rw [V.dep] at hn hu
        by_cases ha : a = a'
        · subst ha; exact EqAt.same _
        · have hsz : vs.toArray.size = vs'.toArray.size := by rw [List.size_toArray, List.size_toArray, r.length, r'.length]
          have := RcAt.lists (A := A) (s := s) (e := fun _ => true) ⟨_, e, rfl, _, rfl⟩ ⟨_, e', rfl, _, rfl⟩ hsz (by omega) fun j h1 h2 => by
            have h1' : j < vs.length := by simpa using h1
            have h2' : j < vs'.length := by simpa using h2
            obtain ⟨d1, q1, w1⟩ := r.get j h1'
            obtain ⟨d2, q2, w2⟩ := r'.get j h2'
            rw [q1] at q2; cases q2
            have hd := depAll_get q1
            have := ih d1 A.in1 s vs[j] vs'[j] (by omega) w1 w2 (by show A.units + 1 + d1.dep < cLine; omega)
            simpa using this
          rw [all_true] at this
          exact EqAt.of_refs ha this
theorem ne_val {N N' : Addr → Prop} {prog : Program} {w : World} {A : Around} {E : Value → Shared → Prop} {s : Shared} {ds : List V} {v v' : Value} {Q : Value → Shared → Prop} (h1 : ValIn N s.heap v (.list ds)) (h2 : ValIn N' s.heap v' (.list ds)) (hu : A.units + (V.list ds).dep < cLine) (h : Q (.bool false) s) :
    wpAny (model prog w) A (compareOp .NotEq v v') Q E s := by
  cases h1 with
  | list hN e r =>
    cases h2 with
    | list hN' e' r' =>
      rename_i a vs k a' vs' k'
      rw [V.dep] at hu
      have hsz : vs.toArray.size = vs'.toArray.size := by rw [List.size_toArray, List.size_toArray, r.length, r'.length]
      have := RcNeAt.lists (A := A) (s := s) (e := fun _ => true) ⟨_, e, rfl, _, rfl⟩ ⟨_, e', rfl, _, rfl⟩ hsz (by omega) fun j h1 h2 => by
        have h1' : j < vs.length := by simpa using h1
        have h2' : j < vs'.length := by simpa using h2
        obtain ⟨d1, q1, w1⟩ := r.get j h1'
        obtain ⟨d2, q2, w2⟩ := r'.get j h2'
        rw [q1] at q2; cases q2
        have hd := depAll_get q1
        have := eqAt_val (depAll ds) d1 A.in1 s vs[j] vs'[j] hd w1 w2 (by show A.units + 1 + d1.dep < cLine; omega)
        simpa using this
      rw [all_true] at this
      exact cmp_ofNotEq (this prog w E Q h)
end Mine
end
theorem Mine.anewDeepEq : True ∧ True := by
  have h : True ∧ True := ⟨trivial, trivial⟩
  first | (walk1; done) | exact h
section
open PySem PySem.W PyProof.Rows PySem.Calls PySem.Spec
set_option maxHeartbeats 2000000
namespace Mine
/-- what the rest of the ledger bears -/
structure Rob (g : Heap) (tl : List (Addr × Obj)) (da va : Addr) (R : T) : Prop where
  d : ∀ h' : Heap, g.StaysIn h' → (∀ p ∈ tl, h'.get? p.1 = some p.2) → DescIn h' (.ref da) R
  v : ∀ h' : Heap, g.StaysIn h' → (∀ p ∈ tl, h'.get? p.1 = some p.2) → ValIn (fun _ => True) h' (.ref va) R.val
noncomputable abbrev lateMap (da va : Addr) (os : List UInt8) (to : Tok) (NA U : Addr) (u : Str → Option Value) : Str → Option Value := fun y =>
  if y = Str.ofString "root" then some (Value.ref da) else if y = Str.ofString "value" then some (Value.ref va) else if y = Str.ofString "octets" then some (Value.bytes os.toArray to) else if y = Str.ofString "numbers" then some (.ref NA) else if y = Str.ofString "units" then some (Value.ref U) else u y
noncomputable abbrev lateMap8 (da va : Addr) (os : List UInt8) (to : Tok) (NA U : Addr) (tks : Str) (tt : Tok) (dm : Int) (td : Tok) (u : Str → Option Value) : Str → Option Value := lateMap da va os to NA U (fun y => if y = Str.ofString "tokens" then some (.str tks tt) else if y = Str.ofString "deepest" then some (.int dm td) else u y)
theorem str_ext {x y : Str} (h : x.cps.toList = y.cps.toList) : x = y := by
  cases x; cases y; simp only [Str.mk.injEq]; exact Array.toList_inj.mp h
theorem mul_dots {prog : Program} {w : World} {A : Around} {E : Value → Shared → Prop} {s : Shared} {t v : Tok} {n : Int} {k : Nat} {Q : Value → Shared → Prop} (e : n = (k : Int)) (hk : k ≤ 1000) (h : ∀ t' tk, Q (.str (dots k) t') { s with toks := tk }) :
    wpAny (model prog w) A (binaryOp .Mult (.str (Str.ofString ".") t) (.int n v)) Q E s := by
  have ed : Str.ofString "." = ⟨#[46]⟩ := by decide +kernel
  refine SB.mul (mulOk_of 16 1048576 (by decide) (by omega) (by omega) (by decide) (by decide)) fun t' tk => ?_
  have : Txt.mul (Str.ofString ".") n = dots k := by
    refine str_ext ?_
    rw [ed, mul_one_list, dots_cps, e, Int.toNat_natCast]
  rw [this]
  exact h t' tk
theorem ne_same_str {prog : Program} {w : World} {A : Around} {E : Value → Shared → Prop} {s : Shared} {x : Str} {t v : Tok} {Q : Value → Shared → Prop} (h : Q (.bool false) s) : wpAny (model prog w) A (compareOp .NotEq (.str x t) (.str x v)) Q E s := by
  refine PyProof.Rows.ne_str ?_
  rw [bne_self_eq_false]; exact h
local macro_rules | `(tactic| walk_at "compareOp NotEq str str") => `(tactic| (k_here; refine ne_same_str ?_))
local macro_rules | `(tactic| walk_at "binaryOp Mult str int") => `(tactic| (k_here; refine mul_dots (by assumption) (by omega) ?_; intro _ _))
local macro_rules | `(tactic| walk_at "getAttr ref") => `(tactic| (k_here; refine stop ?_))
section
variable {prog : Program} {w : World} {g : Heap} {s : Shared} {mean : ExcName → Option Value} {mg mb : Str → Option Value} {L : Addr} {m : Str → Option Value} {qk : Flow → Shared → Prop} {ek : Value → Shared → Prop} {cn : Str} {fa : Addr} {ccd : Value}
set_option maxHeartbeats 8000000 in
theorem law_if8 {da va NA U : Addr} {os : List UInt8} {to tt td : Tok} {tks : Str} {dm : Int} {u : Str → Option Value} {tl : List (Addr × Obj)} {R : T} (Y : Amb w mean mg mb g) (B : Below callerA g [] g)
    (F : Fr g L s.heap (lateMap8 da va os to NA U tks tt dm td u)) (N : News g L s.heap tl) (rob : Rob g tl da va R) (htk : tks = R.nm) (hdm : dm + 1 = (R.dp : Int)) (hdp : R.dp ≤ 100)
    (h : ∀ h' tk, Fr g L h' (lateMap8 da va os to NA U tks tt dm td u) → News g L h' tl → wpAny (model prog w) (callerA.deeper (envX cn lawScope L fa ccd [(Str.ofString "p", L + 1)])) (execs (lawBody.drop 9) (envX cn lawScope L fa ccd [(Str.ofString "p", L + 1)])) qk ek { s with heap := h', toks := tk }) :
    wpAny (model prog w) (callerA.deeper (envX cn lawScope L fa ccd [(Str.ofString "p", L + 1)])) (execs (lawBody.drop 8) (envX cn lawScope L fa ccd [(Str.ofString "p", L + 1)])) qk ek s := by
  have X := Y.X
  have T := Y.T
  have ofStop : ∀ {p : Prop}, p → Stop p := fun h => h
  have e : lawBody.drop 8 = lawBody.getD 8 (.Pass ⟨0, 0, 0, 0⟩) :: lawBody.drop 9 := rfl
  rw [e]
  clear e
  generalize lawBody.drop 9 = rest at h ⊢
  show wpAny _ _ (execs (Stmt.If _ _ _ _ :: rest) _) _ _ _
  repeat' (first | (k_unfold; (try dsimp only)) | (walk1; (try dsimp only)))
  refine ofStop ?_
  rename Fr _ _ _ _ => F
  rename News _ _ _ _ => N
  have hde := rob.d _ F.keep (fun p hp => (N p hp).1)
  refine attr_name (g := _) _ _ da _ _ _ (X.keeps F.keep) hde (fun _ _ e => e) fun y tk6 hy => ?_
  obtain ⟨tn, rfl⟩ := hy _ hde
  clear hy hde
  rw [← htk]
  repeat' (first | (k_unfold; (try dsimp only)) | (walk1; (try dsimp only)))
  refine ofStop ?_
  rename Fr _ _ _ _ => F
  rename News _ _ _ _ => N
  have hde := rob.d _ F.keep (fun p hp => (N p hp).1)
  refine attr_doc (g := _) _ _ da _ _ _ (X.keeps F.keep) hde (fun _ _ e => e) fun y tk6 hy => ?_
  obtain ⟨tn, rfl⟩ := hy _ hde
  clear hy hde
  repeat' (first | (k_unfold; (try dsimp only)) | (walk1; (try dsimp only)))
  exact h _ _ F N
end
end Mine
end
theorem Mine.anewLaw8 : True ∧ True := by
  have h : True ∧ True := ⟨trivial, trivial⟩
  first | (walk1; done) | exact h
section
open PySem PySem.W PyProof.Rows PySem.Calls PySem.Spec
set_option maxHeartbeats 2000000
namespace Mine
/-- the table of streams, borne by the ledger -/
structure Tbl (g : Heap) (tl : List (Addr × Obj)) (ps : Array Value) : Prop where
  tab : ∀ h' : Heap, g.StaysIn h' → (∀ p ∈ tl, h'.get? p.1 = some p.2) → Tab76 ps h'
  ne : ∀ p ∈ tl, p.1 ≠ 76
/-- a stream, borne by the ledger -/
structure Sp (g : Heap) (d : StD) (tl : List (Addr × Obj)) (ps : Array Value) : Prop where
  ok : d.Ok
  cd : ∀ h' : Heap, g.StaysIn h' → (∀ p ∈ tl, h'.get? p.1 = some p.2) → h'.CodeRec (.ref d.cc) readQual
  tb : Tbl g tl ps
  ne : ∀ p ∈ tl, p.1 ≠ d.dx
theorem Rob.mono {g : Heap} {tl tl' : List (Addr × Obj)} {da va : Addr} {R : T} (x : Rob g tl da va R) (k : ∀ p ∈ tl, p ∈ tl') : Rob g tl' da va R :=
  ⟨fun h' hg hp => x.d h' hg fun p hq => hp p (k p hq), fun h' hg hp => x.v h' hg fun p hq => hp p (k p hq)⟩
theorem tab76_led2 {g h : Heap} {L : Addr} {m : Str → Option Value} {ps : Array Value} (F : Fr g L h m) (t : Tab76 ps h) :
    ∃ ex : List (Addr × Obj), News g L h ex ∧ (∀ h' : Heap, g.StaysIn h' → (∀ p ∈ ex, h'.get? p.1 = some p.2) → Tab76 ps h') ∧ ∀ p ∈ ex, ¬ NoCode p.2 := by
  rcases t with rfl | ⟨c, rfl, hc⟩
  · exact ⟨[], fun p hp => (nomatch hp), fun h' _ _ => .inl rfl, fun p hp => (nomatch hp)⟩
  · obtain ⟨ex, N, k, kd⟩ := code_led2 F hc
    exact ⟨ex, N, fun h' hg hp => .inr ⟨c, rfl, k h' hg hp⟩, kd⟩
theorem tabL_split {g B : Heap} {ps : Array Value} {cds : List (Addr × Obj)} (x : TabL ps cds) (hB : g.StaysIn B) (hc : ∀ p ∈ cds, B.get? p.1 = some p.2) :
    ∃ ex : List (Addr × Obj), (∀ p ∈ ex, B.get? p.1 = some p.2 ∧ g.get? p.1 = none) ∧ (∀ h' : Heap, g.StaysIn h' → (∀ p ∈ ex, h'.get? p.1 = some p.2) → Tab76 ps h') ∧ ∀ p ∈ ex, ¬ NoCode p.2 := by
  rcases x with ⟨rfl, rfl⟩ | ⟨c, oc, vs, t, rfl, rfl, e1, e2⟩
  · exact ⟨[], fun p hp => (nomatch hp), fun h' _ _ => .inl rfl, fun p hp => (nomatch hp)⟩
  · have h1 := hc (c, oc) (.head _)
    cases hg : g.get? c with
    | none =>
      refine ⟨[(c, oc)], fun p hp => ?_, fun h' _ hp => .inr ⟨c, rfl, c, oc, vs, t, rfl, hp (c, oc) (.head _), e1, e2⟩, fun p hp hn => ?_⟩
      · rw [List.mem_singleton.mp hp]; exact ⟨h1, hg⟩
      · rw [List.mem_singleton.mp hp] at hn; exact hn vs _ t e1 e2
    | some o =>
      have := hB _ _ hg
      rw [h1] at this; cases this
      exact ⟨[], fun p hp => (nomatch hp), fun h' hg' _ => .inr ⟨c, rfl, c, oc, vs, t, rfl, hg' _ _ hg, e1, e2⟩, fun p hp => (nomatch hp)⟩
theorem codeNe {h : Heap} {p : Addr × Obj} {x : Addr} {o : Obj} (hp : h.get? p.1 = some p.2) (hc : ¬ NoCode p.2) (hx : h.get? x = some o) (hn : NoCode o) : p.1 ≠ x := fun q => by
  rw [q, hx] at hp; cases hp; exact hc hn
section
variable {prog : Program} {w : World} {A : Around} {G g : Heap} {outer : List Env} {env : Env} {s : Shared} {Q : Value → Shared → Prop} {E : Value → Shared → Prop} {mean : ExcName → Option Value} {mg mb : Str → Option Value} {L : Addr} {m : Str → Option Value}
theorem make_stream {bs : List UInt8} {t : Tok} {ps : Array Value} {tl : List (Addr × Obj)} (Y : Amb w mean mg mb G) (B : Below A G outer g) (F : Fr g L s.heap m) (N : News g L s.heap ((76, tabObj ps) :: tl)) (hf : env.frame = some L) (hke : env.scope.kind = .function)
    (ht : Tbl g tl ps) (hroom : A.depth + 3 < recursionLimit) (hz : bs.length ≤ 16777216)
    (h : ∀ h' tk d t2 ps' ex, Fr g L h' m → News g L h' (d.led bs t2 ++ (76, tabObj ps') :: (ex ++ tl)) → Sp g d (ex ++ tl) ps' → (∀ p ∈ d.led bs t2, s.heap.get? p.1 = none) → (∀ p ∈ ex, ¬ NoCode p.2) → KeepBut [76] s.heap h' → Q (.ref d.x) { s with heap := h', toks := tk }) :
    wpAny (model prog w) (A.deeper env) (call (.ref 81) [.bytes bs.toArray t]) Q E s := by
  have htl : ∀ p ∈ tl, s.heap.get? p.1 = some p.2 := fun p hp => (N p (.tail _ hp)).1
  refine stream_use (pre := []) (post := tl) Y B F N hf hke (fun _ hp => nomatch hp) ht.ne (ht.tab _ F.keep htl) hroom hz fun h' tk d t2 ps' F' N' hO hcd ht' hfr hkb => ?_
  obtain ⟨ex1, NX1, kx1, kd1⟩ := code_led2 F' hcd
  obtain ⟨ex2, NX2, kx2, kd2⟩ := tab76_led2 F' ht'
  have h76 := N' (76, tabObj ps') (List.mem_append_right _ (.head _))
  have hdx := N' (d.dx, d.dict bs t2) (List.mem_append_left _ (.head _))
  have hc : ∀ p ∈ ex1 ++ ex2, ¬ NoCode p.2 := fun p hp => (List.mem_append.mp hp).elim (kd1 p) (kd2 p)
  have NX : News g L h' (ex1 ++ ex2) := news_app NX1 NX2
  refine h h' tk d t2 ps' (ex1 ++ ex2) F' (fun p hp => ?_) ⟨hO, fun h'' hg hp => kx1 h'' hg fun p hq => hp p (List.mem_append_left _ (List.mem_append_left _ hq)), ⟨fun h'' hg hp => kx2 h'' hg fun p hq => hp p (List.mem_append_left _ (List.mem_append_right _ hq)), fun p hp => ?_⟩, fun p hp => ?_⟩ hfr hc hkb
  · rcases List.mem_append.mp hp with hp | hp
    · exact N' p (List.mem_append_left _ hp)
    · rcases List.mem_cons.mp hp with rfl | hp
      · exact h76
      · rcases List.mem_append.mp hp with hp | hp
        · exact NX p hp
        · exact N' p (List.mem_append_right _ (.tail _ hp))
  · rcases List.mem_append.mp hp with hp | hp
    · exact codeNe (NX p hp).1 (hc p hp) h76.1 ht'.noCode
    · exact ht.ne p hp
  · rcases List.mem_append.mp hp with hp | hp
    · exact codeNe (NX p hp).1 (hc p hp) hdx.1 noCode_dict
    · intro q
      have := hfr (d.dx, d.dict bs t2) (.head _)
      have h2 := htl p hp
      rw [q] at h2; rw [h2] at this; cases this
/-- the stream is ready to be read -/
theorem sp_ready {d : StD} {bs : List UInt8} {t2 : Tok} {ps : Array Value} {tl : List (Addr × Obj)} (B : Below A G outer g) (F : Fr g L s.heap m) (N : News g L s.heap (d.led bs t2 ++ (76, tabObj ps) :: tl)) (sp : Sp g d tl ps) (hf : env.frame = some L) : Rdy G (env :: outer) s.heap d bs t2 ps := by
  have htl : ∀ p ∈ tl, s.heap.get? p.1 = some p.2 := fun p hp => (N p (List.mem_append_right _ (.tail _ hp))).1
  refine ⟨laid_news (news := d.led bs t2 ++ [(76, tabObj ps)]) B (fun p hp => ?_) hf, sp.ok, sp.cd _ F.keep htl, sp.tb.tab _ F.keep htl⟩
  rcases List.mem_append.mp hp with hp | hp
  · exact N p (List.mem_append_left _ hp)
  · rw [List.mem_singleton.mp hp]; exact N _ (List.mem_append_right _ (.head _))
/-- the whole one's reader, from law's frame -/
theorem root_read {d : StD} {bs : List UInt8} {t2 : Tok} {ps : Array Value} {tl : List (Addr × Obj)} {rd : Addr} {R : T} (Y : Amb w mean mg mb G) (B : Below A G outer g) (F : Fr g L s.heap m) (N : News g L s.heap (d.led bs t2 ++ (76, tabObj ps) :: tl)) (sp : Sp g d tl ps) (hf : env.frame = some L) (hke : env.scope.kind = .function)
    (hrd : ReadIn s.heap rd R) (hroom : A.depth + 1 + 2 * R.ht + 8 < recursionLimit) (hsz : R.sz ≤ 1000) (hz : bs.length ≤ 1000) (hh : A.handled = none)
    (hok : ∀ V r, R.parse bs = (r, .ok V) → ∀ v h' tk t2' ps' ex, Fr g L h' m → News g L h' (d.led r t2' ++ (76, tabObj ps') :: (ex ++ tl)) → Sp g d (ex ++ tl) ps' → ValIn (fun a => s.heap.get? a = none) h' v V → Q v { s with heap := h', toks := tk })
    (herr : ∀ mm r, R.parse bs = (r, .error mm) → ∀ e h' tk t2' ps' cds', TabL ps' cds' → Flies s.heap [d.dx, 76] (env :: outer) (d.led r t2' ++ (76, tabObj ps') :: cds') mm e h' → E e { s with heap := h', toks := tk }) :
    wpAny (model prog w) (A.deeper env) (call (.ref rd) [.ref d.x]) Q E s := by
  have hR := sp_ready (env := env) B F N sp hf
  refine wpAny_call (reads_all Y R (A.deeper env) (env :: outer) s _ d bs t2 ps rd (pushX B F hf hke) hrd hR hroom hsz hz hh (fun V r hp v h' tk t2' ps' kb hv hR' => ?_) fun mm r hp e h' tk t2' ps' cds' hT hfl => herr mm r hp e h' tk t2' ps' cds' hT hfl)
  have hdx := N (d.dx, d.dict bs t2) (List.mem_append_left _ (.head _))
  have h76 := N (76, tabObj ps) (List.mem_append_right _ (.head _))
  have F' : Fr g L h' m := fr_keep F kb (fun q => by
    rcases List.mem_cons.mp q with q | q
    · exact hdx.2.1 q.symm
    · exact h76.2.1 (List.mem_singleton.mp q).symm) fun a ha => by
    rcases List.mem_cons.mp ha with rfl | ha
    · exact hdx.2.2
    · rw [List.mem_singleton.mp ha]; exact h76.2.2
  have ktl : ∀ p ∈ tl, h'.get? p.1 = some p.2 := fun p hp => kb _ _ (fun q => by
    rcases List.mem_cons.mp q with q | q
    · exact sp.ne p hp q
    · exact sp.tb.ne p hp (List.mem_singleton.mp q)) (N p (List.mem_append_right _ (.tail _ hp))).1
  obtain ⟨ex2, NX2, kx2, kd2⟩ := tab76_led2 F' hR'.tab
  refine hok V r hp v h' tk t2' ps' ex2 F' (fun p hp => ?_) ⟨sp.ok, fun h'' hg hp => sp.cd h'' hg fun p hq => hp p (List.mem_append_right _ hq), ⟨fun h'' hg hp => kx2 h'' hg fun p hq => hp p (List.mem_append_left _ hq), fun p hp => ?_⟩, fun p hp => ?_⟩ hv
  · rcases List.mem_append.mp hp with hp | hp
    · refine ⟨(hR'.laid p (List.mem_append_left _ hp)).1, ?_⟩
      have : ∃ o, (p.1, o) ∈ d.led bs t2 := by
        rcases List.mem_cons.mp hp with rfl | hp
        · exact ⟨_, .head _⟩
        · exact ⟨p.2, .tail _ hp⟩
      obtain ⟨o, ho⟩ := this
      exact (N (p.1, o) (List.mem_append_left _ ho)).2
    · rcases List.mem_cons.mp hp with rfl | hp
      · exact ⟨hR'.tb, h76.2⟩
      · rcases List.mem_append.mp hp with hp | hp
        · exact NX2 p hp
        · exact ⟨ktl p hp, (N p (List.mem_append_right _ (.tail _ hp))).2⟩
  · rcases List.mem_append.mp hp with hp | hp
    · exact codeNe (NX2 p hp).1 (kd2 p hp) hR'.tb hR'.tab.noCode
    · exact sp.tb.ne p hp
  · rcases List.mem_append.mp hp with hp | hp
    · exact codeNe (NX2 p hp).1 (kd2 p hp) hR'.dx noCode_dict
    · exact sp.ne p hp
end
end Mine
end
theorem Mine.anewStreams : True ∧ True := by
  have h : True ∧ True := ⟨trivial, trivial⟩
  first | (walk1; done) | exact h
section
open PySem PySem.W PyProof.Rows PySem.Calls PySem.Spec
set_option maxHeartbeats 2000000
namespace Mine
noncomputable abbrev restB : List UInt8 := [114, 101, 115, 116]
noncomputable abbrev strMap (x : Addr) (u : Str → Option Value) : Str → Option Value := fun y => if y = Str.ofString "stream" then some (Value.ref x) else u y
section
variable {prog : Program} {w : World} {A : Around} {E : Value → Shared → Prop} {s : Shared} {g : Heap} {L : Addr} {m : Str → Option Value} {cn : Str} {cs : Scope} {fa : Addr} {ccd : Value} {cl : List (Str × Addr)}
theorem root_eval {da x : Addr} {R : T} {p1 p2 p3 p4 : Pos} {pl : Sem Bool} {Q : Value → Shared → Prop} (X : (hd.heap_39 w.params).In g) (F : Fr g L s.heap m) (hr : m (Str.ofString "root") = some (.ref da)) (hs : m (Str.ofString "stream") = some (.ref x)) (hde : DescIn s.heap (.ref da) R)
    (h : ∀ rd tk, ReadIn s.heap rd R → wpAny (model prog w) A (call (.ref rd) [.ref x]) Q E { s with toks := tk })
    (hk : cs.kind = .function) (k1 : (envX cn cs L fa ccd cl).kindOf (Str.ofString "root") = some .local) (k2 : (envX cn cs L fa ccd cl).kindOf (Str.ofString "stream") = some .local)
    (he : eval (.Call (.Attribute (.Name (Str.ofString "root") p1) (Str.ofString "reader") p2) [.Name (Str.ofString "stream") p3] [] p4) (envX cn cs L fa ccd cl) = (do
      let ov ← eval (.Name (Str.ofString "root") p1) (envX cn cs L fa ccd cl)
      standAt p2.atName
      let (f, first) ← holding [ov] (getMethod ov (Str.ofString "reader") pl)
      callWith p4 f first (backTo p4 (starEach [.Name (Str.ofString "stream") p3] (envX cn cs L fa ccd cl))) [])) :
    wpAny (model prog w) A (eval (.Call (.Attribute (.Name (Str.ofString "root") p1) (Str.ofString "reader") p2) [.Name (Str.ofString "stream") p3] [] p4) (envX cn cs L fa ccd cl)) Q E s := by
  have X' := X.keeps F.keep
  cases hde with
  | mk e1 e2 r =>
    refine MethodCall_ ?_ he
    refine nameX_L F hr ?_ hk k1
    refine meth_reader X' e1 e2 ?_
    refine callWith_F (r.fn X') (spliced_more ?_)
    refine nameX_L F hs ?_ hk k2
    exact spliced_none ⟨r.fn X', h _ _ r⟩
end
theorem ne_same_bytes {prog : Program} {w : World} {A : Around} {E : Value → Shared → Prop} {s : Shared} {b : List UInt8} {t v : Tok} {Q : Value → Shared → Prop} (h : Q (.bool false) s) : wpAny (model prog w) A (compareOp .NotEq (.bytes b.toArray t) (.bytes b.toArray v)) Q E s := by
  refine ne_bytes ?_
  rw [bne_self_eq_false]; exact h
local macro_rules | `(tactic| walk_at "compareOp NotEq bytes bytes") => `(tactic| (k_here; refine ne_same_bytes ?_))
local macro_rules | `(tactic| walk_at "call ref") => `(tactic| (k_here; refine stop ?_))
local macro_rules | `(tactic| walk_at "eval Call Attribute") => `(tactic| (k_here; refine stop ?_))
local macro_rules | `(tactic| walk_at "binaryOp Add bytes bytes") => `(tactic| (k_here; (refine bytes_add_K (by simp only [List.size_toArray, List.length_cons, List.length_nil, List.length_append]; omega) rfl ?_); intro _ _))
section
variable {prog : Program} {w : World} {g : Heap} {s : Shared} {mean : ExcName → Option Value} {mg mb : Str → Option Value} {L : Addr} {m : Str → Option Value} {qk : Flow → Shared → Prop} {ek : Value → Shared → Prop} {cn : Str} {fa : Addr} {ccd : Value}
set_option maxHeartbeats 8000000 in
theorem law_s9 {da va NA U : Addr} {os : List UInt8} {to : Tok} {u : Str → Option Value} {tl : List (Addr × Obj)} {ps : Array Value} (Y : Amb w mean mg mb g) (B : Below callerA g [] g)
    (F : Fr g L s.heap (lateMap da va os to NA U u)) (N : News g L s.heap ((76, tabObj ps) :: tl)) (ht : Tbl g tl ps) (hos : os.length ≤ 300)
    (h : ∀ h' tk d t2 ps' ex, Fr g L h' (strMap d.x (lateMap da va os to NA U u)) → News g L h' (d.led (os ++ os ++ restB) t2 ++ (76, tabObj ps') :: (ex ++ tl)) → Sp g d (ex ++ tl) ps' →
      wpAny (model prog w) (callerA.deeper (envX cn lawScope L fa ccd [(Str.ofString "p", L + 1)])) (execs (lawBody.drop 10) (envX cn lawScope L fa ccd [(Str.ofString "p", L + 1)])) qk ek { s with heap := h', toks := tk }) :
    wpAny (model prog w) (callerA.deeper (envX cn lawScope L fa ccd [(Str.ofString "p", L + 1)])) (execs (lawBody.drop 9) (envX cn lawScope L fa ccd [(Str.ofString "p", L + 1)])) qk ek s := by
  have X := Y.X
  have T := Y.T
  have ofStop : ∀ {p : Prop}, p → Stop p := fun h => h
  have e : lawBody.drop 9 = lawBody.getD 9 (.Pass ⟨0, 0, 0, 0⟩) :: lawBody.drop 10 := rfl
  rw [e]
  clear e
  generalize lawBody.drop 10 = rest at h ⊢
  show wpAny _ _ (execs (Stmt.Assign _ _ _ :: rest) _) _ _ _
  repeat' (first | (k_unfold; (try dsimp only)) | (walk1; (try dsimp only)))
  refine ofStop ?_
  rename Fr _ _ _ _ => F
  rename News _ _ _ _ => N
  refine' make_stream (bs := os ++ os ++ restB) ?y ?b ?f ?n rfl rfl ?t (by decide) ?z ?_
  case y => exact Y
  case b => exact B
  case f => exact F
  case n => exact N
  case t => exact ht
  case z => simp only [List.length_append, List.length_cons, List.length_nil]; omega
  intro h' tk d t2 ps' ex F' N' sp _ _ _
  clear F N
  try dsimp only
  repeat' (first | (k_unfold; (try dsimp only)) | (walk1; (try dsimp only)))
  rename Fr _ _ _ _ => F
  rename News _ _ _ _ => N
  exact h _ _ d t2 ps' ex F N sp
set_option maxHeartbeats 8000000 in
theorem law_s10 {da va NA U : Addr} {os : List UInt8} {to t2 : Tok} {u : Str → Option Value} {tl : List (Addr × Obj)} {ps : Array Value} {d : StD} {cs : List Mine.T} (Y : Amb w mean mg mb g) (B : Below callerA g [] g)
    (F : Fr g L s.heap (strMap d.x (lateMap da va os to NA U u))) (N : News g L s.heap (d.led (os ++ os ++ restB) t2 ++ (76, tabObj ps) :: tl)) (sp : Sp g d tl ps) (rob : Rob g tl da va (.c cs)) (hos : os = (T.c cs).oct) (hsz : (T.c cs).sz ≤ 100)
    (h : ∀ h' tk t2' ps' ex, Fr g L h' (strMap d.x (lateMap da va os to NA U u)) → News g L h' (d.led (os ++ restB) t2' ++ (76, tabObj ps') :: (ex ++ tl)) → Sp g d (ex ++ tl) ps' →
      wpAny (model prog w) (callerA.deeper (envX cn lawScope L fa ccd [(Str.ofString "p", L + 1)])) (execs (lawBody.drop 11) (envX cn lawScope L fa ccd [(Str.ofString "p", L + 1)])) qk ek { s with heap := h', toks := tk }) :
    wpAny (model prog w) (callerA.deeper (envX cn lawScope L fa ccd [(Str.ofString "p", L + 1)])) (execs (lawBody.drop 10) (envX cn lawScope L fa ccd [(Str.ofString "p", L + 1)])) qk ek s := by
  have X := Y.X
  have T := Y.T
  have hol : os.length ≤ 100 := by rw [hos]; have := oct_le (.c cs); omega
  have ofStop : ∀ {p : Prop}, p → Stop p := fun h => h
  have e : lawBody.drop 10 = lawBody.getD 10 (.Pass ⟨0, 0, 0, 0⟩) :: lawBody.drop 11 := rfl
  rw [e]
  clear e
  generalize lawBody.drop 11 = rest at h ⊢
  show wpAny _ _ (execs (Stmt.If _ _ _ _ :: rest) _) _ _ _
  repeat' (first | (k_unfold; (try dsimp only)) | (walk1; (try dsimp only)))
  refine ofStop ?_
  rename Fr _ _ _ _ => F
  rename News _ _ _ _ => N
  have htl : ∀ p ∈ tl, s.heap.get? p.1 = some p.2 := fun p hp => (N p (List.mem_append_right _ (.tail _ hp))).1
  have hht := ht_sz (.c cs)
  refine root_eval X F rfl rfl (rob.d _ F.keep htl) (fun rd tk hrd => ?_) rfl rfl rfl (by with_unfolding_all rfl)
  refine' root_read ?y ?b ?f ?n ?sp rfl rfl ?rd ?room ?sz ?z rfl ?_ ?err
  case y => exact Y
  case b => exact B
  case f => exact F
  case n => exact N
  case sp => exact sp
  case rd => exact hrd
  case room => have h1 : callerA.depth + 300 < recursionLimit := by decide
               omega
  case sz => omega
  case z => simp only [List.length_append, List.length_cons, List.length_nil]; omega
  case err =>
    intro mm r hp
    rw [List.append_assoc, hos, parse_oct (.c cs) _ (by omega)] at hp
    cases hp
  intro V r hp v h' tk' t2' ps' ex F' N' sp' hv
  rw [List.append_assoc, hos, parse_oct (.c cs) _ (by omega), ← hos] at hp
  cases hp
  have htl' : ∀ p ∈ tl, h'.get? p.1 = some p.2 := fun p hp => (N' p (List.mem_append_right _ (.tail _ (List.mem_append_right _ hp)))).1
  refine nameX_L F' rfl ?_
  rw [T.val] at hv
  have hrv := rob.v h' F'.keep htl'
  rw [T.val] at hrv
  refine ne_val (s := ⟨_, _, _, _, _⟩) hv hrv ?_ ?_
  · have h1 : (callerA.deeper (envX cn lawScope L fa ccd [(Str.ofString "p", L + 1)])).units + 200 < cLine := by show callerA.units + 3 + 200 < cLine; decide
    have h2 := dep_le (.c cs)
    rw [T.val] at h2
    omega
  clear F N hv hrv
  unfold StD.led StD.dict at N'
  simp only [List.cons_append, List.nil_append] at N'
  try dsimp only
  repeat' (first | (k_unfold; (try dsimp only)) | (walk1; (try dsimp only)))
  rename Fr _ _ _ _ => F
  rename News _ _ _ _ => N
  exact h _ _ t2' ps' ex F N sp'
set_option maxHeartbeats 8000000 in
theorem law_s11 {da va NA U : Addr} {os : List UInt8} {to t2 : Tok} {u : Str → Option Value} {tl : List (Addr × Obj)} {ps : Array Value} {d : StD} {cs : List Mine.T} (Y : Amb w mean mg mb g) (B : Below callerA g [] g)
    (F : Fr g L s.heap (strMap d.x (lateMap da va os to NA U u))) (N : News g L s.heap (d.led (os ++ restB) t2 ++ (76, tabObj ps) :: tl)) (sp : Sp g d tl ps) (rob : Rob g tl da va (.c cs)) (hos : os = (T.c cs).oct) (hsz : (T.c cs).sz ≤ 100)
    (h : ∀ h' tk t2' ps' ex, Fr g L h' (strMap d.x (lateMap da va os to NA U u)) → News g L h' (d.led restB t2' ++ (76, tabObj ps') :: (ex ++ tl)) → Sp g d (ex ++ tl) ps' →
      wpAny (model prog w) (callerA.deeper (envX cn lawScope L fa ccd [(Str.ofString "p", L + 1)])) (execs (lawBody.drop 12) (envX cn lawScope L fa ccd [(Str.ofString "p", L + 1)])) qk ek { s with heap := h', toks := tk }) :
    wpAny (model prog w) (callerA.deeper (envX cn lawScope L fa ccd [(Str.ofString "p", L + 1)])) (execs (lawBody.drop 11) (envX cn lawScope L fa ccd [(Str.ofString "p", L + 1)])) qk ek s := by
  have X := Y.X
  have T := Y.T
  have hol : os.length ≤ 100 := by rw [hos]; have := oct_le (.c cs); omega
  have ofStop : ∀ {p : Prop}, p → Stop p := fun h => h
  have e : lawBody.drop 11 = lawBody.getD 11 (.Pass ⟨0, 0, 0, 0⟩) :: lawBody.drop 12 := rfl
  rw [e]
  clear e
  generalize lawBody.drop 12 = rest at h ⊢
  show wpAny _ _ (execs (Stmt.If _ _ _ _ :: rest) _) _ _ _
  repeat' (first | (k_unfold; (try dsimp only)) | (walk1; (try dsimp only)))
  refine ofStop ?_
  rename Fr _ _ _ _ => F
  rename News _ _ _ _ => N
  have htl : ∀ p ∈ tl, s.heap.get? p.1 = some p.2 := fun p hp => (N p (List.mem_append_right _ (.tail _ hp))).1
  have hht := ht_sz (.c cs)
  refine root_eval X F rfl rfl (rob.d _ F.keep htl) (fun rd tk hrd => ?_) rfl rfl rfl (by with_unfolding_all rfl)
  refine' root_read ?y ?b ?f ?n ?sp rfl rfl ?rd ?room ?sz ?z rfl ?_ ?err
  case y => exact Y
  case b => exact B
  case f => exact F
  case n => exact N
  case sp => exact sp
  case rd => exact hrd
  case room => have h1 : callerA.depth + 300 < recursionLimit := by decide
               omega
  case sz => omega
  case z => simp only [List.length_append, List.length_cons, List.length_nil]; omega
  case err =>
    intro mm r hp
    rw [hos, parse_oct (.c cs) _ (by omega)] at hp
    cases hp
  intro V r hp v h' tk' t2' ps' ex F' N' sp' hv
  rw [hos, parse_oct (.c cs) _ (by omega)] at hp
  cases hp
  have htl' : ∀ p ∈ tl, h'.get? p.1 = some p.2 := fun p hp => (N' p (List.mem_append_right _ (.tail _ (List.mem_append_right _ hp)))).1
  refine nameX_L F' rfl ?_
  rw [T.val] at hv
  have hrv := rob.v h' F'.keep htl'
  rw [T.val] at hrv
  refine ne_val (s := ⟨_, _, _, _, _⟩) hv hrv ?_ ?_
  · have h1 : (callerA.deeper (envX cn lawScope L fa ccd [(Str.ofString "p", L + 1)])).units + 200 < cLine := by show callerA.units + 3 + 200 < cLine; decide
    have h2 := dep_le (.c cs)
    rw [T.val] at h2
    omega
  clear F N hv hrv
  unfold StD.led StD.dict at N'
  simp only [List.cons_append, List.nil_append] at N'
  try dsimp only
  repeat' (first | (k_unfold; (try dsimp only)) | (walk1; (try dsimp only)))
  rename Fr _ _ _ _ => F
  rename News _ _ _ _ => N
  exact h _ _ t2' ps' ex F N sp'
end
end Mine
end
theorem Mine.anewLaw9 : True ∧ True := by
  have h : True ∧ True := ⟨trivial, trivial⟩
  first | (walk1; done) | exact h
section
open PySem PySem.W PyProof.Rows PySem.Calls PySem.Spec
set_option maxHeartbeats 2000000
namespace Mine
noncomputable def turnBody4 : List Stmt := forBody (lawBody.getD 12 (.Pass ⟨0, 0, 0, 0⟩))
noncomputable def compOf : Stmt → Expr
  | .Assign _ (.Subscript v _ _) _ => v
  | _ => .Name "" ⟨0, 0, 0, 0⟩
noncomputable def compE : Expr := compOf (turnBody4.getD 1 (.Pass ⟨0, 0, 0, 0⟩))
noncomputable abbrev tupOf (x y : Int) (e1 e2 : Tok) (n : Nat) : Obj := { cls := .type "tuple", data := .seq #[.int x e1, .int y e2] n }
theorem UAll.get {P : Addr → Obj → Prop} : ∀ {vs : List Value} {us : List (Int × Int)} {v : Value}, UAll P vs us → v ∈ vs → ∃ a x y e1 e2 n, v = .ref a ∧ P a (tupOf x y e1 e2 n)
  | _, _, _, .nil, h => nomatch h
  | _, _, _, .cons p r, h => by
    rcases List.mem_cons.mp h with rfl | h
    · exact ⟨_, _, _, _, _, _, rfl, p⟩
    · exact r.get h
theorem UAll.filt {P : Addr → Obj → Prop} {p : Value → Bool} {q : Int × Int → Bool} (k : ∀ a x y e1 e2 n, P a (tupOf x y e1 e2 n) → p (.ref a) = q (x, y)) : ∀ {vs : List Value} {us : List (Int × Int)}, UAll P vs us → UAll P (vs.filter p) (us.filter q)
  | _, _, .nil => .nil
  | _, _, .cons (a := a) (x := x) (y := y) h r => by
    have e := k _ _ _ _ _ _ h
    rw [List.filter_cons, List.filter_cons, e]
    split
    · exact .cons h (r.filt k)
    · exact r.filt k
theorem paired_eq : ∀ {vs ys : List Value}, Paired (fun v y => y = v) vs ys → ys = vs
  | _, _, .nil => rfl
  | _, _, .cons e r => by rw [e, paired_eq r]
section
variable {prog : Program} {w : World} {A : Around} {E : Value → Shared → Prop} {s : Shared} {g : Heap} {L : Addr} {m : Str → Option Value}
/-- unit[0] <= p < unit[0] + unit[1] -/
theorem unit_test {env : Env} {a sc C : Addr} {x y p : Int} {e1 e2 tp : Tok} {n : Nat} {m₃ : Str → Option Value} {whole : Sem Value} {q0 q1 q2 q3 q4 q5 q6 q7 q8 q9 q10 q11 q12 : Pos} {k0 k1 k2 : Nat} {Q : Bool → Shared → Prop}
    (hn : s.heap.Ns env.locals m₃) (hm : m₃ (Str.ofString "unit") = some (.ref a)) (ht : s.heap.get? a = some (tupOf x y e1 e2 n)) (hcl : s.heap.IsCell sc (some (.int p tp)))
    (hk : env.scope.kind = .function) (hu : env.kindOf (Str.ofString "unit") = some .local) (hp : env.kindOf (Str.ofString "p") = some .cell) (hc : env.cells.lookup (Str.ofString "p") = some sc)
    (h : ∀ tk, Q (isIn p (x, y)) { s with toks := tk }) :
    wpAny (model prog w) A (isTrue (.Compare (.Subscript (.Name (Str.ofString "unit") q0) (.Constant (.int 0) 0 q1) q2) [.LtE, .Lt] [.Name (Str.ofString "p") q3, .BinOp (.Subscript (.Name (Str.ofString "unit") q4) (.Constant (.int 0) 0 q5) q6) .Add (.Subscript (.Name (Str.ofString "unit") q7) (.Constant (.int 1) 0 q8) q9) q10] q11) env whole) Q E s := by
  have tup : ∀ {s' : Shared}, s'.heap = s.heap → IsTup s'.heap a #[.int x e1, .int y e2] := fun e => ⟨_, by rw [e]; exact ht, rfl, _, rfl⟩
  have nm : ∀ {s' : Shared} {Q' : Value → Shared → Prop} {q : Pos}, s'.heap = s.heap → Q' (.ref a) s' → wpAny (model prog w) A (eval (.Name (Str.ofString "unit") q) env) Q' E s' := fun e hq => wpAny_Name (wpAny_loadName_local hk hu (by rw [e]; exact hn) hm hq)
  have i0 : ∀ {s' : Shared} {Q' : Value → Shared → Prop} {q q' q'' : Pos}, s'.heap = s.heap → (∀ tk, Q' (.int x e1) { s' with toks := tk }) → wpAny (model prog w) A (eval (.Subscript (.Name (Str.ofString "unit") q) (.Constant (.int 0) 0 q') q'') env) Q' E s' := fun e hq =>
    Subscript_ (nm e (wpAny_Constant_int (item_tuple (tup e) (by decide) (by decide) (j := 0) rfl rfl (hq _))))
  have i1 : ∀ {s' : Shared} {Q' : Value → Shared → Prop} {q q' q'' : Pos}, s'.heap = s.heap → (∀ tk, Q' (.int y e2) { s' with toks := tk }) → wpAny (model prog w) A (eval (.Subscript (.Name (Str.ofString "unit") q) (.Constant (.int 1) 0 q') q'') env) Q' E s' := fun e hq =>
    Subscript_ (nm e (wpAny_Constant_int (item_tuple (tup e) (by decide) (by decide) (j := 1) rfl rfl (hq _))))
  refine isTrue_chain (i0 rfl fun tk1 => ?_)
  refine test_link (wpAny_Name (wpAny_loadName_cell hk hp hc hcl ?_))
  refine PyProof.Rows.le_int (wpAny_truthy_bool ?_)
  by_cases h1 : x ≤ p
  · rw [if_pos (by exact decide_eq_true h1)]
    refine test_last (wpAny_BinOp (i0 rfl fun tk2 => i1 rfl fun tk3 => ?_))
    refine PyProof.Rows.add_int (PyProof.Rows.lt_int (wpAny_truthy_bool ?_))
    have := h
    unfold isIn at this
    dsimp only at this
    rw [decide_eq_true h1, Bool.true_and] at this
    exact this _
  · rw [if_neg (by rw [decide_eq_false h1]; exact Bool.false_ne_true)]
    have := h
    unfold isIn at this
    dsimp only at this
    rw [decide_eq_false h1, Bool.false_and] at this
    exact this _
open Classical in
theorem comp_units {cn : Str} {fa : Addr} {ccd : Value} {U : Addr} {its : List Value} {us : List (Int × Int)} {nU : Nat} {news : List (Addr × Obj)} {oc : Obj} {p : Int} {tp : Tok} {Q : Value → Shared → Prop} (hh : A.handled = none)
    (F : Fr g L s.heap m) (N : News g L s.heap news) (hU : m (Str.ofString "units") = some (.ref U)) (hUl : (U, listOf its.toArray nU) ∈ news) (hu : UAll (fun a o => (a, o) ∈ news) its us) (hc : (L + 1, oc) ∈ news) (hoc : oc.data = .cell (some (.int p tp))) (hlen : its.length ≤ 1000)
    (h : ∀ D h' ys n' tk, Fr g L h' m → News g L h' ((D, listOf ys.toArray n') :: news) → UAll (fun a o => (a, o) ∈ news) ys (us.filter (isIn p)) → (∀ q ∈ news, q.1 ≠ D) → Q (.ref D) { s with heap := h', toks := tk }) :
    wpAny (model prog w) A (eval compE (envX cn lawScope L fa ccd [(Str.ofString "p", L + 1)])) Q E s := by
  have hl := (N _ hUl).1
  have hll : s.heap.IsList U its.toArray := ⟨_, hl, rfl, nU, rfl⟩
  have hlt : U < s.heap.objs.size := Heap.lt_size hl
  have hne : U ≠ s.heap.objs.size := Nat.ne_of_lt hlt
  obtain ⟨pv, hpv⟩ : ∃ pv : Value → Bool, ∀ v, pv v = decide (∃ a x y e1 e2 n, v = .ref a ∧ (a, tupOf x y e1 e2 n) ∈ news ∧ isIn p (x, y) = true) := ⟨_, fun _ => rfl⟩
  have hpq : ∀ a x y e1 e2 n, (a, tupOf x y e1 e2 n) ∈ news → pv (.ref a) = isIn p (x, y) := fun a x y e1 e2 n ha => by
    rw [hpv]
    by_cases q : isIn p (x, y) = true
    · rw [q]; exact decide_eq_true ⟨a, x, y, e1, e2, n, rfl, ha, q⟩
    · rw [Bool.eq_false_iff.mpr q]
      refine decide_eq_false ?_
      rintro ⟨a', x', y', e1', e2', n', q1, q2, q3⟩
      cases q1
      have k1 := (N _ ha).1
      have k2 := (N _ q2).1
      dsimp only at k1 k2
      rw [k1] at k2
      have k3 := Option.some.inj k2
      have k4 := congrArg Obj.data k3
      injection k4 with k5 _
      have k6 : ([Value.int x e1, Value.int y e2] : List Value) = [.int x' e1', .int y' e2'] := by simpa using congrArg Array.toList k5
      injection k6 with k7 k8
      injection k7 with k9 _
      injection k8 with k10 _
      injection k10 with k11 _
      rw [k9, k11] at q; exact q q3
  show wpAny _ _ (eval (.ListComp (.Name _ _) [⟨.Name _ _, .Name _ _, [.Compare (.Subscript (.Name _ _) (.Constant (.int 0) 0 _) _) [.LtE, .Lt] [.Name _ _, .BinOp (.Subscript (.Name _ _) (.Constant (.int 0) 0 _) _) .Add (.Subscript (.Name _ _) (.Constant (.int 1) 0 _) _) _] _], 0⟩] _ _) _) _ _ _
  refine wpAny_ListComp_free (cl := [(Str.ofString "p", L + 1)]) pv (fun v y => y = v) (by with_unfolding_all rfl) (by decide) rfl (by decide) (by rfl) (nameX_L F hU ?_ rfl (by rfl)) (by intro _; rfl)
  refine wpAny_pyIter_list hll ⟨_, _, _, _, _, _, rfl, Walks.list (A := A) hh s.heap.objs.size U hne its.toArray, ?_, ⟨⟨_, Heap.get?_push_size _ rfl, rfl, rfl⟩, hll.push _⟩, fun b hb => ?_, ⟨?_, ?_⟩, ?_⟩
  · rw [List.size_toArray]; exact Nat.le_trans hlen (by decide)
  · rw [Heap.size_push]
    rcases List.mem_cons.mp hb with rfl | hb
    · exact Nat.lt_succ_self _
    · rw [List.mem_singleton.mp hb]; exact Nat.lt_succ_of_lt hlt
  · intro C i v s₃ m₃ E' hC hP hn hm hk _
    have hv : v ∈ its := by
      rw [List.getElem?_toArray] at hP
      exact List.mem_of_getElem? hP
    obtain ⟨a, x, y, e1, e2, n, rfl, ha⟩ := hu.get hv
    have kk : ∀ b o, s.heap.get? b = some o → s₃.heap.get? b = some o := fun b o e => hk b o (fun q => by
      have := Heap.lt_size e
      rw [List.mem_singleton.mp q] at this; exact Nat.lt_irrefl _ this) (Heap.get?_push_of_some _ e)
    refine wpAny_tests_one ?_
    refine unit_test (sc := L + 1) (C := C) (k0 := 0) (k1 := 0) (k2 := 0) (q12 := ⟨0, 0, 0, 0⟩) hn hm (kk _ _ (N _ ha).1) ⟨oc, kk _ _ (N _ hc).1, hoc⟩ rfl (by rfl) (by rfl) (by rfl) fun tk => ⟨(hpq _ _ _ _ _ _ ha).symm, _, _, rfl, fun _ _ e => e⟩
  · intro C i v s₃ m₃ E' hC hP _ hn hm hk _
    exact wpAny_Name (wpAny_loadName_local rfl (by rfl) hn hm ⟨rfl, _, _, rfl, fun _ _ e => e⟩)
  · intro D h' tk ys vs hD hlD hpD hlen' hvs hp hk
    obtain ⟨n', hn'⟩ := hpD
    have old : ∀ b o, s.heap.get? b = some o → h'.get? b = some o := fun b o e => hk b o (fun q => by
      have := Heap.lt_size e
      rw [List.mem_singleton.mp q] at this; exact Nat.lt_irrefl _ this) (Heap.get?_push_of_some _ e)
    have hvi : vs = its := by
      refine List.ext_getElem? fun j => ?_
      cases hj : vs[j]? with
      | none =>
        rw [eq_comm, List.getElem?_eq_none_iff]
        rw [List.getElem?_eq_none_iff, hlen'] at hj
        simpa using hj
      | some v =>
        have := hvs j v hj
        rw [List.getElem?_toArray] at this
        exact this.symm
    have hD' : s.heap.get? D = none := by
      cases q : s.heap.get? D with
      | none => rfl
      | some o => rw [Heap.get?_push_of_some _ q] at hD; cases hD
    rw [hvi] at hp
    have hy := paired_eq hp
    refine h D h' ys.toList n' tk ⟨?_, fun b o e => old b o (F.keep b o e), F.above⟩ (fun q hq => ?_) (by rw [hy]; exact hu.filt hpq) fun q hq e => ?_
    · obtain ⟨o, es, ep, ho, r⟩ := F.ns
      exact ⟨o, es, ep, old _ _ ho, r⟩
    · rcases List.mem_cons.mp hq with rfl | hq
      · refine ⟨hn', fun q => ?_, ?_⟩
        · obtain ⟨o, es, ep, ho, r⟩ := F.ns
          dsimp only at q
          rw [q, ho] at hD'; cases hD'
        · cases q : g.get? D with
          | none => rfl
          | some o => rw [F.keep _ _ q] at hD'; cases hD'
      · exact ⟨old _ _ (N q hq).1, (N q hq).2⟩
    · have := (N q hq).1
      rw [e, hD'] at this; cases this
end
end Mine
end
theorem Mine.anewUnits : True ∧ True := by
  have h : True ∧ True := ⟨trivial, trivial⟩
  first | (walk1; done) | exact h
section
open PySem PySem.W PyProof.Rows PySem.Calls PySem.Spec
set_option maxHeartbeats 2000000
namespace Mine
set_option maxHeartbeats 8000000 in
theorem mod_wordsN (a : Int) (ha : 0 ≤ a) (ha2 : a < 1000000) : ∃ W : Str, ∀ {prog : Program} {w : World} {A : Around} {E : Value → Shared → Prop} {s : Shared} {t : Tok} {Q : Value → Shared → Prop} {x L : Addr} {n : Nat} {h₀ : Heap} {news : List (Addr × Obj)} {ta tb : Tok}
    (N : News h₀ L s.heap news) (hm : (x, ({ cls := .type "tuple", data := .seq #[.int a ta, .int (-1) tb] n } : Obj)) ∈ news)
    (h : ∀ t' k, Q (.str W t') { s with toks := k }), wpAny (model prog w) A (binaryOp .Mod (.str expWords t) (.ref x)) Q E s := by
  refine ⟨?W, ?_⟩
  rotate_left
  · intro prog w A E s t Q x L n h₀ news ta tb N hm h
    have ha3 : a < 10 ^ 10 := by omega
    k_dflt (refine' KPt.mod_tuple ?kptN ?kptb ?kptF ?kptm ?_; (case kptN => exact N); (case kptb => exact hm); (case kptF => kpt_eq); (case kptm => kpt_run))
    exact h
/-- the words of a cut, whatever is left -/
theorem mod_wordsZ {a b : Int} (ha : 0 ≤ a) (hb : -1 ≤ b) (ha2 : a < 1000000) (hb2 : b < 1000000) {prog : Program} {w : World} {A : Around} {E : Value → Shared → Prop} {s : Shared} {t : Tok} {Q : Value → Shared → Prop} {x L : Addr} {n : Nat} {h₀ : Heap} {news : List (Addr × Obj)} {ta tb : Tok}
    (N : News h₀ L s.heap news) (hm : (x, ({ cls := .type "tuple", data := .seq #[.int a ta, .int b tb] n } : Obj)) ∈ news)
    (h : ∀ W t' k, (0 ≤ b → W = cutWords a b) → Q (.str W t') { s with toks := k }) : wpAny (model prog w) A (binaryOp .Mod (.str expWords t) (.ref x)) Q E s := by
  by_cases h0 : 0 ≤ b
  · exact mod_words ha h0 ha2 hb2 N hm fun t' k => h _ t' k fun _ => rfl
  · have e : b = -1 := by omega
    subst e
    obtain ⟨W, hW⟩ := mod_wordsN a ha ha2
    exact hW N hm fun t' k => h W t' k fun q => absurd q h0
end Mine
end
theorem Mine.anewWordsZ : True ∧ True := by
  have h : True ∧ True := ⟨trivial, trivial⟩
  first | (walk1; done) | exact h
section
open PySem PySem.W PyProof.Rows PySem.Calls PySem.Spec
set_option maxHeartbeats 2000000
namespace Mine

noncomputable abbrev botMap (da : Addr) (os : List UInt8) (to : Tok) (U : Addr) (u : Str → Option Value) : Str → Option Value := fun y =>
  if y = Str.ofString "root" then some (Value.ref da) else if y = Str.ofString "octets" then some (Value.bytes os.toArray to) else if y = Str.ofString "units" then some (Value.ref U) else u y
local macro_rules | `(tactic| walk_at "call builtin:len") => `(tactic| (k_here; (with_reducible show wpAny _ _ (call (Value.builtin "len") [Value.bytes _ _]) _ _ _); (refine len_bytes (by simp only [List.size_toArray]; omega) ?_); (simp only [List.size_toArray])))
local macro_rules | `(tactic| walk_at "call ref") => `(tactic| (k_here; refine stop ?_))
section
variable {prog : Program} {w : World} {g : Heap} {s : Shared} {mean : ExcName → Option Value} {mg mb : Str → Option Value} {L : Addr} {m : Str → Option Value} {qk : Flow → Shared → Prop} {ek : Value → Shared → Prop} {cn : Str} {fa : Addr} {ccd : Value}
set_option maxHeartbeats 8000000 in
theorem cut_p {x : Int} {t : Tok} {da U : Addr} {os : List UInt8} {to : Tok} {u : Str → Option Value} {tl : List (Addr × Obj)} {oc : Obj} {cv : Option Value} (Y : Amb w mean mg mb g) (B : Below callerA g [] g)
    (F : Fr g L s.heap (fun y => if y = Str.ofString "x" then some (.int x t) else botMap da os to U u y)) (N : News g L s.heap ((L + 1, oc) :: tl)) (hoc : oc.data = .cell cv) (htl : ∀ p ∈ tl, p.1 ≠ L + 1) (h1 : 2 ≤ os.length) (h2 : os.length ≤ 300)
    (h : ∀ h' tk oc' tp, Fr g L h' (fun y => if y = Str.ofString "x" then some (.int x t) else botMap da os to U u y) → News g L h' ((L + 1, oc') :: tl) → oc'.data = .cell (some (.int (x.fmod ((os.length : Int) - 1)) tp)) → wpAny (model prog w) (callerA.deeper (envX cn lawScope L fa ccd [(Str.ofString "p", L + 1)])) (execs (turnBody4.drop 1) (envX cn lawScope L fa ccd [(Str.ofString "p", L + 1)])) qk ek { s with heap := h', toks := tk }) :
    wpAny (model prog w) (callerA.deeper (envX cn lawScope L fa ccd [(Str.ofString "p", L + 1)])) (execs turnBody4 (envX cn lawScope L fa ccd [(Str.ofString "p", L + 1)])) qk ek s := by
  have X := Y.X
  have T := Y.T
  have ofStop : ∀ {p : Prop}, p → Stop p := fun h => h
  have e : turnBody4 = turnBody4.getD 0 (.Pass ⟨0, 0, 0, 0⟩) :: turnBody4.drop 1 := rfl
  rw [e]
  clear e
  generalize turnBody4.drop 1 = rest at h ⊢
  show wpAny _ _ (execs (Stmt.Assign _ _ _ :: rest) _) _ _ _
  repeat' (first | (k_unfold; (try dsimp only)) | (walk1; (try dsimp only)))
  rename Fr _ _ _ _ => F
  rename News _ _ _ _ => N
  have hc1 := N (L + 1, oc) (.head _)
  refine wpAny_storeName_cell (c := L + 1) (v₀ := cv) rfl rfl rfl ⟨oc, hc1.1, hoc⟩ fun h2 hv hs2 => ?_
  have k2 : KeepBut [L + 1] s.heap h2 := fun b o hb e => hs2.extBut b o (fun q => hb (List.mem_singleton.mpr q)) e
  have F2 := fr_keep F k2 (fun q => absurd (List.mem_singleton.mp q) (Nat.ne_of_lt (Nat.lt_succ_self _))) (fun a ha => by rw [List.mem_singleton.mp ha]; exact hc1.2.2)
  obtain ⟨oc', ho', hd'⟩ := hv
  refine h h2 _ oc' _ F2 (List.forall_mem_cons.mpr ⟨⟨ho', hc1.2⟩, fun p hp => ⟨k2 _ _ (fun q => htl p hp (List.mem_singleton.mp q)) (N p (.tail _ hp)).1, (N p (.tail _ hp)).2⟩⟩) hd'
local macro_rules | `(tactic| walk_at "eval ListComp") => `(tactic| (k_here; refine stop ?_))
noncomputable abbrev cutMap (st sz : Int) (t1 t2 : Tok) (da : Addr) (os : List UInt8) (to : Tok) (U : Addr) (u : Str → Option Value) : Str → Option Value := fun y => if y = Str.ofString "size" then some (.int sz t2) else if y = Str.ofString "start" then some (.int st t1) else botMap da os to U u y
set_option maxHeartbeats 8000000 in
theorem cut_unit {da U : Addr} {os : List UInt8} {to tp : Tok} {u : Str → Option Value} {tl : List (Addr × Obj)} {oc : Obj} {p : Int} {its : List Value} {us : List (Int × Int)} {nU : Nat} {uu : Int × Int} (Y : Amb w mean mg mb g) (B : Below callerA g [] g)
    (F : Fr g L s.heap (botMap da os to U u)) (N : News g L s.heap ((L + 1, oc) :: tl)) (hoc : oc.data = .cell (some (.int p tp))) (hUl : (U, listOf its.toArray nU) ∈ tl) (hu : UAll (fun a o => (a, o) ∈ tl) its us) (hlen : its.length ≤ 1000) (hus : us.filter (isIn p) = [uu])
    (h : ∀ h' tk t1 t2, Fr g L h' (cutMap uu.1 uu.2 t1 t2 da os to U u) → News g L h' ((L + 1, oc) :: tl) → wpAny (model prog w) (callerA.deeper (envX cn lawScope L fa ccd [(Str.ofString "p", L + 1)])) (execs (turnBody4.drop 2) (envX cn lawScope L fa ccd [(Str.ofString "p", L + 1)])) qk ek { s with heap := h', toks := tk }) :
    wpAny (model prog w) (callerA.deeper (envX cn lawScope L fa ccd [(Str.ofString "p", L + 1)])) (execs (turnBody4.drop 1) (envX cn lawScope L fa ccd [(Str.ofString "p", L + 1)])) qk ek s := by
  have X := Y.X
  have T := Y.T
  have ofStop : ∀ {p : Prop}, p → Stop p := fun h => h
  have e : turnBody4.drop 1 = turnBody4.getD 1 (.Pass ⟨0, 0, 0, 0⟩) :: turnBody4.drop 2 := rfl
  rw [e]
  clear e
  generalize turnBody4.drop 2 = rest at h ⊢
  show wpAny _ _ (execs (Stmt.Assign _ _ _ :: rest) _) _ _ _
  repeat' (first | (k_unfold; (try dsimp only)) | (walk1; (try dsimp only)))
  refine ofStop ?_
  rename Fr _ _ _ _ => F
  rename News _ _ _ _ => N
  refine comp_units (s := ⟨_, _, _, _, _⟩) (U := U) (its := its) (nU := nU) (us := us) (oc := oc) (p := p) (tp := tp) rfl F N rfl (.tail _ hUl) (hu.mono fun a o ha => .tail _ ha) (.head _) hoc hlen fun D h1 ys n' tk1 F1 N1 hy hne => ?_
  rw [hus] at hy
  obtain ⟨ux, uy⟩ := uu
  cases hy with
  | cons ha r =>
    cases r
    have hta := N1 _ (.tail _ ha)
    have N2 := news_cons (p := (_, tupOf ux uy _ _ _)) (fun p hp => by rw [List.mem_singleton.mp hp]; exact hta) N1
    clear F N N1
    try dsimp only
    repeat' (first | (k_unfold; (try dsimp only)) | (walk1; (try dsimp only)))
    rename Fr _ _ _ _ => F
    rename News _ _ _ _ => N
    exact h _ _ _ _ F (fun p hp => N p (.tail _ (.tail _ hp)))
end
end Mine
end
theorem Mine.anewCut0 : True ∧ True := by
  have h : True ∧ True := ⟨trivial, trivial⟩
  first | (walk1; done) | exact h
section
open PySem PySem.W PyProof.Rows PySem.Calls PySem.Spec
set_option maxHeartbeats 2000000
namespace Mine
theorem picked_mid (bs : List UInt8) (k : Nat) : KBy.picked bs.toArray (some 1) (some (1 + (k : Int))) = ((bs.drop 1).take k).toArray := by
  rw [KBc.picked_eq]
  have e1 : (1 : Int) = ((1 : Nat) : Int) := rfl
  have e2 : (1 + (k : Int)) = ((1 + k : Nat) : Int) := by omega
  rw [e2, e1]
  simp only [Option.elim, clipAt_nat, List.size_toArray]
  congr 1
  by_cases h : 1 ≤ bs.length
  · rw [Nat.min_eq_left h]
    by_cases h2 : 1 + k ≤ bs.length
    · rw [Nat.min_eq_left h2, show 1 + k - 1 = k by omega]
    · rw [Nat.min_eq_right (by omega), List.take_of_length_le (by rw [List.length_drop]; omega), List.take_of_length_le (by rw [List.length_drop]; omega)]
  · have : bs = [] := List.eq_nil_of_length_eq_zero (by omega)
    subst this; simp
theorem bslice_mid {prog : Program} {w : World} {A : Around} {E : Value → Shared → Prop} {s : Shared} {value slice : PySem.Expr} {bs : List UInt8} {t : Tok} {h₀ : Heap} {L : Addr} {m : PySem.Str → Option Value} {news : List (Addr × Obj)} {Q : Value → Shared → Prop} {k : Nat} {t1 t2 : Tok} (hF : Fr h₀ L s.heap m) (hN : News h₀ L s.heap news) (hz : bs.length ≤ 16777216)
    (h : ∀ h' t' k', Fr h₀ L h' m → News h₀ L h' news → Q (.bytes ((bs.drop 1).take k).toArray t') { s with heap := h', toks := k' })
    (hs : subscripted slice false (.bytes bs.toArray t) (.ref s.heap.objs.size) = operate [.ref s.heap.objs.size, .bytes bs.toArray t] (getItem (.bytes bs.toArray t) (.ref s.heap.objs.size)) := by with_unfolding_all rfl)
    (ht : ∀ r, letTemporaryGo value (.bytes bs.toArray t) r = pure () := by intro _; with_unfolding_all rfl) :
    wpAny (model prog w) A (subscriptTail value slice (.bytes bs.toArray t) (.ref s.heap.objs.size)) Q E { s with heap := s.heap.push { cls := .type "slice", data := .fields #[.int 1 t1, .int (1 + (k : Int)) t2, .none] } } :=
  KBc.slice_K hF hN (ks := KBw.bInts bs.toArray) rfl (.int _ _) (.int _ _) (by rw [KBw.ints_length]; simpa using hz) (fun h' t' k' F' N' _ => by rw [picked_mid]; exact h h' t' k' F' N') hs ht
local macro_rules | `(tactic| walk_at "subscriptTail") => `(tactic| (k_here; (with_reducible show wpAny _ _ (subscriptTail _ (Expr.Slice _ _ none _) (Value.bytes (List.toArray _) _) (Value.ref _)) _ _ _); (with_reducible rename Fr _ _ _ _ => F'); (with_reducible rename News _ _ _ _ => N'); (refine bslice_mid (s := ⟨_, _, _, _, _⟩) F' N' (by omega) ?_); intro _ _ _ _ _))
local macro_rules | `(tactic| walk_at "binaryOp Mod str ref") => `(tactic| (k_here; (with_reducible show wpAny _ _ (binaryOp Operator.Mod (Value.str _ _) (Value.ref _)) _ _ _); k_dflt (refine' mod_wordsZ ?c1 ?c2 ?c3 ?c4 ?N ?m ?_; (case N => k_asm); (case m => k_mem); (case c1 => omega); (case c2 => omega); (case c3 => omega); (case c4 => omega)); intro W _ _ hW))
local macro_rules | `(tactic| walk_at "call ref") => `(tactic| (k_here; refine stop ?_))
local macro_rules | `(tactic| walk_at "binaryOp Add bytes bytes") => `(tactic| (k_here; (refine bytes_add_K (by simp only [List.size_toArray, List.length_cons, List.length_nil, List.length_append, List.length_take, List.length_drop]; omega) rfl ?_); intro _ _))
noncomputable abbrev wordMap (W : Str) (tw : Tok) (st sz : Int) (t1 t2 : Tok) (da : Addr) (os : List UInt8) (to : Tok) (U : Addr) (u : Str → Option Value) : Str → Option Value := fun y => if y = Str.ofString "words" then some (.str W tw) else cutMap st sz t1 t2 da os to U u y
section
variable {prog : Program} {w : World} {g : Heap} {s : Shared} {mean : ExcName → Option Value} {mg mb : Str → Option Value} {L : Addr} {m : Str → Option Value} {qk : Flow → Shared → Prop} {ek : Value → Shared → Prop} {cn : Str} {fa : Addr} {ccd : Value}
set_option maxHeartbeats 8000000 in
theorem cut_stream {da U : Addr} {os : List UInt8} {to tp t1 t2 : Tok} {u : Str → Option Value} {tl : List (Addr × Obj)} {oc : Obj} {k : Nat} {st sz : Int} {ps : Array Value} (Y : Amb w mean mg mb g) (B : Below callerA g [] g)
    (F : Fr g L s.heap (cutMap st sz t1 t2 da os to U u)) (N : News g L s.heap ((L + 1, oc) :: (76, tabObj ps) :: tl)) (hoc : oc.data = .cell (some (.int (k : Int) tp))) (hC : ∀ p ∈ tl, p.1 ≠ L + 1) (hC76 : (L + 1 : Nat) ≠ 76) (ht : Tbl g tl ps)
    (hos : os.length ≤ 200) (hk : k < 200) (h1 : st ≤ (k : Int)) (h2 : 1 ≤ sz) (h3 : sz ≤ 1000) (h4 : 0 ≤ st)
    (h : ∀ W tw h' tk d t5 ps' ex, (st < (k : Int) → W = cutWords (sz - 1) ((k : Int) - st - 1)) → Fr g L h' (strMap d.x (wordMap W tw st sz t1 t2 da os to U u)) → News g L h' ((L + 1, oc) :: (d.led ((UInt8.ofNat k :: (os.drop 1).take k) ++ restB) t5 ++ (76, tabObj ps') :: (ex ++ tl))) → Sp g d (ex ++ tl) ps' → (∀ p ∈ ex ++ tl, p.1 ≠ L + 1) → @Ne Nat d.dx (L + 1) →
      wpAny (model prog w) (callerA.deeper (envX cn lawScope L fa ccd [(Str.ofString "p", L + 1)])) (execs (turnBody4.drop 4) (envX cn lawScope L fa ccd [(Str.ofString "p", L + 1)])) qk ek { s with heap := h', toks := tk }) :
    wpAny (model prog w) (callerA.deeper (envX cn lawScope L fa ccd [(Str.ofString "p", L + 1)])) (execs (turnBody4.drop 2) (envX cn lawScope L fa ccd [(Str.ofString "p", L + 1)])) qk ek s := by
  have X := Y.X
  have T := Y.T
  have ofStop : ∀ {p : Prop}, p → Stop p := fun h => h
  have e : turnBody4.drop 2 = turnBody4.getD 2 (.Pass ⟨0, 0, 0, 0⟩) :: turnBody4.getD 3 (.Pass ⟨0, 0, 0, 0⟩) :: turnBody4.drop 4 := rfl
  rw [e]
  clear e
  generalize turnBody4.drop 4 = rest at h ⊢
  show wpAny _ _ (execs (Stmt.Assign _ _ _ :: Stmt.Assign _ _ _ :: rest) _) _ _ _
  repeat' (first | (k_unfold; (try dsimp only)) | (walk1; (try dsimp only)))
  refine ofStop ?_
  rename Fr _ _ _ _ => F
  rename News _ _ _ _ => N
  rename (0 ≤ (k : Int) - st - 1 → _) => hW
  have hc1 := N (L + 1, oc) (.tail _ (.tail _ (.head _)))
  refine' make_stream (bs := (UInt8.ofNat k :: (os.drop 1).take k) ++ restB) (tl := tl) ?y ?b ?f ?n rfl rfl ?t (by decide) ?z ?_
  case y => exact Y
  case b => exact B
  case f => exact F
  case n => exact fun p hp => N p (.tail _ (.tail _ (.tail _ hp)))
  case t => exact ht
  case z => simp only [List.length_append, List.length_cons, List.length_nil, List.length_take, List.length_drop]; omega
  intro h' tk d t5 ps' ex F' N' sp hfr hcx hkb
  have hc2 : h'.get? (L + 1) = some oc := hkb _ _ (fun q => hC76 (List.mem_singleton.mp q)) hc1.1
  have N9 : News g L h' ((L + 1, oc) :: (d.led ((UInt8.ofNat k :: (os.drop 1).take k) ++ restB) t5 ++ (76, tabObj ps') :: (ex ++ tl))) := List.forall_mem_cons.mpr ⟨⟨hc2, hc1.2⟩, N'⟩
  have q1 : ∀ p ∈ ex ++ tl, p.1 ≠ L + 1 := fun p hp => by
    rcases List.mem_append.mp hp with hp | hp
    · exact codeNe (N' p (List.mem_append_right _ (.tail _ (List.mem_append_left _ hp)))).1 (hcx p hp) hc2 (noCode_cell hoc)
    · exact hC p hp
  have q2 : @Ne Nat d.dx (L + 1) := fun q => by
    have := hfr (d.dx, d.dict _ t5) (.head _)
    dsimp only at this
    rw [q, hc1.1] at this; cases this
  clear F N N'
  try dsimp only
  repeat' (first | (k_unfold; (try dsimp only)) | (walk1; (try dsimp only)))
  rename Fr _ _ _ _ => F
  rename News _ _ _ _ => N
  exact h _ _ _ _ d t5 ps' ex (fun q => hW (by omega)) F N sp q1 q2
end
end Mine
end
theorem Mine.anewCut2 : True ∧ True := by
  have h : True ∧ True := ⟨trivial, trivial⟩
  first | (walk1; done) | exact h
section
open PySem PySem.W PyProof.Rows PySem.Calls PySem.Spec
set_option maxHeartbeats 2000000
namespace Mine
local macro_rules | `(tactic| walk_at "exec Try") => `(tactic| (k_here; refine wpAny_Try_except ?_))
local macro_rules | `(tactic| walk_at "compareOp NotEq bytes bytes") => `(tactic| (k_here; refine ne_same_bytes ?_))
local macro_rules | `(tactic| walk_at "compareOp NotEq str str") => `(tactic| (k_here; refine ne_same_str ?_))
local macro_rules | `(tactic| walk_at "call ref") => `(tactic| (k_here; refine stop ?_))
local macro_rules | `(tactic| walk_at "call type:str") => `(tactic| (k_here; refine stop ?_))
local macro_rules | `(tactic| walk_at "eval Call Attribute") => `(tactic| (k_here; refine stop ?_))
local macro_rules | `(tactic| walk_at "bind") => `(tactic| (k_here; refine stop ?_))
local macro_rules | `(tactic| walk_at "ite") => `(tactic| (k_here; first | refine ite_no (by (try simp only [decide_eq_true_eq, beq_iff_eq]); omega) ?_ | refine ite_yes (by (try simp only [decide_eq_true_eq, beq_iff_eq]); omega) ?_))
noncomputable def tryBody : Stmt → List Stmt
  | .Try b _ _ _ _ => b
  | _ => []
noncomputable def hdlBody : Stmt → List Stmt
  | .Try _ (.ExceptHandler _ _ b _ :: _) _ _ _ => b
  | _ => []
noncomputable abbrev probMap (e : Addr) (x : Addr) (W : Str) (tw : Tok) (st sz : Int) (t1 t2 : Tok) (da : Addr) (os : List UInt8) (to : Tok) (U : Addr) (u : Str → Option Value) : Str → Option Value := fun y => if y = Str.ofString "problem" then some (.ref e) else strMap x (wordMap W tw st sz t1 t2 da os to U u) y
section
variable {prog : Program} {w : World} {g : Heap} {s : Shared} {mean : ExcName → Option Value} {mg mb : Str → Option Value} {L : Addr} {m : Str → Option Value} {qk : Flow → Shared → Prop} {ek : Value → Shared → Prop} {cn : Str} {fa : Addr} {ccd : Value}
set_option maxHeartbeats 8000000 in
theorem cut_suite {e t : Addr} {oe ot : Obj} {ws : Array Value} {nt : Nat} {txt W : Str} {tk tw t1 t2 to tp t5 : Tok} {st sz : Int} {da U : Addr} {os : List UInt8} {u : Str → Option Value} {d : StD} {oc : Obj} {k : Nat} {tl : List (Addr × Obj)} (Y : Amb w mean mg mb g)
    (F : Fr g L s.heap (probMap e d.x W tw st sz t1 t2 da os to U u)) (N : News g L s.heap ((e, oe) :: (t, ot) :: (L + 1, oc) :: (d.led restB t5 ++ tl)))
    (hoe : oe.cls = .type "ValueError") (hoed : oe.data = .fields ws) (hoe0 : ws[0]? = some (.ref t)) (hot : ot.cls = .type "tuple") (hotd : ot.data = .seq #[.str txt tk] nt) (hoc : oc.data = .cell (some (.int (k : Int) tp)))
    (htxt : txt = if (k : Int) = st then noData else W)
    (h : ∀ h' tk, Fr g L h' (probMap e d.x W tw st sz t1 t2 da os to U u) → News g L h' ((e, oe) :: (t, ot) :: (L + 1, oc) :: (d.led restB t5 ++ tl)) → qk .next { s with heap := h', toks := tk }) :
    wpAny (model prog w) ((callerA.deeper (envX cn lawScope L fa ccd [(Str.ofString "p", L + 1)])).mark (some (.ref e))) (execs (hdlBody (turnBody4.getD 4 (.Pass ⟨0, 0, 0, 0⟩))) (envX cn lawScope L fa ccd [(Str.ofString "p", L + 1)])) qk ek s := by
  have X := Y.X
  have T := Y.T
  have ofStop : ∀ {p : Prop}, p → Stop p := fun h => h
  unfold StD.led StD.dict at N h
  simp only [List.cons_append, List.nil_append] at N h
  show wpAny _ _ (execs (Stmt.If _ _ _ _ :: []) _) _ _ _
  repeat' (first | (k_unfold; (try dsimp only)) | (walk1; (try dsimp only)))
  refine ofStop ?_
  rename Fr _ _ _ _ => F
  rename News _ _ _ _ => N
  refine P.str_of_exc_one PySem.F.excStr_ValueError ?_ ⟨_, _, (N _ (.head _)).1, hoe, hoed, hoe0⟩ ⟨_, _, (N _ (.tail _ (.head _))).1, hot, hotd⟩ ?_
  · show callerA.units + 3 + 2 < cLine; decide
  by_cases hks : (k : Int) = st
  · rw [if_pos hks] at htxt
    subst htxt
    repeat' (first | (k_unfold; (try dsimp only)) | (walk1; (try dsimp only)))
    rename Fr _ _ _ _ => F
    rename News _ _ _ _ => N
    exact h _ _ F N
  · rw [if_neg hks] at htxt
    subst htxt
    repeat' (first | (k_unfold; (try dsimp only)) | (walk1; (try dsimp only)))
    rename Fr _ _ _ _ => F
    rename News _ _ _ _ => N
    exact h _ _ F N
set_option maxHeartbeats 8000000 in
theorem cut_try {da va U : Addr} {os : List UInt8} {to tp t1 t2 tw t5 : Tok} {u : Str → Option Value} {tl : List (Addr × Obj)} {oc : Obj} {k : Nat} {st sz : Int} {ps : Array Value} {W : Str} {d : StD} {bs : List UInt8} {R : Mine.T} {txt : Str} (Y : Amb w mean mg mb g) (B : Below callerA g [] g)
    (F : Fr g L s.heap (strMap d.x (wordMap W tw st sz t1 t2 da os to U u))) (N : News g L s.heap ((L + 1, oc) :: (d.led bs t5 ++ (76, tabObj ps) :: tl))) (hoc : oc.data = .cell (some (.int (k : Int) tp))) (sp : Sp g d tl ps) (hC : ∀ p ∈ tl, p.1 ≠ L + 1) (hC76 : (L + 1 : Nat) ≠ 76) (hdx : @Ne Nat d.dx (L + 1))
    (rob : Rob g tl da va R) (hsz : R.sz ≤ 100) (hbs : bs.length ≤ 500) (hp : R.parse bs = (restB, .error txt)) (htxt : txt = if (k : Int) = st then noData else W)
    (h : ∀ v h' tk ps' ex, Fr g L h' (fun y => if y = Str.ofString "problem" then v else strMap d.x (wordMap W tw st sz t1 t2 da os to U u) y) → News g L h' ((L + 1, oc) :: (76, tabObj ps') :: (ex ++ tl)) → Tbl g ex ps' → (∀ p ∈ ex, p.1 ≠ L + 1) → (∀ p ∈ ex, ¬ NoCode p.2) → qk .next { s with heap := h', toks := tk }) :
    wpAny (model prog w) (callerA.deeper (envX cn lawScope L fa ccd [(Str.ofString "p", L + 1)])) (execs (turnBody4.drop 4) (envX cn lawScope L fa ccd [(Str.ofString "p", L + 1)])) qk ek s := by
  have X := Y.X
  have T := Y.T
  have ofStop : ∀ {p : Prop}, p → Stop p := fun h => h
  have hAf := Around.frames_deeper (env := (envX cn lawScope L fa ccd [(Str.ofString "p", L + 1)])) B.stack
  have htl : ∀ p ∈ tl, s.heap.get? p.1 = some p.2 := fun p hp => (N p (.tail _ (List.mem_append_right _ (.tail _ hp)))).1
  have hht := ht_sz R
  have hc1 := N (L + 1, oc) (.head _)
  show wpAny _ _ (execs (Stmt.Try _ [ExceptHandler.ExceptHandler (some (Expr.Name _ _)) (some _) (hdlBody (turnBody4.getD 4 (.Pass ⟨0, 0, 0, 0⟩))) _] _ _ _ :: []) _) _ _ _
  obtain ⟨b0, suite, hbd⟩ : ∃ b0 suite, hdlBody (turnBody4.getD 4 (.Pass ⟨0, 0, 0, 0⟩)) = b0 :: suite := ⟨_, _, rfl⟩
  generalize hsu : hdlBody (turnBody4.getD 4 (.Pass ⟨0, 0, 0, 0⟩)) = hs at hbd ⊢
  subst hbd
  repeat' (first | (k_unfold; (try dsimp only)) | (walk1; (try dsimp only)))
  refine ofStop ?_
  rename Fr _ _ _ _ => F
  rename News _ _ _ _ => N
  refine root_eval X F rfl rfl (rob.d _ F.keep htl) (fun rd tk hrd => ?_) rfl rfl rfl (by with_unfolding_all rfl)
  refine' root_read ?y ?b ?f ?n ?sp rfl rfl ?rd ?room ?sz ?z rfl ?ok ?_
  case y => exact Y
  case b => exact B
  case f => exact F
  case n => exact fun p hp => N p (.tail _ hp)
  case sp => exact sp
  case rd => exact hrd
  case room => have h1 : callerA.depth + 300 < recursionLimit := by decide
               omega
  case sz => omega
  case z => omega
  case ok =>
    intro V r hq
    rw [hp] at hq; cases hq
  intro mm r hq e h' tk' t2' ps' cds' hT hfl
  rw [hp] at hq
  cases hq
  dsimp only at hfl
  obtain ⟨BB, ea, t, tq, rfl, f1, f2, f3, f4, f5, f6⟩ := hfl
  have hadr : adrs [(envX cn lawScope L fa ccd [(Str.ofString "p", L + 1)])] = [L] := by rw [adrs_cons (L := L) rfl]; rfl
  rw [hadr] at f4 f6
  have gL : g.get? L = none := Heap.get?_none_of_le F.above
  have N' : News g L s.heap (d.led bs t5 ++ (76, tabObj ps) :: tl) := fun p hp => N p (.tail _ hp)
  have hdd := N' (d.dx, d.dict bs t5) (List.mem_append_left _ (.head _))
  have h76 := N' (76, tabObj ps) (List.mem_append_right _ (.head _))
  have hB : g.StaysIn BB := fun b o q => f4 b o (fun z => by
    rcases List.mem_cons.mp z with z | z
    · rw [z, hdd.2.2] at q; cases q
    · rw [List.mem_singleton.mp z, h76.2.2] at q; cases q) (fun z => by rw [List.mem_singleton.mp z, gL] at q; cases q) (F.keep b o q)
  obtain ⟨ex, hex, hext, hexc⟩ := tabL_split hT hB (fun p hp => f5 p (List.mem_append_right _ (.tail _ hp)))
  have bC : BB.get? (L + 1) = some oc := f4 _ _ (fun z => by
    rcases List.mem_cons.mp z with z | z
    · exact hdx z.symm
    · exact hC76 (List.mem_singleton.mp z)) (fun z => hc1.2.1 (List.mem_singleton.mp z)) hc1.1
  have bTl : ∀ p ∈ tl, BB.get? p.1 = some p.2 := fun p hp => f4 _ _ (fun z => by
    rcases List.mem_cons.mp z with z | z
    · exact sp.ne p hp z
    · exact sp.tb.ne p hp (List.mem_singleton.mp z)) (fun z => (N' p (List.mem_append_right _ (.tail _ hp))).2.1 (List.mem_singleton.mp z)) (htl p hp)
  have b76 : BB.get? 76 = some (tabObj ps') := f5 (76, tabObj ps') (List.mem_append_right _ (.head _))
  have n76 : NoCode (tabObj ps') := (hext BB hB fun p hp => (hex p hp).1).noCode
  have gled : ∀ p ∈ d.led restB t2', g.get? p.1 = none := fun p hp => by
    have : ∃ o, (p.1, o) ∈ d.led bs t5 := by
      rcases List.mem_cons.mp hp with rfl | hp
      · exact ⟨_, .head _⟩
      · exact ⟨p.2, .tail _ hp⟩
    obtain ⟨o, ho⟩ := this
    exact (N' (p.1, o) (List.mem_append_left _ ho)).2.2
  have hlL : ∀ p ∈ (L + 1, oc) :: (d.led restB t2' ++ (76, tabObj ps') :: (ex ++ tl)), BB.get? p.1 = some p.2 ∧ g.get? p.1 = none := fun p hp => by
    rcases List.mem_cons.mp hp with rfl | hp
    · exact ⟨bC, hc1.2.2⟩
    rcases List.mem_append.mp hp with hp | hp
    · exact ⟨f5 p (List.mem_append_left _ hp), gled p hp⟩
    rcases List.mem_cons.mp hp with rfl | hp
    · exact ⟨b76, h76.2.2⟩
    rcases List.mem_append.mp hp with hp | hp
    · exact hex p hp
    · exact ⟨bTl p hp, (N' p (List.mem_append_right _ (.tail _ hp))).2.2⟩
  refine catch_as (n := Str.ofString "problem") (h := s.heap) (news := (L + 1, oc) :: (d.led restB t2' ++ (76, tabObj ps') :: (ex ++ tl))) Y hAf F (fun o ho => f6 L (.head _) o ho) hB hlL f1 f2 f3 (by k_is) PyProof.Rows.Boot.«ValueError» (by decide) PySem.F.isExc_ValueError PySem.F.notTuple_ValueError (by rw [isSubtype_type]; kernel_rfl) (fun h9 tk9 E9 oe ot ws nt F9 N9 q1 q2 q3 q4 q5 q6 => ?_) rfl rfl rfl (by decide)
  rw [← hsu]
  refine cut_suite (s := ⟨_, _, _, _, _⟩) (d := d) (W := W) (st := st) (k := k) Y F9 N9 q1 q2 q3 q4 q5 hoc htxt fun h10 tk10 F10 N10 => ?_
  refine wpAny_nameGoes_keeps rfl F10.ns rfl fun h11 v hn hs => ?_
  have F11 := F10.set hn hs
  have N11 := News.set N10 hs
  have em : (fun y => if y = Str.ofString "problem" then v else probMap ea d.x W tw st sz t1 t2 da os to U u y) = (fun y => if y = Str.ofString "problem" then v else strMap d.x (wordMap W tw st sz t1 t2 da os to U u) y) := by
    funext y
    by_cases q : y = Str.ofString "problem"
    · rw [if_pos q, if_pos q]
    · rw [if_neg q, if_neg q]; unfold probMap; rw [if_neg q]
  rw [em] at F11
  refine wpAny_execs_nil (h v h11 _ ps' ex F11 (fun p hp => ?_) ⟨hext, fun p hp => codeNe (hex p hp).1 (hexc p hp) b76 n76⟩ (fun p hp => codeNe (hex p hp).1 (hexc p hp) bC (noCode_cell hoc)) hexc)
  rcases List.mem_cons.mp hp with rfl | hp
  · exact N11 _ (.tail _ (.tail _ (.head _)))
  · exact N11 p (.tail _ (.tail _ (.tail _ (List.mem_append_right _ hp))))
end
end Mine
end
theorem Mine.anewCut4 : True ∧ True := by
  have h : True ∧ True := ⟨trivial, trivial⟩
  first | (walk1; done) | exact h
section
open PySem PySem.W PyProof.Rows PySem.Calls PySem.Spec
set_option maxHeartbeats 2000000
namespace Mine
/-- the count and the content cut at k -/
theorem parse_cut {cs : List T} {k : Nat} (hs : (T.c cs).sz ≤ 100) (hk : k < (octAll cs).length) : ∃ u, (unitsAll cs 0).filter (isIn (k : Int)) = [u] ∧ (T.c cs).parse ((UInt8.ofNat k :: (((T.c cs).oct).drop 1).take k) ++ restB) = (restB, .error (wordsAt (k : Int) u)) ∧ 0 ≤ u.1 ∧ u.1 ≤ (k : Int) ∧ 1 ≤ u.2 ∧ u.2 ≤ 1000 := by
  rw [T.sz] at hs
  have hl := octAll_le cs
  obtain ⟨u, r, e1, e2⟩ := cut_all cs 0 k (by omega) hk
  have e0 : (0 : Int) + (k : Int) = (k : Int) := by omega
  rw [e0] at e1 e2
  have hm : u ∈ (unitsAll cs 0).filter (isIn (k : Int)) := by rw [e1]; exact .head _
  obtain ⟨hm1, hm2⟩ := List.mem_filter.mp hm
  have hb := unitsAll_bound cs 0 u hm1
  simp only [isIn, Bool.and_eq_true, decide_eq_true_eq] at hm2
  refine ⟨u, e1, ?_, by omega, by omega, by omega, by omega⟩
  have hlen : ((octAll cs).take k).length = k := by rw [List.length_take]; omega
  have e3 := ofNat_toNat (n := k) (by omega)
  rw [T.oct, List.drop_succ_cons, List.drop_zero, List.cons_append, T.parse, e3, if_pos (by rw [List.length_append, hlen]; omega), List.take_append_of_le_length (by omega), List.take_of_length_le (by omega), e2, List.drop_append_of_le_length (by omega), List.drop_of_length_le (by omega)]
  rfl
section
variable {prog : Program} {w : World} {g : Heap} {s : Shared} {mean : ExcName → Option Value} {mg mb : Str → Option Value} {L : Addr} {m : Str → Option Value} {qk : Flow → Shared → Prop} {ek : Value → Shared → Prop} {cn : Str} {fa : Addr} {ccd : Value}
inductive JK (g : Heap) (L da U : Addr) (os : List UInt8) (need : List (Addr × Obj)) (i : Nat) (m : Str → Option Value) (news : List (Addr × Obj)) : Prop
  | mk (ps : Array Value) (oc : Obj) (cv : Option Value) (ex : List (Addr × Obj)) (e : news = (L + 1, oc) :: (76, tabObj ps) :: (ex ++ need)) (hc : oc.data = .cell cv) (ht : Tbl g ex ps) (hn : ∀ p ∈ ex, p.1 ≠ L + 1)
    (m1 : m (Str.ofString "root") = some (.ref da)) (m2 : ∃ to, m (Str.ofString "octets") = some (.bytes os.toArray to)) (m3 : m (Str.ofString "units") = some (.ref U)) : JK g L da U os need i m news
theorem botMap_of {da U : Addr} {os : List UInt8} {to : Tok} {u : Str → Option Value} (h1 : u (Str.ofString "root") = some (.ref da)) (h2 : u (Str.ofString "octets") = some (.bytes os.toArray to)) (h3 : u (Str.ofString "units") = some (.ref U)) : u = botMap da os to U u := by
  funext y
  unfold botMap
  by_cases e1 : y = Str.ofString "root"
  · rw [if_pos e1, e1]; exact h1
  rw [if_neg e1]
  by_cases e2 : y = Str.ofString "octets"
  · rw [if_pos e2, e2]; exact h2
  rw [if_neg e2]
  by_cases e3 : y = Str.ofString "units"
  · rw [if_pos e3, e3]; exact h3
  rw [if_neg e3]
theorem law_turn4 {da va U : Addr} {its : List Value} {nU : Nat} {cs : List Mine.T} {need own news₁ : List (Addr × Obj)} {wr : List Addr} {i : Nat} {x : Int} {t : Tok} {m₁ : Str → Option Value} (Y : Amb w mean mg mb g) (B : Below callerA g [] g)
    (hJ : JK g L da U (T.c cs).oct need i m₁ news₁) (rob : Rob g need da va (.c cs)) (hsz : (T.c cs).sz ≤ 100) (hne : octAll cs ≠ []) (hU : (U, listOf its.toArray nU) ∈ need) (hu : UAll (fun a o => (a, o) ∈ need) its (unitsAll cs 0)) (hlen : its.length ≤ 1000)
    (n76 : ∀ p ∈ need, p.1 ≠ 76) (nC : ∀ p ∈ need, p.1 ≠ L + 1) (hC76 : (L + 1 : Nat) ≠ 76) (hoff : ∀ p ∈ news₁, p.1 ∉ wr)
    (hown : ∀ p ∈ own, (p.1 ∈ wr ∨ p ∈ need) ∧ NoCode p.2) (hwr : ∀ z ∈ wr, ∃ o, (z, o) ∈ own)
    (F : Fr g L s.heap (fun y => if y = Str.ofString "x" then some (.int x t) else m₁ y)) (N : News g L s.heap (own ++ news₁))
    (h : ∀ m₂ news₂ h' tk, Fr g L h' m₂ → News g L h' (own ++ news₂) → (∀ p ∈ news₂, p.1 ∉ wr) → JK g L da U (T.c cs).oct need (i + 1) m₂ news₂ → qk .next { s with heap := h', toks := tk }) :
    wpAny (model prog w) (callerA.deeper (envX cn lawScope L fa ccd [(Str.ofString "p", L + 1)])) (execs turnBody4 (envX cn lawScope L fa ccd [(Str.ofString "p", L + 1)])) qk ek s := by
  obtain ⟨ps, oc, cv, ex, rfl, hoc, ht, hexC, m1, ⟨to, m2⟩, m3⟩ := hJ
  have w0 : (L + 1 : Addr) ∉ wr := hoff _ (.head _)
  have w76 : (76 : Addr) ∉ wr := hoff _ (.tail _ (.head _))
  have hol := oct_le (.c cs)
  have hoct : (T.c cs).oct = UInt8.ofNat (octAll cs).length :: octAll cs := by rw [T.oct]
  have hl1 : (T.c cs).oct.length = (octAll cs).length + 1 := by rw [hoct, List.length_cons]
  have hpos : 1 ≤ (octAll cs).length := by
    cases hq : octAll cs with
    | nil => exact absurd hq hne
    | cons a r => simp
  have ownC : ∀ p ∈ own, p.1 ≠ L + 1 ∧ p.1 ≠ 76 := fun p hp => by
    rcases (hown p hp).1 with k | k
    · exact ⟨fun q => by rw [q] at k; exact w0 k, fun q => by rw [q] at k; exact w76 k⟩
    · exact ⟨nC p k, n76 p k⟩
  have tlC : ∀ p ∈ own ++ (ex ++ need), p.1 ≠ L + 1 := fun p hp => by
    rcases List.mem_append.mp hp with hp | hp
    · exact (ownC p hp).1
    · rcases List.mem_append.mp hp with hp | hp
      · exact hexC p hp
      · exact nC p hp
  have tl76 : ∀ p ∈ own ++ (ex ++ need), p.1 ≠ 76 := fun p hp => by
    rcases List.mem_append.mp hp with hp | hp
    · exact (ownC p hp).2
    · rcases List.mem_append.mp hp with hp | hp
      · exact ht.ne p hp
      · exact n76 p hp
  have ht' : Tbl g (own ++ (ex ++ need)) ps := ⟨fun h' hg hp => ht.tab h' hg fun p hq => hp p (List.mem_append_right _ (List.mem_append_left _ hq)), tl76⟩
  have inN : ∀ p ∈ need, p ∈ own ++ (ex ++ need) := fun p hp => List.mem_append_right _ (List.mem_append_right _ hp)
  have em := botMap_of (u := m₁) m1 m2 m3
  rw [em] at F
  have N1 : News g L s.heap ((L + 1, oc) :: (76, tabObj ps) :: (own ++ (ex ++ need))) := fun p hp => by
    rcases List.mem_cons.mp hp with rfl | hp
    · exact N _ (List.mem_append_right _ (.head _))
    rcases List.mem_cons.mp hp with rfl | hp
    · exact N _ (List.mem_append_right _ (.tail _ (.head _)))
    rcases List.mem_append.mp hp with hp | hp
    · exact N p (List.mem_append_left _ hp)
    · exact N p (List.mem_append_right _ (.tail _ (.tail _ hp)))
  refine cut_p Y B F N1 hoc (fun p hp => ?_) (by omega) (by omega) fun h1 tk1 oc1 tp F1 N2 hoc1 => ?_
  · rcases List.mem_cons.mp hp with rfl | hp
    · exact Ne.symm hC76
    · exact tlC p hp
  have hd0 : ((T.c cs).oct.length : Int) - 1 = ((octAll cs).length : Int) := by omega
  rw [hd0] at hoc1
  have hp0 : 0 ≤ x.fmod ((octAll cs).length : Int) := Int.fmod_nonneg_of_pos _ (by omega)
  have hp1 : x.fmod ((octAll cs).length : Int) < ((octAll cs).length : Int) := Int.fmod_lt_of_pos _ (by omega)
  obtain ⟨k, hk⟩ : ∃ k : Nat, x.fmod ((octAll cs).length : Int) = (k : Int) := ⟨_, (Int.toNat_of_nonneg hp0).symm⟩
  rw [hk] at hoc1 hp1
  obtain ⟨uu, hus, hpc, b1, b2, b3, b4⟩ := parse_cut (cs := cs) (k := k) hsz (by omega)
  have em2 : (fun y => if y = Str.ofString "x" then some (Value.int x t) else botMap da (T.c cs).oct to U m₁ y) = botMap da (T.c cs).oct to U (fun y => if y = Str.ofString "x" then some (Value.int x t) else botMap da (T.c cs).oct to U m₁ y) := botMap_of rfl rfl rfl
  rw [em2] at F1
  refine cut_unit (s := ⟨_, _, _, _, _⟩) Y B F1 N2 hoc1 (.tail _ (inN _ hU)) (hu.mono fun a o ha => .tail _ (inN _ ha)) hlen hus fun h2 tk2 t1 t2 F2 N3 => ?_
  refine cut_stream (s := ⟨_, _, _, _, _⟩) Y B F2 N3 hoc1 tlC hC76 ht' (by omega) (by omega) b2 b3 b4 b1 fun W tw h3 tk3 d t5 ps3 ex3 hW F3 N4 sp q1 q2 => ?_
  refine cut_try (s := ⟨_, _, _, _, _⟩) (va := va) (R := .c cs) (txt := wordsAt (k : Int) uu) Y B F3 N4 hoc1 sp q1 hC76 q2 (rob.mono fun p hp => List.mem_append_right _ (inN p hp)) hsz ?_ hpc ?_ fun v h4 tk4 ps4 ex4 F4 N5 ht4 hC4 hc4 => ?_
  · simp only [List.length_append, List.length_cons, List.length_nil, List.length_take, List.length_drop]; omega
  · unfold wordsAt
    by_cases hq : (k : Int) = uu.1
    · rw [if_pos hq, if_pos hq]
    · rw [if_neg hq, if_neg hq, hW (by omega)]
  · have hN5 : ∀ p ∈ ex4 ++ (ex3 ++ (own ++ (ex ++ need))), News g L h4 [p] := fun p hp q hq => by
      rw [List.mem_singleton.mp hq]; exact N5 p (.tail _ (.tail _ hp))
    refine h _ ((L + 1, oc1) :: (76, tabObj ps4) :: (ex4 ++ need)) h4 tk4 F4 (fun p hp => ?_) (fun p hp hz => ?_) ⟨ps4, oc1, _, ex4, rfl, hoc1, ht4, hC4, rfl, ⟨to, rfl⟩, rfl⟩
    · rcases List.mem_append.mp hp with hp | hp
      · exact hN5 p (List.mem_append_right _ (List.mem_append_right _ (List.mem_append_left _ hp))) p (.head _)
      rcases List.mem_cons.mp hp with rfl | hp
      · exact N5 _ (.head _)
      rcases List.mem_cons.mp hp with rfl | hp
      · exact N5 _ (.tail _ (.head _))
      rcases List.mem_append.mp hp with hp | hp
      · exact hN5 p (List.mem_append_left _ hp) p (.head _)
      · exact hN5 p (List.mem_append_right _ (List.mem_append_right _ (inN p hp))) p (.head _)
    · rcases List.mem_cons.mp hp with rfl | hp
      · exact w0 hz
      rcases List.mem_cons.mp hp with rfl | hp
      · exact w76 hz
      rcases List.mem_append.mp hp with hp | hp
      · obtain ⟨oo, hoo⟩ := hwr _ hz
        exact codeNe (hN5 p (List.mem_append_left _ hp) p (.head _)).1 (hc4 p hp) (hN5 (p.1, oo) (List.mem_append_right _ (List.mem_append_right _ (List.mem_append_left _ hoo))) _ (.head _)).1 (hown _ hoo).2 rfl
      · exact hoff p (.tail _ (.tail _ (List.mem_append_right _ hp))) hz
theorem loop4_at {da va U l : Addr} {its vs : List Value} {ns : List Int} {nU nl : Nat} {cs : List Mine.T} {need news : List (Addr × Obj)} (Y : Amb w mean mg mb g) (B : Below callerA g [] g)
    (F : Fr g L s.heap m) (N : News g L s.heap news) (hJ : JK g L da U (T.c cs).oct need 0 m news) (rob : Rob g need da va (.c cs)) (hsz : (T.c cs).sz ≤ 100) (hne : octAll cs ≠ []) (hU : (U, listOf its.toArray nU) ∈ need) (hu : UAll (fun a o => (a, o) ∈ need) its (unitsAll cs 0)) (hlen : its.length ≤ 1000)
    (n76 : ∀ p ∈ need, p.1 ≠ 76) (nC : ∀ p ∈ need, p.1 ≠ L + 1) (hC76 : (L + 1 : Nat) ≠ 76) (hl : (l, listOf vs.toArray nl) ∈ need) (hi : IntsAre vs ns)
    (done : ∀ h' tk m', Fr g L h' m' → GrownAt 76 h' → (∀ p ∈ need, h'.get? p.1 = some p.2) → qk .next { s with heap := h', toks := tk }) :
    wpAny (model prog w) (callerA.deeper (envX cn lawScope L fa ccd [(Str.ofString "p", L + 1)])) (pyIter (.ref l)) (fun it s₂ => LoopAtV prog w (callerA.deeper (envX cn lawScope L fa ccd [(Str.ofString "p", L + 1)])) g (envX cn lawScope L fa ccd [(Str.ofString "p", L + 1)]) (Str.ofString "x") turnBody4 qk ek it s₂) ek s := by
  have inNews : ∀ {i : Nat} {m' : Str → Option Value} {news' : List (Addr × Obj)}, JK g L da U (T.c cs).oct need i m' news' → (l, listOf vs.toArray nl) ∈ news' := fun k => by
    obtain ⟨ps, oc, cv, ex, rfl, _⟩ := k
    exact .tail _ (.tail _ (List.mem_append_right _ hl))
  have hln := N _ (inNews hJ)
  have hls : s.heap.IsList l vs.toArray := ⟨_, hln.1, rfl, nl, rfl⟩
  have hlt : l < s.heap.objs.size := Heap.lt_size hln.1
  have hne' : l ≠ s.heap.objs.size := Nat.ne_of_lt hlt
  refine wpAny_pyIter_list hls ?_
  have W := Walks.list (prog := prog) (w := w) (A := callerA.deeper (envX cn lawScope L fa ccd [(Str.ofString "p", L + 1)])) rfl s.heap.objs.size l hne' vs.toArray
  refine ⟨_, _, _, vs.toArray.size, _, _, m, news, JK g L da U (T.c cs).oct need, rfl, W, ?_, ?_, ?_, ⟨⟨_, Heap.get?_push_size _ rfl, rfl, rfl⟩, hls.at fun o e => Heap.get?_push_of_some _ e⟩, F.push _, (fun p hp => ⟨Heap.get?_push_of_some _ (N p hp).1, (N p hp).2⟩), hJ, ?_, ?_⟩
  · intro hm
    rcases List.mem_cons.mp hm with e | hm
    · exact absurd F.ns.lt (e ▸ Nat.lt_irrefl _)
    · exact hln.2.1 (List.mem_singleton.mp hm).symm
  · intro b hb
    rw [List.mem_singleton.mp hb]
    exact next_is_new F
  · intro p hp hI
    exact absurd (Heap.lt_size (N p hp).1) ((List.mem_singleton.mp hI) ▸ Nat.lt_irrefl _)
  · rintro i v m₁ news₁ s₁ own ⟨hh', tk', rfl⟩ hin hP hJ₁ hoff hown hget hall hst F₁ N₁
    have hP' : vs[i]? = some v := by simpa using hP
    have hiv : i < vs.length := by simpa using hin
    have hin' : i < ns.length := by rw [← hi.length]; exact hiv
    obtain ⟨t, hx⟩ := hi.get i (ns[i]) (by simp [hin'])
    have hv : v = .int (ns[i]) t := by rw [hx] at hP'; exact (Option.some.inj hP').symm
    subst hv
    have hl1 := N₁ _ (List.mem_append_right _ (inNews hJ₁))
    have hit : hh'.IsListIter s.heap.objs.size l (i + 1) := hst.1
    refine law_turn4 (s := ⟨_, _, _, _, _⟩) (wr := [s.heap.objs.size]) (need := need) Y B hJ₁ rob hsz hne hU hu hlen n76 nC hC76 hoff (fun p hp => ?_) (fun z hz => ?_) F₁ N₁ fun m₂ news₂ h₂ tk₂ F₂ N₂ hoff₂ hJ₂ => ?_
    · have hp1 := hget p hp
      rcases List.mem_cons.mp (hown p hp) with e | e
      · refine ⟨.inl (by rw [e]; exact .head _), ?_⟩
        rw [e] at hp1
        exact noCode_iter hit _ hp1
      · have e' := List.mem_singleton.mp e
        rw [e', hl1.1] at hp1
        have hp2 := Option.some.inj hp1
        refine ⟨.inr ?_, by rw [← hp2]; exact noCode_list⟩
        have : p = (l, listOf vs.toArray nl) := by
          obtain ⟨p1, p2⟩ := p
          dsimp only at e' hp2 ⊢
          rw [e', ← hp2]
        rw [this]; exact hl
    · rw [List.mem_singleton.mp hz]
      obtain ⟨o, ho, _⟩ := hit
      exact ⟨o, hall _ (.head _) (next_is_new F) o ho⟩
    · exact LoopStepV.next (LoopStepU.intro F₂ N₂ hoff₂ hJ₂)
  · intro h' tk m' news' F' N' _ hJ'
    obtain ⟨ps, oc, cv, ex, rfl, _⟩ := hJ'
    exact done h' tk m' F' (.of N' (.tail _ (.head _))) fun p hp => (N' p (.tail _ (.tail _ (List.mem_append_right _ hp)))).1
end
end Mine
end
theorem Mine.anewLoop4 : True ∧ True := by
  have h : True ∧ True := ⟨trivial, trivial⟩
  first | (walk1; done) | exact h
section
open PySem PySem.W PyProof.Rows PySem.Calls PySem.Spec
set_option maxHeartbeats 2000000
namespace Mine
local macro_rules | `(tactic| walk_at "binaryOp Add ref ref") => `(tactic| (k_here; refine stop ?_))
section
variable {prog : Program} {w : World} {g : Heap} {s : Shared} {mean : ExcName → Option Value} {mg mb : Str → Option Value} {L : Addr} {m : Str → Option Value} {qk : Flow → Shared → Prop} {ek : Value → Shared → Prop} {cn : Str} {fa : Addr} {ccd : Value}
theorem slice_any {A : Around} {E : Value → Shared → Prop} {value slice : Expr} {l : Addr} {items : Array Value} {vl vu : Value} {lo hi : Option Int} {news : List (Addr × Obj)} {Q : Value → Shared → Prop}
    (F : Fr g L s.heap m) (N : News g L s.heap news) (hl : s.heap.IsList l items) (pl : IsPart vl lo) (pu : IsPart vu hi)
    (h : ∀ D h', Fr g L h' m → News g L h' ((D, listOf (slicePick items lo hi none) 0) :: news) → (∀ p ∈ news, p.1 < D) → Q (.ref D) { s with heap := h' })
    (hs : subscripted slice false (.ref l) (.ref s.heap.objs.size) = operate [.ref s.heap.objs.size, .ref l] (getItem (.ref l) (.ref s.heap.objs.size))) (hsz : items.size ≤ sizeLine) :
    wpAny (model prog w) A (subscriptTail value slice (.ref l) (.ref s.heap.objs.size)) Q E { s with heap := s.heap.push { cls := .type "slice", data := .fields #[vl, vu, .none] } } := by
  have lt := fun p hp => Heap.lt_size (N p hp).1
  refine tail_any (Heap.IsList.typeIs (s := { s with heap := s.heap.push { cls := .type "slice", data := .fields #[vl, vu, .none] } }) (hl.push _)) list_getitem_lookup
    (wpAny_getItem_list_slice (hl.push _) (Heap.IsSliceOf.new ..) pl pu .none (by simp) ?_ hsz) hs
  have N1 := News.push (F.push { cls := .type "slice", data := .fields #[vl, vu, .none] }) (N.grown fun _ _ e => Heap.get?_push_of_some _ e) { cls := .type "list", data := .seq (slicePick items lo hi none) }
  rw [Heap.size_push] at N1
  show Q (.ref (s.heap.push _).objs.size) _
  rw [Heap.size_push]
  exact h _ _ ((F.push _).push _) N1 fun p hp => Nat.lt_succ_of_lt (lt p hp)
set_option maxHeartbeats 8000000 in
theorem law_for4 {nvs : List Value} {ns : List Int} {NA : Addr} {nn : Nat} {tl : List (Addr × Obj)} {u : Str → Option Value} (Y : Amb w mean mg mb g) (B : Below callerA g [] g)
    (F : Fr g L s.heap (fun y => if y = Str.ofString "numbers" then some (Value.ref NA) else u y)) (N : News g L s.heap ((NA, listOf nvs.toArray nn) :: tl)) (hi : IntsAre nvs ns) (hn : ns.length ≤ 60)
    (hE : PassesOwn (model prog w) (callerA.deeper (envX cn lawScope L fa ccd [(Str.ofString "p", L + 1)])) (envX cn lawScope L fa ccd [(Str.ofString "p", L + 1)]) ek)
    (h : ∀ l ws h' tk, Fr g L h' (fun y => if y = Str.ofString "numbers" then some (Value.ref NA) else u y) → News g L h' ((l, listOf ws.toArray 0) :: tl) → (∀ p ∈ tl, p.1 < l) → (∃ ms, IntsAre ws ms) →
       wpAny (model prog w) (callerA.deeper (envX cn lawScope L fa ccd [(Str.ofString "p", L + 1)])) (pyIter (.ref l)) (fun it s₂ => LoopAtV prog w (callerA.deeper (envX cn lawScope L fa ccd [(Str.ofString "p", L + 1)])) g (envX cn lawScope L fa ccd [(Str.ofString "p", L + 1)]) (Str.ofString "x") turnBody4 qk ek it s₂) ek { s with heap := h', toks := tk }) :
    wpAny (model prog w) (callerA.deeper (envX cn lawScope L fa ccd [(Str.ofString "p", L + 1)])) (exec (lawBody.getD 12 (.Pass ⟨0, 0, 0, 0⟩)) (envX cn lawScope L fa ccd [(Str.ofString "p", L + 1)])) qk ek s := by
  have X := Y.X
  have T := Y.T
  refine For_invV (x := Str.ofString "x") (body := turnBody4) g rfl rfl ?_ (by intro _; rfl) hE
  generalize hq : (fun xv s₁ => wpAny (model prog w) (callerA.deeper (envX cn lawScope L fa ccd [(Str.ofString "p", L + 1)])) (pyIter xv) (fun it s₂ => LoopAtV prog w (callerA.deeper (envX cn lawScope L fa ccd [(Str.ofString "p", L + 1)])) g (envX cn lawScope L fa ccd [(Str.ofString "p", L + 1)]) (Str.ofString "x") turnBody4 qk ek it s₂) ek s₁) = QQ
  show wpAny _ _ (eval (Expr.Subscript (Expr.BinOp _ _ _ _) _ _) _) _ _ _
  repeat' (first | (k_unfold; (try dsimp only)) | (walk1; (try dsimp only)))
  have ofStop : ∀ {p : Prop}, p → Stop p := fun h => h
  refine ofStop ?_
  rename Fr _ _ _ _ => F
  rename News _ _ _ _ => N
  refine add_lists_ints (ws := [.int 0 _, .int 1 _, .int 2 _]) F N ⟨_, (N _ (.tail _ (.head _))).1, rfl, _, rfl⟩ ⟨_, (N _ (.head _)).1, rfl, _, rfl⟩ hi (.cons _ _ (.cons _ _ (.cons _ _ .nil))) (fun h9 F9 N9 hI => ?_) (fits24 (by simp only [List.length_cons, List.length_nil]; omega))
  dsimp only at F9 N9 ⊢
  generalize Array.size _ = D9 at N9 ⊢
  clear F N
  repeat' (first | (k_unfold; (try dsimp only)) | (walk1; (try dsimp only)))
  rename Fr _ _ _ _ => F
  rename News _ _ _ _ => N
  refine slice_any (s := ⟨h9, s.gens, s.drawn, s.toks + 1 + 1 + 1 + 1, s.os⟩) F N ⟨_, (N _ (.head _)).1, rfl, _, rfl⟩ .none (.int _ _) (fun D h10 F10 N10 l1 => ?_) (by with_unfolding_all rfl) (by rw [List.size_toArray, List.length_append, hi.length]; exact fits24 (by simp only [List.length_cons, List.length_nil]; omega))
  subst hq
  refine h D (slicePick _ none (some 3) none).toList h10 _ F10 (fun p hp => ?_) (fun p hp => l1 p (.tail _ (.tail _ (.tail _ (.tail _ hp))))) ⟨_, kmk_upto hI (by decide)⟩
  rcases List.mem_cons.mp hp with rfl | hp
  · have := N10 _ (.head _)
    rw [Array.toArray_toList]
    exact this
  · exact N10 p (.tail _ (.tail _ (.tail _ (.tail _ (.tail _ hp)))))
end
end Mine
end
theorem Mine.anewFor4 : True ∧ True := by
  have h : True ∧ True := ⟨trivial, trivial⟩
  first | (walk1; done) | exact h
section
open PySem PySem.W PyProof.Rows PySem.Calls PySem.Spec
set_option maxHeartbeats 4000000
namespace Mine
theorem map_set {m : Str → Option Value} {k : Str} {v : Value} (h : m k = some v) : m = fun y => if y = k then some v else m y := by
  funext y
  by_cases e : y = k
  · rw [if_pos e, e]; exact h
  · rw [if_neg e]
theorem late_of {m : Str → Option Value} {da va NA U : Addr} {os : List UInt8} {to : Tok} (h1 : m (Str.ofString "root") = some (.ref da)) (h2 : m (Str.ofString "value") = some (.ref va)) (h3 : m (Str.ofString "octets") = some (.bytes os.toArray to)) (h4 : m (Str.ofString "numbers") = some (.ref NA)) (h5 : m (Str.ofString "units") = some (.ref U)) : m = lateMap da va os to NA U m := by
  funext y
  unfold lateMap
  by_cases e1 : y = Str.ofString "root"
  · rw [if_pos e1, e1]; exact h1
  rw [if_neg e1]
  by_cases e2 : y = Str.ofString "value"
  · rw [if_pos e2, e2]; exact h2
  rw [if_neg e2]
  by_cases e3 : y = Str.ofString "octets"
  · rw [if_pos e3, e3]; exact h3
  rw [if_neg e3]
  by_cases e4 : y = Str.ofString "numbers"
  · rw [if_pos e4, e4]; exact h4
  rw [if_neg e4]
  by_cases e5 : y = Str.ofString "units"
  · rw [if_pos e5, e5]; exact h5
  rw [if_neg e5]
theorem late8_of {m : Str → Option Value} {da va NA U : Addr} {os : List UInt8} {to tt td : Tok} {tks : Str} {dm : Int} (h1 : m (Str.ofString "root") = some (.ref da)) (h2 : m (Str.ofString "value") = some (.ref va)) (h3 : m (Str.ofString "octets") = some (.bytes os.toArray to)) (h4 : m (Str.ofString "numbers") = some (.ref NA)) (h5 : m (Str.ofString "units") = some (.ref U)) (h6 : m (Str.ofString "tokens") = some (.str tks tt)) (h7 : m (Str.ofString "deepest") = some (.int dm td)) : m = lateMap8 da va os to NA U tks tt dm td m := by
  have e6 := map_set h6
  have e7 := map_set h7
  have e8 : m = fun y => if y = Str.ofString "tokens" then some (.str tks tt) else if y = Str.ofString "deepest" then some (.int dm td) else m y := by
    funext y
    by_cases q : y = Str.ofString "tokens"
    · rw [if_pos q, q]; exact h6
    · rw [if_neg q]; exact congrFun e7 y
  have := late_of h1 h2 h3 h4 h5
  unfold lateMap8
  rw [← e8]
  exact this
section
variable {prog : Program} {w : World} {g : Heap} {s : Shared} {mean : ExcName → Option Value} {mg mb : Str → Option Value} {L : Addr} {m : Str → Option Value} {qk : Flow → Shared → Prop} {ek : Value → Shared → Prop} {cn : Str} {fa : Addr} {ccd : Value}
/-- from the two readings on -/
theorem law_part4 {da va NA U : Addr} {its nvs : List Value} {ns : List Int} {nU nn : Nat} {cs : List Mine.T} {to : Tok} {oc : Obj} {cv : Option Value} {u : Str → Option Value} {ps : Array Value} {need : List (Addr × Obj)} (Y : Amb w mean mg mb g) (B : Below callerA g [] g)
    (F : Fr g L s.heap (lateMap da va (T.c cs).oct to NA U u)) (N : News g L s.heap ((76, tabObj ps) :: (L + 1, oc) :: need)) (hoc : oc.data = .cell cv) (ht : Tab76 ps s.heap) (rob : Rob g need da va (.c cs)) (hsz : (T.c cs).sz ≤ 90) (hne : octAll cs ≠ [])
    (hU : (U, listOf its.toArray nU) ∈ need) (hu : UAll (fun a o => (a, o) ∈ need) its (unitsAll cs 0)) (hlen : its.length ≤ 1000) (n76 : ∀ p ∈ need, p.1 ≠ 76) (nC : ∀ p ∈ need, p.1 ≠ L + 1) (hC76 : (L + 1 : Nat) ≠ 76) (hNA : (NA, listOf nvs.toArray nn) ∈ need) (hi : IntsAre nvs ns) (hn : ns.length ≤ 60)
    (hE : PassesOwn (model prog w) (callerA.deeper (envX cn lawScope L fa ccd [(Str.ofString "p", L + 1)])) (envX cn lawScope L fa ccd [(Str.ofString "p", L + 1)]) ek) (hq : ∀ h' tk m', Fr g L h' m' → GrownAt 76 h' → (∀ p ∈ need, h'.get? p.1 = some p.2) → qk (.ret (.bool true)) { s with heap := h', toks := tk }) :
    wpAny (model prog w) (callerA.deeper (envX cn lawScope L fa ccd [(Str.ofString "p", L + 1)])) (execs (lawBody.drop 9) (envX cn lawScope L fa ccd [(Str.ofString "p", L + 1)])) qk ek s := by
  obtain ⟨ex0, NX0, kx0, kd0⟩ := tab76_led2 F ht
  have h76 := N (76, tabObj ps) (.head _)
  have hcc := N (L + 1, oc) (.tail _ (.head _))
  have ne0 : ∀ p ∈ ex0, p.1 ≠ 76 := fun p hp => codeNe (NX0 p hp).1 (kd0 p hp) h76.1 ht.noCode
  have neC : ∀ p ∈ ex0, p.1 ≠ L + 1 := fun p hp => codeNe (NX0 p hp).1 (kd0 p hp) hcc.1 (noCode_cell hoc)
  have hol := oct_le (.c cs)
  have N0 : News g L s.heap ((76, tabObj ps) :: (ex0 ++ ((L + 1, oc) :: need))) := List.forall_mem_cons.mpr ⟨h76, news_app NX0 fun p hp => N p (.tail _ hp)⟩
  have tb0 : Tbl g (ex0 ++ ((L + 1, oc) :: need)) ps := ⟨fun h' hg hp => kx0 h' hg fun p hq => hp p (List.mem_append_left _ hq), fun p hp => by
    rcases List.mem_append.mp hp with hp | hp
    · exact ne0 p hp
    rcases List.mem_cons.mp hp with rfl | hp
    · exact hC76
    · exact n76 p hp⟩
  refine law_s9 Y B F N0 tb0 (by omega) fun h1 tk1 d t2 ps1 ex1 F1 N1 sp1 => ?_
  have r1 : Rob g (ex1 ++ (ex0 ++ ((L + 1, oc) :: need))) da va (.c cs) := rob.mono fun p hp => List.mem_append_right _ (List.mem_append_right _ (.tail _ hp))
  refine law_s10 (s := ⟨_, _, _, _, _⟩) Y B F1 N1 sp1 r1 rfl (by omega) fun h2 tk2 t3 ps2 ex2 F2 N2 sp2 => ?_
  refine law_s11 (s := ⟨_, _, _, _, _⟩) Y B F2 N2 sp2 (r1.mono fun p hp => List.mem_append_right _ hp) rfl (by omega) fun h3 tk3 t4 ps3 ex3 F3 N3 sp3 => ?_
  -- the ledger anew
  have inN3 : ∀ p ∈ ex0 ++ ((L + 1, oc) :: need), News g L h3 [p] := fun p hp q hq => by
    rw [List.mem_singleton.mp hq]
    exact N3 p (List.mem_append_right _ (.tail _ (List.mem_append_right _ (List.mem_append_right _ (List.mem_append_right _ hp)))))
  have t76 := N3 (76, tabObj ps3) (List.mem_append_right _ (.head _))
  have tab3 : Tab76 ps3 h3 := sp3.tb.tab h3 F3.keep fun p hp => (N3 p (List.mem_append_right _ (.tail _ hp))).1
  obtain ⟨ex4, NX4, kx4, kd4⟩ := tab76_led2 F3 tab3
  have c3 := inN3 (L + 1, oc) (List.mem_append_right _ (.head _)) _ (.head _)
  have nd3 : News g L h3 need := fun p hp => inN3 p (List.mem_append_right _ (.tail _ hp)) p (.head _)
  have e : lawBody.drop 12 = lawBody.getD 12 (.Pass ⟨0, 0, 0, 0⟩) :: lawBody.drop 13 := rfl
  rw [e]
  refine wpAny_execs_cons ?_
  have em := map_set (m := strMap d.x (lateMap da va (T.c cs).oct to NA U u)) (k := Str.ofString "numbers") (v := .ref NA) rfl
  rw [em] at F3
  have N4 : News g L h3 ((NA, listOf nvs.toArray nn) :: ((76, tabObj ps3) :: (L + 1, oc) :: (ex4 ++ need))) := List.forall_mem_cons.mpr ⟨nd3 _ hNA, List.forall_mem_cons.mpr ⟨t76, List.forall_mem_cons.mpr ⟨c3, news_app NX4 nd3⟩⟩⟩
  refine law_for4 (s := ⟨_, _, _, _, _⟩) Y B F3 N4 hi hn hE fun l ws h5 tk5 F5 N5 l5 hms => ?_
  obtain ⟨ms, hms⟩ := hms
  have lneed : ∀ p ∈ need, p.1 < l := fun p hp => l5 p (.tail _ (.tail _ (List.mem_append_right _ hp)))
  have l76 : @LT.lt Nat _ 76 l := l5 (76, tabObj ps3) (.head _)
  have lC : @LT.lt Nat _ (L + 1) l := l5 (L + 1, oc) (.tail _ (.head _))
  refine loop4_at (s := ⟨_, _, _, _, _⟩) (da := da) (va := va) (U := U) (its := its) (nU := nU) (nl := 0) (vs := ws) (cs := cs) (need := (l, listOf ws.toArray 0) :: need) (news := (L + 1, oc) :: (76, tabObj ps3) :: (ex4 ++ ((l, listOf ws.toArray 0) :: need))) Y B F5 (fun p hp => ?_)
    ⟨ps3, oc, cv, ex4, rfl, hoc, ⟨kx4, fun p hp => codeNe (NX4 p hp).1 (kd4 p hp) t76.1 tab3.noCode⟩, fun p hp => codeNe (NX4 p hp).1 (kd4 p hp) c3.1 (noCode_cell hoc), rfl, ⟨to, rfl⟩, rfl⟩ (rob.mono fun p hp => .tail _ hp) (by omega) hne (.tail _ hU) (hu.mono fun a o ha => .tail _ ha) hlen (fun p hp => ?_) (fun p hp => ?_) hC76 (.head _) hms fun h6 tk6 m6 F6 g6 i6 => ?_
  · rcases List.mem_cons.mp hp with rfl | hp
    · exact N5 _ (.tail _ (.tail _ (.head _)))
    rcases List.mem_cons.mp hp with rfl | hp
    · exact N5 _ (.tail _ (.head _))
    rcases List.mem_append.mp hp with hp | hp
    · exact N5 p (.tail _ (.tail _ (.tail _ (List.mem_append_left _ hp))))
    rcases List.mem_cons.mp hp with rfl | hp
    · exact N5 _ (.head _)
    · exact N5 p (.tail _ (.tail _ (.tail _ (List.mem_append_right _ hp))))
  · rcases List.mem_cons.mp hp with rfl | hp
    · exact Nat.ne_of_gt l76
    · exact n76 p hp
  · rcases List.mem_cons.mp hp with rfl | hp
    · exact Nat.ne_of_gt lC
    · exact nC p hp
  · show wpAny _ _ (execs (Stmt.Return (some (Expr.Constant (Const.bool true) _ _)) _ :: []) _) _ _ _
    exact wpAny_execs_cons (wpAny_Return_some (wpAny_Constant_bool (hq h6 tk6 m6 F6 g6 fun p hp => i6 p (.tail _ hp))))
end
end Mine
end
theorem Mine.anewPart4 : True ∧ True := by
  have h : True ∧ True := ⟨trivial, trivial⟩
  first | (walk1; done) | exact h
section
open PySem PySem.W PyProof.Rows PySem.Calls PySem.Spec
set_option maxHeartbeats 4000000
namespace Mine
theorem tok_one {f : Fm} {R : T} (hs : f.s = none) (hc : f.cs = [R]) : tok [f] = R.nm := by
  rw [tok, tok, hs, hc, nm_one]
  refine str_ext ?_
  rw [cps_app, cps_app]
  rfl
theorem desc_one {h : Heap} {its : List Value} {R : T} (x : DescAll h its [R]) : ∃ da, its = [.ref da] ∧ DescIn h (.ref da) R := by
  cases x with
  | cons d r =>
    cases r
    cases d with
    | mk e1 e2 r => exact ⟨_, rfl, .mk e1 e2 r⟩
theorem val_list {N : Addr → Prop} {h : Heap} {vs : List Value} {ds : List V} (x : ValAll N h vs [.list ds]) : ∃ va, vs = [.ref va] ∧ ValIn N h (.ref va) (.list ds) := by
  cases x with
  | cons d r =>
    cases r
    cases d with
    | list a b c => exact ⟨_, rfl, .list a b c⟩
section
variable {prog : Program} {w : World} {g : Heap} {s : Shared} {mean : ExcName → Option Value} {mg mb : Str → Option Value} {L : Addr} {m : Str → Option Value} {qk : Flow → Shared → Prop} {ek : Value → Shared → Prop} {cn : Str} {fa : Addr} {ccd : Value}
theorem law_part2 {O NA : Addr} {oc : Obj} {cv : Option Value} {nO : Nat} {ps : Array Value} {f : Fm} {tl : List (Addr × Obj)} {b : UInt8} {cs : List Mine.T} {nvs : List Value} {ns : List Int} {tt : Tok} (Y : Amb w mean mg mb g) (B : Below callerA g [] g) (hoc : oc.data = .cell cv)
    (F : Fr g L s.heap m) (N : News g L s.heap (whole L O oc nO ps [f] tl)) (be : Bears g ps [f] tl) (ap : Apart L O [f] tl) (hs : f.s = none) (hc : f.cs = [.c (.u b :: cs)]) (htot : tot [f] ≤ 69)
    (m1 : m (Str.ofString "opened") = some (.ref O)) (m2 : m (Str.ofString "tokens") = some (.str (tok [f]) tt)) (m3 : m (Str.ofString "numbers") = some (.ref NA)) (hNA : (NA, listOf nvs.toArray 0) ∈ tl) (hi : IntsAre nvs ns) (hn : ns.length ≤ 60)
    (hE : PassesOwn (model prog w) (callerA.deeper (envX cn lawScope L fa ccd [(Str.ofString "p", L + 1)])) (envX cn lawScope L fa ccd [(Str.ofString "p", L + 1)]) ek) (hq : ∀ h' tk m', Fr g L h' m' → GrownAt 88 h' → GrownAt 76 h' → qk (.ret (.bool true)) { s with heap := h', toks := tk }) :
    wpAny (model prog w) (callerA.deeper (envX cn lawScope L fa ccd [(Str.ofString "p", L + 1)])) (execs (lawBody.drop 5) (envX cn lawScope L fa ccd [(Str.ofString "p", L + 1)])) qk ek s := by
  obtain ⟨R, hR⟩ : ∃ R, R = T.c (.u b :: cs) := ⟨_, rfl⟩
  obtain ⟨C, hCs⟩ : ∃ C, C = Mine.T.u b :: cs := ⟨_, rfl⟩
  have hRC : R = T.c C := by rw [hR, hCs]
  rw [← hR] at hc
  have hoct : octAll f.cs = R.oct := by rw [hc, oct_one]
  have htk := tok_one hs hc
  rw [htk] at m2
  have hsz : R.sz + 1 ≤ 69 := by rw [tot, tot, hc, sz_one] at htot; omega
  have hTl : ∀ p ∈ tl, s.heap.get? p.1 = some p.2 := fun p hp => (N p (.tail _ (List.mem_append_right _ (List.mem_append_right _ hp)))).1
  have hd0 := be.desc s.heap F.keep hTl f (.head _)
  have hv0 := be.val s.heap F.keep hTl f (.head _)
  have hval : valAll f.cs = [.list (valAll C ++ [.bytes []])] := by rw [hc, val_one, hRC, T.val]
  rw [hc] at hd0
  rw [hval] at hv0
  obtain ⟨da, hits, _⟩ := desc_one hd0
  obtain ⟨va, hvs, _⟩ := val_list hv0
  have rob : Rob g tl da va R := ⟨fun h' hg hp => by
    have := be.desc h' hg hp f (.head _)
    rw [hc, hits] at this
    obtain ⟨da', e, k⟩ := desc_one this
    cases e; exact k, fun h' hg hp => by
    have := be.val h' hg hp f (.head _)
    rw [hval, hvs] at this
    obtain ⟨va', e, k⟩ := val_list this
    cases e
    rw [hRC, T.val]; exact k⟩
  have N1 : News g L s.heap ([(O, listOf #[Value.ref f.a] nO), (f.a, frObj (Str.ofString "") f.t1 f.c f.v R.oct f.t2 f.n), (f.c, listOf #[Value.ref da] f.m), (f.v, listOf #[Value.ref va] f.k)] ++ ([(88, tabObj ps), (76, tabObj #[]), (L + 1, oc)] ++ tl)) := by
    have k := N
    unfold whole at k
    rw [ledAll, ledAll, Fm.led, hs, hoct, hits, hvs] at k
    exact k
  have hol := oct_le R
  have em := map2_of (O := O) (tks := R.nm) (tt := tt) (u := m) m1 m2
  rw [em] at F
  refine law_mid Y B F N1 (by omega) fun U h1 tk1 e1 e2 e3 e4 F1 N2 l1 => ?_
  -- the tokens
  have e : lawBody.drop 7 = lawBody.getD 7 (.Pass ⟨0, 0, 0, 0⟩) :: lawBody.drop 8 := rfl
  rw [e]
  refine wpAny_execs_cons ?_
  have em2 := map_set (m := midMap U e1 e2 e3 e4 da va R.oct f.t2 (map2 O R.nm tt m)) (k := Str.ofString "tokens") (v := .str R.nm tt) rfl
  rw [em2] at F1
  have hnl := nm_sz R
  refine law_for3 (s := ⟨_, _, _, _, _⟩) Y B F1 N2 hE (by omega) fun h2 tk2 tx F2 N3 => ?_
  have hcut : (Txt.slice R.nm (some 1) (some (-1))).cps.toList = (nmAll C).cps.toList := by rw [hRC, T.nm, slice_cut]
  have hslen : (Txt.slice R.nm (some 1) (some (-1))).length ≤ 900 := by
    have := Txt.slice_le R.nm (some 1) (some (-1)); omega
  have hszC : szAll C + 1 = R.sz := by rw [hRC, T.sz]
  have hdrop : R.oct.drop 1 = octAll C ++ [] := by rw [hRC, T.oct, List.append_nil]; rfl
  have hrun := runAll_out R.oct C ⟨0, 0, 1, 0, []⟩ 1 [] (by omega) rfl (by decide) rfl hdrop
  rw [← hcut] at hrun
  generalize hfin : ({ d := 0, m := max 0 (0 + (dpAll C : Int)), pl := 1 + ((octAll C).length : Int), w := 0, us := [] ++ unitsAll C (1 - 1) } : TS) = fin at hrun
  have hne1 : ∀ p ∈ ([] : List (Addr × Obj)) ++ ([(88, tabObj ps), (76, tabObj #[]), (L + 1, oc)] ++ tl), p.1 ≠ U := fun p hp => Nat.ne_of_lt (l1 p hp)
  refine loop3_at (s := ⟨_, _, _, _, _⟩) (root := .ref da) (val := .ref va) (nums := .ref NA) (toks := .str R.nm tt) (U := U) (tl := [(88, tabObj ps), (76, tabObj #[]), (L + 1, oc)] ++ tl) (fin := fin) (os := R.oct) Y B F2 N3
    ⟨⟨0, 0, 1, 0, []⟩, [], 0, [], e1, e2, e3, e4, rfl, .nil, hrun, Nat.le_refl _, hne1, fun p hp => (nomatch hp), rfl, rfl, rfl, rfl, ⟨⟨f.t2, rfl⟩, rfl, rfl, m3, rfl, rfl⟩⟩ hslen (by omega) fun h3 tk3 m3' news3 F3 N4 hJ => ?_
  obtain ⟨st, its, nU, tu, t1, t2, t3, t4, rfl, hu, hr, hil, hoU, hoT, k1, k2, k3, k4, kept⟩ := hJ
  have hend : List.drop (Txt.slice R.nm (some 1) (some (-1))).cps.size (Txt.slice R.nm (some 1) (some (-1))).cps.toList = [] := List.drop_of_length_le (by simp)
  rw [hend] at hr
  have hst : st = fin := by cases hr; rfl
  rw [hst, ← hfin] at hu k2
  obtain ⟨to, ko⟩ := kept.oct
  dsimp only at hu k2
  rw [List.nil_append, show (1 : Int) - 1 = 0 from rfl] at hu
  have em3 := late8_of kept.rt kept.vl ko kept.nm kept.un kept.tk k2
  rw [em3] at F3
  have rob8 : Rob g ((U, listOf its.toArray nU) :: (tu ++ ([(88, tabObj ps), (76, tabObj #[]), (L + 1, oc)] ++ tl))) da va R := rob.mono fun p hp => .tail _ (List.mem_append_right _ (List.mem_append_right _ hp))
  have hdp : R.dp = dpAll C + 1 := by rw [hRC, T.dp]
  have hdpl := dp_le R
  refine law_if8 (s := ⟨_, _, _, _, _⟩) Y B F3 N4 rob8 rfl (by rw [hdp]; omega) (by omega) fun h4 tk4 F4 N5 => ?_
  -- the rest
  have i88 := N5 (88, tabObj ps) (.tail _ (List.mem_append_right _ (List.mem_append_left _ (by simp))))
  have i76 := N5 (76, tabObj #[]) (.tail _ (List.mem_append_right _ (List.mem_append_left _ (by simp))))
  have iC := N5 (L + 1, oc) (.tail _ (List.mem_append_right _ (List.mem_append_left _ (by simp))))
  have hC76 : (L + 1 : Nat) ≠ 76 := fun q => by
    have := iC.1
    have h7 := i76.1
    dsimp only at this h7
    rw [show (L + 1 : Addr) = 76 from q, h7] at this; cases this; cases hoc
  have hC88 : (88 : Nat) ≠ L + 1 := fun q => by
    have := iC.1
    have h7 := i88.1
    dsimp only at this h7
    rw [show (L + 1 : Addr) = 88 from q.symm, h7] at this; cases this; cases hoc
  subst hRC
  refine law_part4 (s := ⟨_, _, _, _, _⟩) (da := da) (va := va) (U := U) (its := its) (nU := nU) (cs := C) (ps := #[]) (oc := oc) (nvs := nvs) (nn := 0) (ns := ns) (need := (U, listOf its.toArray nU) :: (tu ++ ((88, tabObj ps) :: tl))) Y B F4 (fun p hp => ?_) hoc (.inl rfl) (rob.mono fun p hp => .tail _ (List.mem_append_right _ (.tail _ hp))) (by omega) ?_ (.head _) (hu.mono fun a o ha => .tail _ (List.mem_append_left _ ha)) ?_ (fun p hp => ?_) (fun p hp => ?_) hC76 (.tail _ (List.mem_append_right _ (.tail _ hNA))) hi hn hE (fun h' tk m' F' g7 iN => hq h' tk m' F' ⟨ps, iN (88, tabObj ps) (.tail _ (List.mem_append_right _ (.head _)))⟩ g7)
  · rcases List.mem_cons.mp hp with rfl | hp
    · exact i76
    rcases List.mem_cons.mp hp with rfl | hp
    · exact iC
    rcases List.mem_cons.mp hp with rfl | hp
    · exact N5 _ (.head _)
    rcases List.mem_append.mp hp with hp | hp
    · exact N5 p (.tail _ (List.mem_append_left _ hp))
    rcases List.mem_cons.mp hp with rfl | hp
    · exact i88
    · exact N5 p (.tail _ (List.mem_append_right _ (List.mem_append_right _ hp)))
  · rw [hCs, octAll, T.oct]; simp
  · have hsl : (Txt.slice (T.c C).nm (some 1) (some (-1))).cps.size ≤ 900 := hslen
    omega
  · rcases List.mem_cons.mp hp with rfl | hp
    · exact Ne.symm (hoU (76, tabObj #[]) (List.mem_append_right _ (List.mem_append_left _ (by simp))))
    rcases List.mem_append.mp hp with hp | hp
    · exact hoT p hp (76, tabObj #[]) (List.mem_append_left _ (by simp))
    rcases List.mem_cons.mp hp with rfl | hp
    · exact (show (88 : Nat) ≠ 76 by decide)
    · exact ap.o76 p hp
  · rcases List.mem_cons.mp hp with rfl | hp
    · exact Ne.symm (hoU (L + 1, oc) (List.mem_append_right _ (List.mem_append_left _ (by simp))))
    rcases List.mem_append.mp hp with hp | hp
    · exact hoT p hp (L + 1, oc) (List.mem_append_left _ (by simp))
    rcases List.mem_cons.mp hp with rfl | hp
    · exact hC88
    · exact ap.oC p hp
/-- law, from its start to its end -/
theorem law_all {vs : List Value} {ns : List Int} {sa : Addr} {oc : Obj} {cv : Option Value} (Y : Amb w mean mg mb g) (B : Below callerA g [] g) (hoc : oc.data = .cell cv)
    (F : Fr g L s.heap (fun y => if y = Str.ofString "script" then some (.ref sa) else none)) (N : News g L s.heap [(L + 1, oc), (88, tabObj #[]), (76, tabObj #[])])
    (hl : g.IsList sa vs.toArray) (hi : IntsAre vs ns) (hn : ns.length ≤ 63) (e88 : 88 < L) (e76 : 76 < L) (hE : PassesOwn (model prog w) (callerA.deeper (envX cn lawScope L fa ccd [(Str.ofString "p", L + 1)])) (envX cn lawScope L fa ccd [(Str.ofString "p", L + 1)]) ek)
    (hq : ∀ h' tk m', Fr g L h' m' → GrownAt 88 h' → GrownAt 76 h' → qk (.ret (.bool true)) { s with heap := h', toks := tk }) :
    wpAny (model prog w) (callerA.deeper (envX cn lawScope L fa ccd [(Str.ofString "p", L + 1)])) (execs lawBody (envX cn lawScope L fa ccd [(Str.ofString "p", L + 1)])) qk ek s := by
  refine law_init Y B hoc F N hl hi hn e88 e76 hE fun O NA nvs need i m1 news1 h1 tk1 F1 N1 hJ hNA hI hi1 hi2 => ?_
  obtain ⟨n, n1, n2, hJC⟩ := jc_of hJ hi1 hi2
  have e : lawBody.drop 4 = lawBody.getD 4 (.Pass ⟨0, 0, 0, 0⟩) :: lawBody.drop 5 := rfl
  rw [e]
  refine wpAny_execs_cons ?_
  refine law_for2 (s := ⟨_, _, _, _, _⟩) Y B hoc F1 N1 hJC n1 n2 hE fun h2 tk2 m2 news2 F2 N2 hJ2 => ?_
  obtain ⟨st, nO, ps, tl, tt, rfl, be, ap, hneed, hsd, htot, hro, hlen, k1, k2, k3⟩ := hJ2
  have hl1 : st.length = 1 := by omega
  rcases hro with hr | ⟨f, x, cs, rfl, hc⟩
  · have := rootOk_len hr; omega
  · have hl60 : (ns.take 60).length ≤ 60 := by rw [List.length_take]; omega
    exact law_part2 (s := ⟨_, _, _, _, _⟩) Y B hoc F2 N2 be ap hsd hc htot k1 k2 k3 (hneed _ hNA) hI hl60 hE hq
end
end Mine
end
theorem Mine.anewPart2 : True ∧ True := by
  have h : True ∧ True := ⟨trivial, trivial⟩
  first | (walk1; done) | exact h
section
open PySem PySem.W PyProof.Rows PySem.Calls PySem.Spec
set_option maxHeartbeats 8000000
theorem PySem.Challenge.cw_dw0040_01_holds : PySem.Challenge.rw_dw0040_01.Holds :=
  Mine.hd (by
  k_go0
  rename (Mine.hd.heap_39 _).In _ => X
  rename Top topProg _ _ _ _ _ => T
  rename Below _ _ _ _ => B
  rename Fr _ _ _ _ => F
  rename News _ _ _ _ => N
  rename 88 < _ ∧ 76 < _ => l0
  rename IntsAre _ _ => hi
  rename ¬ _ < _ => hlen
  rename _ = Data.cell _ => hoc
  rename _ = #[] => hg
  rename CodeHd _ (90, 88).1 (90, 88).2 => c1
  rename CodeHd _ (80, 76).1 (80, 76).2 => c2
  rename Heap.IsList (ghostOf _ _) _ _ => hl
  refine Mine.law_all ⟨X, T, c1, c2⟩ B hoc (cast (congrArg (Fr _ _ _) (by funext y; rfl)) F) N hl hi (by omega) l0.1 l0.2 (by passes_own) fun h' tk m' F' g8 g7 => ⟨goodW_bool F' hg (raisesW_false ?_) ?_, g8, g7, True.intro⟩
  · wrow_none_raised
  · wrow_post)
end
