import PyProof.Rows.All
import Wide.All
import OpenK.AllK
import Wide.FinOn
import Lean
import PySem.Challenge.RW_iw0007_01
open PySem PySem.W PyProof.Rows
set_option Elab.async false
set_option maxRecDepth 100000
set_option rowWalk.seconds 0
namespace Mine
set_option maxHeartbeats 0
set_option hygiene false
noncomputable def vw : Program := { PySem.Challenge.pw_iw0007_01 with main := { PySem.Challenge.pw_iw0007_01.main with body := ((PySem.Challenge.pw_iw0007_01.main.body.eraseIdx 6).eraseIdx 4).eraseIdx 1 } }
theorem holdsM {r : OpenRow} {d : DefRec} {kwd : List (Str × Expr)} (H : Hook) (hr : r.records = []) (hdef : defOf Mine.vw r.name = some (d, kwd)) (hp : r.prog.theDef r.name = some (d.params, d.body, d.scope)) (hk : kwWritten? d.params.kwonlyargs d.params.kw_defaults = some kwd) (hwr : (!r.writes || r.records.isEmpty) = true) (k1 : r.wellSaid = true) (ok : (chainsOk Mine.vw && opensWell r.prog && (frees r.toRowW && r.within.isEmpty)) = true) (hb : r.prog.bare) (hw : r.toRowW.promised)
    (hl : LeftO r.prog Mine.vw [Str.ofString "Base64Engine"] (fun s => xlAt Mine.vw [] s && recOk [] s) (Hook.obs H) (Hook.val H) 3688) (hc : WalkO Mine.vw [Str.ofString "Base64Engine"] (XL Mine.vw []) (Hook.says H) r.toRowW d kwd fun f vs => PySem.call f vs) : r.Holds :=
  holds_open hl (Hook.of H) (Hook.keeps H) (fun s e => xl_of s (Bool.and_eq_true_iff.mp e).1) XL.keeps hdef hp hk (fun s e => by rw [hr]; exact recFacts_of (Bool.and_eq_true_iff.mp e).2) hwr k1 ok hb hw hc
local macro_rules | `(tactic| o_head (kmHook $K $as $pf $ts)) => `(tactic| (refine Mine.holdsM (kmHook $K $as $pf [107, 88, 45]) rfl (by rfl) (by rfl) (by rfl) (by rfl) (by assumption) (by decide +kernel) ⟨rfl, rfl, rfl, rfl, rfl, by decide +kernel⟩ ?hw ?hl ?hc; (case hl => intro w; kernel_rfl)))
theorem said_ok : OpenLaw.wellSaid PySem.Challenge.rw_iw0007_01 = true := by kernel_rfl
local macro_rules | `(tactic| o_law) => `(tactic| refine holds_law Mine.said_ok fun said => ?_)
open_top hd for PySem.Challenge.rw_iw0007_01
end Mine
set_option hygiene true
open PySem.Spec PySem.Calls
set_option maxHeartbeats 4000000
set_option genInjectivity false
set_option genSizeOf false
namespace Mine
theorem top_off : True := by w_top off; trivial
/-- an exception that no other was there before -/
noncomputable def Ctx0 (e : Addr) (h : Heap) : Prop := ∃ o vs, h.get? e = some o ∧ o.data = .fields vs ∧ vs[2]? = some Value.none
noncomputable def FlyC (base : Heap) (l : List Env) (e : Addr) (cls a0 : Value) (h : Heap) : Prop := Heap.FlyingW base l e cls a0 h ∧ Ctx0 e h

/-- a tree that leaves it so -/
noncomputable def Pres {α : Type} (e : Addr) (t : Sem α) : Prop := ∀ (M : Model) (Γ : PySem.Ctx) (Q : α → Pos → Shared → Prop) (E : Value → Pos → Shared → Prop) (p : Pos) (s : Shared), Ctx0 e s.heap → Sem.wp M Γ t Q E p s →
  Sem.wp M Γ t (fun a p' s' => Q a p' s' ∧ Ctx0 e s'.heap) (fun x p' s' => E x p' s' ∧ Ctx0 e s'.heap) p s

section
variable {α β : Type} {e : Addr}
theorem pres_pure (a : α) : Pres e (pure a : Sem α) := fun _ _ _ _ _ _ c h => by rw [Sem.wp_pure'] at h ⊢; exact ⟨h, c⟩
theorem pres_unsup (x : String) : Pres e (unsupported x : Sem α) := fun _ _ _ _ _ _ _ h => h.elim
theorem pres_bind {t : Sem α} {k : α → Sem β} (ht : Pres e t) (hk : ∀ a, Pres e (k a)) : Pres e (t >>= k) := fun M Γ Q E p s c h => by
  rw [Sem.wp_bind'] at h ⊢
  exact Sem.wp_mono M Γ t (fun a p' s' ⟨h1, c1⟩ => hk a M Γ Q E p' s' c1 h1) (fun _ _ _ x => x) p s (ht M Γ _ E p s c h)
theorem pres_load (a : Addr) : Pres e (load a) := fun _ _ _ _ _ _ c h => by
  simp only [load, Sem.wp_load, Sem.wp_pure] at h ⊢
  obtain ⟨o, ho, hq⟩ := h
  exact ⟨o, ho, hq, c⟩
theorem pres_stack : Pres e stack := fun _ _ _ _ _ _ c h => by
  simp only [stack, Sem.wp] at h ⊢
  exact ⟨h, c⟩
theorem pres_fieldsOf (v : Value) : Pres e (fieldsOf v) := fun M Γ Q E p s c h => by
  rw [wp_fieldsOf_iff] at h ⊢
  obtain ⟨a, o, vs, h1, h2, h3, h4⟩ := h
  exact ⟨a, o, vs, h1, h2, h3, h4, c⟩
theorem pres_field (v : Value) (i : Nat) : Pres e (field v i) := fun M Γ Q E p s c h => by
  rw [wp_field_iff] at h ⊢
  obtain ⟨a, o, vs, x, h1, h2, h3, h4, h5⟩ := h
  exact ⟨a, o, vs, x, h1, h2, h3, h4, h5, c⟩
theorem pres_update (a : Addr) (f : Obj → Obj) (hf : ∀ h : Heap, (h.get? a).isSome → Ctx0 e h → Ctx0 e (h.update a f)) : Pres e (update a f) := fun M Γ Q E p s c h => by
  simp only [update, Sem.wp_update, Sem.wp_pure] at h ⊢
  exact ⟨h.1, h.2, hf _ h.1 c⟩
theorem ctx_alloc {h : Heap} (o : Obj) (c : Ctx0 e h) : Ctx0 e (h.push o) := let ⟨o1, vs, h1, r⟩ := c; ⟨o1, vs, Heap.get?_push_of_some _ h1, r⟩
theorem pres_alloc (o : Obj) : Pres e (alloc o) := fun M Γ Q E p s c h => by
  simp only [alloc, Sem.wp_alloc, Sem.wp_pure] at h ⊢
  exact ⟨h, ctx_alloc o c⟩
theorem ctx_field {h : Heap} {a : Addr} {i : Nat} {v : Value} (hi : i ≠ 2) (c : Ctx0 e h) : Ctx0 e (h.update a (Obj.mapFields (·.setIfInBounds i v))) := by
  obtain ⟨o, vs, h1, h2, h3⟩ := c
  by_cases ha : a = e
  · subst ha
    refine ⟨_, _, Heap.get?_update_self _ h1 (Obj.isFreed_of_fields (Obj.data_mapFields h2 _)), Obj.data_mapFields h2 _, ?_⟩
    rw [Array.getElem?_setIfInBounds_ne hi]; exact h3
  · exact ⟨o, vs, (Heap.get?_update_other _ _ ha).trans h1, h2, h3⟩
theorem ctx_slots {h : Heap} {a : Addr} {f : Obj → Array (Option Value)} (c : Ctx0 e h) : Ctx0 e (h.update a fun o => { o with slots := f o }) := by
  obtain ⟨o, vs, h1, h2, h3⟩ := c
  by_cases ha : a = e
  · subst ha
    exact ⟨_, vs, Heap.get?_update_self _ h1 (Obj.isFreed_of_fields (show ({ o with slots := f o } : Obj).data = .fields vs from h2)), h2, h3⟩
  · exact ⟨o, vs, (Heap.get?_update_other _ _ ha).trans h1, h2, h3⟩
theorem pres_setField (v : Value) (i : Nat) (x : Value) (hi : i ≠ 2) : Pres e (setField v i x) := by
  unfold setField
  split
  · unfold updateField
    refine pres_bind (pres_load _) fun o => ?_
    split
    · split
      · exact pres_update _ _ fun h _ c => ctx_field hi c
      · exact pres_unsup _
    · exact pres_unsup _
  · exact pres_unsup _
theorem pres_setFlight (v : Value) (fr : Option Addr) : Pres e (setFlight v fr) := by
  unfold setFlight
  refine pres_bind (pres_field _ _) fun tb => ?_
  split
  · exact pres_setField _ _ _ (by decide)
  · exact pres_pure _
theorem pres_newObj (T : String) (vs : Array Value) (d : Option Addr) : Pres e (newObj (.type T) (.fields vs) d) := by
  have h2 : Pres e (newObjAsIs (.type T) (.fields vs) d) := pres_bind (pres_alloc _) fun _ => pres_pure _
  unfold newObj
  dsimp only
  split
  · exact pres_bind (pres_unsup _) fun _ => h2
  · exact h2
theorem pres_frameEnvs : Pres e frameEnvs := by
  unfold frameEnvs
  exact pres_bind pres_stack fun _ => pres_pure _
theorem pres_behind (env : Env) (outer : List Env) : Pres e (behindIsImport env outer) := by
  unfold behindIsImport
  split
  · exact pres_pure _
  · split
    · exact pres_pure _
    · exact pres_bind (pres_field _ _) fun _ => pres_pure _
theorem pres_under : Pres e underTheClaimsCaller := by
  unfold underTheClaimsCaller
  exact pres_bind pres_stack fun _ => pres_pure _
theorem pres_kept (env : Env) (i : Bool) (l : List Env) : Pres e (keptBack env i l) := by
  unfold keptBack
  split
  · split
    · exact pres_pure _
    · exact pres_bind pres_under fun _ => pres_pure _
  · exact pres_pure _
theorem pres_ready : ∀ l : List Env, Pres e (readyFrames l)
  | [] => pres_pure _
  | env :: outer => by
    unfold readyFrames
    split
    · refine pres_bind (pres_load _) fun o => ?_
      split
      · exact pres_pure _
      · exact pres_bind (pres_behind _ _) fun _ => pres_bind (pres_kept _ _ _) fun _ => pres_bind (pres_update _ _ fun h _ c => ctx_slots c) fun _ => pres_ready outer
    · exact pres_unsup _
theorem pres_frameObject : ∀ l : List Env, Pres e (frameObject l)
  | [] => pres_pure _
  | env :: outer => by
    unfold frameObject
    exact pres_bind (pres_ready _) fun _ => pres_pure _
theorem pres_frameOf (env : Env) : Pres e (PySem.frameOf env) := by
  unfold PySem.frameOf
  refine pres_bind pres_frameEnvs fun _ => pres_bind (pres_frameObject _) fun o => ?_
  split
  · exact pres_pure _
  · exact pres_unsup _
theorem pres_place (f : Addr) (b : Bool) : Pres e (entryPlaceOf f b) := by
  unfold entryPlaceOf
  refine pres_bind pres_stack fun _ => ?_
  split <;> exact pres_pure _
theorem pres_noteFrame (x : Value) (env : Env) : Pres e (noteFrame x env) := by
  unfold noteFrame
  split
  · rename_i f _
    refine pres_bind (pres_field _ _) fun hd => ?_
    have tail : ∀ hd, Pres e (do setField x 1 (← EntryCells.newEntry hd (← PySem.frameOf env) .none (rawInt f) .none (← entryPlaceOf f (hd != .none)))) := fun hd =>
      pres_bind (pres_frameOf _) fun _ => pres_bind (pres_place _ _) fun _ => pres_bind (pres_newObj _ _ _) fun _ => pres_setField _ _ _ (by decide)
    split
    · refine pres_bind (pres_field _ _) fun y => ?_
      split
      · exact pres_pure _
      · exact pres_bind (pres_setField _ _ _ (by decide)) fun _ => tail hd
    · exact tail hd
  · exact pres_unsup _
theorem pres_leaving (env : Env) (x : Value) : Pres e (leaving env x) := by
  unfold leaving
  exact pres_bind (pres_noteFrame _ _) fun _ => pres_setFlight _ _

theorem wpAny_pres {M : Model} {A : Around} {t : Sem α} {Q : α → Shared → Prop} {E : Value → Shared → Prop} {s : Shared} (hp : Pres e t) (c : Ctx0 e s.heap) (h : wpAny M A t Q E s) :
    wpAny M A t (fun a s' => Q a s' ∧ Ctx0 e s'.heap) (fun x s' => E x s' ∧ Ctx0 e s'.heap) s := fun Γ p hΓ => hp M Γ _ _ p s c (h Γ p hΓ)
/-- as a rule's premise -/
theorem wpAny_presU {M : Model} {A : Around} {t : Sem Unit} {Q : Unit → Shared → Prop} {E : Value → Shared → Prop} {s : Shared} {P : Heap → Prop} (hp : Pres e t) (c : Ctx0 e s.heap) 
    (h : ∀ Q' : Unit → Shared → Prop, (∀ h', P h' → Q' () { s with heap := h' }) → wpAny M A t Q' (fun _ _ => False) s) (hQ : ∀ h', P h' → Ctx0 e h' → Q () { s with heap := h' }) : wpAny M A t Q E s :=
  wpAny_mono (wpAny_pres hp c (h (fun _ s' => ∃ h', P h' ∧ s' = { s with heap := h' }) fun h' hP => ⟨h', hP, rfl⟩)) (fun _ s' ⟨⟨h', hP, e⟩, c'⟩ => by subst e; exact hQ h' hP c') fun _ _ x => x.1.elim
end

noncomputable abbrev PR : Program := PySem.Challenge.rw_iw0007_01.prog
noncomputable abbrev KK (w : World) : Frag := Mine.hd.heap_1 w.params
noncomputable abbrev LO : List Str := [Str.ofString "Base64Engine"] ++ (recsOf Mine.vw).map (·.name) ++ (litsOf Mine.vw).map (·.1) ++ (clssOf Mine.vw [Str.ofString "Base64Engine"]).map (·.name)
noncomputable abbrev tabs : List (Addr × Addr) := [(49, 45), (90, 88), (111, 107)]

/-- the written part of the world, its code tables left out -/
structure St (w : World) (mean : ExcName → Option Value) (mg mb : Str → Option Value) (G : Heap) : Prop where
  X : (Mine.hd.heap_1 w.params).In G
  T : Top topProg LO mean mg mb G
  cd : CodeAll tabs G
  n45 : G.get? 45 = none
  n88 : G.get? 88 = none
  n107 : G.get? 107 = none

/-- one code table: empty, or with its one code -/
noncomputable def TabIs (P : Addr) (h : Heap) : Prop := ∃ ps, h.get? P = some (tabObj ps) ∧ TriplesOk ps.toList ∧ (ps = #[] ∨ ∃ (l c : Int) (cv : Addr) (q : Str), ps = #[rawInt l, rawInt c, .ref cv] ∧ h.CodeRec (.ref cv) q)

structure Cx (w : World) (mean : ExcName → Option Value) (mg mb : Str → Option Value) (G : Heap) (A : Around) (base : Heap) (outer : List Env) (d u : Nat) (h : Heap) : Prop where
  B : Below A base outer h
  S : St w mean mg mb G
  le : ∀ b o, G.get? b = some o → h.get? b = some o
  hh : A.handled = none
  hd : A.depth + d < recursionLimit
  hu : A.units + u < cLine

theorem Cx.X {w mean mg mb G A base outer d u h} (C : Cx w mean mg mb G A base outer d u h) : (Mine.hd.heap_1 w.params).In h := C.S.X.keeps C.le
theorem Cx.T {w mean mg mb G A base outer d u h} (C : Cx w mean mg mb G A base outer d u h) : Top topProg LO mean mg mb h := C.S.T.keeps C.le

/-- a frame's names, written out -/
noncomputable def mp : List (Str × Option Value) → Str → Option Value
  | [], _ => none
  | (k, v) :: r, y => if y = k then v else mp r y
noncomputable def put (k : Str) (v : Value) : List (Str × Option Value) → List (Str × Option Value)
  | [] => [(k, some v)]
  | (k', v') :: r => if k = k' then (k', some v) :: r else (k', v') :: put k v r
theorem mp_put (k : Str) (v : Value) : ∀ (l : List (Str × Option Value)) (y : Str), mp (put k v l) y = if y = k then some v else mp l y
  | [], y => rfl
  | (k', v') :: r, y => by
    unfold put
    by_cases h : k = k'
    · subst h
      rw [if_pos rfl]
      show (if y = k then some v else mp r y) = if y = k then some v else if y = k then v' else mp r y
      by_cases q : y = k
      · rw [if_pos q, if_pos q]
      · rw [if_neg q, if_neg q, if_neg q]
    · rw [if_neg h]
      show (if y = k' then v' else mp (put k v r) y) = if y = k then some v else if y = k' then v' else mp r y
      rw [mp_put k v r y]
      by_cases q : y = k'
      · rw [if_pos q, if_pos q, if_neg (fun z => h (z.symm.trans q))]
      · rw [if_neg q, if_neg q]
theorem mp_none (k : Str) : ∀ (l : List (Str × Option Value)) (y : Str), mp l y = mp (l ++ [(k, none)]) y
  | [], y => by show none = if y = k then none else none; split <;> rfl
  | (k', v') :: r, y => by
    show (if y = k' then v' else mp r y) = if y = k' then v' else mp (r ++ [(k, none)]) y
    rw [mp_none k r y]
noncomputable def lputs (kind : Str → Option NameKind) : List (Str × Value) → List (Str × Option Value) → List (Str × Option Value)
  | [], l => l
  | (n, v) :: r, l => lputs kind r (if kind n = some .local then put n v l else l)
theorem bindL_mp (kind : Str → Option NameKind) : ∀ (b : List (Str × Value)) (l : List (Str × Option Value)), bindL kind b (mp l) = mp (lputs kind b l)
  | [], l => rfl
  | (n, v) :: r, l => by
    show bindL kind r (if kind n = some .local then fun y => if y = n then some v else mp l y else mp l) = mp (lputs kind r (if kind n = some .local then put n v l else l))
    rw [← bindL_mp kind r]
    split
    · rw [show (fun y => if y = n then some v else mp l y) = mp (put n v l) from funext fun y => (mp_put n v l y).symm]
    · rfl
theorem fr_cg {h₀ h : Heap} {L : Addr} {m m' : Str → Option Value} (F : Fr h₀ L h m) (e : ∀ y, m y = m' y) : Fr h₀ L h m' := (funext e : m = m') ▸ F
theorem mp_lookup : ∀ (l : List (Str × Value)) (y : Str), l.lookup y = mp (l.map fun x => (x.1, some x.2)) y
  | [], y => rfl
  | (k, v) :: r, y => by
    rw [List.lookup_cons]
    show _ = if y = k then some v else mp _ y
    by_cases h : y = k
    · subst h; simp
    · have : (y == k) = false := by simpa using h
      rw [this, if_neg h]; exact mp_lookup r y

section
variable {w : World} {mean : ExcName → Option Value} {mg mb : Str → Option Value} {G : Heap} {A : Around} {base : Heap} {outer : List Env} {d u : Nat} {s : Shared}
  {R : Result → Shared → Prop} {name qual : Str} {params : Arguments} {body : List Stmt} {scope : Scope} {dV kV doc pm cdv ct oc : Value} {an od : Option Addr} {osl : Array (Option Value)} {f : Addr} {args : Args} {binds : List (Str × Value)}

theorem enter (C : Cx w mean mg mb G A base outer d u s.heap) (h1 : 1 ≤ d) (ho : (Mine.hd.heap_1 w.params).lookup f = some ⟨oc, od, .func (fnX name qual params body scope [] dV kV doc pm an cdv ct), osl⟩)
    (hcd : codeIn (Mine.hd.heap_1 w.params) cdv qual = true) (hbind : BindsTo s (fnX name qual params body scope [] dV kV doc pm an cdv ct) args binds) (hloc : ∀ y ∈ binds, scope.names.lookup y.1 = some .local)
    (h : ∀ L h₁, Fr s.heap L h₁ (mp (binds.reverse.map fun x => (x.1, some x.2))) → News s.heap L h₁ [] → Below A base outer s.heap → (Mine.hd.heap_1 w.params).In s.heap → Top topProg LO mean mg mb s.heap →
      wpAny (model PR w) (A.deeper (envX qual scope L f cdv [])) (execs body (envX qual scope L f cdv []))
        (fun fl s' => R (.ok (.ret (match fl with | .ret v => v | _ => .none))) s')
        (fun e s' => wpAny (model PR w) (A.deeper (envX qual scope L f cdv [])) (leaving (envX qual scope L f cdv []) e) (fun _ s'' => R (.error e) s'') (fun e' s'' => R (.error e') s'') s')
        { s with heap := h₁, toks := s.toks + binds.length })
    (hco : scope.isCoroutine = false) (hgen : scope.isGenerator = false) (hk : scope.kind = .function) (hcell : ∀ x ∈ scope.names, x.2 ≠ .cell) : codeAny (model PR w) A (.call (.ref f) args) R s := by
  have hd := C.hd
  refine codeAny_call_def (fd := fnX name qual params body scope [] dV kV doc pm an cdv ct) (body := body) (binds := binds) (by omega) (C.X _ _ ho) rfl C.T.nolimit (codeRec_of C.X hcd) rfl hbind hcell hloc (fun h₁ hns hk₁ => ?_) hco hgen hk
  exact h s.heap.objs.size h₁ (fr_cg ⟨hns, hk₁, Nat.le_refl _⟩ (mp_lookup _)) .nil C.B C.X C.T

theorem enterC (C : Cx w mean mg mb G A base outer d u s.heap) (h1 : 1 ≤ d) (ho : (Mine.hd.heap_1 w.params).lookup f = some ⟨oc, od, .func (fnX name qual params body scope [] dV kV doc pm an cdv ct), osl⟩)
    (hcd : codeIn (Mine.hd.heap_1 w.params) cdv qual = true) (hbind : BindsTo s (fnX name qual params body scope [] dV kV doc pm an cdv ct) args binds)
    (hkind : (binds.all fun y => scope.names.lookup y.1 == some .local || scope.names.lookup y.1 == some .cell) = true)
    (hnd : ((cellsFrom 0 scope.names []).map (·.1)).Nodup)
    (h : ∀ L h₁ tk cells, Fr s.heap L h₁ (mp (lputs (envOfC qual scope L f cdv).kindOf binds [])) → News s.heap L h₁ cells →
      CellsAre (bindC (envOfC qual scope L f cdv).kindOf binds fun _ => none) (cellsFrom (L + 1) scope.names []) cells → Below A base outer s.heap → (Mine.hd.heap_1 w.params).In s.heap → Top topProg LO mean mg mb s.heap →
      wpAny (model PR w) (A.deeper (envOfC qual scope L f cdv)) (execs body (envOfC qual scope L f cdv))
        (fun fl s' => R (.ok (.ret (match fl with | .ret v => v | _ => .none))) s')
        (fun e s' => wpAny (model PR w) (A.deeper (envOfC qual scope L f cdv)) (leaving (envOfC qual scope L f cdv) e) (fun _ s'' => R (.error e) s'') (fun e' s'' => R (.error e') s'') s')
        { s with heap := h₁, toks := tk })
    (hco : scope.isCoroutine = false) (hgen : scope.isGenerator = false) (hk : scope.kind = .function) : codeAny (model PR w) A (.call (.ref f) args) R s := by
  have hd := C.hd
  refine codeAny_call_function (by omega) (C.X _ _ ho) rfl hco hgen rfl (codeRec_of C.X hcd) (hbind _ _ _ _ ?_)
  refine wpAny_newFunctionEnv_cells hk (kindsX hkind _) fun env' he s' x => ?_
  subst he
  refine ⟨C.T.nolimit.keeps x.toInCall.keep, codeAny_func ?_⟩
  obtain ⟨h₁, tk, rfl, _⟩ := x.done
  have hk₁ := x.toInCall.keep
  obtain ⟨cells, NC, Y⟩ := Cl.news (h₀ := s.heap) (Nat.le_refl _) fun n c hm => ⟨x.cell n c (lookup_of_mem_nodup (cellsFrom_names scope.names 0 (s.heap.objs.size + 1) [] [] rfl ▸ hnd) hm), x.above n c hm⟩
  exact h s.heap.objs.size h₁ tk cells (fr_cg ⟨x.toInCall.ns, hk₁, Nat.le_refl _⟩ (fun y => congrFun (bindL_mp _ _ []) y)) NC Y C.B C.X C.T
end

theorem st_mp {M : Model} {A : Around} {E : Value → Shared → Prop} {s : Shared} {h₀ : Heap} {L a : Addr} {l : List (Str × Option Value)} {cn : Str} {cs : Scope} {ccd : Value} {cl : List (Str × Addr)} {x : Str} {v : Value} {Q : Unit → Shared → Prop} {news : List (Addr × Obj)}
    (F : Fr h₀ L s.heap (mp l)) (N : News h₀ L s.heap news) (h : ∀ h', Fr h₀ L h' (mp (put x v l)) → News h₀ L h' news → Q () { s with heap := h', toks := s.toks + 1 })
    (hk : cs.kind = .function := by rfl) (hx : (envX cn cs L a ccd cl).kindOf x = some .local := by rfl) : wpAny M A (storeName (envX cn cs L a ccd cl) x v) Q E s :=
  storeX_L F N (fun h' F' N' => h h' (fr_cg F' fun y => (mp_put x v l y).symm) N') hk hx

theorem inst_old {h₀ h : Heap} {L : Addr} {m : Str → Option Value} {x dx C : Addr} {od : Obj} (F : Fr h₀ L h m) (h1 : h₀.get? x = some (instObj C dx)) (h2 : h₀.get? dx = some od) : InstAt h x (instObj C dx) C (some od) :=
  ⟨F.keep _ _ h1, rfl, rfl, F.keep _ _ h2⟩

noncomputable abbrev Kp (h h' : Heap) : Prop := ∀ b o, h.get? b = some o → h'.get? b = some o

theorem leaves_onC {M : Model} {A : Around} {E : Value → Shared → Prop} {s : Shared} {base : Heap} {env : Env} {outer : List Env} {L e : Addr} {cls a0 : Value} {Q : Unit → Shared → Prop}
    (hfr : A.frames = some (env :: outer)) (hf : env.frame = some L) (hfl : FlyC base (env :: outer) e cls a0 s.heap) (hQ : ∀ h', FlyC base outer e cls a0 h' → s.heap.UpToSlots h' → Q () { s with heap := h' }) : wpAny M A (leaving env (.ref e)) Q E s :=
  wpAny_presU (P := fun h' => Heap.FlyingW base outer e cls a0 h' ∧ s.heap.UpToSlots h') (pres_leaving _ _) hfl.2 (fun _ hQ' => wpAny_leaves_onW hfr hf hfl.1 fun h' x1 x2 => hQ' h' ⟨x1, x2⟩) fun h' x hc => hQ h' ⟨x.1, hc⟩ x.2

noncomputable abbrev HeldC (base : Heap) (l : List Env) (e : Addr) (cls a0 : Value) (L : Addr) (h : Heap) : Prop := Heap.HeldW base l e cls a0 L h ∧ Ctx0 e h

theorem looks_onC {M : Model} {A : Around} {E : Value → Shared → Prop} {s : Shared} {base : Heap} {env : Env} {outer : List Env} {L e : Addr} {cls a0 : Value} {Q : Unit → Shared → Prop}
    (hfr : A.frames = some (env :: outer)) (hf : env.frame = some L) (hfl : FlyC base (env :: outer) e cls a0 s.heap) (hQ : ∀ h', HeldC base (env :: outer) e cls a0 L h' → s.heap.UpToSlots h' → Q () { s with heap := h' }) : wpAny M A (noteFrame (.ref e) env) Q E s :=
  wpAny_presU (P := fun h' => Heap.HeldW base (env :: outer) e cls a0 L h' ∧ s.heap.UpToSlots h') (pres_noteFrame _ _) hfl.2 (fun _ hQ' => wpAny_looks_onW hfr hf hfl.1 fun h' x1 x2 => hQ' h' ⟨x1, x2⟩) fun h' x hc => hQ h' ⟨x.1, hc⟩ x.2

theorem landsC {M : Model} {A : Around} {E : Value → Shared → Prop} {s : Shared} {base : Heap} {l : List Env} {L e : Addr} {cls a0 : Value} {Q : Unit → Shared → Prop}
    (hh : HeldC base l e cls a0 L s.heap) (hQ : ∀ h', FlyC base l e cls a0 h' → s.heap.UpToSlots h' → Q () { s with heap := h' }) : wpAny M A (setFlight (.ref e) none) Q E s :=
  wpAny_presU (P := fun h' => Heap.FlyingW base l e cls a0 h' ∧ s.heap.UpToSlots h') (pres_setFlight _ _) hh.2 (fun _ hQ' => wpAny_landsW hh.1 fun h' x1 x2 => hQ' h' ⟨x1, x2⟩) fun h' x hc => hQ h' ⟨x.1, hc⟩ x.2
theorem lands_againC {M : Model} {A : Around} {E : Value → Shared → Prop} {s : Shared} {base : Heap} {l : List Env} {e : Addr} {cls a0 : Value} {Q : Unit → Shared → Prop}
    (hh : FlyC base l e cls a0 s.heap) (hQ : ∀ h', FlyC base l e cls a0 h' → s.heap.UpToSlots h' → Q () { s with heap := h' }) : wpAny M A (setFlight (.ref e) none) Q E s :=
  wpAny_presU (P := fun h' => Heap.FlyingW base l e cls a0 h' ∧ s.heap.UpToSlots h') (pres_setFlight _ _) hh.2 (fun _ hQ' => lands_againW hh.1 fun h' x1 x2 => hQ' h' ⟨x1, x2⟩) fun h' x hc => hQ h' ⟨x.1, hc⟩ x.2

theorem lv_new {M : Model} {A : Around} {E : Value → Shared → Prop} {s' : Shared} {base h₀ h : Heap} {outer : List Env} {L e : Addr} {m : Str → Option Value} {env : Env} {Q : Unit → Shared → Prop} {cls : String}
    (B : Below A base outer h₀) (hx : Heap.NewExc h s'.heap e cls) (F : Fr h₀ L h m) (hf : env.frame = some L) (hk : env.scope.kind = .function)
    (hQ : ∀ h' a0, FlyC base outer e (.type cls) a0 h' → h₀.UpToSlots h' → Q () { s' with heap := h' }) : wpAny M (A.deeper env) (leaving env (.ref e)) Q E s' := by
  have K' := pushX B F hf hk
  obtain ⟨ob, tp, he, hcls, hd⟩ := hx.there
  have hkb : base.StaysIn s'.heap := fun b o q => hx.keeps b o (K'.stays b o q)
  have hen : base.get? e = none := by
    cases q : base.get? e with
    | none => rfl
    | some o => have := K'.stays _ _ q; rw [hx.new] at this; cases this
  refine wpAny_presU (P := fun h' => Heap.LeftW base (env :: outer) e ob.cls tp s'.heap h') (pres_leaving _ _) ⟨ob, _, he, hd, rfl⟩ (fun _ hQ' => wpAny_leaving_firstW (a0 := tp) K'.stack (K'.frames.of_keeps fun b o hb _ => ⟨o, hx.keeps b o hb, rfl⟩) hf he hkb hen hd rfl rfl hQ') fun h' hL hc => ?_
  obtain ⟨k1, ⟨_, _, k2⟩, k3, k4⟩ := hL
  exact hQ h' tp ⟨⟨k1, hen, k2, by rw [← hcls]; exact k3⟩, hc⟩ (((Heap.UpToSlots.of_keeps F.keep).trans (Heap.UpToSlots.of_keeps hx.keeps)).trans k4)

noncomputable abbrev ErrK (base : Heap) (outer : List Env) (s : Shared) (cls : String) (R : Result → Shared → Prop) : Prop :=
  ∀ h' tk e a0, FlyC base outer e (.type cls) a0 h' → s.heap.UpToSlots h' → R (.error (.ref e)) { s with heap := h', toks := tk }
theorem hideG {P : Prop} (h : ∀ P' : Prop, (P → P') → P') : P := h P id
theorem le_tr {a b c : Nat} (h : b ≤ c) (e : Nat.ble a b = true) : a ≤ c := Nat.le_trans (Nat.le_of_ble_eq_true e) h
theorem le_sb {a b c k : Nat} (h : b ≤ c) (e : Nat.ble (a + k) b = true) : a ≤ c - k := Nat.le_sub_of_add_le (Nat.le_trans (Nat.le_of_ble_eq_true e) h)
local macro_rules | `(tactic| obtain $pat := $t) => `(tactic| first | (refine hideG fun P' back => ?_; (rcases $t:term with $pat) <;> (refine back ?_; clear back P')) | rcases $t:term with $pat)
local macro_rules | `(tactic| omega) => `(tactic| first | decide | exact le_tr (by assumption) rfl | exact le_sb (by assumption) rfl | lia | omega +splitDisjunctions)
local macro_rules | `(tactic| k_all) => `(tactic| first | assumption | exact List.forall_mem_nil _ | (refine' forall_cons ?a ?b; (case a => k_ne); (case b => k_all)))
local macro_rules | `(tactic| tb_start) => `(tactic| (first | (k_unfold; (try dsimp only)) | walk1 | (dsimp only; walk1)))
local macro_rules | `(tactic| k_inst) => `(tactic| (refine' inst_old ?F ?h1 ?h2; (case F => k_asm); (case h1 => assumption); (case h2 => assumption)))
local macro_rules | `(tactic| walk_at "storeName") => `(tactic| (k_here; k_dflt (refine' st_mp ?F ?N ?_ ?a ?b; (case F => k_asm); (case N => k_asm); (case a => rfl); (case b => rfl); k_whole; intro h' F' N'; (try k_sweep))))
local macro_rules | `(tactic| tb_rel) => `(tactic| (try ((fail_if_success (with_reducible show wpAny _ _ (call (Value.ref _) _ _) _ _ _)); (fail_if_success (with_reducible show wpAny _ _ (eval (Expr.ListComp _ _ _ _) _) _ _ _)); (fail_if_success (with_reducible show wpAny _ _ (eval (Expr.GeneratorExp _ _ _ _) _) _ _ _)); (fail_if_success (with_reducible show wpAny _ _ (exec (Stmt.Assign _ (Expr.ListComp _ _ _ _) _) _) _ _ _)); (fail_if_success (with_reducible show wpAny _ _ (exec (Stmt.AugAssign _ _ (Expr.ListComp _ _ _ _) _) _) _ _ _)); tb_start; tb_rel)))
local macro_rules | `(tactic| walk_at "exec Raise some none") => `(tactic| refine Raise_new rfl ?_)
section
theorem mem_c {α : Type} {x a : α} {l : List α} (h : x ∈ a :: l) : a = x ∨ x ∈ l := (List.mem_cons.mp h).imp Eq.symm id
theorem mem1 {α : Type} {x a : α} (h : x ∈ [a]) : a = x := (List.mem_singleton.mp h).symm
theorem mem2 {α : Type} {x a b : α} (h : x ∈ [a, b]) : a = x ∨ b = x := (mem_c h).imp id mem1
theorem mem3 {α : Type} {x a b c : α} (h : x ∈ [a, b, c]) : a = x ∨ b = x ∨ c = x := (mem_c h).imp id mem2
theorem mem4 {α : Type} {x a b c d : α} (h : x ∈ [a, b, c, d]) : a = x ∨ b = x ∨ c = x ∨ d = x := (mem_c h).imp id mem3
theorem mem5 {α : Type} {x a b c d e : α} (h : x ∈ [a, b, c, d, e]) : a = x ∨ b = x ∨ c = x ∨ d = x ∨ e = x := (mem_c h).imp id mem4
theorem forall_cons {α : Type} {P : α → Prop} {a : α} {l : List α} (h1 : P a) (h2 : ∀ x ∈ l, P x) : ∀ x ∈ a :: l, P x := List.forall_mem_cons.mpr ⟨h1, h2⟩

noncomputable abbrev engD (h1 h2 h3 : Int) (t1 t2 t3 tb : Tok) (bl : List UInt8) (lk : Addr) (big : Bool) (n : Nat) : Obj :=
  dictOf [⟨h1, .str (Str.ofString "bytemap") t1, .bytes bl.toArray tb⟩, ⟨h2, .str (Str.ofString "_lookup") t2, .ref lk⟩, ⟨h3, .str (Str.ofString "big") t3, .bool big⟩] n

noncomputable def look (bl : List UInt8) (k : Int) : Option Nat := bl.findIdx? fun b => decide (((b.toNat : Nat) : Int) = k)

inductive EngAt (w : World) (h : Heap) (e : Addr) (bl : List UInt8) (big : Bool) : Prop
  | mk (dx : Addr) (h1 h2 h3 : Int) (t1 t2 t3 tb : Tok) (lk : Addr) (n : Nat) (f : Int → Option Value) (e1 : h.get? e = some (instObj 262 dx)) (e2 : h.get? dx = some (engD h1 h2 h3 t1 t2 t3 tb bl lk big n)) (e3 : (lk == sysModules) = false) (e4 : h.MapOf (intKind PR w) lk f)
    (e5 : ∀ k, look bl k = none → f k = none) (e6 : ∀ k i, look bl k = some i → ∃ t, f k = some (.int i t)) : EngAt w h e bl big
structure Eng (w : World) (h : Heap) (e : Addr) (bl : List UInt8) (big : Bool) : Prop where
  len : bl.length = 64
  nd : bl.Nodup
  at_ : EngAt w h e bl big



theorem enc64 {w : World} {mean mg mb G base outer d u dp un gd} {s : Shared} {R : Result → Shared → Prop} {e : Addr} {bl : List UInt8} {big : Bool} {v : Int} {tv : Tok}
    (C : Cx w mean mg mb G ⟨none, dp, some outer, gd, un⟩ base outer d u s.heap) (hd : 3 ≤ d) (he : Eng w s.heap e bl big)
    (hv : 0 ≤ v) (hv2 : v < bl.length)
    (hR : ∀ h' tk t, Kp s.heap h' → R (.ok (.ret (.int (bl.getD v.toNat 0).toNat t))) { s with heap := h', toks := tk }) :
    codeAny (model PR w) ⟨none, dp, some outer, gd, un⟩ (.call (.ref 57) ⟨[.ref e, .int v tv], []⟩) R s := by
  obtain ⟨hlen, hnd, dx, h1, h2, h3, t1, t2, t3, tb, lk, n, f, he, hx, _⟩ := he
  have X0 := C.X
  revert X0
  delta PR
  k_fill
  intro X0
  refine enter C (by omega) (by k_is) (by k_is) (BindsTo.of_eq rfl) (locs rfl) ?_ rfl rfl rfl (by decide)
  intro L h₁ F N B X T
  clear X0
  dsimp only
  k_fold
  iterate 8 tb_start
  refine KBy.item_N (by omega) (by omega) (by omega) ?_
  dsimp only
  tb_start
  exact hR _ _ _ F.keep


theorem mapOf_keep {w : World} {h h' : Heap} {a : Addr} {f : Int → Option Value} (hm : h.MapOf (intKind PR w) a f) (k : Kp h h') : h'.MapOf (intKind PR w) a f :=
  let ⟨o, es, ep, ho, r⟩ := hm; ⟨o, es, ep, k _ _ ho, r⟩

theorem dec64 {w : World} {mean mg mb G base outer d u dp un gd} {s : Shared} {R : Result → Shared → Prop} {e : Addr} {bl : List UInt8} {big : Bool} {v : Int} {tv : Tok}
    (C : Cx w mean mg mb G ⟨none, dp, some outer, gd, un⟩ base outer d u s.heap) (hd : 3 ≤ d) (he : Eng w s.heap e bl big)
    (hR : ∀ i, look bl v = some i → ∀ h' tk t, Kp s.heap h' → R (.ok (.ret (.int i t))) { s with heap := h', toks := tk })
    (hE : look bl v = none → ErrK base outer s "KeyError" R) :
    codeAny (model PR w) ⟨none, dp, some outer, gd, un⟩ (.call (.ref 64) ⟨[.ref e, .int v tv], []⟩) R s := by
  obtain ⟨hlen, hnd, dx, h1, h2, h3, t1, t2, t3, tb, lk, n, f, he, hx, hsy, hm, hf1, hf2⟩ := he
  have X0 := C.X
  revert X0
  delta PR
  k_fill
  intro X0
  refine enter C (by omega) (by k_is) (by k_is) (BindsTo.of_eq rfl) (locs rfl) ?_ rfl rfl rfl (by decide)
  intro L h₁ F N B X T
  clear X0
  dsimp only
  k_fold
  iterate 8 tb_start
  have hm' := mapOf_keep hm F.keep
  refine subscriptTail_builtin_flat (Heap.MapOf.typeIs (s := { s with heap := h₁ }) hm') PySem.slot_dict_getitem.lookup ?_ (by with_unfolding_all rfl)
  cases hq : look bl v with
  | some i =>
    obtain ⟨t, ht⟩ := hf2 v i hq
    refine wpAny_getItem_of (k := v) (by simp [intKind, Value.isInt]) hm' ht ⟨by nofun, ?_⟩
    dsimp only
    tb_start
    exact hR i hq _ _ _ F.keep
  | none =>
    refine wpAny_getItem_missing_of (k := v) (by simp [intKind, Value.isInt]) hsy rfl hm' (hf1 v hq) fun h' e' hx => ?_
    tb_start
    refine lv_new B hx F rfl rfl fun h'' a0 hfl hsm => ?_
    exact hE hq _ _ _ _ hfl hsm


noncomputable def rowOf (size : Nat) (v : Int) : List Int := (List.range size).map fun k => v / 2 ^ k % 2
noncomputable def bitsOf (size : Nat) (big : Bool) (vs : List Int) : List Int := vs.flatMap fun v => if big then (rowOf size v).reverse else rowOf size v

/-- what gives an iterator of its own over ints -/
noncomputable def Iters (w : World) (h₀ : Heap) (pv : Value) (ks : List Int) : Prop :=
  ∀ (A : Around) (s : Shared) (E : Value → Shared → Prop) (Q : Value → Shared → Prop), A.handled = none → Kp h₀ s.heap →
    (∀ o St fp, o.isFreed = false → Walks PR w A s.heap.objs.size fp [s.heap.objs.size] ks.length (fun i v => ∃ k t, ks[i]? = some k ∧ v = .int k t) St → (∀ i h, St i h → ∃ o, h.get? s.heap.objs.size = some o) →
      (∀ b ∈ fp, b = s.heap.objs.size ∨ ∃ o, h₀.get? b = some o) → St 0 (s.heap.push o) → Q (.ref s.heap.objs.size) { s with heap := s.heap.push o }) → wpAny (model PR w) A (pyIter pv) Q E s

theorem iters_bytes (w : World) (h₀ : Heap) (b : Array UInt8) (t : Tok) : Iters w h₀ (.bytes b t) (KBw.bInts b) := by
  intro A s E Q hh hk h
  refine KBw.pyIter_bytes (h _ (fun i h => KBw.IsBytesIter h s.heap.objs.size b t i) [s.heap.objs.size] rfl ?_ ?_ ?_ ⟨_, Heap.get?_push_size _ rfl, rfl, rfl⟩)
  · have W := KBw.walks (prog := PR) (w := w) hh s.heap.objs.size b t
    have e := KBw.ints_length b
    exact ⟨W.sub, W.frame, fun i s Q E hi st hQ => W.item i s Q E (by omega) st fun v h' tk hP => hQ v h' tk (by
      obtain ⟨c, u, hc, rfl⟩ := hP
      exact ⟨_, _, KBw.ints_get hc, rfl⟩), fun s Q E st hQ => W.done s Q E (by rw [← e]; exact st) hQ, W.self⟩
  · rintro i h ⟨o, ho, _⟩; exact ⟨o, ho⟩
  · intro b hb; exact .inl (List.mem_singleton.mp hb)

theorem iters_list (w : World) {h₀ : Heap} {l : Addr} {vs : List Value} {ks : List Int} (hl : h₀.IsList l vs.toArray) (hi : IntsAre vs ks) : Iters w h₀ (.ref l) ks := by
  intro A s E Q hh hk h
  have hls : s.heap.IsList l vs.toArray := let ⟨o, ho, r⟩ := hl; ⟨o, hk _ _ ho, r⟩
  obtain ⟨ol, hol, _⟩ := id hl
  have hne : l ≠ s.heap.objs.size := Nat.ne_of_lt (Heap.lt_size (hk _ _ hol))
  refine wpAny_pyIter_list hls (h _ (fun i h => h.IsListIter s.heap.objs.size l i ∧ h.IsList l vs.toArray) [s.heap.objs.size, l] rfl ?_ ?_ ?_ ⟨⟨_, Heap.get?_push_size _ rfl, rfl, rfl⟩, hls.at fun o e => Heap.get?_push_of_some _ e⟩)
  · have W := Walks.list (prog := PR) (w := w) hh s.heap.objs.size l hne vs.toArray
    have e : vs.toArray.size = ks.length := by simp [hi.length]
    refine ⟨W.sub, W.frame, fun i s Q E hq st hQ => W.item i s Q E (by omega) st fun v h' tk hP => hQ v h' tk ?_, fun s Q E st hQ => W.done s Q E (by rw [e]; exact st) hQ, W.self⟩
    have hP' : vs[i]? = some v := by simpa using hP
    have hq' : i < ks.length := hq
    obtain ⟨t, ht⟩ := hi.get i (ks[i]) (by simp [hq'])
    rw [hP'] at ht
    cases ht
    exact ⟨_, t, by simp [hq'], rfl⟩
  · rintro i h ⟨⟨o, ho, _⟩, _⟩; exact ⟨o, ho⟩
  · intro b hb
    rcases List.mem_cons.mp hb with e | hb
    · exact .inl e
    · exact .inr ⟨ol, (List.mem_singleton.mp hb) ▸ hol⟩


/-- where a walk is to stop -/
structure Fin (P : Prop) : Prop where out : P

/-- where a turn, an element has come to -/
inductive TurnTo (s : Shared) (h₀ : Heap) (L I : Addr) (o : Obj) (ads : List Addr) (J : List (Str × Option Value) → List (Addr × Obj) → Prop) (f : Flow) (s₃ : Shared) : Prop
  | mk (hf : f = .next) (h' : Heap) (tk' : Nat) (l'' : List (Str × Option Value)) (news'' : List (Addr × Obj)) (e : s₃ = { s with heap := h', toks := tk' }) (F : Fr h₀ L h' (mp l'')) (N : News h₀ L h' ((I, o) :: news'')) (hm : news''.map (·.1) = ads) (hj : J l'' news'') : TurnTo s h₀ L I o ads J f s₃
inductive EltTo (gn : Array GenState) (dr : Drawn) (os : OsState) (h₀ : Heap) (L : Addr) (m : Str → Option Value) (news : List (Addr × Obj)) (V : Value → Prop) (y : Value) (s₂ : Shared) : Prop
  | mk (h' : Heap) (tk' : Nat) (e : s₂ = { heap := h', gens := gn, drawn := dr, toks := tk', os := os }) (F : Fr h₀ L h' m) (N : News h₀ L h' news) (hV : V y) : EltTo gn dr os h₀ L m news V y s₂
inductive LoopG (n : Nat) (s : Shared) (St : Nat → Heap → Prop) (J : Nat → List (Str × Option Value) → List (Addr × Obj) → Prop) (ads : List Addr) (h₀ : Heap) (L : Addr) (k : Nat) (s₁ : Shared) : Prop
  | mk (i : Nat) (h : Heap) (tk : Nat) (l' : List (Str × Option Value)) (news' : List (Addr × Obj)) (ek : k = n - i) (hi : i ≤ n) (es : s₁ = { s with heap := h, toks := tk }) (st : St i h) (hj : J i l' news') (hm : news'.map (·.1) = ads) (F : Fr h₀ L h (mp l')) (N : News h₀ L h news') : LoopG n s St J ads h₀ L k s₁

/-- as `Iters`, from one heap -/
noncomputable def IterF (w : World) (h₀ h : Heap) (pv : Value) (ks : List Int) : Prop :=
  ∀ (A : Around) (s : Shared) (E : Value → Shared → Prop) (Q : Value → Shared → Prop), A.handled = none → s.heap = h →
    (∀ o St fp, o.isFreed = false → Walks PR w A s.heap.objs.size fp [s.heap.objs.size] ks.length (fun i v => ∃ k t, ks[i]? = some k ∧ v = .int k t) St → (∀ i h, St i h → ∃ o, h.get? s.heap.objs.size = some o) →
      (∀ b ∈ fp, b = s.heap.objs.size ∨ ∃ o, h₀.get? b = some o) → St 0 (s.heap.push o) → Q (.ref s.heap.objs.size) { s with heap := s.heap.push o }) → wpAny (model PR w) A (pyIter pv) Q E s
theorem Iters.f {w : World} {h₀ h : Heap} {pv : Value} {ks : List Int} (it : Iters w h₀ pv ks) (hk : Kp h₀ h) : IterF w h₀ h pv ks := fun A s E Q hh e hQ => it A s E Q hh (e ▸ hk) hQ

theorem for_G {w : World} {A : Around} {E : Value → Shared → Prop} {s : Shared} {Q : Flow → Shared → Prop} {x : Str} {px pos : Pos} {iter : Expr} {body : List Stmt} {env : Env} {h₀ : Heap} {L : Addr} {ks : List Int}
    {l : List (Str × Option Value)} {news : List (Addr × Obj)} (J : Nat → List (Str × Option Value) → List (Addr × Obj) → Prop) (hh : A.handled = none) (F : Fr h₀ L s.heap (mp l)) (N : News h₀ L s.heap news) 
    (hit : ∀ Q', (∀ pv h tk, Fr h₀ L h (mp l) → News h₀ L h news → IterF w h₀ h pv ks → Q' pv { s with heap := h, toks := tk }) → wpAny (model PR w) A (eval iter env) Q' E s) (j0 : J 0 l news)
    (turn : ∀ i k t l' news' h tk I o, ks[i]? = some k → J i l' news' → news'.map (·.1) = news.map (·.1) → (∀ p ∈ news', p.1 < I) → Fr h₀ L h (mp l') → News h₀ L h ((I, o) :: news') →
      wpAny (model PR w) A (assign (.Name x px) env (.int k t)) (fun _ s₂ => wpAny (model PR w) A (execs body env) (fun f s₃ => Fin (TurnTo s h₀ L I o (news.map (·.1)) (J (i + 1)) f s₃)) (fun _ _ => False) s₂) (fun _ _ => False) { s with heap := h, toks := tk })
    (done : ∀ h tk l' news', J ks.length l' news' → Fr h₀ L h (mp l') → News h₀ L h news' → Q .next { s with heap := h, toks := tk })
    (hs : ∀ x, foldedSetIterable iter env x = pure x := by intro _; rfl) :
    wpAny (model PR w) A (exec (.For (.Name x px) iter body [] pos) env) Q E s := by
  refine wpAny_For (hit _ fun pv h0 tk₀ F N it => it A _ E _ hh rfl fun oI St fp hfree W hI hfp st => ?_) hs
  dsimp only at W hI hfp st ⊢
  have hLI : L < h0.objs.size := F.ns.lt
  have hnew : h₀.get? h0.objs.size = none := by
    cases q : h₀.get? h0.objs.size with
    | none => rfl
    | some o => exact absurd (Heap.lt_size (F.keep _ _ q)) (Nat.lt_irrefl _)
  refine codeAny_forLoop_any (LoopG ks.length s St J (news.map (·.1)) h₀ L) (fun k s₁ hI' => ?_) ks.length
    ⟨0, _, _, l, news, rfl, Nat.zero_le _, rfl, st, j0, rfl, F.push _, fun p hp => ⟨Heap.get?_push_of_some _ (N p hp).1, (N p hp).2⟩⟩
  obtain ⟨i, h, tk, l', news', rfl, hi, rfl, st, hj, hm, F₁, N₁⟩ := hI'
  have hlt' : ∀ p ∈ news', p.1 < h0.objs.size := fun p hp => by
    have : p.1 ∈ news.map (·.1) := hm ▸ List.mem_map_of_mem hp
    obtain ⟨q, hq, e⟩ := List.mem_map.mp this
    exact e ▸ Heap.lt_size (N q hq).1
  have stay : ∀ h', (∀ b o, b ∉ [h0.objs.size] → h.get? b = some o → h'.get? b = some o) → Fr h₀ L h' (mp l') ∧ News h₀ L h' news' := fun h' hk =>
    ⟨⟨F₁.ns.at' fun o e => hk L o (by simp; exact Nat.ne_of_lt hLI) e, fun b o e => hk b o (by simp; rintro rfl; rw [hnew] at e; cases e) (F₁.keep b o e), F₁.above⟩,
      fun p hp => ⟨hk _ _ (by simp; exact Nat.ne_of_lt (hlt' p hp)) (N₁ p hp).1, (N₁ p hp).2⟩⟩
  by_cases hlt : i < ks.length
  · refine W.item i _ _ _ hlt st fun v h' tk' hP st' hk => ?_
    obtain ⟨k, t, hk', rfl⟩ := hP
    obtain ⟨F₂, N₂⟩ := stay h' hk
    obtain ⟨o, ho⟩ := hI _ _ st'
    dsimp only
    refine wpAny_pure ?_
    have N₃ : News h₀ L h' ((h0.objs.size, o) :: news') := fun p hp => by
      rcases mem_c hp with rfl | hp
      · exact ⟨ho, Nat.ne_of_gt hLI, hnew⟩
      · exact N₂ p hp
    refine wpAny_mono (turn i k t l' news' h' tk' _ o hk' hj hm hlt' F₂ N₃) (fun _ s₂ h₂ => wpAny_mono h₂ (fun f s₃ h₃ => ?_) fun _ _ f => f.elim) fun _ _ f => f.elim
    replace h₃ := h₃.out
    obtain ⟨rfl, h₄, tk₄, l₄, news₄, rfl, F₄, N₄, hm₄, hj₄⟩ := h₃
    refine ⟨ks.length - (i + 1), by omega, i + 1, _, _, l₄, news₄, rfl, hlt, rfl, W.frame _ _ _ st' fun b hb o' e => ?_, hj₄, hm₄, F₄, fun p hp => N₄ p (.tail _ hp)⟩
    rcases hfp b hb with rfl | ⟨o₀, e₀⟩
    · have : o' = o := Option.some.inj (e.symm.trans ho)
      exact this ▸ (N₄ _ (.head _)).1
    · have : o' = o₀ := Option.some.inj (e.symm.trans (F₂.keep _ _ e₀))
      exact this ▸ F₄.keep _ _ e₀
  · obtain rfl : i = ks.length := by omega
    refine W.done _ _ _ st fun h' tk' hk => ?_
    obtain ⟨F₂, N₂⟩ := stay h' hk
    dsimp only
    exact wpAny_pure (done _ _ _ _ hj F₂ N₂)

theorem for_K {w : World} {A : Around} {E : Value → Shared → Prop} {s : Shared} {Q : Flow → Shared → Prop} {x : Str} {px pos : Pos} {iter : Expr} {body : List Stmt} {env : Env} {h₀ : Heap} {L : Addr} {pv : Value} {ks : List Int}
    {l : List (Str × Option Value)} {news : List (Addr × Obj)} (J : Nat → List (Str × Option Value) → List (Addr × Obj) → Prop) (hh : A.handled = none) (F : Fr h₀ L s.heap (mp l)) (N : News h₀ L s.heap news) (it : Iters w h₀ pv ks)
    (hit : ∀ Q', (∀ tk, Q' pv { s with toks := tk }) → wpAny (model PR w) A (eval iter env) Q' E s) (j0 : J 0 l news)
    (turn : ∀ i k t l' news' h tk I o, ks[i]? = some k → J i l' news' → news'.map (·.1) = news.map (·.1) → (∀ p ∈ news', p.1 < I) → Fr h₀ L h (mp l') → News h₀ L h ((I, o) :: news') →
      wpAny (model PR w) A (assign (.Name x px) env (.int k t)) (fun _ s₂ => wpAny (model PR w) A (execs body env) (fun f s₃ => Fin (TurnTo s h₀ L I o (news.map (·.1)) (J (i + 1)) f s₃)) (fun _ _ => False) s₂) (fun _ _ => False) { s with heap := h, toks := tk })
    (done : ∀ h tk l' news', J ks.length l' news' → Fr h₀ L h (mp l') → News h₀ L h news' → Q .next { s with heap := h, toks := tk })
    (hs : ∀ x, foldedSetIterable iter env x = pure x := by intro _; rfl) :
    wpAny (model PR w) A (exec (.For (.Name x px) iter body [] pos) env) Q E s :=
  for_G J hh F N (fun Q' hQ' => hit Q' fun tk => hQ' pv s.heap tk F N (it.f F.keep)) j0 turn done hs

theorem iter_range (w : World) {h₀ h : Heap} {r : Addr} {a c : Int} {n : Nat} {t u v : Tok} {b : Int} (hr : IsRange h r a b c t u v) (hsm : Builtin.Range.small a b c = true) (hn : Builtin.Range.rangeSize a b c = n) :
    IterF w h₀ h (.ref r) ((List.range n).map fun (i : Nat) => a + (i : Int) * c) := by
  rintro A s E Q hh rfl h
  refine wpAny_pyIter_range hr hsm (h _ (fun i h => IsRangeIter h s.heap.objs.size (a + (i : Nat) * c) ((n : Int) - (i : Nat)) c) [s.heap.objs.size] rfl ?_ ?_ ?_ ?_)
  · have W := Walks.range (prog := PR) (w := w) hh s.heap.objs.size a c n
    refine ⟨W.sub, W.frame, fun i s Q E hq st hQ => W.item i s Q E (by simpa using hq) st fun v h' tk hP => hQ v h' tk ?_, fun s Q E st hQ => W.done s Q E (by simpa using st) hQ, W.self⟩
    obtain ⟨t, rfl⟩ := hP
    exact ⟨_, t, by rw [List.getElem?_map, List.getElem?_range (by simpa using hq)]; rfl, rfl⟩
  · rintro i h ho; exact ⟨_, ho⟩
  · intro b hb; exact .inl (List.mem_singleton.mp hb)
  · rw [hn]
    have := Heap.get?_push_size s.heap (o := { cls := .type "range_iterator", data := .fields #[rawInt a, rawInt (n : Int), rawInt c] }) rfl
    simpa [IsRangeIter] using this

theorem fr_put {h₀ h : Heap} {L : Addr} {x : Str} {v : Value} {l : List (Str × Option Value)} (F : Fr h₀ L h (fun y => if y = x then some v else mp l y)) : Fr h₀ L h (mp (put x v l)) := fr_cg F fun y => (mp_put ..).symm
theorem fr_put2 {h₀ h : Heap} {L : Addr} {x x2 : Str} {v v2 : Value} {l : List (Str × Option Value)} (F : Fr h₀ L h (fun y => if y = x then some v else if y = x2 then some v2 else mp l y)) : Fr h₀ L h (mp (put x v (put x2 v2 l))) :=
  fr_cg F fun y => by rw [mp_put, mp_put]


theorem iadd_at {prog : Program} {w : World} {A : Around} {E : Value → Shared → Prop} {s : Shared} {l b : Addr} {its its2 : Array Value} {n n2 : Nat} {Q : Value → Shared → Prop}
    (hl : s.heap.get? l = some { cls := .type "list", data := .seq its n }) (hb : s.heap.get? b = some { cls := .type "list", data := .seq its2 n2 }) (hz : its.size + its2.size ≤ 16777216)
    (h : Q (.ref l) { s with heap := s.heap.update l (Obj.mapSeq fun x => x ++ its2) }) : wpAny (model prog w) A (inplaceOp .Add (.ref l) (.ref b)) Q E s := by
  have ha : s.TypeIs (.ref l) "list" := ⟨_, hl, rfl⟩
  have hb' : s.TypeIs (.ref b) "list" := ⟨_, hb, rfl⟩
  unfold inplaceOp
  refine wpAny_holding ?_
  have hfi : fillsInplaceSlot (.type "list") "add" (Operator.Add == .Add) = pure false := by
    unfold fillsInplaceSlot
    show (typeLookup (.type "list") (dunderI "add") >>= fun fi => pure (fi.isSome && !isSeqSlot fi)) = pure false
    rw [PySem.F.slot_list_iadd.lookup, pure_bind]
    have : isSeqSlot (some (.builtin "list.__iadd__")) = true := by decide +kernel
    rw [this]; rfl
  have hsi : seqSlot? (.type "list") (dunderI "add") = pure (some (.builtin "list.__iadd__")) := PySem.seqSlot_of PySem.F.slot_list_iadd.lookup (by decide +kernel)
  refine wpAny_bind (wpAny_typeOf ha (wpAny_bind (wpAny_of_eq hfi ?_)))
  show wpAny _ A (if false = true then _ else _) Q E s
  rw [if_neg Bool.false_ne_true]
  refine wpAny_bind (wpAny_binaryOp1_none (nm := "add") ha hb' noFill_list_add ?_)
  refine wpAny_bind (wpAny_of_eq hsi ?_)
  refine wpAny_bind (wpAny_rule ?_)
  have hz1 : its.size ≤ sizeLine := by rw [sizeLine_eq]; omega
  refine call_meets PySem.F.slot_list_iadd ha PySem.F.entry_list_iadd (PySem.F.args_list_iadd_2 _ _) (AutoSeq1.list___iadd___list_list_0 l its n b its2 n2 ?_ hz1 (by rw [sizeLine_eq]; omega)) ⟨hl, hb, h⟩
  have : Builtin.List.listTooLong (its.size + its2.size) = false := by
    unfold Builtin.List.listTooLong
    exact decide_eq_false (by show ¬ (_ > sizeLine); rw [sizeLine_eq]; omega)
  rw [this, Bool.and_false]; exact Bool.false_ne_true

theorem iadd_K {prog : Program} {w : World} {A : Around} {E : Value → Shared → Prop} {s : Shared} {h₀ : Heap} {L l b : Addr} {m : Str → Option Value} {news : List (Addr × Obj)} {g : Obj → List (Addr × Obj)} {vs ws : List Value} {n n2 : Nat} {ns ms : List Int} {Q : Value → Shared → Prop}
    (F : Fr h₀ L s.heap m) (N : News h₀ L s.heap news) (U : UpdF l (W.listOf vs.toArray n) news g) (hb : (b, W.listOf ws.toArray n2) ∈ news) (hi : IntsAre vs ns) (hj : IntsAre ws ms) (hz : ns.length + ms.length ≤ 16777216)
    (h : ∀ h' n' xs, Fr h₀ L h' m → News h₀ L h' (g (W.listOf xs.toArray n')) → IntsAre xs (ns ++ ms) → Q (.ref l) { s with heap := h' }) : wpAny (model prog w) A (inplaceOp .Add (.ref l) (.ref b)) Q E s := by
  obtain ⟨pre, post, rfl, hg, h1, h2⟩ := U.split
  have hl := (N (l, W.listOf vs.toArray n) (List.mem_append_right _ (.head _))).1
  have lv := hi.length; have lw := hj.length
  refine iadd_at hl (N _ hb).1 (by simp only [List.size_toArray]; omega) ?_
  obtain ⟨n', hn'⟩ : ∃ n', Obj.mapSeq (fun x => x ++ ws.toArray) (W.listOf vs.toArray n) = W.listOf (vs ++ ws).toArray n' := by
    refine ⟨if (vs.toArray ++ ws.toArray).size == vs.toArray.size then n else n + 1, ?_⟩
    have e : vs.toArray ++ ws.toArray = (vs ++ ws).toArray := List.append_toArray ..
    exact congrArg (fun a => (⟨.type "list", none, Data.seq a (if (vs.toArray ++ ws.toArray).size == vs.toArray.size then n else n + 1), #[]⟩ : Obj)) e
  have z := news_upd F N h1 h2 hn' rfl
  exact h _ n' _ z.1 (by rw [hg]; exact z.2) (hi.append hj)


theorem news_sub {h₀ h : Heap} {L : Addr} {n1 n2 : List (Addr × Obj)} (N : News h₀ L h n1) (s : n2.Sublist n1) : News h₀ L h n2 := fun p hp => N p (s.subset hp)
theorem fr_kp {h₀ h h' : Heap} {L : Addr} {m : Str → Option Value} (F : Fr h₀ L h m) (k : Kp h h') : Fr h₀ L h' m := ⟨F.ns.at' (k L), fun b o e => k b o (F.keep b o e), F.above⟩
theorem news_kp {h₀ h h' : Heap} {L : Addr} {news : List (Addr × Obj)} (N : News h₀ L h news) (k : Kp h h') : News h₀ L h' news := fun p hp => ⟨k _ _ (N p hp).1, (N p hp).2⟩

end
section

theorem row_eq (n : Nat) {k : Int} (hk : 0 ≤ k) : (rangeKs 0 ((n : Int) - 0).toNat).map (fun k' => Builtin.bitAnd (k.fdiv (2 ^ k'.toNat)) 1) = rowOf n k := by
  unfold rangeKs rowOf
  rw [List.map_map, Int.sub_zero, Int.toNat_natCast]
  refine List.map_congr_left fun i _ => ?_
  show Builtin.bitAnd (k.fdiv (2 ^ ((0 : Int) + (i : Int)).toNat)) 1 = k / 2 ^ i % 2
  rw [Int.zero_add, Int.toNat_natCast]
  have h2 : (0 : Int) ≤ 2 ^ i := Int.le_of_lt (Int.pow_pos (by decide))
  rw [Int.fdiv_eq_ediv_of_nonneg _ h2]
  obtain ⟨x, hx⟩ := Int.eq_ofNat_of_zero_le (Int.ediv_nonneg hk h2)
  rw [hx, bitAnd_pp (Int.natCast_nonneg _) (by decide)]
  show ((x &&& 1 : Nat) : Int) = _
  rw [Nat.and_one_is_mod]; rfl
theorem row_len (n : Nat) (k : Int) : (rowOf n k).length = n := by simp [rowOf]
theorem bits_len (n : Nat) (big : Bool) (ks : List Int) : (bitsOf n big ks).length = n * ks.length := by
  induction ks with
  | nil => rfl
  | cons a r ih => 
    unfold bitsOf at ih ⊢
    rw [List.flatMap_cons, List.length_append, ih]
    have : (if big = true then (rowOf n a).reverse else rowOf n a).length = n := by split <;> simp [row_len]
    rw [this, List.length_cons, Nat.mul_succ]; omega
theorem bits_take (n : Nat) (big : Bool) {ks : List Int} {i : Nat} {k : Int} (h : ks[i]? = some k) : bitsOf n big (ks.take (i + 1)) = bitsOf n big (ks.take i) ++ (if big then (rowOf n k).reverse else rowOf n k) := by
  unfold bitsOf
  rw [List.take_add_one, h, List.flatMap_append]
  simp

theorem lbits {w : World} {mean mg mb G base outer d u dp un gd} {s : Shared} {R : Result → Shared → Prop} {pv : Value} {ks : List Int} {tz : Tok} {n : Nat} {big : Bool}
    (C : Cx w mean mg mb G ⟨none, dp, some outer, gd, un⟩ base outer d u s.heap) (hd : 3 ≤ d) (hu : 20 ≤ u) (it : Iters w s.heap pv ks) (hks : ∀ k ∈ ks, 0 ≤ k ∧ k < 256) (hn : n ≤ 8) (hlen : ks.length ≤ 1000)
    (hR : ∀ h' tk l vs m, Kp s.heap h' → s.heap.objs.size ≤ l → h'.get? l = some (W.listOf vs.toArray m) → IntsAre vs (bitsOf n big ks) → R (.ok (.ret (.ref l))) { s with heap := h', toks := tk }) :
    codeAny (model PR w) ⟨none, dp, some outer, gd, un⟩ (.call (.ref 271) ⟨[pv, .int n tz, .bool big], []⟩) R s := by
  have X0 := C.X
  revert X0
  delta PR
  k_fill
  intro X0
  refine enterC C (by omega) (by k_is) (by k_is) (BindsTo.of_eq rfl) rfl (by decide +kernel) ?_ rfl rfl rfl
  intro L h₁ tk cells F N Y B X T
  clear X0
  k_cells Y
  rename_i o2 d2
  have F : Fr s.heap L h₁ (mp [(Str.ofString "values", some pv), (Str.ofString "size", some (.int n tz)), (Str.ofString "big", some (.bool big))]) := F
  show wpAny _ _ _ _ _ _
  k_fold
  iterate 8 tb_start
  rename_i l hx l1 h3 F N
  have F : Fr s.heap L h3 (mp [(Str.ofString "values", some pv), (Str.ofString "size", some (.int n tz)), (Str.ofString "big", some (.bool big)), (Str.ofString "bits", some (.ref l))]) := F
  refine for_K (fun i l' news' => ∃ (rv : Option Value) (m : Nat) (vs : List Value) (o2 : Obj) (cv : Option Value), l' = [(Str.ofString "values", some pv), (Str.ofString "size", some (.int n tz)), (Str.ofString "big", some (.bool big)), (Str.ofString "bits", some (.ref l)), (Str.ofString "row", rv)] ∧
    news' = [(l, W.listOf vs.toArray m), (L + 1, o2)] ∧ o2.data = .cell cv ∧ IntsAre vs (bitsOf n big (ks.take i))) rfl (fr_cg F (mp_none (Str.ofString "row") _)) N it (fun Q' hQ' => ?_) ⟨none, 0, [], o2, _, rfl, rfl, d2, .nil⟩ ?_ ?_
  · tb_start
    exact hQ' _
  · rintro i k t l9 n9 h tk I oI hk hq9 - hI F N
    obtain ⟨rv, m, vs, o2, cv, rfl, rfl, d2, hi⟩ := hq9
    k_lt hI
    obtain ⟨hk0, hk1⟩ := hks k (List.mem_of_getElem? hk)
    have hil : i < ks.length := (List.getElem?_eq_some_iff.mp hk).1
    have hsz : (bitsOf n big (ks.take i)).length ≤ 8000 := by
      rw [bits_len, List.length_take]
      calc n * min i ks.length ≤ 8 * 1000 := Nat.mul_le_mul hn (by omega)
        _ = 8000 := rfl
    refine wpAny_assign_Name ?_
    k_steps
    all_goals (
      refine' iadd_K ?F ?N ?U ?b ?i ?j ?z ?_
      (case F => k_asm)
      (case N => k_asm)
      (case U => k_updF)
      (case b => k_mem)
      (case i => exact hi)
      (case j => assumption)
      (case z => (try simp only [List.length_reverse]); rw [row_eq n hk0, row_len]; omega)
      rw [row_eq n hk0]
      intro h' n' xs F' N' hI'
      dsimp only
      iterate 2 tb_start
      dsimp only
      rename_i F' N'
      tb_start
      have hx' : IntsAre xs (bitsOf n big (ks.take (i + 1))) := by
        rw [bits_take n _ hk]
        first | (rw [if_pos (by assumption)]; exact hI') | (rw [if_neg (by simp only [*]; decide)]; exact hI')
      first
      | exact .mk ⟨rfl, _, _, _, _, rfl, fr_put2 F', news_sub (n2 := (I, oI) :: _) N' (.cons _ (.cons _ (.refl _))), rfl, _, _, _, _, _, rfl, rfl, by assumption, hx'⟩
      | exact .mk ⟨rfl, _, _, _, _, rfl, fr_put2 F', news_sub (n2 := (I, oI) :: _) N' (.cons _ (.refl _)), rfl, _, _, _, _, _, rfl, rfl, by assumption, hx'⟩)
  · rintro h tk l9 n9 hq9 F N
    obtain ⟨rv, m, vs, o2, cv, rfl, rfl, d2, hi⟩ := hq9
    rw [List.take_length] at hi
    dsimp only
    iterate 3 tb_start
    dsimp only
    tb_start
    exact hR _ _ _ _ _ F.keep (Nat.le_trans F.above (Nat.le_of_lt (Nat.lt_trans (Nat.lt_succ_self L) l1))) (N _ (.head _)).1 hi


theorem Cx.push {w : World} {mean mg mb G A base outer d u} {h₀ h : Heap} {L : Addr} {m : Str → Option Value} {env : Env} (C : Cx w mean mg mb G A base outer d u h₀) (F : Fr h₀ L h m) (hf : env.frame = some L) (hk : env.scope.kind = .function) (hd : 1 ≤ d) (hu : 3 ≤ u) :
    Cx w mean mg mb G (A.deeper env) base (env :: outer) (d - 1) (u - 3) h :=
  ⟨pushX C.B F hf hk, C.S, fun b o e => F.keep b o (C.le b o e), C.hh, by have := C.hd; simp only [Around.deeper]; omega, by have := C.hu; simp only [Around.deeper]; omega⟩

theorem none_of_size {h : Heap} {l : Addr} (hs : h.objs.size ≤ l) : h.get? l = none := by
  cases q : h.get? l with
  | none => rfl
  | some o => exact absurd (Heap.lt_size q) (Nat.not_lt_of_le hs)
theorem news_new {h₀ h h' : Heap} {L l : Addr} {m : Str → Option Value} {news : List (Addr × Obj)} {o : Obj} (F : Fr h₀ L h m) (N : News h₀ L h news) (k : Kp h h') (hs : h.objs.size ≤ l) (ho : h'.get? l = some o) : News h₀ L h' ((l, o) :: news) := fun p hp => by
  rcases mem_c hp with rfl | hp
  · refine ⟨ho, Nat.ne_of_gt (Nat.lt_of_lt_of_le F.ns.lt hs), ?_⟩
    cases q : h₀.get? l with
    | none => rfl
    | some o => exact absurd (Heap.lt_size (F.keep _ _ q)) (Nat.not_lt_of_le hs)
  · exact ⟨k _ _ (N p hp).1, (N p hp).2⟩
theorem news_lt {h₀ h : Heap} {L l : Addr} {news : List (Addr × Obj)} (N : News h₀ L h news) (hs : h.objs.size ≤ l) : ∀ p ∈ news, p.1 < l := fun p hp => Nat.lt_of_lt_of_le (Heap.lt_size (N p hp).1) hs


noncomputable def padRow (n : Nat) (bs : List Int) (i : Nat) : List Int := (bs.drop (i * n)).take n ++ List.replicate (n - ((bs.drop (i * n)).take n).length) 0
theorem padRow_len (n : Nat) (bs : List Int) (i : Nat) : (padRow n bs i).length = n := by
  unfold padRow
  rw [List.length_append, List.length_replicate]
  have : ((bs.drop (i * n)).take n).length ≤ n := by rw [List.length_take]; omega
  omega
theorem min_pad (a n L : Nat) : min (min (a + n) L - a) (L - a) = min n (L - a) := by
  rw [← Nat.sub_min_sub_right, Nat.add_sub_cancel_left, Nat.min_assoc, Nat.min_self]
theorem pad_eq {n : Nat} {bs : List Int} {i : Nat} {k : Int} (hk : k = ((i * n : Nat) : Int)) :
    List.take (min (k + (n : Int)).toNat bs.length - k.toNat) (List.drop k.toNat bs) ++ (List.replicate ((n : Int) - ((List.take (min (k + (n : Int)).toNat bs.length - k.toNat) (List.drop k.toNat bs)).length : Int)).toNat [(0 : Int)]).flatten = padRow n bs i := by
  have e : List.take (min (k + (n : Int)).toNat bs.length - k.toNat) (List.drop k.toNat bs) = (bs.drop (i * n)).take n := by
    subst hk
    rw [Int.toNat_natCast, ← Int.natCast_add, Int.toNat_natCast]
    refine List.take_eq_take_iff.mpr ?_
    rw [List.length_drop]
    exact min_pad _ _ _
  rw [e]
  unfold padRow
  refine congrArg _ ?_
  rw [Int.toNat_sub]
  generalize n - ((bs.drop (i * n)).take n).length = m
  induction m with
  | zero => rfl
  | succ m ih => rw [List.replicate_succ, List.replicate_succ, List.flatten_cons, ih]; rfl
theorem padRow_bd {n : Nat} {bs : List Int} (i : Nat) (hb : ∀ k ∈ bs, 0 ≤ k ∧ k < 2) : ∀ k ∈ padRow n bs i, 0 ≤ k ∧ k < 2 := by
  intro k hk
  rcases List.mem_append.mp hk with h | h
  · exact hb k (List.mem_of_mem_drop (List.mem_of_mem_take h))
  · have := (List.mem_replicate.mp h).2; omega
theorem pad_bit {n : Nat} {bs : List Int} {i : Nat} {j : Int} (hb : ∀ k ∈ bs, 0 ≤ k ∧ k < 2) (h0 : 0 ≤ j) (h1 : j < (n : Int)) : 0 ≤ (padRow n bs i).getD j.toNat 0 ∧ (padRow n bs i).getD j.toNat 0 < 2 := by
  have : j.toNat < (padRow n bs i).length := by rw [padRow_len]; omega
  rw [List.getD_eq_getElem?_getD, List.getElem?_eq_getElem this, Option.getD_some]
  exact padRow_bd i hb _ (List.getElem_mem this)
theorem pad_bitr {n : Nat} {bs : List Int} {i : Nat} {j : Int} (hb : ∀ k ∈ bs, 0 ≤ k ∧ k < 2) (h0 : 0 ≤ j) (h1 : j < (n : Int)) : 0 ≤ (padRow n bs i).reverse.getD j.toNat 0 ∧ (padRow n bs i).reverse.getD j.toNat 0 < 2 := by
  have : j.toNat < (padRow n bs i).reverse.length := by rw [List.length_reverse, padRow_len]; omega
  rw [List.getD_eq_getElem?_getD, List.getElem?_eq_getElem this, Option.getD_some]
  exact padRow_bd i hb _ (List.mem_reverse.mp (List.getElem_mem this))

noncomputable def rowB (n : Nat) (big : Bool) (bs : List Int) (i : Nat) : List Int := if big then (padRow n bs i).reverse else padRow n bs i
noncomputable def valOf (n : Nat) (row : List Int) : Int := ((rangeKs 0 ((n : Int) - 0).toNat).map fun k => row.getD k.toNat 0 * 2 ^ k.toNat).sum
noncomputable def valsOf (n : Nat) (big : Bool) (bs : List Int) : List Int := (List.range ((bs.length + n - 1) / n)).map fun i => valOf n (rowB n big bs i)

theorem size_up {len n : Nat} (h1 : 1 ≤ n) : Builtin.Range.rangeSize 0 (len : Int) (n : Int) = (((len + n - 1) / n : Nat) : Int) := by
  rw [rangeSize_pos (by omega) (by omega)]
  rw [show ((len : Int) + n - 1) = ((len + n - 1 : Nat) : Int) by omega]
  exact (Int.natCast_ediv _ _).symm
theorem small_up {len n : Nat} (h1 : 1 ≤ n) (hn : n ≤ 8) (hl : len ≤ 8000) : Builtin.Range.small 0 (len : Int) (n : Int) = true := by
  have hb : (len + n - 1) / n ≤ len + n - 1 := Nat.div_le_self _ _
  unfold Builtin.Range.small
  rw [size_up h1]
  generalize (len + n - 1) / n = m at *
  unfold Builtin.Range.rangeFitsLong
  simp only [Bool.and_eq_true, Bool.or_eq_true, decide_eq_true_eq, beq_iff_eq]
  rw [if_pos (show (n : Int) > 0 by omega)]
  simp only [Bool.and_eq_true, Bool.or_eq_true, decide_eq_true_eq, beq_iff_eq]
  refine ⟨⟨⟨⟨⟨by omega, by omega⟩, by omega, by omega⟩, by omega, by omega⟩, by omega, by omega⟩, .inr ⟨by omega, by omega⟩⟩



/-- an iterator of its own over ints, that rests on what a frame keeps -/
noncomputable def IterN (w : World) (h₀ : Heap) (news : List (Addr × Obj)) (h : Heap) (pv : Value) (ks : List Int) : Prop :=
  ∀ (A : Around) (s : Shared) (E : Value → Shared → Prop) (Q : Value → Shared → Prop), A.handled = none → s.heap = h →
    (∀ o St fp, o.isFreed = false → Walks PR w A s.heap.objs.size fp [s.heap.objs.size] ks.length (fun i v => ∃ k t, ks[i]? = some k ∧ v = .int k t) St → (∀ i h, St i h → ∃ o, h.get? s.heap.objs.size = some o) →
      (∀ b ∈ fp, b = s.heap.objs.size ∨ (∃ o, h₀.get? b = some o) ∨ ∃ o, (b, o) ∈ news) → St 0 (s.heap.push o) → Q (.ref s.heap.objs.size) { s with heap := s.heap.push o }) → wpAny (model PR w) A (pyIter pv) Q E s
theorem IterF.n {w : World} {h₀ h : Heap} {pv : Value} {ks : List Int} {news : List (Addr × Obj)} (it : IterF w h₀ h pv ks) : IterN w h₀ news h pv ks :=
  fun A s E Q hh e hQ => it A s E Q hh e fun o St fp a W b c st => hQ o St fp a W b (fun x hx => (c x hx).imp id .inl) st

theorem iterN_list (w : World) {h₀ h : Heap} {L l : Addr} {o : Obj} {vs : List Value} {ks : List Int} {n : Nat} {news : List (Addr × Obj)} (N : News h₀ L h news) (hm : (l, W.listOf vs.toArray n) ∈ news) (hi : IntsAre vs ks) : IterN w h₀ news h (.ref l) ks := by
  rintro A s E Q hh rfl hQ
  have hls : s.heap.IsList l vs.toArray := ⟨_, (N _ hm).1, rfl, _, rfl⟩
  have hne : l ≠ s.heap.objs.size := Nat.ne_of_lt (Heap.lt_size (N _ hm).1)
  refine wpAny_pyIter_list hls (hQ _ (fun i h => h.IsListIter s.heap.objs.size l i ∧ h.IsList l vs.toArray) [s.heap.objs.size, l] rfl ?_ ?_ ?_ ⟨⟨_, Heap.get?_push_size _ rfl, rfl, rfl⟩, hls.at fun o e => Heap.get?_push_of_some _ e⟩)
  · have W := Walks.list (prog := PR) (w := w) hh s.heap.objs.size l hne vs.toArray
    have e : vs.toArray.size = ks.length := by simp [hi.length]
    refine ⟨W.sub, W.frame, fun i s Q E hq st hQ => W.item i s Q E (by omega) st fun v h' tk hP => hQ v h' tk ?_, fun s Q E st hQ => W.done s Q E (by rw [e]; exact st) hQ, W.self⟩
    have hP' : vs[i]? = some v := by simpa using hP
    have hq' : i < ks.length := hq
    obtain ⟨t, ht⟩ := hi.get i (ks[i]) (by simp [hq'])
    rw [hP'] at ht
    cases ht
    exact ⟨_, t, by simp [hq'], rfl⟩
  · rintro i h ⟨⟨o, ho, _⟩, _⟩; exact ⟨o, ho⟩
  · intro b hb
    rcases List.mem_cons.mp hb with e | hb
    · exact .inl e
    · exact .inr (.inr ⟨_, (List.mem_singleton.mp hb) ▸ hm⟩)

theorem comp_rest {w : World} {A : Around} {s : Shared} {h₀ : Heap} {L : Addr} {m : Str → Option Value} {env : Env} {elt : Expr} {x : Str} {scope : Scope} {cl : List (Str × Addr)} {ks : List Int} {news : List (Addr × Obj)} {Fn : List Value → List (Addr × Obj) → Prop} (V : Nat → Int → Value → Prop)
    (body : ∀ i k t I oI C oC D m₂ h tk (E' : Value → Shared → Prop) ys, ks[i]? = some k → LCg.NsObj oC m₂ → m₂ x = some (.int k t) → Fr h₀ L h m → News h₀ L h ((I, oI) :: (C, oC) :: (D, LCg.lst ys) :: news) → LCg.Off3 I C D news → ((@Ne Nat I C) ∧ (@Ne Nat I D) ∧ (@Ne Nat C D)) →
      wpAny (model PR w) A (eval elt (compEnvC scope cl C env)) (fun y s₂ => Fin (EltTo s.gens s.drawn s.os h₀ L m ((I, oI) :: (C, oC) :: (D, LCg.lst ys) :: news) (V i k) y s₂)) E' { s with heap := h, toks := tk })
    (fin : ∀ ys, ys.length = ks.length → (∀ i k, ks[i]? = some k → ∃ y, ys[i]? = some y ∧ V i k y) → Fn ys news) :
    ∀ (n i : Nat) (ys : List Value), n + i = ks.length → ys.length = i → (∀ j k, j < i → ks[j]? = some k → ∃ y, ys[j]? = some y ∧ V j k y) →
      LCg.CompRest PR w A h₀ L m env elt x scope cl s (fun nw => nw = news) (fun i v => ∃ k t, ks[i]? = some k ∧ v = .int k t) Fn n i ys news := by
  intro n
  induction n with
  | zero =>
    intro i ys hn hy hv
    refine LCg.CompRest.zero (fin ys (by omega) fun j k hk => hv j k ?_ hk)
    have := (List.getElem?_eq_some_iff.mp hk).1
    omega
  | succ n ih =>
    intro i ys hn hy hv
    refine LCg.CompRest.succ fun v I oI C oC D m₂ h tk E' hP hC hx F N off ne => ?_
    obtain ⟨k, t, hk, rfl⟩ := hP
    refine wpAny_mono (body i k t I oI C oC D m₂ h tk E' ys hk hC hx F N off ne) (fun y s₂ hy2 => ?_) fun _ _ e => e
    obtain ⟨h', tk', rfl, F', N', hV⟩ := hy2.out
    refine ⟨h', tk', news, rfl, F', N', off, rfl, ih (i + 1) (ys ++ [y]) (by omega) (by simp [hy]) fun j k' hj hk' => ?_⟩
    rcases Nat.lt_succ_iff_lt_or_eq.mp hj with hj | rfl
    · obtain ⟨y', e, r⟩ := hv j k' hj hk'
      exact ⟨y', by rw [List.getElem?_append_left (by omega)]; exact e, r⟩
    · rw [hk] at hk'
      cases hk'
      exact ⟨y, by rw [List.getElem?_append_right (by omega), hy, Nat.sub_self]; rfl, hV⟩

theorem comp_K {w : World} {A : Around} {E : Value → Shared → Prop} {s : Shared} {h₀ : Heap} {L : Addr} {m : Str → Option Value} {env : Env} {elt iter : Expr} {x : Str} {px : Pos} {scope : Scope} {cl : List (Str × Addr)} {pos : Pos} {ks : List Int} {news : List (Addr × Obj)} {Q : Value → Shared → Prop} (V : Nat → Int → Value → Prop)
    (hh : A.handled = none) (_ : Fr h₀ L s.heap m) (_ : News h₀ L s.heap news) (hlen : ks.length ≤ 8000)
    (hit : ∀ Q', (∀ pv h tk, Fr h₀ L h m → News h₀ L h news → IterN w h₀ news h pv ks → Q' pv { s with heap := h, toks := tk }) → wpAny (model PR w) A (eval iter env) Q' E s)
    (body : ∀ i k t I oI C oC D m₂ h tk (E' : Value → Shared → Prop) ys, ks[i]? = some k → LCg.NsObj oC m₂ → m₂ x = some (.int k t) → Fr h₀ L h m → News h₀ L h ((I, oI) :: (C, oC) :: (D, LCg.lst ys) :: news) → LCg.Off3 I C D news → ((@Ne Nat I C) ∧ (@Ne Nat I D) ∧ (@Ne Nat C D)) →
      wpAny (model PR w) A (eval elt (compEnvC scope cl C env)) (fun y s₂ => Fin (EltTo s.gens s.drawn s.os h₀ L m ((I, oI) :: (C, oC) :: (D, LCg.lst ys) :: news) (V i k) y s₂)) E' { s with heap := h, toks := tk })
    (fin : ∀ D h tk ys, ys.length = ks.length → (∀ i k, ks[i]? = some k → ∃ y, ys[i]? = some y ∧ V i k y) → Fr h₀ L h m → News h₀ L h ((D, LCg.lst ys) :: news) → LCg.Off1 D news → Q (.ref D) { s with heap := h, toks := tk })
    (hclos : closureFor scope env = pure cl := by rfl) (hcell : ∀ y ∈ scope.names, y.2 ≠ .cell := by decide) (hkind : scope.kind = .function := by rfl)
    (hnames : ∀ y ∈ scope.names, y.2 = .local → scope.names.lookup y.1 = some .local := by decide) (hx : scope.names.lookup x = some .local := by rfl)
    (hs : ∀ x, foldedSetIterable iter env x = pure x := by intro _; rfl) :
    wpAny (model PR w) A (eval (.ListComp elt [⟨.Name x px, iter, [], 0⟩] scope pos) env) Q E s := by
  rw [eval_ListComp]
  refine wpAny_comprehension_free (use := none) rfl hs hclos hkind hnames (hit _ fun pv h tk F N it => it A _ E _ hh rfl fun oI St fp hfree W hI hfp st => ?_)
  dsimp only at W hI hfp st ⊢
  have up : ∀ b o, h.get? b = some o → (h.push oI).get? b = some o := fun b o e => Heap.get?_push_of_some _ e
  have hnew : h₀.get? h.objs.size = none := next_is_new F
  have hoff : ∀ p ∈ news, p.1 ≠ h.objs.size := fun p hp => Nat.ne_of_lt (Heap.lt_size (N p hp).1)
  have W' : Walks PR w A h.objs.size fp [h.objs.size] ks.length (fun i v => ∃ k t, ks[i]? = some k ∧ v = .int k t) (fun i g => St i g ∧ ∀ b ∈ fp, b ≠ h.objs.size → ∀ o, h.get? b = some o → g.get? b = some o) := by
    refine ⟨W.sub, fun i g g' st hk => ⟨W.frame i g g' st.1 hk, fun b hb hne o e => hk b hb o (st.2 b hb hne o e)⟩, fun i s Q E hi st hQ => W.item i s Q E hi st.1 fun v h' tk hP st' hk => hQ v h' tk hP ⟨st', fun b hb hne o e => hk b o (by simpa using hne) (st.2 b hb hne o e)⟩ hk,
      fun s Q E st hQ => W.done s Q E st.1 hQ, fun i s Q E st hQ => W.self i s Q E st.1 hQ⟩
  refine LCg.block_U (S := fun nw => nw = news) W' (by rw [sizeLine_eq]; omega) (fun i g st => hI i g st.1) (fun i g g' o nw st e e' k N' S => ?_) hcell hkind hx ⟨st, fun b _ _ o e => up b o e⟩ (fun b hb => ?_) (F.keeps up) (N.grown up) (Nat.ne_of_lt F.ns.lt) hnew hoff rfl
    (comp_rest (s := { s with heap := h.push oI, toks := tk }) V body (Fn := fun ys nw => nw = news ∧ LCg.FinE h₀ L m { s with heap := h.push oI, toks := tk } Q ys news) (fun ys h1 h2 => ⟨rfl, fun D h tk F N o1 => fin D h tk ys h1 h2 F N o1⟩) ks.length 0 [] (Nat.add_zero _) rfl fun j k hj => absurd hj (Nat.not_lt_zero _)) ?_
  · subst S
    have keep : ∀ b ∈ fp, ∀ o, g.get? b = some o → g'.get? b = some o := fun b hb o e2 => by
      rcases hfp b hb with rfl | ⟨o₀, e₀⟩ | ⟨o₀, e₀⟩
      · rw [e] at e2; cases e2; exact e'
      · have hne : b ≠ h.objs.size := by rintro rfl; rw [hnew] at e₀; cases e₀
        have := st.2 b hb hne o₀ (F.keep _ _ e₀)
        rw [this] at e2; cases e2
        exact k _ _ e₀
      · have := st.2 b hb (hoff _ e₀) o₀ (N _ e₀).1
        rw [this] at e2; cases e2
        exact (N' _ e₀).1
    exact ⟨W.frame i g g' st.1 keep, fun b hb hne o e2 => keep b hb o (st.2 b hb hne o e2)⟩
  · show b < (h.push oI).objs.size
    rw [Heap.size_push]
    rcases hfp b hb with rfl | ⟨o₀, e₀⟩ | ⟨o₀, e₀⟩
    · exact Nat.lt_succ_self _
    · exact Nat.lt_succ_of_lt (Heap.lt_size (F.keep _ _ e₀))
    · exact Nat.lt_succ_of_lt (Heap.lt_size (N _ e₀).1)
  · intro D C g tk' m' ys news' F' N' o1 hn hC₀ hD₀ hCL hDL hCD offC fin'
    obtain ⟨rfl, fin'⟩ := fin'
    refine ⟨m', hn, fun h'' hs'' => fin' D h'' tk' (F'.change hs'' hCL hC₀) (fun p hp => ?_) o1⟩
    refine ⟨hs''.extBut _ _ ?_ (N' p hp).1, (N' p hp).2⟩
    rcases mem_c hp with rfl | hp
    · exact Ne.symm hCD
    · exact offC p hp


theorem rng1 {n i : Nat} {k : Int} (h : ((List.range ((n + 1 - 1) / 1)).map fun (i : Nat) => 0 + (i : Int) * (1 : Nat))[i]? = some k) : 0 ≤ k ∧ k < (n : Int) := by
  rw [List.getElem?_map] at h
  obtain ⟨j, hj, rfl⟩ := Option.map_eq_some_iff.mp h
  obtain ⟨h1, h2⟩ := List.getElem?_eq_some_iff.mp hj
  rw [List.getElem_range] at h2
  rw [List.length_range, Nat.div_one, Nat.add_sub_cancel] at h1
  subst h2
  omega

theorem ints_ptw : ∀ {vs : List Value} {ks : List Int}, vs.length = ks.length → (∀ (i : Nat) (k : Int), ks[i]? = some k → ∃ t, vs[i]? = some (.int k t)) → IntsAre vs ks
  | [], [], _, _ => .nil
  | [], _ :: _, h, _ => by simp at h
  | _ :: _, [], h, _ => by simp at h
  | v :: vs, k :: ks, h, hp => by
    obtain ⟨t, e⟩ := hp 0 k rfl
    have e' : v = .int k t := by simpa using e
    subst e'
    exact .cons _ _ (ints_ptw (by simpa using h) fun i k' hk => by simpa using hp (i + 1) k' (by simpa using hk))

variable {w : World} {A : Around} {E : Value → Shared → Prop} {s : Shared}
theorem rk1 (n : Nat) : rangeKs 0 ((n : Int) - 0).toNat = (List.range ((n + 1 - 1) / 1)).map fun (i : Nat) => 0 + (i : Int) * (1 : Nat) := by
  unfold rangeKs
  rw [Nat.div_one, Nat.add_sub_cancel, show ((n : Int) - 0).toNat = n by omega]
  exact List.map_congr_left fun i _ => by omega
theorem ints_rk {n : Nat} {ys : List Value} {f : Int → Int} (h1 : ys.length = ((List.range ((n + 1 - 1) / 1)).map fun (i : Nat) => 0 + (i : Int) * (1 : Nat)).length)
    (h2 : ∀ (i : Nat) k, ((List.range ((n + 1 - 1) / 1)).map fun (i : Nat) => 0 + (i : Int) * (1 : Nat))[i]? = some k → ∃ y, ys[i]? = some y ∧ ∃ t, y = Value.int (f k) t) : IntsAre ys ((rangeKs 0 ((n : Int) - 0).toNat).map f) := by
  rw [← rk1] at h1 h2
  refine ints_ptw (by rw [h1, List.length_map]) fun i k hk => ?_
  rw [List.getElem?_map] at hk
  obtain ⟨j, hj, rfl⟩ := Option.map_eq_some_iff.mp hk
  obtain ⟨y, e, t, rfl⟩ := h2 i j hj
  exact ⟨t, e⟩

theorem lvals {w : World} {mean mg mb G base outer d u dp un gd} {s : Shared} {R : Result → Shared → Prop} {bl : Addr} {us : List Value} {bs : List Int} {tz : Tok} {n : Nat} {big : Bool}
    (C : Cx w mean mg mb G ⟨none, dp, some outer, gd, un⟩ base outer d u s.heap) (hd : 3 ≤ d) (hu : 20 ≤ u) (hb : s.heap.IsList bl us.toArray) (hi : IntsAre us bs) (hbs : ∀ k ∈ bs, 0 ≤ k ∧ k < 2) (hn1 : 1 ≤ n) (hn : n ≤ 8) (hlen : bs.length ≤ 8000)
    (hR : ∀ h' tk l vs m, Kp s.heap h' → s.heap.objs.size ≤ l → h'.get? l = some (W.listOf vs.toArray m) → IntsAre vs (valsOf n big bs) → R (.ok (.ret (.ref l))) { s with heap := h', toks := tk }) :
    codeAny (model PR w) ⟨none, dp, some outer, gd, un⟩ (.call (.ref 276) ⟨[.ref bl, .int n tz, .bool big], []⟩) R s := by
  have X0 := C.X
  revert X0
  delta PR
  k_fill
  intro X0
  refine enterC C (by omega) (by k_is) (by k_is) (BindsTo.of_eq rfl) rfl (by decide +kernel) ?_ rfl rfl rfl
  intro L h₁ tk cells F N Y B X T
  clear X0
  k_cells Y
  have F : Fr s.heap L h₁ (mp [(Str.ofString "bits", some (.ref bl)), (Str.ofString "size", some (.int n tz)), (Str.ofString "big", some (.bool big))]) := F
  show wpAny _ _ _ _ _ _
  k_fold
  iterate 8 tb_start
  rename_i o2 d2 l hx l1 h3 F N
  have hu' := hi.length
  have F : Fr s.heap L h3 (mp [(Str.ofString "bits", some (.ref bl)), (Str.ofString "size", some (.int n tz)), (Str.ofString "big", some (.bool big)), (Str.ofString "found", some (.ref l))]) := F
  refine for_G (ks := (List.range ((bs.length + n - 1) / n)).map fun (i : Nat) => 0 + (i : Int) * n) (fun i l' news' => ∃ (rv kv : Option Value) (m : Nat) (vs : List Value) (o2 : Obj) (cv : Option Value), l' = [(Str.ofString "bits", some (.ref bl)), (Str.ofString "size", some (.int n tz)), (Str.ofString "big", some (.bool big)), (Str.ofString "found", some (.ref l)), (Str.ofString "k", kv)] ∧
    news' = [(l, W.listOf vs.toArray m), (L + 1, o2)] ∧ o2.data = .cell cv ∧ IntsAre vs ((List.range i).map fun j => valOf n (rowB n big bs j))) rfl (fr_cg F (mp_none (Str.ofString "k") _)) N (fun Q' hQ' => ?_) ⟨none, none, 0, [], o2, _, rfl, rfl, d2, .nil⟩ ?_ ?_
  · k_steps
    rename_i hr F' N' hk
    refine hQ' _ _ _ (fr_cg F' (mp_none _ _)) N' (iter_range w hr ?_ ?_)
    · exact small_up hn1 hn hlen
    · exact size_up hn1
  · rintro i k t l9 n9 h tk I oI hk hq9 - hI F N
    obtain ⟨rv, kv, m, vs, o2, cv, rfl, rfl, d2, hi⟩ := hq9
    k_lt hI
    have hk' : k = (i : Int) * n ∧ i < (bs.length + n - 1) / n := by
      rw [List.getElem?_map] at hk
      obtain ⟨j, hj, rfl⟩ := Option.map_eq_some_iff.mp hk
      have := List.getElem?_eq_some_iff.mp hj
      obtain ⟨h1, h2⟩ := this
      simp at h2 h1
      subst h2
      exact ⟨by omega, h1⟩
    have hin : i * n < bs.length := by
      have h1 := (Nat.le_div_iff_mul_le (by omega : 0 < n)).mp (Nat.succ_le_of_lt hk'.2)
      rw [Nat.succ_mul] at h1
      omega
    have hkn : k = ((i * n : Nat) : Int) := by rw [hk'.1]; push_cast; rfl
    have hk0 : 0 ≤ k := by omega
    have hk1 : k < bs.length := by omega
    have hk2 : k < us.length := by omega
    refine wpAny_assign_Name ?_
    iterate 40 tb_start
    rename_i h5 D1 ws h4 j1 j2 j3 j4 h3a o1 j5 la h2a j6 D2 h1a j7 n1 j8 j9 j10 j11 j12 D row h0 hI2 l12 h2 o3 F2 N2 d3
    rw [pad_eq hkn] at hI2
    have hl2 := hI2.length
    rw [padRow_len] at hl2
    replace N2 := news_sub (n2 := [(D, W.listOf row.toArray 0), (I, oI), (l, W.listOf vs.toArray m), (L + 1, o3)]) N2 (.cons_cons _ (.cons _ (.cons _ (.cons _ (.refl _)))))
    have hcount := hk'.2
    have hvl : vs.length ≤ 8000 := by
      have h1 := hi.length
      rw [List.length_map, List.length_range] at h1
      have h2 := Nat.le_mul_of_pos_right i hn1
      rw [h1]
      exact Nat.le_trans h2 (Nat.le_trans (Nat.le_of_lt hin) hlen)
    replace l12 := l12.2.2.2
    clear j12 j11 j10 j9 j8 j7 j6 j5 j4 j3 j2 j1 hk hk' hk0 hk1 hk2 hkn hin hlen hu' n1
    dsimp only
    iterate 1 tb_start
    refine wpAny_mono (Q := fun f s' => Fin (f = .next ∧ ∃ hh tkk D row o3, s' = { s with heap := hh, toks := tkk } ∧ Fr s.heap L hh (mp (put (Str.ofString "k") (Value.int k t) [(Str.ofString "bits", some (.ref bl)), (Str.ofString "size", some (.int n tz)), (Str.ofString "big", some (.bool big)), (Str.ofString "found", some (.ref l)), (Str.ofString "k", kv)])) ∧
      News s.heap L hh [(D, W.listOf row.toArray 0), (I, oI), (l, W.listOf vs.toArray m), (L + 1, o3)] ∧ o3.data = .cell (some (.ref D)) ∧ IntsAre row (rowB n big bs i) ∧ (@LT.lt Nat _ I D ∧ @LT.lt Nat _ l D ∧ @LT.lt Nat _ (L + 1) D))) (E := fun _ _ => False) ?_ (fun f s' hf => ?_) (fun _ _ e => e.elim)
    · tb_rel
      · rename (_ = true) => hbig
        rename IntsAre _ (List.reverse _) => hI3
        rename Fr _ _ _ _ => F3
        rename News _ _ _ _ => N3
        rename (_ = Data.cell (some (Value.ref _))) => d4
        rename (_ ∧ _ ∧ _ ∧ _) => l13
        exact .mk ⟨rfl, _, _, _, _, _, rfl, F3, news_sub N3 (.cons_cons _ (.cons _ (.refl _))), d4, by rw [rowB, if_pos hbig]; exact hI3, l13.2⟩
      · rename (_ = false) => hbig
        tb_rel
        exact .mk ⟨rfl, _, _, _, _, _, rfl, F2, N2, d3, by rw [rowB, if_neg (by rw [hbig]; decide)]; exact hI2, l12⟩
    obtain ⟨rfl, hh, tkk, D3, row3, o4, rfl, F3, N3, d4, hI3, l13⟩ := hf.out
    have hr3 : row3.length = n := hI3.length.trans (by unfold rowB; split <;> simp only [List.length_reverse, padRow_len])
    have hrb : (rowB n big bs i).length = n := hI3.length.symm.trans hr3
    clear hf F2 N2 d3 hI2 hl2 l12
    dsimp only
    tb_rel
    refine comp_K (ks := (List.range ((n + 1 - 1) / 1)).map fun (i : Nat) => 0 + (i : Int) * (1 : Nat)) (fun _ k y => ∃ t, y = Value.int ((rowB n big bs i).getD k.toNat 0 * 2 ^ k.toNat) t) rfl F3 N3 (by rw [List.length_map, List.length_range, Nat.div_one, Nat.add_sub_cancel]; omega) (fun Q' hQ' => ?_) (fun ii k t I oI C' oC D m₂ h tk E' ys hk hC hx F N off ne => ?_) fun D h tk ys h1 h2 F N off1 => ?_
    · tb_rel
      rename IsRange _ _ _ _ _ _ _ _ => hr
      rename Fr _ _ _ _ => F'
      rename News _ _ _ _ => N'
      exact hQ' _ _ _ F' N' (iter_range w hr (small_up (Nat.le_refl 1) (by decide) (by omega)) (size_up (Nat.le_refl 1))).n
    · obtain ⟨hj0, hj1⟩ := rng1 hk
      have hbit : 0 ≤ (rowB n big bs i).getD k.toNat 0 ∧ (rowB n big bs i).getD k.toNat 0 < 2 := by
        unfold rowB
        split
        · exact pad_bitr hbs hj0 hj1
        · exact pad_bit hbs hj0 hj1
      clear hk
      iterate 6 tb_start
      refine lshift_int_small hj0 (by omega) (by omega) ?_
      dsimp only
      exact .mk ⟨_, _, rfl, F, N, _, rfl⟩
    · have hIy := ints_rk h1 h2
      clear h1 h2
      simp only [LCg.Off1] at off1
      tb_rel
      rename Fr _ _ _ _ => F5
      rename News _ _ _ _ => N5
      rw [List.push_toArray] at N5
      refine .mk ⟨rfl, _, _, _, _, rfl, F5, news_sub (n2 := (_, oI) :: _) N5 (.cons _ (.cons _ (.refl _))), rfl, none, _, _, _, _, _, rfl, rfl, d4, ?_⟩
      rw [List.range_succ, List.map_append, List.map_singleton]
      exact hi.append (.cons _ _ .nil)
  · rintro h tk l9 n9 hq9 F N
    obtain ⟨rv, kv, m, vs, o2, cv, rfl, rfl, d2, hi⟩ := hq9
    rw [List.length_map, List.length_range] at hi
    dsimp only
    iterate 3 tb_start
    dsimp only
    iterate 1 tb_start
    exact hR _ _ _ _ _ F.keep (Nat.le_trans F.above (Nat.le_of_lt (Nat.lt_trans (Nat.lt_succ_self L) l1))) (N _ (.head _)).1 hi

end
section

theorem bInts_bd (b : Array UInt8) : ∀ k ∈ KBw.bInts b, 0 ≤ k ∧ k < 256 := by
  intro k hk
  unfold KBw.bInts at hk
  obtain ⟨c, _, rfl⟩ := List.mem_map.mp hk
  have := c.toNat_lt
  omega
theorem row_bd (n : Nat) (k : Int) : ∀ x ∈ rowOf n k, 0 ≤ x ∧ x < 2 := by
  intro x hx
  unfold rowOf at hx
  obtain ⟨c, _, rfl⟩ := List.mem_map.mp hx
  omega
theorem bits_bd (n : Nat) (big : Bool) (ks : List Int) : ∀ x ∈ bitsOf n big ks, 0 ≤ x ∧ x < 2 := by
  intro x hx
  unfold bitsOf at hx
  obtain ⟨k, _, hx⟩ := List.mem_flatMap.mp hx
  split at hx
  · exact row_bd n k x (List.mem_reverse.mp hx)
  · exact row_bd n k x hx
theorem list_at {h : Heap} {l : Addr} {vs : Array Value} {m : Nat} (e : h.get? l = some (W.listOf vs m)) : h.IsList l vs := ⟨_, e, rfl, _, rfl⟩

theorem lsixes {w : World} {mean mg mb G base outer d u dp un gd} {s : Shared} {R : Result → Shared → Prop} {b : Array UInt8} {tb : Tok} {big : Bool}
    (C : Cx w mean mg mb G ⟨none, dp, some outer, gd, un⟩ base outer d u s.heap) (hd : 5 ≤ d) (hu : 40 ≤ u) (hlen : b.size ≤ 100)
    (hR : ∀ h' tk l vs m, Kp s.heap h' → s.heap.objs.size ≤ l → h'.get? l = some (W.listOf vs.toArray m) → IntsAre vs (valsOf 6 big (bitsOf 8 big (KBw.bInts b))) → R (.ok (.ret (.ref l))) { s with heap := h', toks := tk }) :
    codeAny (model PR w) ⟨none, dp, some outer, gd, un⟩ (.call (.ref 283) ⟨[.bytes b tb, .bool big], []⟩) R s := by
  have X0 := C.X
  revert X0
  delta PR
  k_fill
  intro X0
  refine enter C (by omega) (by k_is) (by k_is) (BindsTo.of_eq rfl) (locs rfl) ?_ rfl rfl rfl (by decide)
  intro L h₁ F N B X T
  clear X0
  dsimp only
  k_fold
  tb_rel
  refine wpAny_call ?_
  refine lbits (ks := KBw.bInts b) (n := 8) (C.push F rfl rfl (by omega) (by omega)) (by omega) (by omega) (iters_bytes w _ b tb) ?_ (by omega) ?_ fun h2 tk2 l vs m2 hk2 hl2 ho2 hi2 => ?_
  · exact bInts_bd b
  · rw [KBw.ints_length]; omega
  replace N := news_new F N hk2 hl2 ho2
  replace F := fr_kp F hk2
  dsimp only
  tb_rel
  refine wpAny_call ?_
  refine lvals (us := vs) (n := 6) (C.push F rfl rfl (by omega) (by omega)) (by omega) (by omega) (list_at (N _ (.head _)).1) hi2 (bits_bd 8 big _) (by omega) (by omega) (by rw [bits_len, KBw.ints_length]; omega) fun h3 tk3 l3 vs3 m3 hk3 hl3 ho3 hi3 => ?_
  dsimp only
  iterate 1 tb_start
  exact hR _ _ _ _ _ (fun b o e => hk3 b o (F.keep b o e)) (Nat.le_trans F.above (Nat.le_trans (Nat.le_of_lt F.ns.lt) hl3)) ho3 hi3


noncomputable def octOf (big : Bool) (ks : List Int) : List Int := valsOf 8 big ((bitsOf 6 big ks).take ((bitsOf 6 big ks).length / 8 * 8))
theorem getD_bd {row : List Int} (h : ∀ x ∈ row, 0 ≤ x ∧ x < 2) (j : Nat) : 0 ≤ row.getD j 0 ∧ row.getD j 0 < 2 := by
  rw [List.getD_eq_getElem?_getD]
  cases q : row[j]? with
  | none => exact ⟨by decide, by decide⟩
  | some x => exact h x (List.mem_of_getElem? q)
theorem rowB_bd (n : Nat) (big : Bool) {bs : List Int} (i : Nat) (hb : ∀ k ∈ bs, 0 ≤ k ∧ k < 2) : ∀ k ∈ rowB n big bs i, 0 ≤ k ∧ k < 2 := by
  intro k hk
  unfold rowB at hk
  split at hk
  · exact padRow_bd i hb k (List.mem_reverse.mp hk)
  · exact padRow_bd i hb k hk
theorem sum_bd : ∀ (n : Nat) (row : List Int), (∀ x ∈ row, 0 ≤ x ∧ x < 2) → 0 ≤ ((List.range n).map fun (i : Nat) => row.getD i 0 * 2 ^ i).sum ∧ ((List.range n).map fun (i : Nat) => row.getD i 0 * 2 ^ i).sum < 2 ^ n := by
  intro n row h
  induction n with
  | zero => exact ⟨Int.le_refl 0, Int.zero_lt_one⟩
  | succ n ih =>
    rw [List.range_succ, List.map_append, List.sum_append, List.map_singleton, List.sum_singleton, Int.pow_succ]
    obtain ⟨g0, g1⟩ := getD_bd h n
    have hp : (0 : Int) < 2 ^ n := Int.pow_pos (by decide)
    rcases (show row.getD n 0 = 0 ∨ row.getD n 0 = 1 by omega) with e | e <;> rw [e] <;> omega
theorem valOf_eq (n : Nat) (row : List Int) : valOf n row = ((List.range n).map fun (i : Nat) => row.getD i 0 * 2 ^ i).sum := by
  unfold valOf rangeKs
  rw [List.map_map, show ((n : Int) - 0).toNat = n by omega]
  refine congrArg List.sum (List.map_congr_left fun i _ => ?_)
  show row.getD ((0 : Int) + (i : Int)).toNat 0 * 2 ^ ((0 : Int) + (i : Int)).toNat = _
  rw [show ((0 : Int) + (i : Int)).toNat = i by omega]
theorem vals_bd (n : Nat) (hn : n ≤ 8) (big : Bool) {bs : List Int} (hb : ∀ k ∈ bs, 0 ≤ k ∧ k < 2) : ∀ k ∈ valsOf n big bs, 0 ≤ k ∧ k < 256 := by
  intro k hk
  unfold valsOf at hk
  obtain ⟨i, _, rfl⟩ := List.mem_map.mp hk
  rw [valOf_eq]
  obtain ⟨h0, h1⟩ := sum_bd n _ (rowB_bd n big i hb)
  have : (2 : Int) ^ n ≤ 256 := by
    rcases (show n = 0 ∨ n = 1 ∨ n = 2 ∨ n = 3 ∨ n = 4 ∨ n = 5 ∨ n = 6 ∨ n = 7 ∨ n = 8 by omega) with e | e | e | e | e | e | e | e | e <;> subst e <;> decide
  exact ⟨h0, by omega⟩

theorem loctets {w : World} {mean mg mb G base outer d u dp un gd} {s : Shared} {R : Result → Shared → Prop} {sl : Addr} {us : List Value} {ks : List Int} {big : Bool}
    (C : Cx w mean mg mb G ⟨none, dp, some outer, gd, un⟩ base outer d u s.heap) (hd : 5 ≤ d) (hu : 40 ≤ u) (hl : s.heap.IsList sl us.toArray) (hi : IntsAre us ks) (hks : ∀ k ∈ ks, 0 ≤ k ∧ k < 256) (hlen : ks.length ≤ 100)
    (hR : ∀ h' tk t, Kp s.heap h' → R (.ok (.ret (.bytes (byteArr (octOf big ks)) t))) { s with heap := h', toks := tk }) :
    codeAny (model PR w) ⟨none, dp, some outer, gd, un⟩ (.call (.ref 290) ⟨[.ref sl, .bool big], []⟩) R s := by
  have X0 := C.X
  revert X0
  delta PR
  k_fill
  intro X0
  refine enter C (by omega) (by k_is) (by k_is) (BindsTo.of_eq rfl) (locs rfl) ?_ rfl rfl rfl (by decide)
  intro L h₁ F N B X T
  clear X0
  dsimp only
  k_fold
  tb_rel
  refine wpAny_call ?_
  refine lbits (ks := ks) (n := 6) (C.push F rfl rfl (by omega) (by omega)) (by omega) (by omega) (iters_list w (hl.at fun o e => F.keep _ _ e) hi) hks (by omega) (by omega) fun h2 tk2 l vs m2 hk2 hl2 ho2 hi2 => ?_
  replace N := news_new F N hk2 hl2 ho2
  replace F := fr_kp F hk2
  dsimp only
  have hlb := bits_len 6 big ks
  have hq0 : ((bitsOf 6 big ks).length : Int).fdiv 8 * 8 = ((bitsOf 6 big ks).length / 8 * 8 : Nat) := by
    rw [Int.fdiv_eq_ediv_of_nonneg _ (by decide)]; omega
  have hq : 0 ≤ ((bitsOf 6 big ks).length : Int).fdiv 8 * 8 := by rw [hq0]; omega
  tb_rel
  rename_i D ws h3 F3 N3 hI3 hC3 hL3 l13
  rw [hq0, Int.toNat_natCast] at hI3 hC3 hL3
  have F4 : Fr s.heap L h3 _ := F3
  refine wpAny_call ?_
  refine lvals (us := ws) (n := 8) (C.push F4 rfl rfl (by omega) (by omega)) (by omega) (by omega) (list_at (N3 _ (.head _)).1) hI3 (fun k hk => bits_bd 6 big _ k (List.mem_of_mem_take hk)) (by omega) (by omega) (by omega) fun h5 tk5 l5 vs5 m5 hk5 hl5 ho5 hi5 => ?_
  replace N3 := news_new F4 N3 hk5 hl5 ho5
  replace F4 := fr_kp F4 hk5
  dsimp only
  iterate 1 tb_start
  have := hi5.length
  rw [valsOf, List.length_map, List.length_range] at this
  refine call_bytes_ints (list_at (N3 _ (.head _)).1) hi5 (vals_bd 8 (by omega) big fun k hk => bits_bd 6 big _ k (List.mem_of_mem_take hk)) (by rw [sizeLine_eq, this]; omega) rfl fun h6 t6 k6 hk6 => ?_
  tb_rel
  exact hR _ _ _ (fun b o e => hk6 b o (F4.keep b o e))

end
section

theorem over_func {dp un : Nat} {outer : List Env} {gd : Option (List Code)} {body : List Stmt} {env : Env} :
    (⟨none, dp, some outer, gd, un⟩ : Around).over (.func body env) [] = (⟨none, dp, some outer, gd, un⟩ : Around).deeper env := by
  cases gd <;> rfl
theorem over_while {dp un : Nat} {outer : List Env} {gd : Option (List Code)} {body b2 o2 : List Stmt} {test : Expr} {env : Env} {k g l p} :
    (⟨none, dp, some outer, gd, un⟩ : Around).over (.whileLoop test b2 o2 env) [.ret k none g l (.func body env) p []] = (⟨none, dp, some outer, gd, un⟩ : Around).deeper env := by
  cases gd <;> rfl


/-- all kept but some -/
noncomputable abbrev KpB (own : List Addr) (h h' : Heap) : Prop := ∀ b o, b ∉ own → h.get? b = some o → h'.get? b = some o

/-- as it was up to slots, but some -/
noncomputable abbrev UpB (own : List Addr) (h h' : Heap) : Prop := ∀ b o, b ∉ own → h.get? b = some o → (∀ vs, o.data ≠ .fields vs) → ∃ sl, h'.get? b = some { o with slots := sl }

structure Gn where
  h₀ : Heap
  own : List Addr
  fp : List Addr
  out : Nat → Int
  bad : Bool
  base : Heap
  outer : List Env

structure Gn.Ok (p : Gn) (h : Heap) : Prop where
  k : Kp p.h₀ h
  ff : h.FunFrames p.base p.outer
  st : p.base.StaysIn h

inductive GnY (p : Gn) (m : Nat) (s₀ : Shared) (v : Value) (s₁ : Shared) (kap : Resume → Shared → Prop) : Prop
  | mk (h' : Heap) (tk : Nat) (t : Tok) (e : s₁ = { s₀ with heap := h', toks := tk }) (ev : v = .int (p.out m) t) (kb : KpB p.own s₀.heap h') (ok : p.Ok h')
    (next : ∀ s'' : Shared, p.Ok s''.heap → (∀ b ∈ p.fp, ∀ o, h'.get? b = some o → s''.heap.get? b = some o) → kap (.send .none) s'') : GnY p m s₀ v s₁ kap
noncomputable def Gn.Y (p : Gn) : Protocol := GnY p
noncomputable def Gn.R (p : Gn) : GenEnd := fun m s₀ r s₁ => (p.bad = false ∧ m = 0 ∧ r = .ok (.ret .none) ∧ ∃ h' tk, s₁ = { s₀ with heap := h', toks := tk } ∧ KpB p.own s₀.heap h') ∨
  (p.bad = true ∧ ∃ e a0 h' tk, r = .error (.ref e) ∧ s₁ = { s₀ with heap := h', toks := tk } ∧ FlyC p.base p.outer e (.type "KeyError") a0 h' ∧ UpB p.own s₀.heap h')

/-- what the rest of a generator gives -/
noncomputable def Feed (p : Gn) (w : World) (A : Around) (a : Addr) (g : Nat) : Nat → GenState → Heap → Prop
  | 0, gs, h => ∀ (s : Shared) (E : Value → Shared → Prop) (Q : Option Value → Shared → Prop), p.Ok s.heap → (∀ b ∈ p.fp, ∀ o, h.get? b = some o → s.heap.get? b = some o) → s.gens[g]? = some gs → s.heap.IsGen a g →
      (p.bad = false → ∀ h' tk, KpB p.own s.heap h' → Q none { s with heap := h', toks := tk, gens := s.gens.setIfInBounds g .finished }) →
      (p.bad = true → ∀ h' tk e a0, FlyC p.base p.outer e (.type "KeyError") a0 h' → UpB p.own s.heap h' → E (.ref e) { s with heap := h', toks := tk, gens := s.gens.setIfInBounds g .finished }) →
      wpAny (model PR w) A (pyNext (.ref a)) Q E s
  | n + 1, gs, h => ∀ (s : Shared) (E : Value → Shared → Prop) (Q : Option Value → Shared → Prop), p.Ok s.heap → (∀ b ∈ p.fp, ∀ o, h.get? b = some o → s.heap.get? b = some o) → s.gens[g]? = some gs → s.heap.IsGen a g →
      (∀ h' tk t gs', KpB p.own s.heap h' → Feed p w A a g n gs' h' → Q (some (.int (p.out n) t)) { s with heap := h', toks := tk, gens := s.gens.setIfInBounds g gs' }) →
      (p.bad = true → ∀ h' tk e a0, FlyC p.base p.outer e (.type "KeyError") a0 h' → UpB p.own s.heap h' → E (.ref e) { s with heap := h', toks := tk, gens := s.gens.setIfInBounds g .finished }) →
      wpAny (model PR w) A (pyNext (.ref a)) Q E s

theorem set_set {gens : Array GenState} (g : Nat) (x y : GenState) : (gens.setIfInBounds g x).setIfInBounds g y = gens.setIfInBounds g y := by
  apply Array.ext
  · simp
  · intro i h1 h2
    by_cases e : g = i
    · subst e; simp
    · simp [Array.getElem_setIfInBounds, e]

theorem sub_key : isSubtype (.type "KeyError") (.type "StopIteration") = pure false := by
  rw [isSubtype_type]; kernel_rfl

theorem next_K {p : Gn} {w : World} {A : Around} {a : Addr} {g : Nat} {n : Nat} {gs : GenState} {E : Value → Shared → Prop} {Q : Option Value → Shared → Prop} {s : Shared} (hh : A.handled = none) (hroom : A.depth < recursionLimit) (hl : s.heap.NoLimit) (hg : s.heap.IsGen a g) (hgs : s.gens[g]? = some gs)
    (hbg : p.bad = true → p.base.IsGen a g)
    (hgo : gs.Goes (model PR w) A.in1 p.R p.Y n (.send .none) (s.setGen g .running))
    (hY : ∀ m h' tk t gs', n = m + 1 → KpB p.own s.heap h' → (∀ s'', p.Ok s''.heap → (∀ b ∈ p.fp, ∀ o, h'.get? b = some o → s''.heap.get? b = some o) → gs'.Goes (model PR w) A.in1 p.R p.Y m (.send .none) s'') → Q (some (.int (p.out m) t)) { s with heap := h', toks := tk, gens := s.gens.setIfInBounds g gs' })
    (hN : n = 0 → p.bad = false → ∀ h' tk, KpB p.own s.heap h' → Q none { s with heap := h', toks := tk, gens := s.gens.setIfInBounds g .finished })
    (hE : p.bad = true → ∀ h' tk e a0, FlyC p.base p.outer e (.type "KeyError") a0 h' → UpB p.own s.heap h' → E (.ref e) { s with heap := h', toks := tk, gens := s.gens.setIfInBounds g .finished }) :
    wpAny (model PR w) A (pyNext (.ref a)) Q E s := by
  unfold pyNext
  refine wpAny_bind (wpAny_attempt (wpAny_callSpecial?_slot (name := Str.ofString "__next__") hg.typeIs slot_gen_next
    (wpAny_call_entry slot_gen_next hg.typeIs entry_gen_next ?_ (args_gen_next _))))
  show wpAny _ _ (Builtin.Generator.genWake (.ref a) (.send .none)) _ _ s
  unfold Builtin.Generator.genWake
  refine wpAny_bind (wpAny_holding (wpAny_genNumber hg (wpAny_bind (wpAny_genState hgs ?_))))
  cases gs with
  | running => exact hgo.elim
  | finished => exact hgo.elim
  | _ =>
    refine wpAny_bind (wpAny_roomToWake hl hroom ?_)
    show wpAny _ _ (.resume g (.send .none) [] _) _ _ s
    refine wpAny_resume hgs hgo (fun x s₁ hx => ?_) (fun v s₁ gs' hv => ?_)
    · rcases hx with ⟨hb, rfl, rfl, h', tk, rfl, hk⟩ | ⟨hb, e, a0, h', tk, rfl, rfl, hf, hu⟩
      · show wpAny _ _ (newExc (.type "StopIteration") [] >>= _) _ _ _
        refine wpAny_bind ?_
        simp only [newExc, newTuple]
        refine wpAny_bind (wpAny_newObj_type ?_ (by size_fits))
        refine wpAny_bind (m := firstArgMember _ _) (wpAny_of_eq (a := Value.none) (by first | rfl | (simp only [firstArgMember]; rfl)) ?_)
        refine wpAny_newObj_type ?_ (by size_fits)
        simp only [raiseNew]
        refine wpAny_bind (wpAny_bind (wpAny_handled ?_))
        rw [show A.in1.handled = none from hh]
        refine wpAny_throw ?_
        refine wpAny_bind (wpAny_isInstance (T := "StopIteration") (b := true) ⟨_, Heap.get?_push_size _ rfl, rfl⟩ isSubtype_stop ?_)
        refine wpAny_pure ?_
        simp only [Shared.setGen, set_set]
        exact hN rfl hb _ _ fun b o hb e => Heap.get?_push_of_some _ (Heap.get?_push_of_some _ (hk b o hb e))
      · show wpAny _ _ (Builtin.Generator.genLeft (.ref a) (.ref e)) _ _ _
        have hg' : h'.IsGen a g := (hbg hb).keeps hf.1.1
        obtain ⟨ob, he, hce⟩ := hf.1.there
        obtain ⟨o, nm, qn, ho, hc, hd, hsl⟩ := hg'
        unfold Builtin.Generator.genLeft Builtin.Generator.madeByALambda Builtin.Generator.genEscaped
        refine wpAny_bind (wpAny_bind (wpAny_load ho ?_))
        refine wpAny_pure ?_
        refine wpAny_bind (wpAny_isInstance (T := "KeyError") (b := false) ⟨_, he, hce⟩ sub_key ?_)
        rw [hd]
        rw [show (o.cls == Value.type "generator" && (match Data.fields #[Value.int (↑g) 0, nm, qn] with | .fields vs => vs[3]? == some (Value.bool true) | _ => false)) = false by
          rw [hc]; rfl]
        refine wpAny_bind (wpAny_isInstance (T := "KeyError") (b := false) ⟨_, he, hce⟩ sub_key ?_)
        refine wpAny_throw ?_
        refine wpAny_bind (wpAny_isInstance (T := "KeyError") (b := false) ⟨_, he, hce⟩ sub_key ?_)
        refine wpAny_throw ?_
        simp only [Shared.setGen, set_set]
        exact hE hb h' tk e a0 hf hu
    · obtain ⟨h', tk, t, rfl, rfl, hk, hk0, hn⟩ := hv
      refine wpAny_pure ⟨_, rfl, wpAny_pure ?_⟩
      cases n with
      | zero => exact (hn { s with heap := h' } hk0 fun _ _ _ e => e).elim
      | succ m =>
        have := hY m h' tk t gs' rfl hk hn
        simp only [Shared.setGen, set_set]
        exact this


noncomputable def Goes1 (p : Gn) (w : World) (A : Around) (n : Nat) (gs : GenState) (h : Heap) : Prop :=
  ∀ s : Shared, p.Ok s.heap → (∀ b ∈ p.fp, ∀ o, h.get? b = some o → s.heap.get? b = some o) → gs.Goes (model PR w) A.in1 p.R p.Y n (.send .none) s

theorem feed_of {p : Gn} {w : World} {A : Around} {a : Addr} {g : Nat} (hh : A.handled = none) (hroom : A.depth < recursionLimit) (hl : ∀ h, Kp p.h₀ h → h.NoLimit) (hbg : p.bad = true → p.base.IsGen a g) :
    ∀ (n : Nat) (gs : GenState) (h : Heap), Goes1 p w A n gs h → Feed p w A a g n gs h := by
  intro n
  induction n with
  | zero =>
    intro gs h hgo s E Q hk hf hgs hg hN hE
    exact next_K hh hroom (hl _ hk.k) hg hgs hbg (hgo _ hk hf) (fun m _ _ _ _ e => absurd e (Nat.succ_ne_zero m).symm) (fun _ => hN) hE
  | succ n ih =>
    intro gs h hgo s E Q hk hf hgs hg hY hE
    refine next_K hh hroom (hl _ hk.k) hg hgs hbg (hgo _ hk hf) (fun m h' tk t gs' e hk' hg' => ?_) (fun e => absurd e (Nat.succ_ne_zero n)) hE
    cases e
    exact hY h' tk t gs' hk' (ih gs' h' hg')

/-- a turn of a body: one statement, then the rest -/
theorem seg_stmt {M : Model} {A A' : Around} {R : GenEnd} {Y : Protocol} {n : Nat} {s₀ : Shared} {c : Code} {fs : List Frame} {s : Shared} {env : Env} {K : Flow → Sem PySem.Fin} {H : Value → Sem PySem.Fin} {gd : Bool → Bool} {lv : List Value → List Value} {st : Stmt} {rest : List Stmt}
    (hA : A.over c fs = A') (h : wpAny M A' (exec st env) (fun f s' => Seg M A R Y n s₀ c (match f with | .next => (execs rest env).wrap K H gd lv | f => K f) fs s') (fun x s' => Seg M A R Y n s₀ c (H x) fs s') s) :
    Seg M A R Y n s₀ c ((execs (st :: rest) env).wrap K H gd lv) fs s := seg_execs_cons (seg_wrap (hA ▸ h))


noncomputable abbrev genObj (g : Nat) (nm qn : Value) : Obj := { cls := .type "generator", data := .fields #[.int g 0, nm, qn] }
theorem IsGen_of {h : Heap} {a : Addr} {g : Nat} {nm qn : Value} (e : h.get? a = some (genObj g nm qn)) : h.IsGen a g := ⟨_, nm, qn, e, rfl, rfl, rfl⟩

section
variable {w : World} {mean : ExcName → Option Value} {mg mb : Str → Option Value} {G : Heap} {A : Around} {base : Heap} {outer : List Env} {d u : Nat} {s : Shared}
  {R : Result → Shared → Prop} {name qual : Str} {params : Arguments} {body : List Stmt} {scope : Scope} {dV kV doc pm cdv ct oc : Value} {an od : Option Addr} {osl : Array (Option Value)} {f : Addr} {args : Args} {binds : List (Str × Value)}
theorem enterG (C : Cx w mean mg mb G A base outer d u s.heap) (h1 : 1 ≤ d) (ho : (Mine.hd.heap_1 w.params).lookup f = some ⟨oc, od, .func (fnX name qual params body scope [] dV kV doc pm an cdv ct), osl⟩)
    (hcd : codeIn (Mine.hd.heap_1 w.params) cdv qual = true) (hbind : BindsTo s (fnX name qual params body scope [] dV kV doc pm an cdv ct) args binds) (hloc : ∀ y ∈ binds, scope.names.lookup y.1 = some .local)
    (h : ∀ L h' a tk nm qn, Fr s.heap L h' (mp (binds.reverse.map fun x => (x.1, some x.2))) → News s.heap L h' [(a, genObj s.gens.size nm qn)] → L < a →
      R (.ok (.ret (.ref a))) { s with heap := h', toks := tk, gens := s.gens.push (.fresh (.func body (envX qual scope L f cdv []))) })
    (hco : scope.isCoroutine = false) (hgen : scope.isGenerator = true) (hk : scope.kind = .function) (hcell : ∀ x ∈ scope.names, x.2 ≠ .cell) : codeAny (model PR w) A (.call (.ref f) args) R s := by
  have hd := C.hd
  refine codeAny_call_generator (by omega) (C.X _ _ ho) rfl hco hgen rfl (codeRec_of C.X hcd) (hbind _ _ _ _ ?_)
  refine wpAny_newFunctionEnv hcell hloc (fun h₀ hns₀ hsb₀ => ⟨C.T.nolimit.fresh _ hsb₀, ?_⟩) hk
  have hk₀ : ∀ b o, s.heap.get? b = some o → h₀.get? b = some o := fun b o e => hsb₀.extBut b o (Nat.ne_of_lt (Heap.lt_size e)) (Heap.get?_push_of_some _ e)
  have F : Fr s.heap s.heap.objs.size h₀ (mp (binds.reverse.map fun x => (x.1, some x.2))) := fr_cg ⟨hns₀, hk₀, Nat.le_refl _⟩ (mp_lookup _)
  have F' := F.keeps (fun b o e => Heap.get?_push_of_some (genObj s.gens.size (.str name (s.toks + binds.length)) (.str qual (s.toks + binds.length + 1))) e)
  refine h s.heap.objs.size _ h₀.objs.size _ (.str name (s.toks + binds.length)) (.str qual (s.toks + binds.length + 1)) F' (fun p hp => ?_) F.ns.lt
  rw [List.mem_singleton.mp hp]
  exact ⟨Heap.get?_push_size _ rfl, Nat.ne_of_gt F.ns.lt, next_is_new F⟩
end


noncomputable def txtOf (ks : List Int) : Str := ⟨(ks.map Int.toNat).toArray⟩
/-- a list of one-sign strs -/
noncomputable def SignsAre (vs : List Value) (ks : List Int) : Prop := vs.length = ks.length ∧ ∀ (i : Nat) (k : Int), ks[i]? = some k → ∃ y, vs[i]? = some y ∧ ∃ t, y = Value.str ⟨#[k.toNat]⟩ t
noncomputable def mapV (big : Bool) (ks : List Int) (t : Tok) : Value := if big then Value.str (txtOf ks) t else Value.bytes (byteArr ks) t
theorem SignsAre.strs {vs : List Value} {ks : List Int} (h : SignsAre vs ks) : StrsAre vs (ks.map fun k => ⟨#[k.toNat]⟩) := by
  obtain ⟨h1, h2⟩ := h
  induction ks generalizing vs with
  | nil => cases vs with | nil => exact .nil | cons a r => simp at h1
  | cons k ks ih =>
    cases vs with
    | nil => simp at h1
    | cons v vs =>
      obtain ⟨y, e, t, rfl⟩ := h2 0 k rfl
      simp at e
      subst e
      exact .cons _ _ (ih (by simpa using h1) fun i k hk => h2 (i + 1) k hk)
theorem join_txt (ks : List Int) : Str.join ⟨#[]⟩ (ks.map fun k => (⟨#[k.toNat]⟩ : Str)) = txtOf ks := by
  have := join_nil_signs (txtOf ks)
  unfold signs txtOf at this
  simp only [List.toList_toArray, List.map_map] at this
  exact this
theorem ones_sum (ks : List Int) : ((ks.map fun k => (⟨#[k.toNat]⟩ : Str)).map (·.length)).sum = ks.length := by
  induction ks with
  | nil => rfl
  | cons k ks ih => rw [List.map_cons, List.map_cons, List.sum_cons, ih, List.length_cons]; show 1 + ks.length = ks.length + 1; omega
theorem txt_join (l : List Str) : Txt.join (Str.ofString "") l = Str.join ⟨#[]⟩ l := by
  cases l with
  | nil => rfl
  | cons a r => exact StrLaws.glued_eq_join _ _

theorem lmap {w : World} {mean mg mb G base outer d u dp un gd} {s : Shared} {R : Result → Shared → Prop} {sl : Addr} {us : List Value} {ks : List Int} {big : Bool}
    (C : Cx w mean mg mb G ⟨none, dp, some outer, gd, un⟩ base outer d u s.heap) (hd : 5 ≤ d) (hu : 40 ≤ u) (hl : s.heap.IsList sl us.toArray) (hi : IntsAre us ks) (hks : ∀ k ∈ ks, 0 ≤ k ∧ k < 256) (hlen : ks.length ≤ 100) 
    (hR : ∀ h' tk t, Kp s.heap h' → R (.ok (.ret (mapV big ks t))) { s with heap := h', toks := tk }) :
    codeAny (model PR w) ⟨none, dp, some outer, gd, un⟩ (.call (.ref 295) ⟨[.ref sl, .bool big], []⟩) R s := by
  have X0 := C.X
  revert X0
  delta PR
  k_fill
  intro X0
  refine enter C (by omega) (by k_is) (by k_is) (BindsTo.of_eq rfl) (locs rfl) ?_ rfl rfl rfl (by decide)
  intro L h₁ F N B X T
  clear X0
  dsimp only
  k_fold
  tb_rel
  · rename_i hb
    refine comp_K (ks := ks) (fun _ k y => ∃ t, y = Value.str ⟨#[k.toNat]⟩ t) rfl F N (by omega) (fun Q' hQ' => ?_) (fun i k t I oI C' oC D m₂ h tk E' ys hk hC hx F N off ne => ?_) fun D h tk ys h1 h2 F N o1 => ?_
    · tb_rel
      exact hQ' _ _ _ F N ((iters_list w hl hi).f F.keep).n
    · obtain ⟨hk0, hk1⟩ := hks k (List.mem_of_getElem? hk)
      tb_rel
      exact .mk ⟨_, _, rfl, F, N, _, rfl⟩
    · dsimp only
      tb_rel
      refine join_listW (list_at (N _ (.head _)).1) (SignsAre.strs ⟨h1, h2⟩) (by decide) ?_ ?_
      · rw [ones_sum, List.length_map]; omega
      · intro t' k
        tb_rel
        have hR' := hR h k t' F.keep
        rw [mapV, if_pos hb, ← join_txt, ← txt_join] at hR'
        exact hR'
  · rename_i hb
    tb_rel
    rename_i t9 _ F' N' _ _
    have hR' := fun h k (q : Kp s.heap h) => hR h k t9 q
    rw [mapV, if_neg (by rw [hb]; decide)] at hR'
    exact hR' _ _ F'.keep

end
section

/-- all that a heap holds beyond a base and some addresses -/
noncomputable def led (h₀ : Heap) (ex : List Addr) (h : Heap) : List (Addr × Obj) :=
  (List.range h.objs.size).filterMap fun b => if b ∈ ex then none else match h₀.get? b, h.get? b with
    | none, some o => some (b, o)
    | _, _ => none
theorem mem_led {h₀ h : Heap} {ex : List Addr} {p : Addr × Obj} : p ∈ led h₀ ex h ↔ p.1 ∉ ex ∧ h₀.get? p.1 = none ∧ h.get? p.1 = some p.2 := by
  unfold led
  rw [List.mem_filterMap]
  constructor
  · rintro ⟨b, hb, e⟩
    by_cases hx : b ∈ ex
    · rw [if_pos hx] at e; cases e
    · rw [if_neg hx] at e
      cases q0 : h₀.get? b with
      | some o => rw [q0] at e; cases e
      | none =>
        cases q1 : h.get? b with
        | none => rw [q0, q1] at e; cases e
        | some o => rw [q0, q1] at e; cases e; exact ⟨hx, q0, q1⟩
  · rintro ⟨h1, h2, h3⟩
    refine ⟨p.1, List.mem_range.mpr (Heap.lt_size h3), ?_⟩
    rw [if_neg h1, h2, h3]
theorem led_news {h₀ h : Heap} {L : Addr} {ex : List Addr} (hL : L ∈ ex) : News h₀ L h (led h₀ ex h) := fun p hp => by
  obtain ⟨h1, h2, h3⟩ := mem_led.mp hp
  exact ⟨h3, fun e => h1 (e ▸ hL), h2⟩

structure Seat (p : Gn) (L vl nv : Addr) (fo : Obj) : Prop where
  own : p.own = [L, vl]
  fL : L ∈ p.fp
  fv : vl ∈ p.fp
  fn : nv ∈ p.fp
  above : p.h₀.objs.size ≤ L
  vL : vl ≠ L
  nL : nv ≠ L
  vn : vl ≠ nv
  v0 : p.h₀.get? vl = none
  n0 : p.h₀.get? nv = none
  bL : p.base.get? L = none
  bv : p.base.get? vl = none
  fr : ∀ env ∈ p.outer, ∀ L', env.frame = some L' → L' ∉ p.own

theorem seat_kept {p : Gn} {L vl nv : Addr} {fo lo' : Obj} {m : Str → Option Value} {h h' : Heap} (S : Seat p L vl nv fo) (k0 : Kp p.h₀ h) (hn : h.get? nv = some fo) (F : Fr p.h₀ L h' m) (N : News p.h₀ L h' ((vl, lo') :: (nv, fo) :: led p.h₀ [L, vl, nv] h)) : KpB p.own h h' := by
  intro b o hb e
  rw [S.own] at hb
  cases q : p.h₀.get? b with
  | some o' => have := k0 _ _ q; rw [e] at this; cases this; exact F.keep _ _ q
  | none =>
    by_cases hbn : b = nv
    · subst hbn; rw [hn] at e; cases e; exact (N _ (.tail _ (.head _))).1
    · have : (b, o) ∈ led p.h₀ [L, vl, nv] h := mem_led.mpr ⟨fun hm => by simp only [List.mem_cons, List.not_mem_nil, or_false, not_or] at hb hm; rcases hm with z | z | z; (exact hb.1 z); (exact hb.2 z); exact hbn z, q, e⟩
      exact (N _ (.tail _ (.tail _ this))).1

theorem ff_keep {h h' base : Heap} {own : List Addr} (k : KpB own h h') : ∀ l : List Env, (∀ env ∈ l, ∀ L', env.frame = some L' → L' ∉ own) → h.FunFrames base l → h'.FunFrames base l
  | [], _, _ => trivial
  | env :: r, hf, ⟨h1, ⟨L, o, e1, e2, e3, e4⟩, h3⟩ => ⟨h1, ⟨L, o, e1, e2, k _ _ (hf env (.head _) L e1) e3, e4⟩, ff_keep k r (fun env he => hf env (.tail _ he)) h3⟩
theorem seat_ok {p : Gn} {L vl nv : Addr} {fo lo' : Obj} {m : Str → Option Value} {h h' : Heap} (S : Seat p L vl nv fo) (k0 : p.Ok h) (hn : h.get? nv = some fo) (F : Fr p.h₀ L h' m) (N : News p.h₀ L h' ((vl, lo') :: (nv, fo) :: led p.h₀ [L, vl, nv] h)) : p.Ok h' := by
  have k := seat_kept S k0.k hn F N
  refine ⟨F.keep, ff_keep k _ S.fr k0.ff, fun b o e => ?_⟩
  by_cases hb : b ∈ p.own
  · rw [S.own] at hb
    rcases mem_c hb with rfl | hb
    · have := S.bL; rw [e] at this; cases this
    · cases List.mem_singleton.mp hb
      have := S.bv; rw [e] at this; cases this
  · exact k b o hb (k0.st b o e)



/-- what a call of a nested next_value does -/
noncomputable def NextV (w : World) (mean : ExcName → Option Value) (mg mb : Str → Option Value) (G : Heap) (nv vl : Addr) (side : List (Addr × Obj)) (f : Int → Option Int) : Prop :=
  ∀ (dp : Nat) (gd : Option (List Code)) (un : Nat) (base : Heap) (outer : List Env) (s : Shared) (R : Result → Shared → Prop) (k : Int) (t : Tok) (vs : List Value) (n0 : Nat),
    Cx w mean mg mb G ⟨none, dp, some outer, gd, un⟩ base outer 5 40 s.heap → base.get? vl = none → (∀ env ∈ outer, env.frame ≠ some vl) → (∀ q ∈ side, s.heap.get? q.1 = some q.2) → s.heap.get? vl = some (W.listOf (Value.int k t :: vs).toArray n0) → vs.length ≤ 1000 →
    (∀ r, f k = some r → ∀ h' tk t' n', KpB [vl] s.heap h' → h'.get? vl = some (W.listOf vs.toArray n') → R (.ok (.ret (.int r t'))) { s with heap := h', toks := tk }) →
    (f k = none → ∀ h' tk e a0, FlyC base outer e (.type "KeyError") a0 h' → UpB [vl] s.heap h' → R (.error (.ref e)) { s with heap := h', toks := tk }) → codeAny (model PR w) ⟨none, dp, some outer, gd, un⟩ (.call (.ref nv) ⟨[], []⟩) R s

theorem seat_cx {w : World} {mean mg mb G} {p : Gn} {L vl nv : Addr} {fo lo' : Obj} {m : Str → Option Value} {h h' : Heap} {dp un d u : Nat} {gd : Option (List Code)} {env : Env} (St : St w mean mg mb G) (gl : Kp G p.h₀) (S : Seat p L vl nv fo) (k0 : p.Ok h) (hn : h.get? nv = some fo)
    (F : Fr p.h₀ L h' m) (N : News p.h₀ L h' ((vl, lo') :: (nv, fo) :: led p.h₀ [L, vl, nv] h)) (hf : env.frame = some L) (hk : env.scope.kind = .function) (hd : dp + 1 + d < recursionLimit) (hu : un + 3 + u < cLine) :
    Cx w mean mg mb G ((⟨none, dp, some p.outer, gd, un⟩ : Around).deeper env) p.base (env :: p.outer) d u h' := by
  have ok := seat_ok S k0 hn F N
  refine ⟨⟨rfl, ok.st, ⟨by rw [hk]; decide, ?_, ok.ff⟩⟩, St, fun b o e => F.keep _ _ (gl b o e), rfl, hd, hu⟩
  obtain ⟨o, es, ep, e1, e2, _⟩ := F.ns
  exact ⟨L, o, hf, S.bL, e1, fun vs => by rw [e2]; nofun⟩

theorem seat_side {p : Gn} {L vl nv : Addr} {fo lo' : Obj} {m : Str → Option Value} {h h' : Heap} {side : List (Addr × Obj)} (S : Seat p L vl nv fo) (k0 : p.Ok h) (hn : h.get? nv = some fo) (F : Fr p.h₀ L h' m) (N : News p.h₀ L h' ((vl, lo') :: (nv, fo) :: led p.h₀ [L, vl, nv] h))
    (hs : ∀ q ∈ side, h.get? q.1 = some q.2) (ho : ∀ q ∈ side, q.1 ∉ p.own) : ∀ q ∈ side, h'.get? q.1 = some q.2 := fun q hq => seat_kept S k0.k hn F N _ _ (ho q hq) (hs q hq)

theorem seat_news {p : Gn} {L vl nv : Addr} {fo lo lo2 : Obj} {m : Str → Option Value} {h0 h h' : Heap} (S : Seat p L vl nv fo) (F : Fr p.h₀ L h m) (N : News p.h₀ L h ((vl, lo) :: (nv, fo) :: led p.h₀ [L, vl, nv] h0)) (k : KpB [vl] h h') (e : h'.get? vl = some lo2) :
    Fr p.h₀ L h' m ∧ News p.h₀ L h' ((vl, lo2) :: (nv, fo) :: led p.h₀ [L, vl, nv] h0) := by
  refine ⟨⟨F.ns.at' fun o e => k _ _ (by simpa using Ne.symm S.vL) e, fun b o e => k b o (fun hm => ?_) (F.keep b o e), F.above⟩, fun q hq => ?_⟩
  · rw [List.mem_singleton.mp hm, S.v0] at e; cases e
  · rcases mem_c hq with rfl | hq
    · exact ⟨e, S.vL, S.v0⟩
    · refine ⟨k _ _ (fun hm => ?_) (N q (.tail _ hq)).1, (N q (.tail _ hq)).2⟩
      have hm := List.mem_singleton.mp hm
      rcases mem_c hq with rfl | hq
      · exact S.vn hm.symm
      · exact (mem_led.mp hq).1 (by rw [hm]; simp)


theorem and_bd {x m : Int} (hx : 0 ≤ x) (hm : 0 ≤ m) : 0 ≤ Builtin.bitAnd x m ∧ Builtin.bitAnd x m ≤ m := by
  rw [bitAnd_pp hx hm]
  have := @Nat.and_le_right x.toNat m.toNat
  omega

theorem seg_If {M : Model} {A A' : Around} {R : GenEnd} {Y : Protocol} {n : Nat} {s₀ : Shared} {c : Code} {fs : List Frame} {s : Shared} {env : Env} {K : Flow → Sem PySem.Fin} {H : Value → Sem PySem.Fin} {gd : Bool → Bool} {lv : List Value → List Value} {test : Expr} {body orelse : List Stmt} {pos : Pos}
    (hA : A.over c fs = A') (h : wpAny M A' (isTrue test env (eval test env)) (fun b s' => if b = true then Seg M A R Y n s₀ c ((execs body env).wrap K H gd lv) fs s' else Seg M A R Y n s₀ c ((execs orelse env).wrap K H gd lv) fs s') (fun x s' => Seg M A R Y n s₀ c (H x) fs s') s) :
    Seg M A R Y n s₀ c ((exec (.If test body orelse pos) env).wrap K H gd lv) fs s := by
  show Seg M A R Y n s₀ c (.at pos fun _ => ((isTrue test env (eval test env)) >>= fun b => if b = true then execs body env else execs orelse env).wrap K H gd lv) fs s
  refine seg_at ?_
  rw [Sem.bind_eq_wrap', Sem.wrap_wrap]
  refine seg_wrap (hA ▸ wpAny_mono h (fun b s' hb => ?_) fun _ _ x => x)
  cases b <;> exact hb


theorem nv_call {w : World} {mean mg mb G} {p : Gn} {L vl nv : Addr} {m : Str → Option Value} {h0 : Heap} {s : Shared} {dp un : Nat} {gd : Option (List Code)} {env : Env} {oc : Value} {od : Option Addr} {fd : FuncData} {sl : Array (Option Value)} {side : List (Addr × Obj)} {f : Int → Option Int} {vs : List Value} {n0 : Nat} {k : Int} {ks : List Int} {pos : Pos} {Q : Value → Shared → Prop} {E : Value → Shared → Prop}
    (S : Seat p L vl nv ⟨oc, od, .func fd, sl⟩) (St : St w mean mg mb G) (gl : Kp G p.h₀) (hdp : dp + 20 < recursionLimit) (hun : un + 60 < cLine) (hso : ∀ q ∈ side, q.1 ∉ p.own) (NV : NextV w mean mg mb G nv vl side f)
    (ok : p.Ok h0) (hn : h0.get? nv = some ⟨oc, od, .func fd, sl⟩) (sd : ∀ q ∈ side, h0.get? q.1 = some q.2) (F : Fr p.h₀ L s.heap m) (N : News p.h₀ L s.heap ((vl, W.listOf vs.toArray n0) :: (nv, ⟨oc, od, .func fd, sl⟩) :: led p.h₀ [L, vl, nv] h0)) (hi : IntsAre vs (k :: ks)) (hl : (k :: ks).length ≤ 1000)
    (hf : env.frame = some L) (hk : env.scope.kind = .function)
    (h : ∀ r, f k = some r → ∀ h' tk t vs' n', IntsAre vs' ks → Fr p.h₀ L h' m → News p.h₀ L h' ((vl, W.listOf vs'.toArray n') :: (nv, ⟨oc, od, .func fd, sl⟩) :: led p.h₀ [L, vl, nv] h0) → Q (.int r t) { s with heap := h', toks := tk })
    (hE : f k = none → ∀ h' tk e a0, FlyC p.base (env :: p.outer) e (.type "KeyError") a0 h' → UpB p.own s.heap h' → E (.ref e) { s with heap := h', toks := tk }) :
    wpAny (model PR w) ((⟨none, dp, some p.outer, gd, un⟩ : Around).deeper env) (callWith pos (.ref nv) [] (backTo pos (starEach [] env)) []) Q E s := by
  refine callWith_F0 ⟨_, _, _, _, (N _ (.tail _ (.head _))).1⟩ ?_
  obtain ⟨t, vs', rfl, hi'⟩ := hi.cons_inv
  have C := seat_cx (d := 5) (u := 40) (dp := dp) (un := un) (gd := gd) (env := env) St gl S ok hn F N hf hk (by omega) (by omega)
  refine wpAny_call ?_
  refine NV _ _ _ _ _ s _ k t vs' n0 C S.bv (fun e' he' hv => ?_) (seat_side S ok hn F N sd hso) (N _ (.head _)).1 (by rw [hi'.length]; simp only [List.length_cons] at hl; omega) (fun r hr h' tk t' n' kb ev => ?_) fun hr h' tk e a0 hfl hup => ?_
  · rcases mem_c he' with rfl | he'
    · rw [hf] at hv; cases hv; exact S.vL rfl
    · exact S.fr e' he' vl hv (by rw [S.own]; exact .tail _ (.head _))
  · obtain ⟨F', N'⟩ := seat_news S F N kb ev
    exact h r hr h' tk t' vs' n' hi' F' N'
  · exact hE hr h' tk e a0 hfl fun b o hb e hn => hup b o (fun h => hb (by rw [S.own, List.mem_singleton.mp h]; exact .tail _ (.head _))) e hn

inductive YieldTo (p : Gn) (w : World) (A : Around) (n : Nat) (s₀ : Shared) (c : Code) (fs : List Frame) (K : Flow → Sem PySem.Fin) (L vl nv : Addr) (fo : Obj) (side : List (Addr × Obj)) (v : Value) (s' : Shared) : Prop
  | mk (h' : Heap) (tk : Nat) (t : Tok) (m' : Str → Option Value) (lo : Obj) (e : s' = { s₀ with heap := h', toks := tk }) (ev : v = .int (p.out n) t) (F : Fr p.h₀ L h' m') (N : News p.h₀ L h' ((vl, lo) :: (nv, fo) :: led p.h₀ [L, vl, nv] s₀.heap))
    (next : ∀ s'' : Shared, p.Ok s''.heap → s''.heap.get? nv = some fo → (∀ q ∈ side, s''.heap.get? q.1 = some q.2) → Fr p.h₀ L s''.heap m' → News p.h₀ L s''.heap ((vl, lo) :: (nv, fo) :: led p.h₀ [L, vl, nv] s''.heap) → Seg (model PR w) A p.R p.Y n s'' c (K .next) fs s'') : YieldTo p w A n s₀ c fs K L vl nv fo side v s'
theorem seg_yield_K {p : Gn} {w : World} {A A' : Around} {n : Nat} {s₀ s : Shared} {c : Code} {fs : List Frame} {env : Env} {K : Flow → Sem PySem.Fin} {H : Value → Sem PySem.Fin} {gd : Bool → Bool} {lv : List Value → List Value} {e : Expr} {ypos pos : Pos} {L vl nv : Addr} {fo : Obj} {side : List (Addr × Obj)}
    (S : Seat p L vl nv fo) (k0 : p.Ok s₀.heap) (hn : s₀.heap.get? nv = some fo) (sd : ∀ q ∈ side, s₀.heap.get? q.1 = some q.2) (hso : ∀ q ∈ side, q.1 ∉ p.own) (hfp : ∀ q ∈ side, q.1 ∈ p.fp) (hA : A.over c fs = A') (hfs : splitAtGen fs = none) (hgd : gd false = false) (hfg : fs.any Frame.guarded = false)
    (h : wpAny (model PR w) A' (eval e env) (fun v s' => Fin (YieldTo p w A n s₀ c fs K L vl nv fo side v s'))
      (fun x s' => Seg (model PR w) A p.R p.Y (n + 1) s₀ c (H x) fs s') s) (hco : env.scope.isCoroutine = false := by rfl) (hi : interactive env = false := by rfl) :
    Seg (model PR w) A p.R p.Y (n + 1) s₀ c ((exec (.Expr (.Yield (some e) ypos) pos) env).wrap K H gd lv) fs s := by
  refine seg_Expr_Yield hfs hgd hfg (hA ▸ wpAny_mono h (fun v s' hv kap hk => ?_) fun _ _ x => x) hco hi
  obtain ⟨h', tk, t, m', lo, rfl, rfl, F, N, next⟩ := hv.out
  refine ⟨h', tk, t, rfl, rfl, seat_kept S k0.k hn F N, seat_ok S k0 hn F N, fun s'' k2 hf => hk _ _ ?_⟩
  have e1 := (N _ (.head _)).1
  have e2 := (N _ (.tail _ (.head _))).1
  have f2 := hf _ S.fn _ e2
  have F2 : Fr p.h₀ L s''.heap m' := ⟨F.ns.at' fun o eo => hf _ S.fL _ eo, k2.k, S.above⟩
  refine next s'' k2 f2 (fun q hq => hf _ (hfp q hq) _ (seat_side S k0 hn F N sd hso q hq)) F2 fun q hq => ?_
  rcases mem_c hq with rfl | hq
  · exact ⟨hf _ S.fv _ e1, S.vL, S.v0⟩
  · rcases mem_c hq with rfl | hq
    · exact ⟨f2, S.nL, S.n0⟩
    · exact led_news (by simp) q hq


noncomputable def Outs (p : Gn) : List Int → Prop
  | [] => True
  | x :: r => p.out r.length = x ∧ Outs p r

/-- six-bit outputs, little -/
noncomputable def encL : List Int → List Int
  | v1 :: v2 :: v3 :: r => Builtin.bitAnd v1 63 :: Builtin.bitOr (Builtin.bitAnd v2 15 * 2 ^ 2) (v1.fdiv (2 ^ 6)) :: Builtin.bitOr (Builtin.bitAnd v3 3 * 2 ^ 4) (v2.fdiv (2 ^ 4)) :: v3.fdiv (2 ^ 2) :: encL r
  | [v1, v2] => [Builtin.bitAnd v1 63, Builtin.bitOr (Builtin.bitAnd v2 15 * 2 ^ 2) (v1.fdiv (2 ^ 6)), v2.fdiv (2 ^ 4)]
  | [v1] => [Builtin.bitAnd v1 63, v1.fdiv (2 ^ 6)]
  | [] => []

theorem seg_loop_K {prog : Program} {w : World} {A A' : Around} {R : GenEnd} {Y : Protocol} {n : Nat} {s₀ s : Shared} {fs : List Frame} {env : Env} {test : Expr} {body orelse : List Stmt} (hA : A.over (.whileLoop test body orelse env) fs = A')
    (h : wpAny (model prog w) A' (isTrue test env (eval test env)) (fun b s' =>
        if b = true then
          Seg (model prog w) A R Y n s₀ (.whileLoop test body orelse env) ((execs body env).wrap (fun f => match f with
            | .next | .cont => .pure (.again (.whileLoop test body orelse env))
            | .brk => .pure (.done .next)
            | .ret v => .pure (.done (.ret v))) (fun e => (do noteFrame e env; theTreesLotGoes e : Sem Unit).wrap (fun _ => .raise e) .raise id id) id id) fs s'
        else Seg (model prog w) A R Y n s₀ (.whileLoop test body orelse env) ((execs orelse env).wrap (fun f => .pure (.done f)) (fun e => (do noteFrame e env; theTreesLotGoes e : Sem Unit).wrap (fun _ => .raise e) .raise id id) id id) fs s')
      (fun x s' => Seg (model prog w) A R Y n s₀ (.whileLoop test body orelse env) ((do noteFrame x env; theTreesLotGoes x : Sem Unit).wrap (fun _ => .raise x) .raise id id) fs s') s) :
    Seg (model prog w) A R Y n s₀ (.whileLoop test body orelse env) ((model prog w).den (.whileLoop test body orelse env)) fs s := seg_whileLoop (hA ▸ h)


theorem upB_of {own : List Addr} {a b c : Heap} (k : KpB own a b) (u : UpB own b c) : UpB own a c := fun x o hx e hn => u x o hx (k x o hx e) hn
theorem upB_trans {own : List Addr} {a b c : Heap} (k : UpB own a b) (u : b.UpToSlots c) : UpB own a c := fun x o hx e hn => by
  obtain ⟨sl, e1⟩ := k x o hx e hn
  obtain ⟨sl2, e2⟩ := u x _ e1 hn
  exact ⟨sl2, e2⟩

theorem setFlight_heldW {M : Model} {A : Around} {E : Value → Shared → Prop} {s : Shared} {base : Heap} {l : List Env} {e L : Addr} {cls a0 : Value} {Q : Unit → Shared → Prop} (R : Heap.HeldW base l e cls a0 L s.heap)
    (h : ∀ h', Heap.HeldW base l e cls a0 L h' → s.heap.UpToSlots h' → Q () { s with heap := h' }) : wpAny M A (setFlight (.ref e) (some L)) Q E s := by
  obtain ⟨hkb, hen, hl, oe, vs, T, oT, ts, he, hcls, hd, h1, hnT, hTe, hT, hdT, h3⟩ := R
  have hsz3 : 3 < ts.size := (Array.getElem?_eq_some_iff.mp h3).1
  have other : ∀ b, b ≠ T → (s.heap.update T (Obj.mapFields (·.setIfInBounds 3 ((some L).elim Value.none fun f => rawInt f)))).get? b = s.heap.get? b :=
    fun b hb => Heap.get?_update_other _ _ (Ne.symm hb)
  have noRecord : ∀ b o, s.heap.get? b = some o → (∀ vs, o.data ≠ .fields vs) → b ≠ T := fun b o hb hnf q => by
    rw [q, hT] at hb; injection hb with hb; subst hb; exact hnf ts hdT
  unfold setFlight
  refine wpAny_bind (wpAny_field he hd h1 ?_)
  rw [if_pos (show (Value.ref T != Value.none) = true from by simp)]
  refine wpAny_setField hT hdT hsz3 (h _ ⟨fun b o hbo => (other b fun q => by rw [q, hnT] at hbo; cases hbo).trans (hkb b o hbo), hen,
    hl.of_keeps fun b o hb hnf => ⟨o, (other b (noRecord b o hb hnf)).trans hb, rfl⟩, ?_⟩ fun b o hb hnf => ⟨o.slots, (other b (noRecord b o hb hnf)).trans hb⟩)
  exact ⟨oe, vs, T, _, _, (other e (Ne.symm hTe)).trans he, hcls, hd, h1, hnT, hTe, Heap.get?_update_self _ hT (Obj.isFreed_of_fields (Obj.data_mapFields hdT _)), Obj.data_mapFields hdT _, by simp [hsz3]⟩

theorem leaves_heldW {M : Model} {A : Around} {E : Value → Shared → Prop} {s : Shared} {base : Heap} {env : Env} {outer : List Env} {L e : Addr} {cls a0 : Value} {Q : Unit → Shared → Prop} (hf : env.frame = some L)
    (hh : Heap.HeldW base (env :: outer) e cls a0 L s.heap) (hQ : ∀ h', Heap.FlyingW base outer e cls a0 h' → s.heap.UpToSlots h' → Q () { s with heap := h' }) : wpAny M A (leaving env (.ref e)) Q E s := by
  unfold leaving
  refine wpAny_bind (wpAny_noteFrame_againW hf hh.2.2.2 ?_)
  refine wpAny_landsW hh fun h' hfl hu => ?_
  obtain ⟨k1, k2, ⟨_, _, k3⟩, k4⟩ := hfl
  exact hQ h' ⟨k1, k2, k3, k4⟩ hu

theorem setFlight_heldC {M : Model} {A : Around} {E : Value → Shared → Prop} {s : Shared} {base : Heap} {l : List Env} {e L : Addr} {cls a0 : Value} {Q : Unit → Shared → Prop} (R : HeldC base l e cls a0 L s.heap)
    (h : ∀ h', HeldC base l e cls a0 L h' → s.heap.UpToSlots h' → Q () { s with heap := h' }) : wpAny M A (setFlight (.ref e) (some L)) Q E s :=
  wpAny_presU (P := fun h' => Heap.HeldW base l e cls a0 L h' ∧ s.heap.UpToSlots h') (pres_setFlight _ _) R.2 (fun _ hQ' => setFlight_heldW R.1 fun h' x1 x2 => hQ' h' ⟨x1, x2⟩) fun h' x hc => h h' ⟨x.1, hc⟩ x.2
theorem leaves_heldC {M : Model} {A : Around} {E : Value → Shared → Prop} {s : Shared} {base : Heap} {env : Env} {outer : List Env} {L e : Addr} {cls a0 : Value} {Q : Unit → Shared → Prop} (hf : env.frame = some L)
    (hh : HeldC base (env :: outer) e cls a0 L s.heap) (hQ : ∀ h', FlyC base outer e cls a0 h' → s.heap.UpToSlots h' → Q () { s with heap := h' }) : wpAny M A (leaving env (.ref e)) Q E s :=
  wpAny_presU (P := fun h' => Heap.FlyingW base outer e cls a0 h' ∧ s.heap.UpToSlots h') (pres_leaving _ _) hh.2 (fun _ hQ' => leaves_heldW hf hh.1 fun h' x1 x2 => hQ' h' ⟨x1, x2⟩) fun h' x hc => hQ h' ⟨x.1, hc⟩ x.2

section
variable {w : World} {p : Gn} {dp un n : Nat} {gd : Option (List Code)} {s₀ : Shared} {h : Heap} {tk : Nat} {env : Env} {body : List Stmt} {L e : Addr} {a0 : Value}

theorem seg_raise_func (hb : p.bad = true) (hf : env.frame = some L) (hfl : FlyC p.base (env :: p.outer) e (.type "KeyError") a0 h) (hu : UpB p.own s₀.heap h) :
    Seg (model PR w) ⟨none, dp, some p.outer, gd, un⟩ p.R p.Y n s₀ (.func body env) ((leaving env (.ref e)).wrap (fun _ => .raise (.ref e)) .raise id id) [] { s₀ with heap := h, toks := tk } := by
  refine seg_wrap ?_
  rw [over_func]
  refine leaves_onC rfl hf hfl fun h' x1 x2 => ?_
  exact seg_end (.error (.ref e)) (.inr ⟨hb, e, a0, h', tk, rfl, rfl, x1, upB_trans hu x2⟩)

theorem seg_raise_held (hb : p.bad = true) (hf : env.frame = some L) (hfl : HeldC p.base (env :: p.outer) e (.type "KeyError") a0 L h) (hu : UpB p.own s₀.heap h) :
    Seg (model PR w) ⟨none, dp, some p.outer, gd, un⟩ p.R p.Y n s₀ (.func body env) ((leaving env (.ref e)).wrap (fun _ => .raise (.ref e)) .raise id id) [] { s₀ with heap := h, toks := tk } := by
  refine seg_wrap ?_
  rw [over_func]
  refine leaves_heldC hf hfl fun h' x1 x2 => ?_
  exact seg_end (.error (.ref e)) (.inr ⟨hb, e, a0, h', tk, rfl, rfl, x1, upB_trans hu x2⟩)

theorem seg_raise_while {test : Expr} {wb orelse : List Stmt} {K : Flow → Sem PySem.Fin} {g : Bool} {l : List Value} {pp : Pos} (hb : p.bad = true) (hf : env.frame = some L) (hfl : FlyC p.base (env :: p.outer) e (.type "KeyError") a0 h) (hu : UpB p.own s₀.heap h) :
    Seg (model PR w) ⟨none, dp, some p.outer, gd, un⟩ p.R p.Y n s₀ (.whileLoop test wb orelse env) ((do noteFrame (.ref e) env; theTreesLotGoes (.ref e) : Sem Unit).wrap (fun _ => .raise (.ref e)) .raise id id)
      [.ret (fun r => ((match r with | .ok f => (.pure f : Sem Flow) | .error e => .raise e).onRaise fun (x : Value) => do
        if (← field x 1) == Value.none then unsupported "frame.own-activation:exception-without-traceback"
        setFlight x env.frame).wrap K (fun e => (leaving env e).wrap (fun _ => .raise e) .raise id id) id id) none g l (.func body env) pp []] { s₀ with heap := h, toks := tk } := by
  refine seg_wrap ?_
  rw [over_while]
  refine wpAny_bind (looks_onC rfl hf hfl fun h' x1 x2 => ?_)
  refine wpAny_theTreesLotGoes ?_
  refine seg_leaf (r := .error (.ref e)) ?_
  refine seg_wrap ?_
  rw [over_func]
  refine wpAny_onRaise ?_
  obtain ⟨oe, vs, T, oT, ts, he, hcls, hd, h1, _⟩ := x1.1.2.2.2
  show wpAny _ _ (.raise (.ref e)) _ _ _
  refine wpAny_throw ?_
  refine wpAny_bind (wpAny_field he hd h1 ?_)
  rw [if_neg (show ¬ ((Value.ref T == Value.none) = true) from by simp)]
  rw [hf]
  refine setFlight_heldC x1 fun h2 x3 x4 => ?_
  exact seg_raise_held hb hf x3 (upB_trans (upB_trans hu x2) x4)
end


/-- the generator at hand, one word for all its data -/
structure GD where
  w : World
  mean : ExcName → Option Value
  mg : Str → Option Value
  mb : Str → Option Value
  G : Heap
  nv : Addr
  vl : Addr
  L : Addr
  oc : Value
  od : Option Addr
  fd : FuncData
  sl : Array (Option Value)
  side : List (Addr × Obj)
  f : Int → Option Int
  p : Gn
  dp : Nat
  un : Nat
  gd : Option (List Code)
noncomputable abbrev GD.fo (D : GD) : Obj := ⟨D.oc, D.od, .func D.fd, D.sl⟩
noncomputable abbrev GD.A (D : GD) : Around := ⟨none, D.dp, some D.p.outer, D.gd, D.un⟩
structure GC (D : GD) : Prop where
  S : Seat D.p D.L D.vl D.nv D.fo
  St : St D.w D.mean D.mg D.mb D.G
  gl : Kp D.G D.p.h₀
  dp : D.dp + 20 < recursionLimit
  un : D.un + 99 < cLine
  so : ∀ q ∈ D.side, q.1 ∉ D.p.own
  sf : ∀ q ∈ D.side, q.1 ∈ D.p.fp
  NV : NextV D.w D.mean D.mg D.mb D.G D.nv D.vl D.side D.f
structure GB (D : GD) (h : Heap) : Prop where
  ok : D.p.Ok h
  k : h.get? D.nv = some D.fo
  sd : ∀ q ∈ D.side, h.get? q.1 = some q.2
noncomputable abbrev Loc := List (Str × Option Value)
/-- the frame, and the ints not yet taken -/
inductive GF (D : GD) (h0 h : Heap) (m : Loc) (ks : List Int) : Prop
  | mk (vs : List Value) (n0 : Nat) (F : Fr D.p.h₀ D.L h (mp m)) (N : News D.p.h₀ D.L h ((D.vl, W.listOf vs.toArray n0) :: (D.nv, D.fo) :: led D.p.h₀ [D.L, D.vl, D.nv] h0)) (hi : IntsAre vs ks) (hl : ks.length ≤ 1000) : GF D h0 h m ks
noncomputable def gk (b : Bool) (x : Str) : Bool := ([Str.ofString "idx", Str.ofString "v1", Str.ofString "v2", Str.ofString "v3", Str.ofString "tail", Str.ofString "chunks", Str.ofString "next_value"].contains x || (b && x == Str.ofString "v4")) && !(x == ("__debug__" : Str))
/-- where the statements stand -/
structure GT (D : GD) (b : Bool) where
  cn : Str
  cs : Scope
  a : Addr
  ccd : Value
  c : Code
  fs : List Frame
  K : Flow → Sem PySem.Fin
  H : Value → Sem PySem.Fin
  gd : Bool → Bool
  lv : List Value → List Value
  hA : D.A.over c fs = D.A.deeper (envX cn cs D.L a ccd [])
  hfs : splitAtGen fs = none
  hgd : gd false = false
  hfg : fs.any Frame.guarded = false
  kd : cs.kind = .function
  co : cs.isCoroutine = false
  it : interactive (envX cn cs D.L a ccd []) = false
  nm : ∀ x, gk b x = true → cs.names.lookup x = some .local
  raise : ∀ (n : Nat) (s0 : Shared) (h : Heap) (tk : Nat) (e : Addr) (a0 : Value), D.p.bad = true → FlyC D.p.base (envX cn cs D.L a ccd [] :: D.p.outer) e (.type "KeyError") a0 h → UpB D.p.own s0.heap h → Seg (model PR D.w) D.A D.p.R D.p.Y n s0 c (H (.ref e)) fs { s0 with heap := h, toks := tk }
noncomputable abbrev GT.env {D : GD} {b : Bool} (T : GT D b) : Env := envX T.cn T.cs D.L T.a T.ccd []
noncomputable def GS {D : GD} {b : Bool} (T : GT D b) (n : Nat) (s0 : Shared) (l : List Stmt) (h : Heap) (tk : Nat) : Prop :=
  Seg (model PR D.w) D.A D.p.R D.p.Y n s0 T.c ((execs l T.env).wrap T.K T.H T.gd T.lv) T.fs { s0 with heap := h, toks := tk }
/-- within an `if` -/
noncomputable def GT.sub {D : GD} {b : Bool} (T : GT D b) (rest : List Stmt) : GT D b :=
  { T with K := fun f => match f with | .next => (execs rest T.env).wrap T.K T.H T.gd T.lv | f => T.K f }
/-- tests and ints over plain locals -/
noncomputable def GI {D : GD} {b : Bool} (T : GT D b) (m : Loc) (e : Expr) (n : Int) : Prop :=
  ∀ (s : Shared) (E Q : Value → Shared → Prop), Fr D.p.h₀ D.L s.heap (mp m) → (∀ t tk, Q (.int n t) { s with toks := tk }) → wpAny (model PR D.w) (D.A.deeper T.env) (eval e T.env) Q E s
noncomputable def GQ {D : GD} {b : Bool} (T : GT D b) (m : Loc) (e : Expr) (b : Bool) : Prop :=
  ∀ (s : Shared) (E : Value → Shared → Prop) (Q : Bool → Shared → Prop), Fr D.p.h₀ D.L s.heap (mp m) → (∀ tk, Q b { s with toks := tk }) → wpAny (model PR D.w) (D.A.deeper T.env) (isTrue e T.env (eval e T.env)) Q E s
noncomputable def evI (b : Bool) (m : Loc) : Nat → Expr → Option (Int × List Int)
  | 0, _ => none
  | i + 1, e => match e with
    | .Name x _ => if gk b x = true then (match mp m x with | some (.int v _) => some (v, []) | _ => none) else none
    | .Constant (.int v) _ _ => some (v, [])
    | .BinOp l op r _ => (match evI b m i l, evI b m i r with
      | some (x, P), some (y, R) => (match op with
        | .BitAnd => some (Builtin.bitAnd x y, P ++ R)
        | .BitOr => some (Builtin.bitOr x y, P ++ R)
        | .RShift => if 0 ≤ y then some (x.fdiv (2 ^ y.toNat), P ++ R) else none
        | .LShift => if 0 ≤ y ∧ y ≤ 1000000 then some (x * 2 ^ y.toNat, x :: (P ++ R)) else none
        | _ => none)
      | _, _ => none)
    | _ => none
section
variable {D : GD} {b : Bool} {T : GT D b} {m : Loc} {n : Nat} {s0 : Shared} {h : Heap} {tk : Nat} {rest body orelse : List Stmt} {k : Int} {ks : List Int} {x : Str} {p1 p2 p3 p4 : Pos}

theorem gk_nd {x : Str} (hx : gk b x = true) : (x == ("__debug__" : Str)) = false := by
  unfold gk at hx
  rw [Bool.and_eq_true] at hx
  simpa using hx.2
theorem gi_name {v : Int} {t : Tok} (hv : mp m x = some (.int v t)) (hx : gk b x = true) : GI T m (.Name x p1) v := fun _ _ _ F h => nameX_L F hv (h _ _) T.kd (T.nm x hx) (gk_nd hx)
theorem evI_ok : ∀ (i : Nat) (e : Expr) (v : Int) (l : List Int), evI b m i e = some (v, l) → (∀ x ∈ l, 0 ≤ x ∧ x < 256) → GI T m e v
  | 0, _, _, _, h, _ => nomatch h
  | i + 1, e, v, l, h, hl => by
    unfold evI at h
    split at h
    · rename_i x _
      split at h
      · rename_i hx
        split at h
        · rename_i hv
          cases h
          exact gi_name hv hx
        · cases h
      · cases h
    · cases h
      exact fun _ _ _ _ h => wpAny_Constant_int (h _ _)
    · split at h
      · rename_i lo op r _ _ _ x P y R h1 h2
        split at h
        · cases h
          have g1 := evI_ok i lo x P h1 fun z hz => hl z (List.mem_append_left _ hz)
          have g2 := evI_ok i r y R h2 fun z hz => hl z (List.mem_append_right _ hz)
          exact fun s E _ F h => wpAny_BinOp (g1 s E _ F fun _ _ => g2 _ E _ F fun _ _ => and_int (h _ _))
        · cases h
          have g1 := evI_ok i lo x P h1 fun z hz => hl z (List.mem_append_left _ hz)
          have g2 := evI_ok i r y R h2 fun z hz => hl z (List.mem_append_right _ hz)
          exact fun s E _ F h => wpAny_BinOp (g1 s E _ F fun _ _ => g2 _ E _ F fun _ _ => or_int (h _ _))
        · split at h
          · rename_i hy
            cases h
            have g1 := evI_ok i lo x P h1 fun z hz => hl z (List.mem_append_left _ hz)
            have g2 := evI_ok i r y R h2 fun z hz => hl z (List.mem_append_right _ hz)
            exact fun s E _ F h => wpAny_BinOp (g1 s E _ F fun _ _ => g2 _ E _ F fun _ _ => rshift_int hy (h _ _))
          · cases h
        · split at h
          · rename_i hy
            cases h
            have g1 := evI_ok i lo x P h1 fun z hz => hl z (.tail _ (List.mem_append_left _ hz))
            have g2 := evI_ok i r y R h2 fun z hz => hl z (.tail _ (List.mem_append_right _ hz))
            have hx := hl x (.head _)
            exact fun s E _ F h => wpAny_BinOp (g1 s E _ F fun _ _ => g2 _ E _ F fun _ _ => lshift_int_small hy.1 hy.2 (by have := hx.1; have := hx.2; omega) (h _ _))
          · cases h
        · cases h
      · cases h
    · cases h

theorem q_name {v : Int} {t : Tok} {r : Bool} (hv : mp m x = some (.int v t)) (hb : (v != 0) = r) (hx : gk b x = true) : GQ T m (.Name x p1) r := fun _ _ _ F h => isTrue_plain (nameX_L F hv (truthy_int (hb ▸ h _)) T.kd (T.nm x hx) (gk_nd hx))
theorem q_eq {v z : Int} {t : Tok} {u : Nat} {r : Bool} (hv : mp m x = some (.int v t)) (hb : (v == z) = r) (hx : gk b x = true) : GQ T m (.Compare (.Name x p1) [.Eq] [.Constant (.int z) u p2] p3) r := fun _ _ _ F h =>
  wpAny_isTrue_Compare1 (nameX_L F hv (wpAny_Constant_int (eq_int (wpAny_truthy_bool (hb ▸ h _)))) T.kd (T.nm x hx) (gk_nd hx))
theorem q_lt {v z : Int} {t t2 : Tok} {y : Str} {r : Bool} (hv : mp m x = some (.int v t)) (hw : mp m y = some (.int z t2)) (hb : decide (v < z) = r) (hx : gk b x = true) (hy : gk b y = true) : GQ T m (.Compare (.Name x p1) [.Lt] [.Name y p2] p3) r := fun _ _ _ F h =>
  wpAny_isTrue_Compare1 (nameX_L F hv (nameX_L F hw (lt_int (wpAny_truthy_bool (hb ▸ h _))) T.kd (T.nm y hy) (gk_nd hy)) T.kd (T.nm x hx) (gk_nd hx))

theorem g_nil (hr : GS T n s0 rest h tk) : GS (T.sub rest) n s0 [] h tk := seg_execs_nil hr
theorem g_next (C : GC D) (B : GB D s0.heap) (F : GF D s0.heap h m (k :: ks)) (hbad : D.f k = none → D.p.bad = true) (hm : mp m (Str.ofString "next_value") = some (.ref D.nv)) (hx : gk b x = true)
    (hn : ∀ r h' t tk', D.f k = some r → GF D s0.heap h' (put x (.int r t) m) ks → GS T n s0 rest h' tk') :
    GS T n s0 (.Assign [.Name x p1] (.Call (.Name (Str.ofString "next_value") p2) [] [] p3) p4 :: rest) h tk := by
  obtain ⟨vs, n0, F, N, hi, hl⟩ := F
  refine seg_stmt T.hA (wpAny_Assign_Name (Call_ (nameX_L F hm ?_ T.kd (T.nm (Str.ofString "next_value") (by rfl)))))
  refine nv_call (s := { s0 with heap := h, toks := tk }) (h0 := s0.heap) C.S C.St C.gl C.dp (Nat.lt_of_le_of_lt (Nat.add_le_add_left (by decide) _) C.un) C.so C.NV B.ok B.k B.sd F N hi hl rfl T.kd (fun r hr h3 tk3 t3 vs n3 hi F5 N5 => ?_) (fun hr h3 tk3 e a0 hfl hup => T.raise _ _ _ _ _ _ (hbad hr) hfl (upB_of (seat_kept C.S B.ok.k B.k F N) hup))
  refine st_mp F5 N5 (fun h' F' N' => ?_) T.kd (T.nm x hx)
  exact hn r h' t3 _ hr ⟨vs, n3, F', N', hi, Nat.le_of_succ_le hl⟩
theorem g_nextS {r : Int} (C : GC D) (hf : D.f k = some r) (B : GB D s0.heap) (F : GF D s0.heap h m (k :: ks)) (hm : mp m (Str.ofString "next_value") = some (.ref D.nv)) (hx : gk b x = true)
    (hn : ∀ h' t tk', GF D s0.heap h' (put x (.int r t) m) ks → GS T n s0 rest h' tk') :
    GS T n s0 (.Assign [.Name x p1] (.Call (.Name (Str.ofString "next_value") p2) [] [] p3) p4 :: rest) h tk :=
  g_next C B F (fun e => nomatch hf.symm.trans e) hm hx fun _ _ _ _ hr F => hn _ _ _ (Option.some.inj (hr.symm.trans hf) ▸ F)
theorem g_inc {v : Int} {t : Tok} {u : Nat} (F : GF D s0.heap h m ks) (hv : mp m x = some (.int v t)) (hx : gk b x = true) (hn : ∀ h' t' tk', GF D s0.heap h' (put x (.int (v + 1) t') m) ks → GS T n s0 rest h' tk') :
    GS T n s0 (.AugAssign (.Name x p1) .Add (.Constant (.int 1) u p2) p3 :: rest) h tk := by
  obtain ⟨vs, n0, F, N, hi, hl⟩ := F
  refine seg_stmt T.hA (wpAny_AugAssign_Name (wpAny_loadName_local T.kd (T.nm x hx) F.ns hv (wpAny_Constant_int (iadd_int ?_))))
  exact st_mp F N (fun h' F' N' => hn _ _ _ ⟨vs, n0, F', N', hi, hl⟩) T.kd (T.nm x hx)
theorem g_set {v : Int} {u : Nat} (F : GF D s0.heap h m ks) (hx : gk b x = true) (hn : ∀ h' t' tk', GF D s0.heap h' (put x (.int v t') m) ks → GS T n s0 rest h' tk') :
    GS T n s0 (.Assign [.Name x p1] (.Constant (.int v) u p2) p3 :: rest) h tk := by
  obtain ⟨vs, n0, F, N, hi, hl⟩ := F
  refine seg_stmt T.hA (wpAny_Assign_Name (wpAny_Constant_int ?_))
  exact st_mp F N (fun h' F' N' => hn _ _ _ ⟨vs, n0, F', N', hi, hl⟩) T.kd (T.nm x hx)
theorem g_yield {e : Expr} {v : Int} {l : List Int} (C : GC D) (B : GB D s0.heap) (F : GF D s0.heap h m ks) (ev : evI b m 5 e = some (v, l)) (hl : ∀ x ∈ l, 0 ≤ x ∧ x < 256) (ho : D.p.out n = v)
    (hn : ∀ s1 : Shared, GB D s1.heap → GF D s1.heap s1.heap m ks → GS T n s1 rest s1.heap s1.toks) : GS T (n + 1) s0 (.Expr (.Yield (some e) p1) p2 :: rest) h tk := by
  obtain ⟨vs, n0, F, N, hi, hl2⟩ := F
  refine seg_execs_cons (seg_yield_K (n := n) C.S B.ok B.k B.sd C.so C.sf T.hA T.hfs T.hgd T.hfg (evI_ok (T := T) _ _ _ _ ev hl _ _ _ F fun t tk => .mk ⟨_, _, _, _, _, rfl, by rw [ho], F, N, fun s2 ok2 k2 side2 FY2 NY2 => ?_⟩) T.co T.it)
  exact hn s2 ⟨ok2, k2, side2⟩ ⟨vs, n0, FY2, NY2, hi, hl2⟩
theorem g_if {test : Expr} {r : Bool} (F : GF D s0.heap h m ks) (ht : GQ T m test r)
    (hn : ∀ tk', GS (T.sub rest) n s0 (if r = true then body else orelse) h tk') : GS T n s0 (.If test body orelse p1 :: rest) h tk := by
  obtain ⟨vs, n0, F, N, hi, hl⟩ := F
  refine seg_execs_cons (seg_If T.hA (ht _ _ _ F fun tk => ?_))
  have := hn tk
  cases r
  · exact this
  · exact this
theorem g_assert {test : Expr} {msg : Option Expr} (F : GF D s0.heap h m ks) (ht : GQ T m test true)
    (hn : ∀ tk', GS T n s0 rest h tk') : GS T n s0 (.Assert test msg p1 :: rest) h tk := by
  obtain ⟨vs, n0, F, N, hi, hl⟩ := F
  exact seg_stmt T.hA (wpAny_Assert_holds (ht _ _ _ F fun tk => ⟨rfl, hn tk⟩))
end
section
variable (D : GD) {b : Bool} (cn : Str) (cs : Scope) (a : Addr) (ccd : Value) (body : List Stmt) (kd : cs.kind = .function) (co : cs.isCoroutine = false) (nm : ∀ x, gk b x = true → cs.names.lookup x = some .local) (it : interactive (envX cn cs D.L a ccd []) = false)
noncomputable def GT.top : GT D b :=
  { cn, cs, a, ccd, kd, co, nm, it, c := .func body (envX cn cs D.L a ccd []), fs := [], K := fun f => .pure (.done (.ret (match f with | .ret v => v | _ => .none))), H := fun e => (leaving (envX cn cs D.L a ccd []) e).wrap (fun _ => .raise e) .raise id id, gd := id, lv := id,
    hA := over_func, hfs := rfl, hgd := rfl, hfg := rfl, raise := fun _ _ _ _ _ _ hb hfl hu => seg_raise_func hb rfl hfl hu }
noncomputable def GT.loop (test : Expr) (wb orelse rest : List Stmt) (pp : Pos) : GT D b :=
  { cn, cs, a, ccd, kd, co, nm, it, c := .whileLoop test wb orelse (envX cn cs D.L a ccd []),
    fs := [.ret (fun r => ((match r with | .ok f => (.pure f : Sem Flow) | .error e => .raise e).onRaise fun (x : Value) => do
        if (← field x 1) == Value.none then unsupported "frame.own-activation:exception-without-traceback"
        setFlight x (envX cn cs D.L a ccd []).frame).wrap (fun (f : Flow) => match f with | .next => (execs rest (envX cn cs D.L a ccd [])).wrap (GT.top D cn cs a ccd body kd co nm it).K (GT.top D cn cs a ccd body kd co nm it).H id id | f => (GT.top D cn cs a ccd body kd co nm it).K f) (fun e => (leaving (envX cn cs D.L a ccd []) e).wrap (fun _ => .raise e) .raise id id) id id) none false [] (.func body (envX cn cs D.L a ccd [])) pp []],
    K := fun f => match f with | .next | .cont => .pure (.again (.whileLoop test wb orelse (envX cn cs D.L a ccd []))) | .brk => .pure (.done .next) | .ret v => .pure (.done (.ret v)),
    H := fun e => (do noteFrame e (envX cn cs D.L a ccd []); theTreesLotGoes e : Sem Unit).wrap (fun _ => .raise e) .raise id id, gd := id, lv := id,
    hA := over_while, hfs := rfl, hgd := rfl, hfg := rfl, raise := fun _ _ _ _ _ _ hb hfl hu => seg_raise_while hb rfl hfl hu }
theorem g_while {test : Expr} {wb rest : List Stmt} {pos : Pos} {Inv : Nat → Nat → Shared → Heap → Prop} (ht : ∀ (T : GT D b) j n s0 h, Inv j n s0 h → ∃ m ks, GF D s0.heap h m ks ∧ GQ T m test (j != 0))
    (step : ∀ (T : GT D b) j n s0 h tk, Inv (j + 1) n s0 h → (∀ n' s1 h' tk', Inv j n' s1 h' → GS T n' s1 [] h' tk') → GS T n s0 wb h tk)
    (exit : ∀ (T : GT D b), (∀ n s0 h tk, D.p.R n s0 (.ok (.ret .none)) { s0 with heap := h, toks := tk } → GS T n s0 [] h tk) → ∀ n s0 h tk, Inv 0 n s0 h → GS T n s0 rest h tk) (j : Nat) {n : Nat} {s0 : Shared} {h : Heap} {tk : Nat} (hI : Inv j n s0 h) :
    GS (GT.top D cn cs a ccd body kd co nm it) n s0 (.While test wb [] pos :: rest) h tk := by
  refine seg_execs_cons (seg_While fun pp => ?_)
  induction j generalizing n s0 h tk with
  | zero =>
    obtain ⟨m, ks, ⟨vs, n0, F, N, hi, hl⟩, ht⟩ := ht (GT.top D cn cs a ccd body kd co nm it) _ _ _ _ hI
    refine seg_loop_K over_while (ht { s0 with heap := h, toks := tk } _ _ F fun tk => ?_)
    refine seg_execs_nil ?_
    refine seg_leaf (r := .ok .next) ?_
    exact exit (GT.top D cn cs a ccd body kd co nm it) (fun n s0 h tk hr => seg_execs_nil (seg_end (.ok (.ret .none)) hr)) _ _ _ _ hI
  | succ j ih =>
    obtain ⟨m, ks, ⟨vs, n0, F, N, hi, hl⟩, ht⟩ := ht (GT.top D cn cs a ccd body kd co nm it) _ _ _ _ hI
    refine seg_loop_K over_while (ht { s0 with heap := h, toks := tk } _ _ F fun tk => ?_)
    exact step (GT.loop D cn cs a ccd body kd co nm it test wb [] rest pp) j n s0 h tk hI fun n' s1 h' tk' hI' => seg_execs_nil (seg_again rfl (ih hI'))
end
theorem nm_of {cs : Scope} {b : Bool} (h : ([Str.ofString "idx", Str.ofString "v1", Str.ofString "v2", Str.ofString "v3", Str.ofString "tail", Str.ofString "chunks", Str.ofString "next_value"].all fun x => cs.names.lookup x == some .local) = true) (h4 : (b = true → cs.names.lookup (Str.ofString "v4") = some .local)) : ∀ x, gk b x = true → cs.names.lookup x = some .local := fun x hx => by
  unfold gk at hx
  rw [Bool.and_eq_true, Bool.or_eq_true] at hx
  rcases hx.1 with h1 | h1
  · have := List.all_eq_true.mp h x (by simpa using h1)
    simpa using this
  · rw [Bool.and_eq_true] at h1
    rw [show x = Str.ofString "v4" by simpa using h1.2]
    exact h4 h1.1
theorem gs_top {D : GD} {b : Bool} {cn : Str} {cs : Scope} {a : Addr} {ccd : Value} {body : List Stmt} {kd : cs.kind = .function} {co : cs.isCoroutine = false} {nm : ∀ x, gk b x = true → cs.names.lookup x = some .local} {it : interactive (envX cn cs D.L a ccd []) = false} {n : Nat} {s1 : Shared}
    (h : GS (GT.top D cn cs a ccd body kd co nm it) n s1 body s1.heap s1.toks) : Seg (model PR D.w) D.A D.p.R D.p.Y n s1 (.func body (envX cn cs D.L a ccd [])) ((model PR D.w).den (.func body (envX cn cs D.L a ccd []))) [] s1 := seg_func h


/-- what the caller of a generator is to know of it -/
noncomputable def GenReady (w : World) (mean : ExcName → Option Value) (mg mb : Str → Option Value) (G : Heap) (nv : Addr) (f : Int → Option Int) (bad : Bool) (L : Addr) (m : Str → Option Value) (enc : List Int → List Int) (len : Nat) (gs : GenState) (h' : Heap) : Prop :=
  ∀ (p : Gn) (dp un : Nat) (gd : Option (List Code)) (vl : Addr) (oc : Value) (od : Option Addr) (fd : FuncData) (sl : Array (Option Value)) (side : List (Addr × Obj)) (vs : List Value) (n0 : Nat) (ks : List Int), 
    Seat p L vl nv ⟨oc, od, .func fd, sl⟩ → St w mean mg mb G → Kp G p.h₀ → dp + 20 < recursionLimit → un + 100 < cLine → (nv, ⟨oc, od, .func fd, sl⟩) ∈ side → (∀ q ∈ side, q.1 ∉ p.own) → NextV w mean mg mb G nv vl side f → p.bad = bad →
    Fr p.h₀ L h' m → (∀ q ∈ side, h'.get? q.1 = some q.2) → (∀ q ∈ side, q.1 ∈ p.fp) → h'.get? vl = some (W.listOf vs.toArray n0) → IntsAre vs ks → ks.length = len → (∀ k ∈ ks, 0 ≤ k ∧ k < 256) → ks.length ≤ 1000 → Outs p (enc ks) →
    Goes1 p w ⟨none, dp, some p.outer, gd, un⟩ (enc ks).length gs h'
/-- what the caller of a decoding generator is to know of it -/
noncomputable def GenReadyD (w : World) (mean : ExcName → Option Value) (mg mb : Str → Option Value) (G : Heap) (nv : Addr) (f : Int → Option Int) (L : Addr) (m : Str → Option Value) (dec : List Int → List Int) (len : Nat) (gs : GenState) (h' : Heap) : Prop :=
  ∀ (p : Gn) (dp un : Nat) (gd : Option (List Code)) (vl : Addr) (oc : Value) (od : Option Addr) (fd : FuncData) (sl : Array (Option Value)) (side : List (Addr × Obj)) (vs : List Value) (n0 : Nat) (ks : List Int), 
    Seat p L vl nv ⟨oc, od, .func fd, sl⟩ → St w mean mg mb G → Kp G p.h₀ → dp + 20 < recursionLimit → un + 100 < cLine → (nv, ⟨oc, od, .func fd, sl⟩) ∈ side → (∀ q ∈ side, q.1 ∉ p.own) → NextV w mean mg mb G nv vl side f →
    (∀ k ∈ ks, f k = none → p.bad = true) → (p.bad = true → ∃ k ∈ ks, f k = none) →
    Fr p.h₀ L h' m → (∀ q ∈ side, h'.get? q.1 = some q.2) → (∀ q ∈ side, q.1 ∈ p.fp) → h'.get? vl = some (W.listOf vs.toArray n0) → IntsAre vs ks → ks.length = len → (∀ k ∈ ks, 0 ≤ k ∧ k < 256) → ks.length ≤ 1000 → Outs p (dec (ks.map fun k => (f k).getD 0)) →
    Goes1 p w ⟨none, dp, some p.outer, gd, un⟩ (dec (ks.map fun k => (f k).getD 0)).length gs h'
theorem gen_in {D : GD} {s1 : Shared} {h' : Heap} {m : Loc} {vs : List Value} {n0 : Nat} {ks : List Int} (C : GC D) (hnv : (D.nv, D.fo) ∈ D.side) (F1 : Fr D.p.h₀ D.L h' (mp m)) (hs1 : ∀ q ∈ D.side, h'.get? q.1 = some q.2) (hv1 : h'.get? D.vl = some (W.listOf vs.toArray n0))
    (hi : IntsAre vs ks) (hl : ks.length ≤ 1000) (ok1 : D.p.Ok s1.heap) (hf1 : ∀ b ∈ D.p.fp, ∀ o, h'.get? b = some o → s1.heap.get? b = some o) : GB D s1.heap ∧ GF D s1.heap s1.heap m ks := by
  have S := C.S
  have k1 := hf1 _ S.fn _ (hs1 _ hnv)
  refine ⟨⟨ok1, k1, fun q hq => hf1 _ (C.sf q hq) _ (hs1 q hq)⟩, vs, n0, ⟨F1.ns.at' fun o eo => hf1 _ S.fL _ eo, ok1.k, S.above⟩, fun q hq => ?_, hi, hl⟩
  rcases mem_c hq with rfl | hq
  · exact ⟨hf1 _ S.fv _ hv1, S.vL, S.v0⟩
  · rcases mem_c hq with rfl | hq
    · exact ⟨k1, S.nL, S.n0⟩
    · exact led_news (.head _) q hq
theorem ready_of {w : World} {mean mg mb G nv f bad L} {m : Loc} {enc : List Int → List Int} {len : Nat} {gs : GenState} {h' : Heap}
    (h : ∀ (D : GD) (ks : List Int) (s1 : Shared), D.w = w → D.nv = nv → D.L = L → D.f = f → GC D → D.p.bad = bad → ks.length = len → (∀ k ∈ ks, 0 ≤ k ∧ k < 256) → Outs D.p (enc ks) → GB D s1.heap → GF D s1.heap s1.heap m ks → gs.Goes (model PR D.w) D.A D.p.R D.p.Y (enc ks).length (.send .none) s1) :
    GenReady w mean mg mb G nv f bad L (mp m) enc len gs h' := by
  intro p dp un gd vl oc od fd sl side vs n0 ks S St gl hdp hun hnv hso NV hb F1 hs1 hfp hv1 hi hlen hks hl1 ho s1 ok1 hf1
  have C : GC ⟨w, mean, mg, mb, G, nv, vl, L, oc, od, fd, sl, side, f, p, dp, un + 1, gd⟩ := ⟨S, St, gl, hdp, by show un + 1 + 99 < cLine; omega, hso, hfp, NV⟩
  obtain ⟨B, F⟩ := gen_in C hnv F1 hs1 hv1 hi hl1 ok1 hf1
  exact h _ ks s1 rfl rfl rfl rfl C hb hlen hks ho B F
theorem readyD_of {w : World} {mean mg mb G nv f L} {m : Loc} {dec : List Int → List Int} {len : Nat} {gs : GenState} {h' : Heap}
    (h : ∀ (D : GD) (ks : List Int) (s1 : Shared), D.w = w → D.nv = nv → D.L = L → D.f = f → GC D → (∀ k ∈ ks, D.f k = none → D.p.bad = true) → (D.p.bad = true → ∃ k ∈ ks, D.f k = none) → ks.length = len → Outs D.p (dec (ks.map fun k => (D.f k).getD 0)) → GB D s1.heap → GF D s1.heap s1.heap m ks →
      gs.Goes (model PR D.w) D.A D.p.R D.p.Y (dec (ks.map fun k => (D.f k).getD 0)).length (.send .none) s1) :
    GenReadyD w mean mg mb G nv f L (mp m) dec len gs h' := by
  intro p dp un gd vl oc od fd sl side vs n0 ks S St gl hdp hun hnv hso NV hb1 hb2 F1 hs1 hfp hv1 hi hlen hks hl1 ho s1 ok1 hf1
  have C : GC ⟨w, mean, mg, mb, G, nv, vl, L, oc, od, fd, sl, side, f, p, dp, un + 1, gd⟩ := ⟨S, St, gl, hdp, by show un + 1 + 99 < cLine; omega, hso, hfp, NV⟩
  obtain ⟨B, F⟩ := gen_in C hnv F1 hs1 hv1 hi hl1 ok1 hf1
  exact h _ ks s1 rfl rfl rfl rfl C hb1 hb2 hlen ho B F

/-- the locals of a generator -/
noncomputable def gl0 (tl c : Nat) (tt tc : Tok) (nv e : Addr) : Loc := [(Str.ofString "tail", some (.int tl tt)), (Str.ofString "chunks", some (.int c tc)), (Str.ofString "next_value", some (.ref nv)), (Str.ofString "self", some (.ref e))]
noncomputable def gl1 (tl c : Nat) (tt tc : Tok) (nv e : Addr) (i : Int) (ti : Tok) (o1 o2 o3 o4 : Option Value) : Loc :=
  [(Str.ofString "tail", some (.int tl tt)), (Str.ofString "chunks", some (.int c tc)), (Str.ofString "next_value", some (.ref nv)), (Str.ofString "self", some (.ref e)), (Str.ofString "idx", some (.int i ti)), (Str.ofString "v1", o1), (Str.ofString "v2", o2), (Str.ofString "v3", o3), (Str.ofString "v4", o4)]
theorem gf_cg {D : GD} {h0 h : Heap} {m m' : Loc} {ks : List Int} (F : GF D h0 h m ks) (e : ∀ y, mp m y = mp m' y) : GF D h0 h m' ks := by
  obtain ⟨vs, n0, F, N, hi, hl⟩ := F
  exact ⟨vs, n0, fr_cg F e, N, hi, hl⟩
theorem gl_01 {D : GD} {h0 h : Heap} {ks : List Int} {tl c : Nat} {tt tc ti : Tok} {nv e : Addr} {i : Int} (F : GF D h0 h (put (Str.ofString "idx") (.int i ti) (gl0 tl c tt tc nv e)) ks) : GF D h0 h (gl1 tl c tt tc nv e i ti none none none none) ks :=
  gf_cg F fun y => by rw [mp_none (Str.ofString "v1"), mp_none (Str.ofString "v2"), mp_none (Str.ofString "v3"), mp_none (Str.ofString "v4")]; rfl

theorem len_cons {l : List Int} {n : Nat} (h : n < l.length) : ∃ a r, l = a :: r ∧ l.length = r.length + 1 := by
  cases l with
  | nil => cases h
  | cons a r => exact ⟨a, r, rfl, rfl⟩
theorem len3 {l : List Int} (h : 2 < l.length) : ∃ a b c r, l = a :: b :: c :: r := by
  obtain ⟨a, l, rfl, e⟩ := len_cons h
  obtain ⟨b, l, rfl, e⟩ := len_cons (n := 1) (l := l) (by omega)
  obtain ⟨c, l, rfl, e⟩ := len_cons (n := 0) (l := l) (by omega)
  exact ⟨a, b, c, l, rfl⟩
theorem len4 {l : List Int} (h : 3 < l.length) : ∃ a b c d r, l = a :: b :: c :: d :: r := by
  obtain ⟨a, l, rfl, e⟩ := len_cons h
  obtain ⟨b, c, d, r, rfl⟩ := len3 (l := l) (by omega)
  exact ⟨a, b, c, d, r, rfl⟩
theorem len_2 {l : List Int} (h : l.length = 2) : ∃ a b, l = [a, b] := by
  obtain ⟨a, l, rfl, e⟩ := len_cons (n := 1) (l := l) (by omega)
  obtain ⟨b, rfl⟩ := List.length_eq_one_iff.mp (show l.length = 1 by omega)
  exact ⟨a, b, rfl⟩
theorem len_3 {l : List Int} (h : l.length = 3) : ∃ a b c, l = [a, b, c] := by
  obtain ⟨a, l, rfl, e⟩ := len_cons (n := 2) (l := l) (by omega)
  obtain ⟨b, c, rfl⟩ := len_2 (show l.length = 2 by omega)
  exact ⟨a, b, c, rfl⟩
theorem len_lt3 {l : List Int} (h : l.length < 3) : l = [] ∨ (∃ a, l = [a]) ∨ ∃ a b, l = [a, b] := by
  rcases (show l.length = 0 ∨ l.length = 1 ∨ l.length = 2 by omega) with e | e | e
  · exact .inl (List.length_eq_zero_iff.mp e)
  · exact .inr (.inl (List.length_eq_one_iff.mp e))
  · exact .inr (.inr (len_2 e))

/-- what holds at each turn of an encoder's loop -/
inductive EI (D : GD) (enc : List Int → List Int) (tl c : Nat) (tt tc : Tok) (e : Addr) (j n : Nat) (s0 : Shared) (h : Heap) : Prop
  | mk (i : Nat) (ti : Tok) (o1 o2 o3 o4 : Option Value) (ks : List Int) (hij : i + j = c) (hlen : ks.length = 3 * j + tl) (hks : ∀ k ∈ ks, 0 ≤ k ∧ k < 256) (ho : Outs D.p (enc ks)) (hn : n = (enc ks).length) (B : GB D s0.heap) (F : GF D s0.heap h (gl1 tl c tt tc D.nv e i ti o1 o2 o3 o4) ks) : EI D enc tl c tt tc e j n s0 h
theorem EI.test {D : GD} {enc : List Int → List Int} {tl c : Nat} {tt tc : Tok} {e : Addr} {p1 p2 p3 : Pos} {b : Bool} (T : GT D b) (j n : Nat) (s0 : Shared) (h : Heap) (I : EI D enc tl c tt tc e j n s0 h) :
    ∃ m ks, GF D s0.heap h m ks ∧ GQ T m (.Compare (.Name (Str.ofString "idx") p1) [.Lt] [.Name (Str.ofString "chunks") p2] p3) (j != 0) := by
  obtain ⟨i, ti, o1, o2, o3, o4, ks, hij, hlen, hks, ho, hn, B, F⟩ := I
  refine ⟨_, _, F, q_lt (v := i) (z := c) rfl rfl ?_ rfl rfl⟩
  cases j with
  | zero => exact decide_eq_false (by omega)
  | succ j => exact decide_eq_true (by omega)
/-- three more ints -/
theorem EI.three {D : GD} {enc : List Int → List Int} {tl c : Nat} {tt tc : Tok} {e : Addr} {j n : Nat} {s0 : Shared} {h : Heap} {P : Nat → Prop} (I : EI D enc tl c tt tc e (j + 1) n s0 h)
    (hP : ∀ (i : Nat) (ti : Tok) (o1 o2 o3 o4 : Option Value) (x1 x2 x3 : Int) (ks : List Int), (∀ (s1 : Shared) (h' : Heap) (t : Tok) (q1 q2 q3 : Option Value), Outs D.p (enc ks) → GB D s1.heap → GF D s1.heap h' (gl1 tl c tt tc D.nv e (i + 1) t q1 q2 q3 o4) ks → EI D enc tl c tt tc e j (enc ks).length s1 h') →
      (0 ≤ x1 ∧ x1 < 256) → (0 ≤ x2 ∧ x2 < 256) → (0 ≤ x3 ∧ x3 < 256) → Outs D.p (enc (x1 :: x2 :: x3 :: ks)) → GB D s0.heap → GF D s0.heap h (gl1 tl c tt tc D.nv e i ti o1 o2 o3 o4) (x1 :: x2 :: x3 :: ks) → P (enc (x1 :: x2 :: x3 :: ks)).length) : P n := by
  obtain ⟨i, ti, o1, o2, o3, o4, ks, hij, hlen, hks, ho, hn, B, F⟩ := I
  subst hn
  obtain ⟨x1, x2, x3, r, rfl⟩ := len3 (l := ks) (by omega)
  exact hP i ti o1 o2 o3 o4 x1 x2 x3 r (fun s1 h' t q1 q2 q3 ho B F => ⟨i + 1, t, q1, q2, q3, o4, r, by omega, by simp only [List.length_cons] at hlen; omega, fun k hk => hks k (.tail _ (.tail _ (.tail _ hk))), ho, rfl, B, F⟩)
      (hks _ (.head _)) (hks _ (.tail _ (.head _))) (hks _ (.tail _ (.tail _ (.head _)))) ho B F
/-- at the loop's end -/
theorem EI.end {D : GD} {enc : List Int → List Int} {tl c : Nat} {tt tc : Tok} {e : Addr} {n : Nat} {s0 : Shared} {h : Heap} {P : Nat → Prop} (I : EI D enc tl c tt tc e 0 n s0 h) (htl : tl < 3)
    (h0 : ∀ i ti o1 o2 o3 o4, tl = 0 → GB D s0.heap → GF D s0.heap h (gl1 0 c tt tc D.nv e i ti o1 o2 o3 o4) [] → P (enc []).length)
    (h1 : ∀ i ti o1 o2 o3 o4 x1, tl = 1 → GB D s0.heap → GF D s0.heap h (gl1 1 c tt tc D.nv e i ti o1 o2 o3 o4) [x1] → (0 ≤ x1 ∧ x1 < 256) → Outs D.p (enc [x1]) → P (enc [x1]).length)
    (h2 : ∀ i ti o1 o2 o3 o4 x1 x2, tl = 2 → GB D s0.heap → GF D s0.heap h (gl1 2 c tt tc D.nv e i ti o1 o2 o3 o4) [x1, x2] → (0 ≤ x1 ∧ x1 < 256) → (0 ≤ x2 ∧ x2 < 256) → Outs D.p (enc [x1, x2]) → P (enc [x1, x2]).length) : P n := by
  obtain ⟨i, ti, o1, o2, o3, o4, ks, hij, hlen, hks, ho, hn, B, F⟩ := I
  rw [Nat.mul_zero, Nat.zero_add] at hlen
  subst hn hlen
  rcases len_lt3 htl with rfl | ⟨a, rfl⟩ | ⟨a, b, rfl⟩
  · exact h0 _ _ _ _ _ _ rfl B F
  · exact h1 _ _ _ _ _ _ a rfl B F (hks _ (.head _)) ho
  · exact h2 _ _ _ _ _ _ a b rfl B F (hks _ (.head _)) (hks _ (.tail _ (.head _))) ho
theorem bd0 : ∀ x ∈ ([] : List Int), 0 ≤ x ∧ x < 256 := List.forall_mem_nil _
theorem bd1 {x : Int} (h : 0 ≤ x ∧ x < 256) : ∀ y ∈ [x], 0 ≤ y ∧ y < 256 := forall_cons h bd0
theorem and_b {x m : Int} (hx : 0 ≤ x ∧ x < 256) (hm : 0 ≤ m ∧ m < 256) : 0 ≤ Builtin.bitAnd x m ∧ Builtin.bitAnd x m < 256 := by
  have := and_bd hx.1 hm.1
  omega
theorem gR {D : GD} {s0 : Shared} {h : Heap} {tk : Nat} {m : Loc} {ks : List Int} (C : GC D) (hb : D.p.bad = false) (B : GB D s0.heap) (F : GF D s0.heap h m ks) : D.p.R 0 s0 (.ok (.ret .none)) { s0 with heap := h, toks := tk } := by
  obtain ⟨vs, n0, F, N, hi, hl⟩ := F
  exact .inl ⟨hb, rfl, rfl, _, _, rfl, seat_kept C.S B.ok.k B.k F N⟩

/-- what holds at each turn of a decoder's loop -/
inductive DI (D : GD) (dec : List Int → List Int) (tl c : Nat) (tt tc : Tok) (e : Addr) (j n : Nat) (s0 : Shared) (h : Heap) : Prop
  | mk (i : Nat) (ti : Tok) (o1 o2 o3 o4 : Option Value) (ks : List Int) (hij : i + j = c) (hlen : ks.length = 4 * j + tl) (hbad : ∀ k ∈ ks, D.f k = none → D.p.bad = true) (hgood : D.p.bad = true → ∃ k ∈ ks, D.f k = none)
    (ho : Outs D.p (dec (ks.map fun k => (D.f k).getD 0))) (hn : n = (dec (ks.map fun k => (D.f k).getD 0)).length) (B : GB D s0.heap) (F : GF D s0.heap h (gl1 tl c tt tc D.nv e i ti o1 o2 o3 o4) ks) : DI D dec tl c tt tc e j n s0 h
theorem DI.test {D : GD} {dec : List Int → List Int} {tl c : Nat} {tt tc : Tok} {e : Addr} {p1 p2 p3 : Pos} {b : Bool} (T : GT D b) (j n : Nat) (s0 : Shared) (h : Heap) (I : DI D dec tl c tt tc e j n s0 h) :
    ∃ m ks, GF D s0.heap h m ks ∧ GQ T m (.Compare (.Name (Str.ofString "idx") p1) [.Lt] [.Name (Str.ofString "chunks") p2] p3) (j != 0) := by
  obtain ⟨i, ti, o1, o2, o3, o4, ks, hij, hlen, hbad, hgood, ho, hn, B, F⟩ := I
  refine ⟨_, _, F, q_lt (v := i) (z := c) rfl rfl ?_ rfl rfl⟩
  cases j with
  | zero => exact decide_eq_false (by omega)
  | succ j => exact decide_eq_true (by omega)
theorem gd_some {f : Int → Option Int} {x r : Int} (h : f x = some r) : (f x).getD 0 = r := by rw [h]; rfl
theorem not_bad {f : Int → Option Int} {b : Bool} {ks : List Int} (hgood : b = true → ∃ k ∈ ks, f k = none) (h : ∀ k ∈ ks, f k ≠ none) : b = false := by
  cases b with
  | false => rfl
  | true => obtain ⟨k, hk, e⟩ := hgood rfl; exact absurd e (h k hk)
theorem ne_of_some {f : Int → Option Int} {x r : Int} (h : f x = some r) : f x ≠ none := fun e => nomatch h.symm.trans e
/-- four more ints -/
theorem DI.four {D : GD} {dec : List Int → List Int} {tl c : Nat} {tt tc : Tok} {e : Addr} {j n : Nat} {s0 : Shared} {h : Heap} {P : Nat → Prop} (I : DI D dec tl c tt tc e (j + 1) n s0 h)
    (hP : ∀ (i : Nat) (ti : Tok) (o1 o2 o3 o4 : Option Value) (x1 x2 x3 x4 : Int) (ks : List Int), (∀ r1 r2 r3 r4, D.f x1 = some r1 → D.f x2 = some r2 → D.f x3 = some r3 → D.f x4 = some r4 → Outs D.p (dec (r1 :: r2 :: r3 :: r4 :: ks.map fun k => (D.f k).getD 0)) ∧
        ∀ (s1 : Shared) (h' : Heap) (t : Tok) (q1 q2 q3 q4 : Option Value), Outs D.p (dec (ks.map fun k => (D.f k).getD 0)) → GB D s1.heap → GF D s1.heap h' (gl1 tl c tt tc D.nv e (i + 1) t q1 q2 q3 q4) ks → DI D dec tl c tt tc e j (dec (ks.map fun k => (D.f k).getD 0)).length s1 h') →
      (D.f x1 = none → D.p.bad = true) → (D.f x2 = none → D.p.bad = true) → (D.f x3 = none → D.p.bad = true) → (D.f x4 = none → D.p.bad = true) → GB D s0.heap → GF D s0.heap h (gl1 tl c tt tc D.nv e i ti o1 o2 o3 o4) (x1 :: x2 :: x3 :: x4 :: ks) →
      P (dec ((D.f x1).getD 0 :: (D.f x2).getD 0 :: (D.f x3).getD 0 :: (D.f x4).getD 0 :: ks.map fun k => (D.f k).getD 0)).length) : P n := by
  obtain ⟨i, ti, o1, o2, o3, o4, ks, hij, hlen, hbad, hgood, ho, hn, B, F⟩ := I
  subst hn
  obtain ⟨x1, x2, x3, x4, r, rfl⟩ := len4 (l := ks) (by omega)
  refine hP i ti o1 o2 o3 o4 x1 x2 x3 x4 r (fun r1 r2 r3 r4 e1 e2 e3 e4 => ⟨?_, fun s1 h' t q1 q2 q3 q4 ho B F => ⟨i + 1, t, q1, q2, q3, q4, r, by omega, by simp only [List.length_cons] at hlen; omega, fun k hk => hbad k (.tail _ (.tail _ (.tail _ (.tail _ hk)))), fun hb => ?_, ho, rfl, B, F⟩⟩)
    (hbad _ (.head _)) (hbad _ (.tail _ (.head _))) (hbad _ (.tail _ (.tail _ (.head _)))) (hbad _ (.tail _ (.tail _ (.tail _ (.head _))))) B F
  · rw [← gd_some e1, ← gd_some e2, ← gd_some e3, ← gd_some e4]; exact ho
  · obtain ⟨k, hk, hn⟩ := hgood hb
    rcases mem_c hk with rfl | hk
    · exact absurd hn (ne_of_some e1)
    rcases mem_c hk with rfl | hk
    · exact absurd hn (ne_of_some e2)
    rcases mem_c hk with rfl | hk
    · exact absurd hn (ne_of_some e3)
    rcases mem_c hk with rfl | hk
    · exact absurd hn (ne_of_some e4)
    exact ⟨k, hk, hn⟩
/-- at the loop's end -/
theorem DI.end {D : GD} {dec : List Int → List Int} {tl c : Nat} {tt tc : Tok} {e : Addr} {n : Nat} {s0 : Shared} {h : Heap} {P : Nat → Prop} (I : DI D dec tl c tt tc e 0 n s0 h) (htl : tl = 0 ∨ tl = 2 ∨ tl = 3)
    (h0 : ∀ i ti o1 o2 o3 o4, tl = 0 → D.p.bad = false → GB D s0.heap → GF D s0.heap h (gl1 0 c tt tc D.nv e i ti o1 o2 o3 o4) [] → P (dec []).length)
    (h2 : ∀ i ti o1 o2 o3 o4 x1 x2, tl = 2 → (∀ r1 r2, D.f x1 = some r1 → D.f x2 = some r2 → D.p.bad = false ∧ Outs D.p (dec [r1, r2])) → (D.f x1 = none → D.p.bad = true) → (D.f x2 = none → D.p.bad = true) → GB D s0.heap → GF D s0.heap h (gl1 2 c tt tc D.nv e i ti o1 o2 o3 o4) [x1, x2] → P (dec [(D.f x1).getD 0, (D.f x2).getD 0]).length)
    (h3 : ∀ i ti o1 o2 o3 o4 x1 x2 x3, tl = 3 → (∀ r1 r2 r3, D.f x1 = some r1 → D.f x2 = some r2 → D.f x3 = some r3 → D.p.bad = false ∧ Outs D.p (dec [r1, r2, r3])) → (∀ r1 r2, D.f x1 = some r1 → D.f x2 = some r2 → Outs D.p (dec [r1, r2, (D.f x3).getD 0])) → (D.f x1 = none → D.p.bad = true) → (D.f x2 = none → D.p.bad = true) → (D.f x3 = none → D.p.bad = true) →
      GB D s0.heap → GF D s0.heap h (gl1 3 c tt tc D.nv e i ti o1 o2 o3 o4) [x1, x2, x3] → P (dec [(D.f x1).getD 0, (D.f x2).getD 0, (D.f x3).getD 0]).length) : P n := by
  obtain ⟨i, ti, o1, o2, o3, o4, ks, hij, hlen, hbad, hgood, ho, hn, B, F⟩ := I
  rw [Nat.mul_zero, Nat.zero_add] at hlen
  subst hn hlen
  rcases htl with h | h | h
  · obtain rfl := List.length_eq_zero_iff.mp h
    exact h0 _ _ _ _ _ _ rfl (not_bad hgood (List.forall_mem_nil _)) B F
  · obtain ⟨a, b, rfl⟩ := len_2 h
    exact h2 _ _ _ _ _ _ a b rfl (fun r1 r2 e1 e2 => ⟨not_bad hgood (forall_cons (ne_of_some e1) (forall_cons (ne_of_some e2) (List.forall_mem_nil _))), by rw [← gd_some e1, ← gd_some e2]; exact ho⟩) (hbad _ (.head _)) (hbad _ (.tail _ (.head _))) B F
  · obtain ⟨a, b, d, rfl⟩ := len_3 h
    exact h3 _ _ _ _ _ _ a b d rfl (fun r1 r2 r3 e1 e2 e3 => ⟨not_bad hgood (forall_cons (ne_of_some e1) (forall_cons (ne_of_some e2) (forall_cons (ne_of_some e3) (List.forall_mem_nil _)))), by rw [← gd_some e1, ← gd_some e2, ← gd_some e3]; exact ho⟩) (fun r1 r2 e1 e2 => by rw [← gd_some e1, ← gd_some e2]; exact ho) (hbad _ (.head _)) (hbad _ (.tail _ (.head _))) (hbad _ (.tail _ (.tail _ (.head _)))) B F


theorem gen98 {w : World} {mean mg mb G base outer d u dp un gd} {s : Shared} {R : Result → Shared → Prop} {e nv : Addr} {c tl : Nat} {tc tt : Tok}
    (C : Cx w mean mg mb G ⟨none, dp, some outer, gd, un⟩ base outer d u s.heap) (hd : 1 ≤ d) (htl : tl < 3)
    (hR : ∀ L h' a tk nm qn gs, Fr s.heap L h' (mp (gl0 tl c tt tc nv e)) → News s.heap L h' [(a, genObj s.gens.size nm qn)] → L < a →
      GenReady w mean mg mb G nv some false L (mp (gl0 tl c tt tc nv e)) encL (3 * c + tl) gs h' →
      R (.ok (.ret (.ref a))) { s with heap := h', toks := tk, gens := s.gens.push gs }) :
    codeAny (model PR w) ⟨none, dp, some outer, gd, un⟩ (.call (.ref 98) ⟨[.ref e, .ref nv, .int c tc, .int tl tt], []⟩) R s := by
  have X0 := C.X
  revert X0
  delta PR
  k_fill
  intro X0
  refine enterG C hd (by k_is) (by k_is) (BindsTo.of_eq rfl) (locs rfl) ?_ rfl rfl rfl (by decide)
  intro L h' a tk nm qn F N hLa
  refine hR L h' a tk nm qn _ F N hLa (ready_of fun D ks s1 hw hnv hL hf GC1 hb hlen hks ho B GF1 => ?_)
  clear hR F N X0 C hd hLa
  subst hw hnv hL
  rename GC _ => C
  rename GF _ _ _ _ _ => F
  have f (x : Int) : D.f x = some x := congrFun hf x
  refine ⟨rfl, gs_top (b := false) (kd := rfl) (co := rfl) (nm := nm_of rfl nofun) (it := rfl) (g_set F rfl fun h2 t2 tk2 F => ?_)⟩
  refine g_while D _ _ _ _ _ _ _ _ _ (Inv := EI D encL tl c tt tc e) EI.test (fun T j n s0 h tk I again => ?_) (fun T fin n s0 h tk I => ?_) c ⟨0, t2, none, none, none, none, ks, Nat.zero_add _, hlen, hks, ho, rfl, B, gl_01 F⟩
  · refine I.three (P := fun n => GS T n s0 _ h tk) fun i ti o1 o2 o3 o4 x1 x2 x3 ks next b1 b2 b3 ho B F => ?_
    exact g_nextS C (f x1) B F rfl rfl fun _ _ _ F => g_nextS C (f x2) B F rfl rfl fun _ _ _ F => g_nextS C (f x3) B F rfl rfl fun _ _ _ F =>
      g_yield C B F rfl bd0 ho.1 fun s1 B F => g_yield C B F rfl (bd1 (and_b b2 (by decide))) ho.2.1 fun s1 B F => g_yield C B F rfl (bd1 (and_b b3 (by decide))) ho.2.2.1 fun s1 B F => g_yield C B F rfl bd0 ho.2.2.2.1 fun s1 B F =>
      g_inc F rfl rfl fun h' t' tk' F => again _ _ _ _ (next _ _ _ _ _ _ ho.2.2.2.2 B F)
  · refine I.end (P := fun n => GS T n s0 _ h tk) htl (fun i ti o1 o2 o3 o4 _ B F => ?_) (fun i ti o1 o2 o3 o4 x1 _ B F b1 ho => ?_) (fun i ti o1 o2 o3 o4 x1 x2 _ B F b1 b2 ho => ?_)
    · exact g_if F (q_name rfl rfl rfl) fun _ => g_nil (fin _ _ _ _ (gR C hb B F))
    · exact g_if F (q_name rfl rfl rfl) fun _ => g_nextS C (f x1) B F rfl rfl fun _ _ _ F => g_if F (q_eq rfl rfl rfl) fun _ =>
        g_yield C B F rfl bd0 ho.1 fun s1 B F => g_yield C B F rfl bd0 ho.2.1 fun s1 B F => g_nil (g_nil (fin _ _ _ _ (gR C hb B F)))
    · exact g_if F (q_name rfl rfl rfl) fun _ => g_nextS C (f x1) B F rfl rfl fun _ _ _ F => g_if F (q_eq rfl rfl rfl) fun _ => g_assert F (q_eq rfl rfl rfl) fun _ => g_nextS C (f x2) B F rfl rfl fun _ _ _ F =>
        g_yield C B F rfl bd0 ho.1 fun s1 B F => g_yield C B F rfl (bd1 (and_b b2 (by decide))) ho.2.1 fun s1 B F => g_yield C B F rfl bd0 ho.2.2.1 fun s1 B F => g_nil (g_nil (fin _ _ _ _ (gR C hb B F)))

end
section

noncomputable def encB : List Int → List Int
  | v1 :: v2 :: v3 :: r => v1.fdiv (2 ^ 2) :: Builtin.bitOr (Builtin.bitAnd v1 3 * 2 ^ 4) (v2.fdiv (2 ^ 4)) :: Builtin.bitOr (Builtin.bitAnd v2 15 * 2 ^ 2) (v3.fdiv (2 ^ 6)) :: Builtin.bitAnd v3 63 :: encB r
  | [v1, v2] => [v1.fdiv (2 ^ 2), Builtin.bitOr (Builtin.bitAnd v1 3 * 2 ^ 4) (v2.fdiv (2 ^ 4)), Builtin.bitAnd v2 15 * 2 ^ 2]
  | [v1] => [v1.fdiv (2 ^ 2), Builtin.bitAnd v1 3 * 2 ^ 4]
  | [] => []

theorem gen105 {w : World} {mean mg mb G base outer d u dp un gd} {s : Shared} {R : Result → Shared → Prop} {e nv : Addr} {c tl : Nat} {tc tt : Tok}
    (C : Cx w mean mg mb G ⟨none, dp, some outer, gd, un⟩ base outer d u s.heap) (hd : 1 ≤ d) (htl : tl < 3)
    (hR : ∀ L h' a tk nm qn gs, Fr s.heap L h' (mp (gl0 tl c tt tc nv e)) → News s.heap L h' [(a, genObj s.gens.size nm qn)] → L < a →
      GenReady w mean mg mb G nv some false L (mp (gl0 tl c tt tc nv e)) encB (3 * c + tl) gs h' →
      R (.ok (.ret (.ref a))) { s with heap := h', toks := tk, gens := s.gens.push gs }) :
    codeAny (model PR w) ⟨none, dp, some outer, gd, un⟩ (.call (.ref 105) ⟨[.ref e, .ref nv, .int c tc, .int tl tt], []⟩) R s := by
  have X0 := C.X
  revert X0
  delta PR
  k_fill
  intro X0
  refine enterG C hd (by k_is) (by k_is) (BindsTo.of_eq rfl) (locs rfl) ?_ rfl rfl rfl (by decide)
  intro L h' a tk nm qn F N hLa
  refine hR L h' a tk nm qn _ F N hLa (ready_of fun D ks s1 hw hnv hL hf GC1 hb hlen hks ho B GF1 => ?_)
  clear hR F N X0 C hd hLa
  subst hw hnv hL
  rename GC _ => C
  rename GF _ _ _ _ _ => F
  have f (x : Int) : D.f x = some x := congrFun hf x
  refine ⟨rfl, gs_top (b := false) (kd := rfl) (co := rfl) (nm := nm_of rfl nofun) (it := rfl) (g_set F rfl fun h2 t2 tk2 F => ?_)⟩
  refine g_while D _ _ _ _ _ _ _ _ _ (Inv := EI D encB tl c tt tc e) EI.test (fun T j n s0 h tk I again => ?_) (fun T fin n s0 h tk I => ?_) c ⟨0, t2, none, none, none, none, ks, Nat.zero_add _, hlen, hks, ho, rfl, B, gl_01 F⟩
  · refine I.three (P := fun n => GS T n s0 _ h tk) fun i ti o1 o2 o3 o4 x1 x2 x3 ks next b1 b2 b3 ho B F => ?_
    exact g_nextS C (f x1) B F rfl rfl fun _ _ _ F => g_nextS C (f x2) B F rfl rfl fun _ _ _ F => g_nextS C (f x3) B F rfl rfl fun _ _ _ F =>
      g_yield C B F rfl bd0 ho.1 fun s1 B F => g_yield C B F rfl (bd1 (and_b b1 (by decide))) ho.2.1 fun s1 B F => g_yield C B F rfl (bd1 (and_b b2 (by decide))) ho.2.2.1 fun s1 B F => g_yield C B F rfl bd0 ho.2.2.2.1 fun s1 B F =>
      g_inc F rfl rfl fun h' t' tk' F => again _ _ _ _ (next _ _ _ _ _ _ ho.2.2.2.2 B F)
  · refine I.end (P := fun n => GS T n s0 _ h tk) htl (fun i ti o1 o2 o3 o4 _ B F => ?_) (fun i ti o1 o2 o3 o4 x1 _ B F b1 ho => ?_) (fun i ti o1 o2 o3 o4 x1 x2 _ B F b1 b2 ho => ?_)
    · exact g_if F (q_name rfl rfl rfl) fun _ => g_nil (fin _ _ _ _ (gR C hb B F))
    · exact g_if F (q_name rfl rfl rfl) fun _ => g_nextS C (f x1) B F rfl rfl fun _ _ _ F => g_if F (q_eq rfl rfl rfl) fun _ =>
        g_yield C B F rfl bd0 ho.1 fun s1 B F => g_yield C B F rfl (bd1 (and_b b1 (by decide))) ho.2.1 fun s1 B F => g_nil (g_nil (fin _ _ _ _ (gR C hb B F)))
    · exact g_if F (q_name rfl rfl rfl) fun _ => g_nextS C (f x1) B F rfl rfl fun _ _ _ F => g_if F (q_eq rfl rfl rfl) fun _ => g_assert F (q_eq rfl rfl rfl) fun _ => g_nextS C (f x2) B F rfl rfl fun _ _ _ F =>
        g_yield C B F rfl bd0 ho.1 fun s1 B F => g_yield C B F rfl (bd1 (and_b b1 (by decide))) ho.2.1 fun s1 B F => g_yield C B F rfl (bd1 (and_b b2 (by decide))) ho.2.2.1 fun s1 B F => g_nil (g_nil (fin _ _ _ _ (gR C hb B F)))


/-- eight-bit outputs, little -/
noncomputable def decL : List Int → List Int
  | v1 :: v2 :: v3 :: v4 :: r => Builtin.bitOr v1 (Builtin.bitAnd v2 3 * 2 ^ 6) :: Builtin.bitOr (v2.fdiv (2 ^ 2)) (Builtin.bitAnd v3 15 * 2 ^ 4) :: Builtin.bitOr (v3.fdiv (2 ^ 4)) (v4 * 2 ^ 2) :: decL r
  | [v1, v2, v3] => [Builtin.bitOr v1 (Builtin.bitAnd v2 3 * 2 ^ 6), Builtin.bitOr (v2.fdiv (2 ^ 2)) (Builtin.bitAnd v3 15 * 2 ^ 4)]
  | [v1, v2] => [Builtin.bitOr v1 (Builtin.bitAnd v2 3 * 2 ^ 6)]
  | _ => []
/-- eight-bit outputs, big -/
noncomputable def decB : List Int → List Int
  | v1 :: v2 :: v3 :: v4 :: r => Builtin.bitOr (v1 * 2 ^ 2) (v2.fdiv (2 ^ 4)) :: Builtin.bitOr (Builtin.bitAnd v2 15 * 2 ^ 4) (v3.fdiv (2 ^ 2)) :: Builtin.bitOr (Builtin.bitAnd v3 3 * 2 ^ 6) v4 :: decB r
  | [v1, v2, v3] => [Builtin.bitOr (v1 * 2 ^ 2) (v2.fdiv (2 ^ 4)), Builtin.bitOr (Builtin.bitAnd v2 15 * 2 ^ 4) (v3.fdiv (2 ^ 2))]
  | [v1, v2] => [Builtin.bitOr (v1 * 2 ^ 2) (v2.fdiv (2 ^ 4))]
  | _ => []

theorem gen119 {w : World} {mean mg mb G base outer d u dp un gd} {s : Shared} {R : Result → Shared → Prop} {e nv : Addr} {c tl : Nat} {tc tt : Tok} {f : Int → Option Int}
    (C : Cx w mean mg mb G ⟨none, dp, some outer, gd, un⟩ base outer d u s.heap) (hd : 1 ≤ d) (htl : tl = 0 ∨ tl = 2 ∨ tl = 3) (hfb : ∀ k r, f k = some r → 0 ≤ r ∧ r < 64)
    (hR : ∀ L h' a tk nm qn gs, Fr s.heap L h' (mp (gl0 tl c tt tc nv e)) → News s.heap L h' [(a, genObj s.gens.size nm qn)] → L < a →
      GenReadyD w mean mg mb G nv f L (mp (gl0 tl c tt tc nv e)) decL (4 * c + tl) gs h' →
      R (.ok (.ret (.ref a))) { s with heap := h', toks := tk, gens := s.gens.push gs }) :
    codeAny (model PR w) ⟨none, dp, some outer, gd, un⟩ (.call (.ref 119) ⟨[.ref e, .ref nv, .int c tc, .int tl tt], []⟩) R s := by
  have X0 := C.X
  revert X0
  delta PR
  k_fill
  intro X0
  refine enterG C hd (by k_is) (by k_is) (BindsTo.of_eq rfl) (locs rfl) ?_ rfl rfl rfl (by decide)
  intro L h' a tk nm qn F N hLa
  refine hR L h' a tk nm qn _ F N hLa (readyD_of fun D ks s1 hw hnv hL hf GC1 hbad hgood hlen ho B GF1 => ?_)
  clear hR F N X0 C hd hLa
  subst hw hnv hL hf
  rename GC _ => C
  rename GF _ _ _ _ _ => F
  have bd : ∀ {k r : Int}, D.f k = some r → 0 ≤ r ∧ r < 256 := fun h => ⟨(hfb _ _ h).1, Int.lt_trans (hfb _ _ h).2 (by decide)⟩
  clear hfb
  refine ⟨rfl, gs_top (b := true) (kd := rfl) (co := rfl) (nm := nm_of rfl fun _ => rfl) (it := rfl) (g_set F rfl fun h2 t2 tk2 F => ?_)⟩
  refine g_while D _ _ _ _ _ _ _ _ _ (Inv := DI D decL tl c tt tc e) DI.test (fun T j n s0 h tk I again => ?_) (fun T fin n s0 h tk I => ?_) c ⟨0, t2, none, none, none, none, ks, Nat.zero_add _, hlen, hbad, hgood, ho, rfl, B, gl_01 F⟩
  · refine I.four (P := fun n => GS T n s0 _ h tk) fun i ti o1 o2 o3 o4 x1 x2 x3 x4 ks next g1 g2 g3 g4 B F => ?_
    refine g_next C B F g1 rfl rfl fun r1 _ _ _ e1 F => g_next C B F g2 rfl rfl fun r2 _ _ _ e2 F => g_next C B F g3 rfl rfl fun r3 _ _ _ e3 F => g_next C B F g4 rfl rfl fun r4 _ _ _ e4 F => ?_
    have ho := (next _ _ _ _ e1 e2 e3 e4).1
    exact g_yield C B F rfl (bd1 (and_b (bd e2) (by decide))) ho.1 fun s1 B F => g_yield C B F rfl (bd1 (and_b (bd e3) (by decide))) ho.2.1 fun s1 B F => g_yield C B F rfl (bd1 (bd e4)) ho.2.2.1 fun s1 B F => g_inc F rfl rfl fun h' t' tk' F => again _ _ _ _ ((next _ _ _ _ e1 e2 e3 e4).2 _ _ _ _ _ _ _ ho.2.2.2 B F)
  · refine I.end (P := fun n => GS T n s0 _ h tk) htl (fun i ti o1 o2 o3 o4 _ hb B F => ?_) (fun i ti o1 o2 o3 o4 x1 x2 _ ho g1 g2 B F => ?_) (fun i ti o1 o2 o3 o4 x1 x2 x3 _ ho ho2 g1 g2 g3 B F => ?_)
    · exact g_if F (q_name rfl rfl rfl) fun _ => g_nil (fin _ _ _ _ (gR C hb B F))
    · exact g_if F (q_name rfl rfl rfl) fun _ => g_next C B F g1 rfl rfl fun r1 _ _ _ e1 F => g_next C B F g2 rfl rfl fun r2 _ _ _ e2 F =>
        g_yield C B F rfl (bd1 (and_b (bd e2) (by decide))) (ho _ _ e1 e2).2.1 fun s1 B F => g_if F (q_eq rfl rfl rfl) fun _ => g_nil (g_nil (fin _ _ _ _ (gR C (ho _ _ e1 e2).1 B F)))
    · exact g_if F (q_name rfl rfl rfl) fun _ => g_next C B F g1 rfl rfl fun r1 _ _ _ e1 F => g_next C B F g2 rfl rfl fun r2 _ _ _ e2 F =>
        g_yield C B F rfl (bd1 (and_b (bd e2) (by decide))) (ho2 _ _ e1 e2).1 fun s1 B F => g_if F (q_eq rfl rfl rfl) fun _ => g_next C B F g3 rfl rfl fun r3 _ _ _ e3 F => g_yield C B F rfl (bd1 (and_b (bd e3) (by decide))) (ho _ _ _ e1 e2 e3).2.2.1 fun s1 B F => g_nil (g_nil (fin _ _ _ _ (gR C (ho _ _ _ e1 e2 e3).1 B F)))


theorem gen126 {w : World} {mean mg mb G base outer d u dp un gd} {s : Shared} {R : Result → Shared → Prop} {e nv : Addr} {c tl : Nat} {tc tt : Tok} {f : Int → Option Int}
    (C : Cx w mean mg mb G ⟨none, dp, some outer, gd, un⟩ base outer d u s.heap) (hd : 1 ≤ d) (htl : tl = 0 ∨ tl = 2 ∨ tl = 3) (hfb : ∀ k r, f k = some r → 0 ≤ r ∧ r < 64)
    (hR : ∀ L h' a tk nm qn gs, Fr s.heap L h' (mp (gl0 tl c tt tc nv e)) → News s.heap L h' [(a, genObj s.gens.size nm qn)] → L < a →
      GenReadyD w mean mg mb G nv f L (mp (gl0 tl c tt tc nv e)) decB (4 * c + tl) gs h' →
      R (.ok (.ret (.ref a))) { s with heap := h', toks := tk, gens := s.gens.push gs }) :
    codeAny (model PR w) ⟨none, dp, some outer, gd, un⟩ (.call (.ref 126) ⟨[.ref e, .ref nv, .int c tc, .int tl tt], []⟩) R s := by
  have X0 := C.X
  revert X0
  delta PR
  k_fill
  intro X0
  refine enterG C hd (by k_is) (by k_is) (BindsTo.of_eq rfl) (locs rfl) ?_ rfl rfl rfl (by decide)
  intro L h' a tk nm qn F N hLa
  refine hR L h' a tk nm qn _ F N hLa (readyD_of fun D ks s1 hw hnv hL hf GC1 hbad hgood hlen ho B GF1 => ?_)
  clear hR F N X0 C hd hLa
  subst hw hnv hL hf
  rename GC _ => C
  rename GF _ _ _ _ _ => F
  have bd : ∀ {k r : Int}, D.f k = some r → 0 ≤ r ∧ r < 256 := fun h => ⟨(hfb _ _ h).1, Int.lt_trans (hfb _ _ h).2 (by decide)⟩
  clear hfb
  refine ⟨rfl, gs_top (b := true) (kd := rfl) (co := rfl) (nm := nm_of rfl fun _ => rfl) (it := rfl) (g_set F rfl fun h2 t2 tk2 F => ?_)⟩
  refine g_while D _ _ _ _ _ _ _ _ _ (Inv := DI D decB tl c tt tc e) DI.test (fun T j n s0 h tk I again => ?_) (fun T fin n s0 h tk I => ?_) c ⟨0, t2, none, none, none, none, ks, Nat.zero_add _, hlen, hbad, hgood, ho, rfl, B, gl_01 F⟩
  · refine I.four (P := fun n => GS T n s0 _ h tk) fun i ti o1 o2 o3 o4 x1 x2 x3 x4 ks next g1 g2 g3 g4 B F => ?_
    refine g_next C B F g1 rfl rfl fun r1 _ _ _ e1 F => g_next C B F g2 rfl rfl fun r2 _ _ _ e2 F => g_next C B F g3 rfl rfl fun r3 _ _ _ e3 F => g_next C B F g4 rfl rfl fun r4 _ _ _ e4 F => ?_
    have ho := (next _ _ _ _ e1 e2 e3 e4).1
    exact g_yield C B F rfl (bd1 (bd e1)) ho.1 fun s1 B F => g_yield C B F rfl (bd1 (and_b (bd e2) (by decide))) ho.2.1 fun s1 B F => g_yield C B F rfl (bd1 (and_b (bd e3) (by decide))) ho.2.2.1 fun s1 B F => g_inc F rfl rfl fun h' t' tk' F => again _ _ _ _ ((next _ _ _ _ e1 e2 e3 e4).2 _ _ _ _ _ _ _ ho.2.2.2 B F)
  · refine I.end (P := fun n => GS T n s0 _ h tk) htl (fun i ti o1 o2 o3 o4 _ hb B F => ?_) (fun i ti o1 o2 o3 o4 x1 x2 _ ho g1 g2 B F => ?_) (fun i ti o1 o2 o3 o4 x1 x2 x3 _ ho ho2 g1 g2 g3 B F => ?_)
    · exact g_if F (q_name rfl rfl rfl) fun _ => g_nil (fin _ _ _ _ (gR C hb B F))
    · exact g_if F (q_name rfl rfl rfl) fun _ => g_next C B F g1 rfl rfl fun r1 _ _ _ e1 F => g_next C B F g2 rfl rfl fun r2 _ _ _ e2 F =>
        g_yield C B F rfl (bd1 (bd e1)) (ho _ _ e1 e2).2.1 fun s1 B F => g_if F (q_eq rfl rfl rfl) fun _ => g_nil (g_nil (fin _ _ _ _ (gR C (ho _ _ e1 e2).1 B F)))
    · exact g_if F (q_name rfl rfl rfl) fun _ => g_next C B F g1 rfl rfl fun r1 _ _ _ e1 F => g_next C B F g2 rfl rfl fun r2 _ _ _ e2 F =>
        g_yield C B F rfl (bd1 (bd e1)) (ho2 _ _ e1 e2).1 fun s1 B F => g_if F (q_eq rfl rfl rfl) fun _ => g_next C B F g3 rfl rfl fun r3 _ _ _ e3 F => g_yield C B F rfl (bd1 (and_b (bd e2) (by decide))) (ho _ _ _ e1 e2 e3).2.2.1 fun s1 B F => g_nil (g_nil (fin _ _ _ _ (gR C (ho _ _ _ e1 e2 e3).1 B F)))

end
section

theorem fr_out {h₀ h₁ h2 : Heap} {L L2 : Addr} {m m2 : Str → Option Value} (F : Fr h₀ L h₁ m) (F2 : Fr h₁ L2 h2 m2) : Fr h₀ L2 h2 m2 :=
  ⟨F2.ns, fun b o e => F2.keep b o (F.keep b o e), Nat.le_trans F.above (Nat.le_trans (Nat.le_of_lt F.ns.lt) F2.above)⟩
theorem news_out {h₀ h₁ h2 : Heap} {L L2 : Addr} {m : Str → Option Value} {news : List (Addr × Obj)} (F : Fr h₀ L h₁ m) (N : News h₁ L2 h2 news) : News h₀ L2 h2 news := fun p hp => by
  refine ⟨(N p hp).1, (N p hp).2.1, ?_⟩
  cases q : h₀.get? p.1 with
  | none => rfl
  | some o => have := F.keep _ _ q; rw [(N p hp).2.2] at this; cases this

theorem enc71 {w : World} {mean mg mb G base outer d u dp un gd} {s : Shared} {R : Result → Shared → Prop} {e nv : Addr} {bl : List UInt8} {big : Bool} {c tl : Nat} {tc tt : Tok}
    (C : Cx w mean mg mb G ⟨none, dp, some outer, gd, un⟩ base outer d u s.heap) (hd : 5 ≤ d) (hu : 40 ≤ u) (he : Eng w s.heap e bl big) (htl : tl < 3)
    (hR : ∀ L h' a tk nm qn gs, Fr s.heap L h' (mp [(Str.ofString "tail", some (.int tl tt)), (Str.ofString "chunks", some (.int c tc)), (Str.ofString "next_value", some (.ref nv)), (Str.ofString "self", some (.ref e))]) → News s.heap L h' [(a, genObj s.gens.size nm qn)] → L < a →
      GenReady w mean mg mb G nv some false L (mp [(Str.ofString "tail", some (.int tl tt)), (Str.ofString "chunks", some (.int c tc)), (Str.ofString "next_value", some (.ref nv)), (Str.ofString "self", some (.ref e))]) (if big then encB else encL) (3 * c + tl) gs h' →
      R (.ok (.ret (.ref a))) { s with heap := h', toks := tk, gens := s.gens.push gs }) :
    codeAny (model PR w) ⟨none, dp, some outer, gd, un⟩ (.call (.ref 71) ⟨[.ref e, .ref nv, .int c tc, .int tl tt], []⟩) R s := by
  obtain ⟨hlen, hnd, dx, h1, h2, h3, t1, t2, t3, tb, lk, n, f, he, hx, _⟩ := he
  have X0 := C.X
  revert X0
  delta PR
  k_fill
  intro X0
  refine enter C (by omega) (by k_is) (by k_is) (BindsTo.of_eq rfl) (locs rfl) ?_ rfl rfl rfl (by decide)
  intro L h₁ F N B X T
  clear X0
  dsimp only
  k_fold
  tb_rel
  · rename_i hb
    refine wpAny_call ?_
    refine gen105 (C.push F rfl rfl (by omega) (by omega)) (by omega) htl fun L2 h2 a tk2 nm qn gs F2 N2 hLa hG => ?_
    dsimp only
    iterate 1 tb_start
    exact hR L2 h2 a tk2 nm qn gs (fr_out F F2) (news_out F N2) hLa (by rw [if_pos hb]; exact hG)
  · rename_i hb
    tb_rel
    refine wpAny_call ?_
    refine gen98 (C.push F rfl rfl (by omega) (by omega)) (by omega) htl fun L2 h2 a tk2 nm qn gs F2 N2 hLa hG => ?_
    dsimp only
    iterate 1 tb_start
    exact hR L2 h2 a tk2 nm qn gs (fr_out F F2) (news_out F N2) hLa (by rw [if_neg (by rw [hb]; decide)]; exact hG)

theorem dec78 {w : World} {mean mg mb G base outer d u dp un gd} {s : Shared} {R : Result → Shared → Prop} {e nv : Addr} {bl : List UInt8} {big : Bool} {c tl : Nat} {tc tt : Tok}
    (C : Cx w mean mg mb G ⟨none, dp, some outer, gd, un⟩ base outer d u s.heap) (hd : 5 ≤ d) (hu : 40 ≤ u) (he : Eng w s.heap e bl big) (htl : tl = 0 ∨ tl = 2 ∨ tl = 3) {f' : Int → Option Int} (hfb : ∀ k r, f' k = some r → 0 ≤ r ∧ r < 64)
    (hR : ∀ L h' a tk nm qn gs, Fr s.heap L h' (mp [(Str.ofString "tail", some (.int tl tt)), (Str.ofString "chunks", some (.int c tc)), (Str.ofString "next_value", some (.ref nv)), (Str.ofString "self", some (.ref e))]) → News s.heap L h' [(a, genObj s.gens.size nm qn)] → L < a →
      GenReadyD w mean mg mb G nv f' L (mp [(Str.ofString "tail", some (.int tl tt)), (Str.ofString "chunks", some (.int c tc)), (Str.ofString "next_value", some (.ref nv)), (Str.ofString "self", some (.ref e))]) (if big then decB else decL) (4 * c + tl) gs h' →
      R (.ok (.ret (.ref a))) { s with heap := h', toks := tk, gens := s.gens.push gs }) :
    codeAny (model PR w) ⟨none, dp, some outer, gd, un⟩ (.call (.ref 78) ⟨[.ref e, .ref nv, .int c tc, .int tl tt], []⟩) R s := by
  obtain ⟨hlen, hnd, dx, h1, h2, h3, t1, t2, t3, tb, lk, n, f, he, hx, _⟩ := he
  have X0 := C.X
  revert X0
  delta PR
  k_fill
  intro X0
  refine enter C (by omega) (by k_is) (by k_is) (BindsTo.of_eq rfl) (locs rfl) ?_ rfl rfl rfl (by decide)
  intro L h₁ F N B X T
  clear X0
  dsimp only
  k_fold
  tb_rel
  · rename_i hb
    refine wpAny_call ?_
    refine gen126 (C.push F rfl rfl (by omega) (by omega)) (by omega) htl hfb fun L2 h2 a tk2 nm qn gs F2 N2 hLa hG => ?_
    dsimp only
    iterate 1 tb_start
    exact hR L2 h2 a tk2 nm qn gs (fr_out F F2) (news_out F N2) hLa (by rw [if_pos hb]; exact hG)
  · rename_i hb
    tb_rel
    refine wpAny_call ?_
    refine gen119 (C.push F rfl rfl (by omega) (by omega)) (by omega) htl hfb fun L2 h2 a tk2 nm qn gs F2 N2 hLa hG => ?_
    dsimp only
    iterate 1 tb_start
    exact hR L2 h2 a tk2 nm qn gs (fr_out F F2) (news_out F N2) hLa (by rw [if_neg (by rw [hb]; decide)]; exact hG)

end
section

section
variable {w : World} {A : Around} {E : Value → Shared → Prop} {s : Shared}
theorem bytes_len_look : typeLookup (.type "bytes") "__len__" = pure (some (.builtin "bytes.__len__")) := by rw [typeLookup_type, builtinLookup_eq_fast]; kernel_rfl

noncomputable abbrev BAt (x : Array UInt8) : Nat → Value → Prop := fun i v => ∃ c u, x[i]? = some c ∧ v = .int (c.toNat : Int) u

theorem extend_bytes {R : Result → Shared → Prop} (hh : A.handled = none) (x : Array UInt8) (t : Tok) (S : Addr) (res : Value) (c₀ : Nat) (hS : s.heap.get? S = some { cls := .type "list", data := .seq #[] c₀ })
    (hR : ∀ h' tk acc' c', (∀ b o, b ≠ S → s.heap.get? b = some o → h'.get? b = some o) → h'.get? S = some { cls := .type "list", dict := none, data := .seq acc' c', slots := #[] } →
      ItemsOf (BAt x) acc' x.size → R (.ok (.ret res)) { s with heap := h', toks := tk }) (hn : x.size ≤ sizeLine) :
    wpAny (model PR w) A.in1 (Builtin.List.listExtendWith (.ref S) (.bytes x t) res)
      (fun fin s' => match fin with | .done f => R (.ok f) s' | .again c' => c'.quiet = true ∧ codeAny (model PR w) A c' R s') (fun e s' => R (.error e) s') s := by
  have hSI : S ≠ s.heap.objs.size := Nat.ne_of_lt (Heap.lt_size hS)
  have hSf : S ∉ [s.heap.objs.size] := fun hm => hSI (List.mem_singleton.mp hm)
  unfold Builtin.List.listExtendWith
  refine wpAny_bind (wpAny_typeOf (T := "bytes") (v := .bytes x t) rfl ?_)
  have h1 : Builtin.List.listSameRef (.ref S) (.bytes x t) = false := rfl
  have h2 : (Value.type "bytes" == Value.type "list") = false := by decide
  have h3 : (Value.type "bytes" == Value.type "tuple") = false := by decide
  simp only [h1, h2, h3, Bool.or_false, Bool.false_eq_true, if_false]
  refine wpAny_bind (KBw.pyIter_bytes ?_)
  refine wpAny_bind (wpAny_holding ?_)
  unfold Builtin.List.listLengthHint
  refine wpAny_bind (wpAny_specialOf (T := "bytes") (v := .bytes x t) rfl bytes_len_look ?_)
  wp_delta
  refine wpAny_bind (wpAny_isInstance (T := "bytes") (v := .bytes x t) (b := true) rfl (by rw [isSubtype_type]; kernel_rfl) ?_)
  show wpAny _ _ (typeOf (Value.bytes x t) >>= _) _ _ _
  refine wpAny_bind (wpAny_typeOf (T := "bytes") (v := .bytes x t) rfl ?_)
  refine wpAny_pure ?_
  rw [if_neg (by decide)]
  have st0 : KBw.IsBytesIter (s.heap.push { cls := .type "bytes_iterator", data := .fields #[.bytes x t, .int 0 0] }) s.heap.objs.size x t 0 := ⟨_, Heap.get?_push_size _ rfl, rfl, rfl⟩
  refine wpAny_pure ⟨plainId_quiet F.plain_extend_loop _, codeAny_extend_loopS (KBw.walks (A := A.in1) hh s.heap.objs.size x t).toS hn _ hSf _ x.size 0 _ _ _ rfl (Nat.zero_le _) st0 (Heap.get?_push_of_some _ hS) (ItemsOf.nil _) fun s' acc' c' hm hS' hacc => ?_⟩
  rw [Moved.eq_with hm]
  refine hR s'.heap s'.toks acc' c' (fun b ob hb e => hm.heap b ob (fun hmem => ?_) (Heap.get?_push_of_some _ e)) hS' hacc
  rcases List.mem_cons.mp hmem with e' | hmem
  · exact hb e'
  · exact absurd (Heap.lt_size e) (by rw [List.mem_singleton.mp hmem]; exact Nat.lt_irrefl _)

theorem list_init_bytes {R : Result → Shared → Prop} (hh : A.handled = none) (x : Array UInt8) (t : Tok) (S : Addr) (hS : s.heap.get? S = some { cls := .type "list", data := .seq #[] })
    (hR : ∀ h' tk acc' c', (∀ b o, b ≠ S → s.heap.get? b = some o → h'.get? b = some o) → h'.get? S = some { cls := .type "list", dict := none, data := .seq acc' c', slots := #[] } →
      ItemsOf (BAt x) acc' x.size → R (.ok (.ret .none)) { s with heap := h', toks := tk }) (hn : x.size ≤ sizeLine) :
    wpAny (model PR w) A.in1 (Builtin.«list.__init__» ⟨[.ref S, .bytes x t], []⟩)
      (fun fin s' => match fin with | .done f => R (.ok f) s' | .again c' => c'.quiet = true ∧ codeAny (model PR w) A c' R s') (fun e s' => R (.error e) s') s := by
  show wpAny _ _ (do let old ← Builtin.List.listItems (.ref S); Builtin.List.listUpdate (.ref S) (fun _ => #[]); letGo old.toList.reverse; Builtin.List.listExtendWith (.ref S) (.bytes x t) .none) _ _ s
  refine wpAny_bind ?_
  unfold Builtin.List.listItems
  refine wpAny_bind (wpAny_seqItems hS rfl (wpAny_pure ?_))
  show wpAny _ _ (updateSeq S (fun _ => #[]) >>= fun _ => letGo (#[] : Array Value).toList.reverse >>= fun _ => Builtin.List.listExtendWith (.ref S) (.bytes x t) .none) _ _ s
  refine wpAny_bind (wpAny_updateSeq hS rfl ?_)
  have hS₂ := Heap.get?_update_self (Obj.mapSeq (fun _ => (#[] : Array Value))) hS rfl
  have oth : ∀ b o, b ≠ S → s.heap.get? b = some o → (s.heap.update S (Obj.mapSeq (fun _ => (#[] : Array Value)))).get? b = some o :=
    fun b o hb e => (Heap.get?_update_other _ _ (Ne.symm hb)).trans e
  refine wpAny_bind (wpAny_letGo ?_)
  refine extend_bytes (hn := hn) hh x t S .none _ hS₂ fun h' tk acc' c' hk hS' hacc => ?_
  exact hR h' tk acc' c' (fun b o hb e => hk b o hb (oth b o hb e)) hS' hacc

theorem ints_of_items {x : Array UInt8} {acc : Array Value} (h : ItemsOf (BAt x) acc x.size) : IntsAre acc.toList (KBw.bInts x) := by
  refine ints_ptw ?_ fun i k hk => ?_
  · rw [KBw.ints_length]; simpa using h.1
  · unfold KBw.bInts at hk
    rw [List.getElem?_map] at hk
    obtain ⟨c, hc, rfl⟩ := Option.map_eq_some_iff.mp hk
    have hi : i < acc.size := by rw [h.1]; have := (List.getElem?_eq_some_iff.mp hc).1; simpa using this
    obtain ⟨c', u, hc', e⟩ := h.2 i acc[i] (by simp [hi])
    have : c' = c := by
      have h2 : x[i]? = some c := by simpa using hc
      rw [h2] at hc'; exact (Option.some.inj hc').symm
    subst this
    exact ⟨u, by rw [← e]; simp [hi]⟩

theorem call_list_bytes {Q : Value → Shared → Prop} (hh : A.handled = none) (x : Array UInt8) (t : Tok) (hn : x.size ≤ 1000)
    (hQ : ∀ l h' tk vs n, s.heap.objs.size ≤ l → (∀ b o, s.heap.get? b = some o → h'.get? b = some o) → h'.get? l = some (W.listOf vs.toArray n) → IntsAre vs (KBw.bInts x) → Q (.ref l) { s with heap := h', toks := tk }) :
    wpAny (model PR w) A (call (.type "list") [.bytes x t]) Q E s := by
  refine callType_codes (Q₁ := fun obj s₁ => obj = .ref s.heap.objs.size ∧ s₁ = { s with heap := s.heap.push { cls := .type "list", data := .seq #[] } }) F.called_list (F.typeCall_list_1 _) F.entry_list_init
    (code_list_new _ ⟨rfl, rfl⟩) fun obj s₁ h₁ => ?_
  obtain ⟨rfl, rfl⟩ := h₁
  have hS : (s.heap.push { cls := .type "list", data := .seq #[] }).get? s.heap.objs.size = some { cls := .type "list", data := .seq #[] } := Heap.get?_push_size _ rfl
  refine ⟨⟨_, hS, rfl⟩, F.args_list_init_2 _ _, list_init_bytes (A := A.in1) (hn := by rw [sizeLine_eq]; omega) hh x t _ hS fun h' tk acc' c' hk hS' hacc => ?_⟩
  refine ⟨rfl, hQ _ h' tk acc'.toList c' (Nat.le_refl _) (fun b o e => hk b o (Nat.ne_of_lt (Heap.lt_size e)) (Heap.get?_push_of_some _ e)) ?_ (ints_of_items hacc)⟩
  exact hS'
end


theorem codeAmong_one (pos : Pos) (cv : Addr) : codeAmong pos [rawInt pos.line, rawInt pos.col, .ref cv] = some (.ref cv) := by
  exact codeAmong_snoc [] trivial rfl
theorem triples_nil : TriplesOk [] := by trivial
theorem triples_one (l c : Int) (cv : Addr) : TriplesOk [rawInt l, rawInt c, .ref cv] := by
  simp [TriplesOk, rawInt]

/-- a nested def made, by a table that is empty or has it -/
theorem nest_tab {M : Model} {A : Around} {E : Value → Shared → Prop} {s : Shared} {h₀ : Heap} {L a c P : Addr} {m mg mb : Str → Option Value} {cn : Str} {cs : Scope} {ccd : Value} {cl : List (Str × Addr)} {news : List (Addr × Obj)} {g : Obj → List (Addr × Obj)}
    {p : Program} {loose : List Str} {mean : ExcName → Option Value} {name qual : Str} {params : Arguments} {body : List Stmt} {scope : Scope} {ps : Array Value} {pos : Pos} {firstLine : Nat} {clos : List (Str × Addr)} {Q : Value → Shared → Prop}
    (F : Fr h₀ L s.heap m) (N : News h₀ L s.heap news) (T : Top p loose mean mg mb h₀) (C : CodeHd h₀ c P) (hcd : ccd = .ref c) (U : UpdF P (tabObj ps) news g) (hmem : (P, tabObj ps) ∈ news)
    (hps : ps = #[] ∨ ∃ cv, ps = #[rawInt pos.line, rawInt pos.col, .ref cv] ∧ h₀.CodeRec (.ref cv) qual)
    (hcl : closureFor scope (envX cn cs L a ccd cl) = pure clos)
    (h : ∀ f c' oc vs t ctv doc h' tk x ox fo, fo = fnMade name qual params body scope clos doc ((mg "__name__").getD .none) c' ctv → Fr h₀ L h' m →
      News h₀ L h' ((f, fo) :: (x, ox) :: g (tabObj #[rawInt pos.line, rawInt pos.col, .ref c'])) →
      (x = c' ∧ ox = oc ∨ (x = f ∧ ox = fo) ∧ h₀.get? c' = some oc) → oc.data = .fields vs → vs[1]? = some (.str qual t) → (∀ q ∈ news, q.1 < f) → Q (.ref f) { s with heap := h', toks := tk }) :
    wpAny M A (makeFunction name qual params (.stmts body) scope (envX cn cs L a ccd cl) [] [] [] pos firstLine) Q E s := by
  rcases hps with rfl | ⟨cv, rfl, hr⟩
  · refine nest_K F N T C hcd U triples_nil rfl hcl fun f c' oc vs t ctv doc h' tk F' N' hd hv hlt hcf => ?_
    exact h f c' oc vs t ctv doc h' tk c' oc _ rfl F' N' (.inl ⟨rfl, rfl⟩) hd hv fun q hq => Nat.lt_trans (hlt q hq) hcf
  · obtain ⟨c₂, oc, vs, t, e2, hoc, hd, hv⟩ := hr
    cases e2
    refine nestHit_K F N T C hcd hmem (triples_one _ _ _) (codeAmong_one pos cv) hcl fun f ctv doc h' tk F' N' hlt => ?_
    obtain ⟨own, rest, rfl, hgr, _, _⟩ := U.split
    refine h f cv oc vs t ctv doc h' tk f (fnMade name qual params body scope clos doc ((mg "__name__").getD .none) cv ctv) _ rfl F' ?_ (.inr ⟨⟨rfl, rfl⟩, hoc⟩) hd hv hlt
    rw [hgr]
    exact fun q hq => by
      rcases mem_c hq with rfl | hq
      · exact N' _ (.head _)
      · exact N' q hq


theorem Cx.ghost {w : World} {mean mg mb G A base outer d u} {h g : Heap} (C : Cx w mean mg mb G A base outer d u h) (gl : Kp G g) (gk : ∀ b o, (∀ vs, o.data ≠ .fields vs) → h.get? b = some o → g.get? b = some o) (hb : ∀ b o, base.get? b = some o → g.get? b = some o) :
    Cx w mean mg mb G A base outer d u g :=
  ⟨⟨C.B.stack, hb, C.B.frames.of_keeps fun b o e hn => ⟨o, gk b o hn e, rfl⟩⟩, C.S, gl, C.hh, C.hd, C.hu⟩

theorem Eng.move {w : World} {h g : Heap} {e : Addr} {bl : List UInt8} {big : Bool} (E : Eng w h e bl big) (gk : ∀ b o, (∀ vs, o.data ≠ .fields vs) → h.get? b = some o → g.get? b = some o) : Eng w g e bl big := by
  obtain ⟨h1, h2, dx, a1, a2, a3, t1, t2, t3, tb, lk, n, f, e1, e2, e3, e4, e5, e6⟩ := E
  obtain ⟨o, es, ep, ho, hc, hd, r⟩ := e4
  refine ⟨h1, h2, dx, a1, a2, a3, t1, t2, t3, tb, lk, n, f, gk _ _ (by nofun) e1, gk _ _ (by nofun) e2, e3, ⟨o, es, ep, gk _ _ (fun vs => ?_) ho, hc, hd, r⟩, e5, e6⟩
  rw [hd]; nofun
theorem Eng.keep {w : World} {h g : Heap} {e : Addr} {bl : List UInt8} {big : Bool} (E : Eng w h e bl big) (k : Kp h g) : Eng w g e bl big := E.move fun b o _ e => k b o e
theorem news_two {h₀ h : Heap} {L : Addr} {q : Addr × Obj} {r1 r2 : List (Addr × Obj)} (N1 : News h₀ L h (q :: r1)) (N2 : News h₀ L h r2) : News h₀ L h (q :: r2) := fun p hp => by
  rcases mem_c hp with rfl | hp
  · exact N1 _ (.head _)
  · exact N2 p hp
theorem Feed.mono {p : Gn} {w : World} {A : Around} {a : Addr} {g : Nat} {h h' : Heap} : ∀ {n : Nat} {gs : GenState}, Feed p w A a g n gs h → (∀ b ∈ p.fp, ∀ o, h.get? b = some o → h'.get? b = some o) → Feed p w A a g n gs h'
  | 0, _, f, k => fun s E Q ok hf => f s E Q ok fun b hb o e => hf b hb o (k b hb o e)
  | _ + 1, _, f, k => fun s E Q ok hf => f s E Q ok fun b hb o e => hf b hb o (k b hb o e)


theorem outs_at {p : Gn} : ∀ (l : List Int) (i : Nat) (k : Int), Outs p l → l[i]? = some k → p.out (l.length - 1 - i) = k
  | [], _, _, _, h => by simp at h
  | x :: r, 0, k, ho, h => by
    have : x = k := by simpa using h
    subst this
    exact ho.1
  | x :: r, i + 1, k, ho, h => by
    have := outs_at r i k ho.2 (by simpa using h)
    have hi : i < r.length := (List.getElem?_eq_some_iff.mp (show r[i]? = some k by simpa using h)).1
    rw [← this, List.length_cons]
    congr 1
    omega

theorem set_same {gens : Array GenState} {g : Nat} {x : GenState} (h : gens[g]? = some x) : gens.setIfInBounds g x = gens := by
  obtain ⟨h1, h2⟩ := Array.getElem?_eq_some_iff.mp h
  apply Array.ext
  · rw [Array.size_setIfInBounds]
  · intro j a b
    rw [Array.getElem_setIfInBounds]
    split
    · rename_i e; subst e; exact h2.symm
    · rfl

inductive LoopF (p : Gn) (w : World) (A : Around) (a : Addr) (gi n : Nat) (ks : List Int) (s : Shared) (V : Nat → Int → Value → Prop) (h₀ : Heap) (L C D : Addr) (m : Str → Option Value) (front : List (Addr × Obj)) (k : Nat) (s' : Shared) : Prop
  | mk (h' : Heap) (tk : Nat) (gn : Array GenState) (i : Nat) (ys : List Value) (m' : Str → Option Value) (gs' : GenState) (hs' : Heap) (e : s' = { s with heap := h', toks := tk, gens := gn }) (hi : i ≤ n) (hk : k = n + 1 - i) (hy : ys.length = i) (fd : Feed p w A a gi (n - i) gs' hs') (hf : ∀ b ∈ p.fp, ∀ o, hs'.get? b = some o → h'.get? b = some o) (eg : gn = s.gens.setIfInBounds gi gs')
    (F : Fr h₀ L h' m) (hn : h'.Ns C m') (N : News h₀ L h' ((D, LCg.lst ys) :: front)) (hg : h'.IsGen a gi) (hV : ∀ j k, j < i → ks[j]? = some k → ∃ y, ys[j]? = some y ∧ V j k y) : LoopF p w A a gi n ks s V h₀ L C D m front k s'
theorem comp_feed {w : World} {A : Around} {E : Value → Shared → Prop} {s : Shared} {h₀ : Heap} {L : Addr} {m : Str → Option Value} {env : Env} {elt iter : Expr} {x : Str} {px : Pos} {scope : Scope} {cl : List (Str × Addr)} {pos : Pos} {Q : Value → Shared → Prop}
    {p : Gn} {a gi n : Nat} {gs : GenState} {ks : List Int} {front : List (Addr × Obj)} (V : Nat → Int → Value → Prop)
    (hp : p.bad = false) (hlen : ks.length = n) (hn : n ≤ 8000) (ho : Outs p ks) (F : Fr h₀ L s.heap m) (N : News h₀ L s.heap front)
    (hit : ∀ Q', (∀ tk, Q' (.ref a) { s with toks := tk }) → wpAny (model PR w) A (eval iter env) Q' E s)
    (hg : s.heap.IsGen a gi) (hgs : s.gens[gi]? = some gs) (feed : Feed p w A a gi n gs s.heap) (hfp : ∀ b ∈ p.fp, b < s.heap.objs.size) (hob : ∀ b ∈ p.own, b < s.heap.objs.size) (ho0 : ∀ b ∈ p.own, h₀.get? b = none)
    (hoL : L ∉ p.own) (hfL : L ∉ p.fp) (haL : a ≠ L) (hof : ∀ q ∈ front, q.1 ∉ p.own) (hoa : a ∉ p.own) (ok : ∀ h', Fr h₀ L h' m → p.Ok h')
    (body : ∀ i k t oC C D m₂ h tk gn (E' : Value → Shared → Prop) ys (ld : List (Addr × Obj)), ks[i]? = some k → LCg.NsObj oC m₂ → m₂ x = some (.int k t) → Fr h₀ L h m → News h₀ L h ((C, oC) :: (D, LCg.lst ys) :: (front ++ ld)) → (∀ q ∈ front ++ ld, q.1 ≠ C ∧ q.1 ≠ D) → C ≠ D →
      wpAny (model PR w) A (eval elt (compEnvC scope cl C env)) (fun y s₂ => Fin (EltTo gn s.drawn s.os h₀ L m ((C, oC) :: (D, LCg.lst ys) :: (front ++ ld)) (V i k) y s₂)) E' { s with heap := h, toks := tk, gens := gn })
    (fin : ∀ D h tk ys, ys.length = n → (∀ i k, ks[i]? = some k → ∃ y, ys[i]? = some y ∧ V i k y) → Fr h₀ L h m → News h₀ L h ((D, LCg.lst ys) :: front) → (∀ q ∈ front, q.1 < D) → Q (.ref D) { s with heap := h, toks := tk, gens := s.gens.setIfInBounds gi .finished })
    (hclos : closureFor scope env = pure cl := by rfl) (hcell : ∀ y ∈ scope.names, y.2 ≠ .cell := by decide) (hkind : scope.kind = .function := by rfl)
    (hnames : ∀ y ∈ scope.names, y.2 = .local → scope.names.lookup y.1 = some .local := by decide) (hx : scope.names.lookup x = some .local := by rfl)
    (hs : ∀ x, foldedSetIterable iter env x = pure x := by intro _; rfl) :
    wpAny (model PR w) A (eval (.ListComp elt [⟨.Name x px, iter, [], 0⟩] scope pos) env) Q E s := by
  rw [eval_ListComp]
  refine wpAny_comprehension_free (use := none) rfl hs hclos hkind hnames (hit _ fun tk0 => wpAny_pyIter_gen hg ?_)
  refine wpAny_newObj_type (wpAny_newFunctionEnv hcell (by intro y hy; simp at hy) (fun h₁ hns₁ hsb₁ => ?_) hkind)
  dsimp only at hns₁ hsb₁ ⊢
  generalize hH2 : s.heap.push { cls := .type "list", dict := none, data := .seq ([] : List Value).toArray } = H2 at hns₁ hsb₁ ⊢
  have hC : H2.objs.size = s.heap.objs.size + 1 := by rw [← hH2, Heap.size_push]
  have hDC : s.heap.objs.size ≠ H2.objs.size := by rw [hC]; exact Nat.ne_of_lt (Nat.lt_succ_self _)
  have below : ∀ b, b < s.heap.objs.size → b ≠ H2.objs.size ∧ b ≠ s.heap.objs.size := fun b hb => ⟨by rw [hC]; exact Nat.ne_of_lt (Nat.lt_succ_of_lt hb), Nat.ne_of_lt hb⟩
  have old : ∀ b o, s.heap.get? b = some o → h₁.get? b = some o := fun b o e => hsb₁.extBut b o (below b (Heap.lt_size e)).1 (Heap.get?_push_of_some _ (hH2 ▸ Heap.get?_push_of_some _ e))
  have hacc : h₁.get? s.heap.objs.size = some (LCg.lst []) := hsb₁.extBut _ _ hDC (Heap.get?_push_of_some _ (hH2 ▸ Heap.get?_push_size _ rfl))
  have fresh₀ : ∀ b, s.heap.objs.size ≤ b → h₀.get? b = none := fun b hb => by
    cases e : h₀.get? b with
    | none => rfl
    | some o' => exact absurd (Heap.lt_size (F.keep b o' e)) (Nat.not_lt_of_le hb)
  have hD₀ : h₀.get? s.heap.objs.size = none := fresh₀ _ (Nat.le_refl _)
  have hC₀ : h₀.get? H2.objs.size = none := fresh₀ _ (by rw [hC]; exact Nat.le_succ _)
  have hLlt : L < s.heap.objs.size := F.ns.lt
  have hDL : s.heap.objs.size ≠ L := Ne.symm (below L hLlt).2
  have hCL : H2.objs.size ≠ L := Ne.symm (below L hLlt).1
  have hfront : ∀ q ∈ front, q.1 < s.heap.objs.size := fun q hq => Heap.lt_size (N q hq).1
  have hagen : a < s.heap.objs.size := by obtain ⟨o, _, _, e, _⟩ := hg; exact Heap.lt_size e
  have loop : ∀ s₃ : Shared, s₃ = { s with heap := h₁, toks := tk0 + ([] : List (Str × Value)).length } →
      codeAny (model PR w) A (.compLoop (.ListComp elt [⟨.Name x px, iter, [], 0⟩] scope pos) 0 (.ref a) (.ref s.heap.objs.size) (compEnvC scope cl H2.objs.size env))
        (compPost (model PR w) A E none Q (.ref s.heap.objs.size) H2.objs.size) s₃ := by
    rintro s₃ rfl
    refine codeAny_compLoop_tests
      (LoopF p w A a gi n ks s V h₀ L H2.objs.size s.heap.objs.size m front) ?_ (n + 1)
      ⟨h₁, _, s.gens, 0, [], _, gs, s.heap, rfl, Nat.zero_le _, rfl, rfl, feed, fun b _ o e => old b o e, ?_, F.keeps old, hns₁, fun q hq => ?_, hg.keeps old, fun j _ hj => absurd hj (Nat.not_lt_zero _)⟩
    · rintro k s' ⟨h', tk, gn, i, ys, m', gs', hs', rfl, hi, rfl, hyl, fd, hf', rfl, F', hn', N', hg', hV⟩
      have hgi : gi < s.gens.size := by
        have := (Array.getElem?_eq_some_iff.mp hgs).1
        exact this
      have hget : ∀ z, (s.gens.setIfInBounds gi z)[gi]? = some z := fun z => by simp [Array.getElem?_setIfInBounds, hgi]
      have offk : ∀ {q : Addr × Obj}, q ∈ (s.heap.objs.size, LCg.lst ys) :: front → q.1 ∉ p.own := fun {q} hq => by
        rcases mem_c hq with rfl | hq
        · exact fun hm => Nat.lt_irrefl _ (hob _ hm)
        · exact hof q hq
      by_cases hlt : i < n
      · obtain ⟨j, hj⟩ : ∃ j, n - i = j + 1 := ⟨n - i - 1, by omega⟩
        rw [hj] at fd
        obtain ⟨k, hk⟩ : ∃ k, ks[i]? = some k := ⟨ks[i]'(by omega), by simp [hlen, hlt]⟩
        have hkout : p.out j = k := by
          have := outs_at ks i k ho hk
          rw [← this, hlen]; congr 1; omega
        refine fd _ _ _ (ok _ F') hf' (hget _) hg' (fun h₂ tk₂ t gs₂ kb fd₂ => ?_) (fun hb => by rw [hp] at hb; cases hb)
        dsimp only at kb ⊢
        have F₂ : Fr h₀ L h₂ m := ⟨F'.ns.at' fun o e => kb L o hoL e, fun b o e => kb b o (fun hm => by rw [ho0 b hm] at e; cases e) (F'.keep b o e), F'.above⟩
        have N₂ : News h₀ L h₂ ((s.heap.objs.size, LCg.lst ys) :: front) := fun q hq => ⟨kb _ _ (offk hq) (N' q hq).1, (N' q hq).2⟩
        have hCo : H2.objs.size ∉ p.own := fun hm => by have := hob _ hm; rw [hC] at this; exact Nat.lt_irrefl _ (Nat.lt_of_succ_lt this)
        refine wpAny_assign_Name (wpAny_storeName_local (lookup_relabel_local hx) (hn'.at' fun o e => kb _ o hCo e) (fun h₃ hn₃ hs₃ => ?_) (by simp [compEnvC, relabel, hkind]))
        refine wpAny_tests_nil ?_
        simp only [if_true]
        obtain ⟨oC, heC, hoC⟩ := LCg.ns_obj hn₃
        replace heC : h₃.get? H2.objs.size = some oC := heC
        have F₃ : Fr h₀ L h₃ m := F₂.change hs₃ hCL hC₀
        have neC : ∀ {q : Addr × Obj}, q ∈ (s.heap.objs.size, LCg.lst ys) :: front → q.1 ≠ H2.objs.size := fun {q} hq => by
          rcases mem_c hq with rfl | hq
          · exact hDC
          · exact (below _ (hfront q hq)).1
        have N₃ : News h₀ L h₃ ((s.heap.objs.size, LCg.lst ys) :: front) := fun q hq => ⟨hs₃.extBut _ _ (neC hq) (N₂ q hq).1, (N₂ q hq).2⟩
        -- all else that the heap holds
        let ex := L :: H2.objs.size :: s.heap.objs.size :: front.map (·.1)
        have N₄ : News h₀ L h₃ ((H2.objs.size, oC) :: (s.heap.objs.size, LCg.lst ys) :: (front ++ led h₀ ex h₃)) := fun q hq => by
          rcases mem_c hq with rfl | hq
          · exact ⟨heC, hCL, hC₀⟩
          · rcases mem_c hq with rfl | hq
            · exact N₃ _ (.head _)
            · rcases List.mem_append.mp hq with hq | hq
              · exact N₃ q (.tail _ hq)
              · exact led_news (List.mem_cons_self) q hq
        rw [hkout] at hn₃
        refine wpAny_mono (body i k t oC H2.objs.size s.heap.objs.size _ h₃ _ _ _ ys (led h₀ ex h₃) hk (by rw [hkout] at hoC; exact hoC) (by simp) F₃ N₄ (fun q hq => ?_) (Ne.symm hDC)) (fun y s₄ h₄ => ?_) fun _ _ e => e
        · rcases List.mem_append.mp hq with hq | hq
          · exact below _ (hfront q hq)
          · have := (mem_led.mp hq).1
            exact ⟨fun e => this (by rw [e]; simp [ex]), fun e => this (by rw [e]; simp [ex])⟩
        obtain ⟨g₄, tk₄, rfl, F₄, N₅, hVy⟩ := h₄.out
        have zD := (N₅ (s.heap.objs.size, LCg.lst ys) (.tail _ (.head _))).1
        have zC := (N₅ (H2.objs.size, oC) (.head _)).1
        -- what is kept over the element
        have kept : ∀ b o, b ≠ L → h₃.get? b = some o → g₄.get? b = some o := fun b o hbL e => by
          cases q : h₀.get? b with
          | some o' => have := F₃.keep _ _ q; rw [e] at this; cases this; exact F₄.keep _ _ q
          | none =>
            by_cases hm : b ∈ ex
            · rcases mem_c hm with rfl | hm
              · exact absurd rfl hbL
              · rcases mem_c hm with rfl | hm
                · rw [heC] at e; cases e; exact zC
                · rcases mem_c hm with rfl | hm
                  · have := (N₃ _ (.head _)).1; rw [e] at this; cases this; exact zD
                  · obtain ⟨q', hq', rfl⟩ := List.mem_map.mp hm
                    have := (N₃ q' (.tail _ hq')).1
                    rw [e] at this; cases this
                    exact (N₅ q' (.tail _ (.tail _ (List.mem_append_left _ hq')))).1
            · exact (N₅ (b, o) (.tail _ (.tail _ (List.mem_append_right _ (mem_led.mpr ⟨hm, q, e⟩))))).1
        refine append_at (hsz := by show ys.toArray.size ≤ sizeLine; rw [List.size_toArray, hyl, sizeLine_eq]; omega) zD fun h₅ hs₅ hD₅ => ?_
        have up5 : ∀ b o, b ≠ L → b ≠ H2.objs.size → b ≠ s.heap.objs.size → h₂.get? b = some o → h₅.get? b = some o := fun b o hbL hbC hbD e => hs₅.extBut b o hbD (kept b o hbL (hs₃.extBut b o hbC e))
        have hgs' : s.gens.setIfInBounds gi gs' = s.gens.setIfInBounds gi gs' := rfl
        refine ⟨n + 1 - (i + 1), by omega, h₅, tk₄, _, i + 1, ys ++ [y], _, gs₂, h₂, rfl, hlt, rfl, by rw [List.length_append, List.length_singleton, hyl], by rw [show n - (i + 1) = j by omega]; exact fd₂, ?_, set_set _ _ _, F₄.change hs₅ hDL hD₀,
          (hoC.ns zC).sameBut hs₅ (Ne.symm hDC), fun q hq => ?_, ?_, ?_⟩
        · intro b hb o e
          have hbs := hfp b hb
          exact up5 b o (fun h => hfL (h ▸ hb)) (below b hbs).1 (below b hbs).2 e
        · rcases mem_c hq with rfl | hq
          · exact ⟨hD₅.trans (congrArg some (LCg.lst_snoc ys y)), hDL, hD₀⟩
          · exact ⟨up5 _ _ (N q hq).2.1 (below _ (hfront q hq)).1 (below _ (hfront q hq)).2 (N₂ q (.tail _ hq)).1, (N q hq).2⟩
        · obtain ⟨o, nm, qn, e, r⟩ := hg'
          refine ⟨o, nm, qn, up5 a o haL (below a hagen).1 (below a hagen).2 (kb a o hoa e), r⟩
        · intro j' k' hj' hk'
          rcases Nat.lt_succ_iff_lt_or_eq.mp hj' with hj' | rfl
          · obtain ⟨y', e, r⟩ := hV j' k' hj' hk'
            exact ⟨y', by rw [List.getElem?_append_left (by omega)]; exact e, r⟩
          · rw [hk] at hk'
            cases hk'
            exact ⟨y, by rw [List.getElem?_append_right (by omega), hyl, Nat.sub_self]; rfl, hVy⟩
      · obtain rfl : i = n := Nat.le_antisymm hi (Nat.not_lt.mp hlt)
        rw [Nat.sub_self] at fd
        refine fd _ _ _ (ok _ F') hf' (hget _) hg' (fun _ h₂ tk₂ kb => ?_) (fun hb => by rw [hp] at hb; cases hb)
        dsimp only at kb ⊢
        have F₂ : Fr h₀ L h₂ m := ⟨F'.ns.at' fun o e => kb L o hoL e, fun b o e => kb b o (fun hm => by rw [ho0 b hm] at e; cases e) (F'.keep b o e), F'.above⟩
        have N₂ : News h₀ L h₂ ((s.heap.objs.size, LCg.lst ys) :: front) := fun q hq => ⟨kb _ _ (offk hq) (N' q hq).1, (N' q hq).2⟩
        have hCo : H2.objs.size ∉ p.own := fun hm => by have := hob _ hm; rw [hC] at this; exact Nat.lt_irrefl _ (Nat.lt_of_succ_lt this)
        refine ⟨m', hn'.at' fun o e => kb _ o hCo e, fun h'' hs'' => ?_⟩
        rw [set_set]
        refine fin _ h'' tk₂ ys hyl (fun j k hk => hV j k (by have := (List.getElem?_eq_some_iff.mp hk).1; omega) hk) (F₂.change hs'' hCL hC₀) (fun q hq => ⟨hs''.extBut _ _ ?_ (N₂ q hq).1, (N₂ q hq).2⟩) hfront
        rcases mem_c hq with rfl | hq
        · exact hDC
        · exact (below _ (hfront q hq)).1
    · exact (set_same hgs).symm
    · rcases mem_c hq with rfl | hq
      · exact ⟨hacc, hDL, hD₀⟩
      · exact ⟨old _ _ (N q hq).1, (N q hq).2⟩
  exact codeAny_compStart_list (loop _ rfl) (wpAny_pyIter_gen (hg.keeps old) (loop _ rfl))


theorem frames_out {h base : Heap} {z : Nat} : ∀ {l : List Env}, h.FunFrames base l → h.objs.size ≤ z → ∀ env ∈ l, ∀ L', env.frame = some L' → L' < z
  | [], _, _, _, he, _, _ => nomatch he
  | e :: r, ⟨_, ⟨L, o, e1, _, e3, _⟩, h3⟩, hz, env, he, L', hf => by
    rcases mem_c he with rfl | he
    · rw [e1] at hf; cases hf; exact Nat.lt_of_lt_of_le (Heap.lt_size e3) hz
    · exact frames_out h3 hz env he L' hf

noncomputable def outOf (l : List Int) : Nat → Int := fun m => l.getD (l.length - 1 - m) 0
theorem outs_tail (p : Gn) (x : Int) : ∀ (pre l : List Int), p.out = outOf (pre ++ l) → Outs p l
  | _, [], _ => trivial
  | pre, y :: r, h => by
    refine ⟨?_, outs_tail p x (pre ++ [y]) r (by rw [h, List.append_assoc]; rfl)⟩
    rw [h, outOf]
    have : (pre ++ y :: r).length - 1 - r.length = pre.length := by simp
    rw [this, List.getD_eq_getElem?_getD, List.getElem?_append_right (Nat.le_refl _), Nat.sub_self]
    rfl
theorem outs_of (p : Gn) (l : List Int) (h : p.out = outOf l) : Outs p l := outs_tail p 0 [] l h


theorem feed_enc {w : World} {mean mg mb G} {g base h7 h8 : Heap} {L Lg vl nv a gi dp un len n0 : Nat} {outer : List Env} {gd : Option (List Code)} {env : Env} {fo : Obj} {oc : Value} {od : Option Addr} {fd : FuncData} {sl : Array (Option Value)} {side : List (Addr × Obj)} {vs : List Value} {ks : List Int} {enc : List Int → List Int} {m : Str → Option Value} {gs : GenState}
    (S : St w mean mg mb G) (gl : Kp G g) (nl : ∀ h, Kp g h → h.NoLimit) (hz : g.objs.size ≤ L) (hLg : L < Lg) (hvl : L < vl) (hnv : L < nv) (hvg : vl ≠ Lg) (hng : nv ≠ Lg) (hvn : vl ≠ nv) (hfo : fo = ⟨oc, od, .func fd, sl⟩)
    (hG : GenReady w mean mg mb G nv some false Lg m enc len gs h7) (NV : NextV w mean mg mb G nv vl side some) (hsd : (nv, fo) ∈ side) (hso : ∀ q ∈ side, q.1 ≠ Lg ∧ q.1 ≠ vl) (hs7 : ∀ q ∈ side, h7.get? q.1 = some q.2) (F7 : Fr g Lg h7 m)
    (hv7 : h7.get? vl = some (W.listOf vs.toArray n0)) (hi : IntsAre vs ks) (hlen : ks.length = len) (hks : ∀ k ∈ ks, 0 ≤ k ∧ k < 256) (hl1 : ks.length ≤ 1000) (hbz : ∀ b o, base.get? b = some o → b < L) (hfr : ∀ e ∈ env :: outer, ∀ L', e.frame = some L' → L' ≤ L)
    (hdp : dp + 20 < recursionLimit) (hun : un + 100 < cLine) (k78 : ∀ b ∈ Lg :: vl :: side.map (·.1), ∀ o, h7.get? b = some o → h8.get? b = some o) :
    Feed ⟨g, [Lg, vl], Lg :: vl :: side.map (·.1), outOf (enc ks), false, base, env :: outer⟩ w ⟨none, dp, some (env :: outer), gd, un⟩ a gi (enc ks).length gs h8 := by
  have fresh : ∀ b, L < b → g.get? b = none := fun b hb => none_of_size (Nat.le_trans hz (Nat.le_of_lt hb))
  have bfresh : ∀ b, L < b → base.get? b = none := fun b hb => by
    cases q : base.get? b with
    | none => rfl
    | some o => exact absurd (hbz b o q) (Nat.not_lt_of_lt hb)
  refine (feed_of rfl (by show dp < _; omega) nl (fun h => by cases h) _ _ h7 ?_).mono k78
  subst hfo
  refine hG _ dp un gd vl oc od fd sl side vs n0 ks ⟨rfl, .head _, .tail _ (.head _), .tail _ (.tail _ (List.mem_map_of_mem (f := (·.1)) hsd)), Nat.le_trans hz (Nat.le_of_lt hLg), hvg, hng, hvn, fresh _ hvl, fresh _ hnv, bfresh _ hLg, bfresh _ hvl, fun e he L' hf hm => ?_⟩ S gl hdp hun hsd (fun q hq hm => ?_) NV rfl F7 hs7 (fun q hq => .tail _ (.tail _ (List.mem_map_of_mem (f := (·.1)) hq))) hv7 hi hlen hks hl1 (outs_of _ _ rfl)
  · have := hfr e he L' hf
    rcases mem2 hm with rfl | rfl
    · exact absurd hLg (Nat.not_lt_of_le this)
    · exact absurd hvl (Nat.not_lt_of_le this)
  · simp only [List.mem_cons, List.not_mem_nil, or_false] at hm
    exact hm.elim (hso q hq).1 (hso q hq).2


theorem comp_feed2 {w : World} {A A0 : Around} {E : Value → Shared → Prop} {s : Shared} {h₀ base : Heap} {outer : List Env} {L : Addr} {m : Str → Option Value} {env : Env} {elt iter : Expr} {x : Str} {px : Pos} {scope : Scope} {cl : List (Str × Addr)} {pos : Pos} {Q : Value → Shared → Prop}
    {own fp : List Addr} {a gi : Nat} {gs : GenState} {ks : List Int} {front : List (Addr × Obj)} (V : Nat → Int → Value → Prop)
    (hn : ks.length ≤ 8000) (B : Below A0 base outer h₀) (hf : env.frame = some L) (hke : env.scope.kind = .function) (F : Fr h₀ L s.heap m) (N : News h₀ L s.heap front)
    (hit : ∀ Q', (∀ tk, Q' (.ref a) { s with toks := tk }) → wpAny (model PR w) A (eval iter env) Q' E s)
    (hg : s.heap.IsGen a gi) (hgs : s.gens[gi]? = some gs) (feed : Feed ⟨h₀, own, fp, outOf ks, false, base, env :: outer⟩ w A a gi ks.length gs s.heap) (hfp : ∀ b ∈ fp, b < s.heap.objs.size) (hob : ∀ b ∈ own, b < s.heap.objs.size) (ho0 : ∀ b ∈ own, h₀.get? b = none)
    (hoL : L ∉ own) (hfL : L ∉ fp) (haL : a ≠ L) (hof : ∀ q ∈ front, q.1 ∉ own) (hoa : a ∉ own)
    (body : ∀ i k t oC C D m₂ h tk gn (E' : Value → Shared → Prop) ys (ld : List (Addr × Obj)), ks[i]? = some k → LCg.NsObj oC m₂ → m₂ x = some (.int k t) → Fr h₀ L h m → News h₀ L h ((C, oC) :: (D, LCg.lst ys) :: (front ++ ld)) → (∀ q ∈ front ++ ld, q.1 ≠ C ∧ q.1 ≠ D) → C ≠ D →
      wpAny (model PR w) A (eval elt (compEnvC scope cl C env)) (fun y s₂ => Fin (EltTo gn s.drawn s.os h₀ L m ((C, oC) :: (D, LCg.lst ys) :: (front ++ ld)) (V i k) y s₂)) E' { s with heap := h, toks := tk, gens := gn })
    (fin : ∀ D h tk ys, ys.length = ks.length → (∀ i k, ks[i]? = some k → ∃ y, ys[i]? = some y ∧ V i k y) → Fr h₀ L h m → News h₀ L h ((D, LCg.lst ys) :: front) → (∀ q ∈ front, q.1 < D) → Q (.ref D) { s with heap := h, toks := tk, gens := s.gens.setIfInBounds gi .finished })
    (hclos : closureFor scope env = pure cl := by rfl) (hcell : ∀ y ∈ scope.names, y.2 ≠ .cell := by decide) (hkind : scope.kind = .function := by rfl)
    (hnames : ∀ y ∈ scope.names, y.2 = .local → scope.names.lookup y.1 = some .local := by decide) (hx : scope.names.lookup x = some .local := by rfl)
    (hs : ∀ x, foldedSetIterable iter env x = pure x := by intro _; rfl) :
    wpAny (model PR w) A (eval (.ListComp elt [⟨.Name x px, iter, [], 0⟩] scope pos) env) Q E s :=
  comp_feed (p := ⟨h₀, own, fp, outOf ks, false, base, env :: outer⟩) V rfl rfl hn (outs_of _ _ rfl) F N hit hg hgs feed hfp hob ho0 hoL hfL haL hof hoa
    (fun h' F' => let K' := pushX B F' hf hke; ⟨F'.keep, K'.frames, K'.stays⟩) body fin hclos hcell hkind hnames hx hs


theorem encL_len : ∀ ks : List Int, (encL ks).length ≤ 4 * ks.length
  | [] => by simp [encL]
  | [_] => by simp [encL]
  | [_, _] => by simp [encL]
  | _ :: _ :: _ :: r => by
    have := encL_len r
    simp only [encL, List.length_cons]
    omega
theorem encB_len : ∀ ks : List Int, (encB ks).length ≤ 4 * ks.length
  | [] => by simp [encB]
  | [_] => by simp [encB]
  | [_, _] => by simp [encB]
  | _ :: _ :: _ :: r => by
    have := encB_len r
    simp only [encB, List.length_cons]
    omega
theorem or_bd {x y : Int} (hx : 0 ≤ x) (hy : 0 ≤ y) : 0 ≤ Builtin.bitOr x y ∧ Builtin.bitOr x y ≤ x + y := by
  rw [bitOr_and]
  have := and_bd hx hy
  have h2 : Builtin.bitAnd x y ≤ y := this.2
  omega
theorem fdiv_pow {v : Int} (h : 0 ≤ v) (n : Nat) : v.fdiv (2 ^ n) = v / 2 ^ n := Int.fdiv_eq_ediv_of_nonneg _ (Int.le_of_lt (Int.pow_pos (by decide)))
theorem fa_cons {α : Type} {P : α → Prop} {a : α} {l : List α} (h1 : P a) (h2 : ∀ x ∈ l, P x) : ∀ x ∈ a :: l, P x := List.forall_mem_cons.mpr ⟨h1, h2⟩
theorem sh_bd {w W : Int} (j : Nat) (B : Int) (h : 0 ≤ w ∧ w < W) (hB : (W - 1) / 2 ^ j < B) : 0 ≤ w.fdiv (2 ^ j) ∧ w.fdiv (2 ^ j) < B := by
  rw [fdiv_pow h.1]
  have hp : (0 : Int) < 2 ^ j := Int.pow_pos (by decide)
  exact ⟨Int.ediv_nonneg h.1 (Int.le_of_lt hp), Int.lt_of_le_of_lt (Int.ediv_le_ediv hp (Int.le_sub_one_of_lt h.2)) hB⟩
theorem am_bd {v : Int} (m B : Int) (hv : 0 ≤ v) (hm : 0 ≤ m) (h : m < B) : 0 ≤ Builtin.bitAnd v m ∧ Builtin.bitAnd v m < B := ⟨(and_bd hv hm).1, Int.lt_of_le_of_lt (and_bd hv hm).2 h⟩
theorem ms_bd {v : Int} (m : Int) (k : Nat) (hv : 0 ≤ v) (hm : 0 ≤ m) : 0 ≤ Builtin.bitAnd v m * 2 ^ k ∧ Builtin.bitAnd v m * 2 ^ k ≤ m * 2 ^ k :=
  have hp : (0 : Int) ≤ 2 ^ k := Int.le_of_lt (Int.pow_pos (by decide))
  ⟨Int.mul_nonneg (and_bd hv hm).1 hp, Int.mul_le_mul_of_nonneg_right (and_bd hv hm).2 hp⟩
theorem msl {v : Int} (m : Int) (k : Nat) (B : Int) (hv : 0 ≤ v) (hm : 0 ≤ m) (h : m * 2 ^ k < B) : 0 ≤ Builtin.bitAnd v m * 2 ^ k ∧ Builtin.bitAnd v m * 2 ^ k < B := ⟨(ms_bd m k hv hm).1, Int.lt_of_le_of_lt (ms_bd m k hv hm).2 h⟩
theorem mu_bd {v : Int} (k : Nat) (h : 0 ≤ v ∧ v < 64) : 0 ≤ v * 2 ^ k ∧ v * 2 ^ k ≤ 63 * 2 ^ k :=
  have hp : (0 : Int) ≤ 2 ^ k := Int.le_of_lt (Int.pow_pos (by decide))
  ⟨Int.mul_nonneg h.1 hp, Int.mul_le_mul_of_nonneg_right (Int.le_of_lt_add_one h.2) hp⟩
theorem ob1 {x y X Y : Int} (B : Int) (hx : 0 ≤ x ∧ x ≤ X) (hy : 0 ≤ y ∧ y < Y) (h : X + Y ≤ B) : 0 ≤ Builtin.bitOr x y ∧ Builtin.bitOr x y < B := by
  have := or_bd hx.1 hy.1; omega
theorem ob2 {x y X Y : Int} (B : Int) (hx : 0 ≤ x ∧ x < X) (hy : 0 ≤ y ∧ y ≤ Y) (h : X + Y ≤ B) : 0 ≤ Builtin.bitOr x y ∧ Builtin.bitOr x y < B := by
  have := or_bd hx.1 hy.1; omega
theorem encL_bd : ∀ ks : List Int, (∀ k ∈ ks, 0 ≤ k ∧ k < 256) → ∀ x ∈ encL ks, 0 ≤ x ∧ x < 64
  | [], _ => List.forall_mem_nil _
  | [v1], h =>
    have b1 := h v1 (.head _)
    fa_cons (am_bd 63 64 b1.1 (by decide) (by decide)) (fa_cons (sh_bd 6 64 b1 (by decide)) (List.forall_mem_nil _))
  | [v1, v2], h =>
    have b1 := h v1 (.head _)
    have b2 := h v2 (.tail _ (.head _))
    fa_cons (am_bd 63 64 b1.1 (by decide) (by decide)) (fa_cons (ob1 64 (ms_bd 15 2 b2.1 (by decide)) (sh_bd 6 4 b1 (by decide)) (by decide)) (fa_cons (sh_bd 4 64 b2 (by decide)) (List.forall_mem_nil _)))
  | v1 :: v2 :: v3 :: r, h =>
    have b1 := h v1 (.head _)
    have b2 := h v2 (.tail _ (.head _))
    have b3 := h v3 (.tail _ (.tail _ (.head _)))
    fa_cons (am_bd 63 64 b1.1 (by decide) (by decide)) (fa_cons (ob1 64 (ms_bd 15 2 b2.1 (by decide)) (sh_bd 6 4 b1 (by decide)) (by decide)) (fa_cons (ob1 64 (ms_bd 3 4 b3.1 (by decide)) (sh_bd 4 16 b2 (by decide)) (by decide)) (fa_cons (sh_bd 2 64 b3 (by decide))
      (encL_bd r fun k hk => h k (.tail _ (.tail _ (.tail _ hk)))))))
theorem encB_bd : ∀ ks : List Int, (∀ k ∈ ks, 0 ≤ k ∧ k < 256) → ∀ x ∈ encB ks, 0 ≤ x ∧ x < 64
  | [], _ => List.forall_mem_nil _
  | [v1], h =>
    have b1 := h v1 (.head _)
    fa_cons (sh_bd 2 64 b1 (by decide)) (fa_cons (msl 3 4 64 b1.1 (by decide) (by decide)) (List.forall_mem_nil _))
  | [v1, v2], h =>
    have b1 := h v1 (.head _)
    have b2 := h v2 (.tail _ (.head _))
    fa_cons (sh_bd 2 64 b1 (by decide)) (fa_cons (ob1 64 (ms_bd 3 4 b1.1 (by decide)) (sh_bd 4 16 b2 (by decide)) (by decide)) (fa_cons (msl 15 2 64 b2.1 (by decide) (by decide)) (List.forall_mem_nil _)))
  | v1 :: v2 :: v3 :: r, h =>
    have b1 := h v1 (.head _)
    have b2 := h v2 (.tail _ (.head _))
    have b3 := h v3 (.tail _ (.tail _ (.head _)))
    fa_cons (sh_bd 2 64 b1 (by decide)) (fa_cons (ob1 64 (ms_bd 3 4 b1.1 (by decide)) (sh_bd 4 16 b2 (by decide)) (by decide)) (fa_cons (ob1 64 (ms_bd 15 2 b2.1 (by decide)) (sh_bd 6 4 b3 (by decide)) (by decide)) (fa_cons (am_bd 63 64 b3.1 (by decide) (by decide))
      (encB_bd r fun k hk => h k (.tail _ (.tail _ (.tail _ hk)))))))

end
section

section
variable {w : World} {mean : ExcName → Option Value} {mg mb : Str → Option Value} {G : Heap} {A : Around} {base : Heap} {outer : List Env} {d u : Nat} {s : Shared}
  {R : Result → Shared → Prop} {name qual : Str} {params : Arguments} {body : List Stmt} {scope : Scope} {dV kV doc pm cdv ct oc : Value} {an od : Option Addr} {osl : Array (Option Value)} {f : Addr} {args : Args} {binds : List (Str × Value)} {cl : List (Str × Addr)}

theorem enterF (C : Cx w mean mg mb G A base outer d u s.heap) (h1 : 1 ≤ d) (ho : s.heap.get? f = some ⟨oc, od, .func (fnX name qual params body scope cl dV kV doc pm an cdv ct), osl⟩)
    (hcd : s.heap.CodeRec cdv qual) (hbind : BindsTo s (fnX name qual params body scope cl dV kV doc pm an cdv ct) args binds) (hloc : ∀ y ∈ binds, scope.names.lookup y.1 = some .local)
    (h : ∀ L h₁, Fr s.heap L h₁ (mp (binds.reverse.map fun x => (x.1, some x.2))) →
      wpAny (model PR w) (A.deeper (envX qual scope L f cdv cl)) (execs body (envX qual scope L f cdv cl))
        (fun fl s' => R (.ok (.ret (match fl with | .ret v => v | _ => .none))) s')
        (fun e s' => wpAny (model PR w) (A.deeper (envX qual scope L f cdv cl)) (leaving (envX qual scope L f cdv cl) e) (fun _ s'' => R (.error e) s'') (fun e' s'' => R (.error e') s'') s')
        { s with heap := h₁, toks := s.toks + binds.length })
    (hco : scope.isCoroutine = false) (hgen : scope.isGenerator = false) (hk : scope.kind = .function) (hcell : ∀ x ∈ scope.names, x.2 ≠ .cell) : codeAny (model PR w) A (.call (.ref f) args) R s := by
  have hd := C.hd
  refine codeAny_call_def (fd := fnX name qual params body scope cl dV kV doc pm an cdv ct) (body := body) (binds := binds) (by omega) ho rfl C.T.nolimit hcd rfl hbind hcell hloc (fun h₁ hns hk₁ => ?_) hco hgen hk
  exact h s.heap.objs.size h₁ (fr_cg ⟨hns, hk₁, Nat.le_refl _⟩ (mp_lookup _))
end

theorem fr_hide {h₀ h : Heap} {L : Addr} {m : Str → Option Value} (l : List Addr) (F : Fr h₀ L h m) : Fr (hideAll h₀ l) L h m := ⟨F.ns, fun b o e => F.keep b o (of_hideAll _ e), by rw [hideAll_size]; exact F.above⟩
theorem news_hide {h₀ h : Heap} {L : Addr} {m : Str → Option Value} (l : List Addr) (F : Fr h₀ L h m) {news : List (Addr × Obj)} (N : ∀ q ∈ news, q.1 ∈ l ∧ h₀.get? q.1 = some q.2) : News (hideAll h₀ l) L h news := fun q hq =>
  ⟨F.keep _ _ (N q hq).2, Nat.ne_of_lt (Nat.lt_of_lt_of_le (Heap.lt_size (N q hq).2) F.above), hideAll_none l (N q hq).1⟩
theorem news_hide2 {h₀ h : Heap} {L : Addr} (l : List Addr) {news : List (Addr × Obj)} (N : News h₀ L h news) : News (hideAll h₀ l) L h news := fun q hq =>
  ⟨(N q hq).1, (N q hq).2.1, by cases e : (hideAll h₀ l).get? q.1 with | none => rfl | some o => have := of_hideAll _ e; rw [(N q hq).2.2] at this; cases this⟩
theorem keeps_hide {G h : Heap} (l : List Addr) (k : Kp G h) (hl : ∀ a ∈ l, G.get? a = none) : Kp G (hideAll h l) := fun b o e => hideAll_get l (k b o e) fun hm => by rw [hl b hm] at e; cases e

theorem set_push (gens : Array GenState) (gs y : GenState) : (gens.push gs).setIfInBounds gens.size y = gens.push y := by
  apply Array.ext
  · simp
  · intro i h1 h2
    rw [Array.getElem_setIfInBounds (by simpa using h1)]
    by_cases e : gens.size = i
    · subst e; simp
    · rw [if_neg e]
      have : i < gens.size := by simp at h2; omega
      rw [Array.getElem_push_lt this, Array.getElem_push_lt this]
theorem bare_fin (gens : Array GenState) (gs : GenState) (x : AllBare gens) : AllBare ((gens.push gs).setIfInBounds gens.size .finished) := by
  rw [set_push]; exact x.push rfl

/-- a code table: empty, or with its one code -/
noncomputable def Tab (P : Addr) (l c : Nat) (q : Str) (h : Heap) : Prop := ∃ ps, h.get? P = some (tabObj ps) ∧ (ps = #[] ∨ ∃ cv, ps = #[rawInt l, rawInt c, .ref cv] ∧ h.CodeRec (.ref cv) q)
noncomputable abbrev Tab88 : Heap → Prop := Tab 88 55 8 (Str.ofString "Base64Engine.encode_bytes.<locals>.next_value")
noncomputable def encOf (bl : List UInt8) (big : Bool) (b : Array UInt8) : List Int := ((if big then encB else encL) (KBw.bInts b)).map fun k => ((bl.getD k.toNat 0).toNat : Int)

theorem enc91 {w : World} {mean mg mb G base outer d u dp un gd} {s : Shared} {R : Result → Shared → Prop} {e : Addr} {bl : List UInt8} {big : Bool} {b : Array UInt8} {tb : Tok}
    (C : Cx w mean mg mb G ⟨none, dp, some outer, gd, un⟩ base outer d u s.heap) (hd : 40 ≤ d) (hu : 400 ≤ u) (he : Eng w s.heap e bl big) (hb : b.size ≤ 100) (ht0 : Tab88 s.heap) (hb88 : base.get? 88 = none)
    (hR : ∀ h' tk gn t, KpB [88] s.heap h' → Tab88 h' → (AllBare s.gens → AllBare gn) → R (.ok (.ret (.bytes (byteArr (encOf bl big b)) t))) { s with heap := h', toks := tk, gens := gn }) :
    codeAny (model PR w) ⟨none, dp, some outer, gd, un⟩ (.call (.ref 91) ⟨[.ref e, .bytes b tb], []⟩) R s := by
  obtain ⟨ps, ht, hps⟩ := ht0
  have he0 := he
  obtain ⟨hlen, hnd, dx, h1, h2, h3, t1, t2, t3, tb', lk, n, f, he, hx, _⟩ := he
  have X0 := C.X
  revert X0
  delta PR
  k_fill
  intro X0
  refine enterC C (by omega) (by k_is) (by k_is) (BindsTo.of_eq rfl) rfl (by decide +kernel) ?_ rfl rfl rfl
  intro L h₁ tk cells F N Y B X T
  obtain ⟨g, hg⟩ : ∃ g, g = hideAll s.heap [88] := ⟨_, rfl⟩
  have gl : Kp G g := by rw [hg]; exact keeps_hide [88] C.le (by intro a ha; rw [List.mem_singleton.mp ha]; exact C.S.n88)
  have gs : Kp g s.heap := fun b o e => of_hideAll _ (hg ▸ e)
  have gk : ∀ b o, b ≠ 88 → s.heap.get? b = some o → g.get? b = some o := fun b o hb e => by rw [hg]; exact hideAll_get _ e (by simpa using hb)
  have gz : g.objs.size = s.heap.objs.size := by rw [hg]; exact hideAll_size _ _
  replace N := List.forall_mem_append.mpr ⟨news_hide2 [88] N, news_hide [88] F (news := [(88, tabObj ps)]) (by intro q hq; rw [List.mem_singleton.mp hq]; exact ⟨.head _, ht⟩)⟩
  replace N : News g L h₁ (cells ++ [(88, tabObj ps)]) := by rw [hg]; exact N
  replace F := fr_hide [88] F
  rw [← hg] at F
  clear hg
  have g88 : ∀ b o, (∀ vs, o.data ≠ .fields vs) → s.heap.get? b = some o → g.get? b = some o := fun b o hn e => gk b o (fun h => hn _ (by rw [h, ht] at e; cases e; rfl)) e
  have Cg := C.ghost gl g88 (fun b o e => gk b o (fun h => by rw [h, hb88] at e; cases e) (C.B.stays _ _ e))
  have Eg := he0.move g88
  have e88 : ∀ b o, s.heap.get? b = some o → o.cls ≠ .none → g.get? b = some o := fun b o eb hn => gk b o (fun h => by rw [h, ht] at eb; cases eb; exact hn rfl) eb
  replace he := e88 _ _ he (by nofun)
  replace hx := e88 _ _ hx (by nofun)
  replace hps : ps = #[] ∨ ∃ cv, ps = #[rawInt 55, rawInt 8, .ref cv] ∧ g.CodeRec (.ref cv) (Str.ofString "Base64Engine.encode_bytes.<locals>.next_value") := hps.imp id fun ⟨cv, e1, c, oc, vs, t, e2, e3, e4, e5⟩ => ⟨cv, e1, c, oc, vs, t, e2, gk c oc (fun h => by rw [h, ht] at e3; cases e3; cases e4; rw [e1] at e5; cases e5) e3, e4, e5⟩
  clear X0 X T
  have X := C.S.X.keeps gl
  have T := C.S.T.keeps gl
  k_cells Y
  rename_i o3 o2 d3 d2
  replace d3 : o3.data = .cell none := d3
  replace d2 : o2.data = .cell (some (.ref e)) := d2
  have F : Fr g L h₁ (mp [(Str.ofString "source", some (.bytes b tb))]) := F
  replace N : News g L h₁ [(L + 1 + 1, o3), (L + 1, o2), (88, tabObj ps)] := N
  have l88 : @LT.lt Nat instLTNat 88 L := Nat.lt_of_lt_of_le (Heap.lt_size ht) (gz ▸ F.above)
  have l88b : @LT.lt Nat instLTNat 88 h₁.objs.size := Nat.lt_trans l88 F.ns.lt
  show wpAny _ _ _ _ _ _
  k_fold
  tb_rel
  rename_i F2 N2
  refine call_list_bytes rfl b tb (by omega) fun vl hA tkA vs nA hsz hkA hoA hiA => ?_
  have hlt := news_lt N2 hsz
  k_lt hlt
  replace N2 := news_new F2 N2 hkA hsz hoA
  replace F2 := fr_kp F2 hkA
  dsimp only
  tb_rel
  rename_i hX oX FX NX dX
  refine nestDef_K rfl rfl rfl ?_
  rw [show qualnameIn (envOfC (Str.ofString "Base64Engine.encode_bytes") _ L 91 (Value.ref 90)) (Str.ofString "next_value") (Str.ofString "next_value") = Str.ofString "Base64Engine.encode_bytes.<locals>.next_value" from by kernel_rfl]
  refine' nest_tab (ps := ps) (pos := ⟨55, 8, 56, 32⟩) (mg := mg) FX NX T (C.S.cd.2.1.keeps gl) rfl ?U9 ?M9 hps rfl ?H9
  (case U9 => k_updF)
  (case M9 => k_mem)
  intro f c' oc vs0 t0 ctv doc h5 tk5 x ox fo hfo F5 N5 hx5 hd5 hv5 hlt5
  have NV : NextV w mean mg mb G f vl [(f, fo), (c', oc), (L + 1 + 1, oX)] some := by
    intro dp gd un base outer s R k t vs n0 C1 hbv hfv hsd hv hvs hok hno
    have q1 := hsd _ (.head _)
    have q2 := hsd _ (.tail _ (.head _))
    have q3 := hsd _ (.tail _ (.tail _ (.head _)))
    rw [hfo] at q1
    refine enterF C1 (by omega) q1 ⟨c', oc, vs0, t0, rfl, q2, hd5, hv5⟩ (BindsTo.of_eq rfl) (by intro y hy; cases hy) ?_ rfl rfl rfl (by decide)
    intro L1 h1 F1
    have Gn1 : ∀ b, g.get? b = none → G.get? b = none := fun b hb => by cases q : G.get? b with | none => rfl | some o => rw [gl _ _ q] at hb; cases hb
    have gvl := (NX _ (.head _)).2.2
    have gcl := (NX _ (.tail _ (.tail _ (.head _)))).2.2
    have gl1 : Kp G (hideAll s.heap [vl, L + 1 + 1]) := keeps_hide _ C1.le (by
      intro b hb
      rcases mem_c hb with rfl | hb
      · exact Gn1 _ gvl
      · rw [List.mem_singleton.mp hb]; exact Gn1 _ gcl)
    have X := C1.S.X.keeps gl1
    have T := C1.S.T.keeps gl1
    have N1 : News (hideAll s.heap [vl, L + 1 + 1]) L1 h1 [(vl, W.listOf (Value.int k t :: vs).toArray n0), (L + 1 + 1, oX)] := news_hide _ F1 (by
      intro q hq
      rcases mem_c hq with rfl | hq
      · exact ⟨.head _, hv⟩
      · rw [List.mem_singleton.mp hq]; exact ⟨.tail _ (.head _), q3⟩)
    have F1' := fr_hide [vl, L + 1 + 1] F1
    clear F1
    have hvc : @LT.lt Nat instLTNat (L + 1 + 1) vl := hlt.2.1
    clear hlt5 N5 F5 FX NX hlt gs gk gz he hx e88 hps l88 l88b hx5 hsd q1 q2 C gl1 gvl gcl Gn1 gl hno
    iterate 3 tb_start
    refine nameX_F N1 rfl (.tail _ (.head _)) dX ?_
    iterate 5 tb_start
    refine kl_popAt (its := (Value.int k t :: vs).toArray) (k := 0) (p := []) (q := vs) (y := .int k t) F1' N1 rfl (by simp [seqIndex?]) rfl (.head (by intro p hp; rw [List.mem_singleton.mp hp]; exact Nat.ne_of_lt hvc)) (by rw [sizeLine_eq]; simp; omega) fun h6 F6 N6 => ?_
    tb_rel
    refine hok k rfl h6 _ t _ (fun b o hb e => ?_) (N6 _ (.head _)).1
    by_cases hbc : b = L + 1 + 1
    · subst hbc; rw [q3] at e; cases e; exact (N6 _ (.tail _ (.head _))).1
    · exact F6.keep _ _ (hideAll_get _ e (by simpa using ⟨by simpa using hb, hbc⟩))
  have hfd : ((b.size : Nat) : Int).fdiv 3 = ((b.size / 3 : Nat) : Int) := by rw [Int.fdiv_eq_ediv_of_nonneg _ (by decide)]; rfl
  have hfm : ((b.size : Nat) : Int).fmod 3 = ((b.size % 3 : Nat) : Int) := by rw [Int.fmod_eq_emod_of_nonneg _ (by decide)]; rfl
  clear FX NX
  dsimp only
  k_lt hlt5
  rw [hfd, hfm] at F5
  clear hfd hfm
  tb_rel
  rename_i FS NS
  refine wpAny_call ?_
  refine enc71 (c := b.size / 3) (tl := b.size % 3) (Cg.push FS rfl rfl (by omega) (by omega)) (by omega) (by omega) (Eg.keep FS.keep) (by omega) fun Lg h7 a tk7 nm qn gs F7 N7 hLa hG => ?_
  have NG := news_new FS NS F7.keep (Nat.le_trans F7.above (Nat.le_of_lt hLa)) (N7 _ (.head _)).1
  obtain ⟨oG, hoG⟩ : ∃ o, h7.get? Lg = some o := let ⟨o, _, _, e, _⟩ := F7.ns; ⟨o, e⟩
  have NL := news_new FS NS F7.keep F7.above hoG
  replace NG := news_two NL NG
  have FG := fr_kp FS F7.keep
  have hfS := news_lt NS F7.above
  have lLg : @LT.lt Nat instLTNat L Lg := Nat.lt_of_lt_of_le FS.ns.lt F7.above
  have pF7 := Fin.mk (fr_out FS F7)
  have pNG := Fin.mk NG
  clear FS NL F7
  dsimp only
  tb_rel
  rename_i h8 FZ NZ
  refine comp_feed2 (own := [Lg, vl]) (fp := Lg :: vl :: [(f, fo), (c', oc), (L + 1 + 1, oX)].map (·.1)) (a := a) (gi := s.gens.size) (gs := gs) (ks := (if big then encB else encL) (KBw.bInts b)) (front := [(x, ox), (L + 1, o2), (88, tabObj #[rawInt 55, rawInt 8, .ref c'])])
    (fun _ k y => ∃ t, y = Value.int ((bl.getD k.toNat 0).toNat : Int) t) ?n Cg.B rfl rfl FZ ?N (fun Q' hQ' => ?it) (IsGen_of (NZ _ (.tail _ (.head _))).1) ?gs ?feed ?fp ?ob ?o0 ?oL ?fL ?aL ?of ?oa (fun i k t oC C D m₂ h tk gn E' ys ld hk hC hx F N off ne => ?body) (fun D h tk ys h1 h2 F N hfr => ?fin)
  case n =>
    have h1 := encL_len (KBw.bInts b)
    have h2 := encB_len (KBw.bInts b)
    rw [KBw.ints_length] at h1 h2
    clear hlt5 hfS hlt
    split <;> omega
  case N => exact news_sub NZ (.cons _ (.cons _ (.cons _ (.cons_cons _ (.cons _ (.cons _ (.cons _ (.cons_cons _ (.cons_cons _ .slnil)))))))))
  case gs => simp
  case it =>
    iterate 1 tb_start
    exact hQ' _
  case o0 =>
    intro b hb
    rcases mem2 hb with rfl | rfl
    · exact (NZ _ (.head _)).2.2
    · exact (NZ _ (.tail _ (.tail _ (.tail _ (.tail _ (.head _)))))).2.2
  case ob =>
    intro b hb
    rcases mem2 hb with rfl | rfl
    · exact Heap.lt_size (NZ _ (.head _)).1
    · exact Heap.lt_size (NZ _ (.tail _ (.tail _ (.tail _ (.tail _ (.head _)))))).1
  case oL =>
    intro hb
    rcases mem2 hb with h | h
    · exact (NZ _ (.head _)).2.1 h
    · exact (NZ _ (.tail _ (.tail _ (.tail _ (.tail _ (.head _)))))).2.1 h
  case aL => exact (NZ _ (.tail _ (.head _))).2.1
  case fL =>
    intro hb
    rcases mem5 (show L ∈ [Lg, vl, f, c', L + 1 + 1] from hb) with h | h | h | h | h
    · exact (NZ _ (.head _)).2.1 h
    · exact (NZ _ (.tail _ (.tail _ (.tail _ (.tail _ (.head _)))))).2.1 h
    · exact (NZ _ (.tail _ (.tail _ (.head _)))).2.1 h
    · rcases hx5 with ⟨hx5, _⟩ | hx5
      · exact (NZ _ (.tail _ (.tail _ (.tail _ (.head _))))).2.1 (hx5.trans h)
      · have := Heap.lt_size hx5.2
        rw [h] at this
        exact absurd this (Nat.not_lt_of_le FZ.above)
    · exact absurd h (Nat.ne_of_gt (Nat.lt_succ_of_lt (Nat.lt_succ_self L)))
  case of =>
    have e1 := (NZ _ (.tail _ (.tail _ (.tail _ (.head _))))).1
    have e2 := (NZ _ (.tail _ (.tail _ (.tail _ (.tail _ (.head _)))))).1
    have e3 := hlt.2.1
    have hxl : x ≠ Lg := Nat.ne_of_lt (hfS _ (.tail _ (.head _)))
    have hll : (L + 1 : Nat) ≠ Lg := fun h => Nat.lt_irrefl _ (h ▸ hfS (L + 1, o2) (by simp))
    have hxv : x ≠ vl := by
      intro h
      rcases hx5 with ⟨_, h2⟩ | ⟨⟨h2, _⟩, _⟩
      · rw [h, e2, h2] at e1
        have := congrArg Obj.data (Option.some.inj e1)
        rw [hd5] at this; cases this
      · exact Nat.lt_irrefl _ (by have := hlt5.1; rw [← h, h2] at this; exact this)
    intro q hq hb
    simp only [List.mem_cons, List.not_mem_nil, or_false] at hb hq
    rcases hq with rfl | rfl | rfl
    · exact hb.elim hxl hxv
    · exact hb.elim hll (Nat.ne_of_lt hlt.2.2.1)
    · exact hb.elim (Nat.ne_of_lt (Nat.lt_trans l88 lLg)) (Nat.ne_of_lt hlt.2.2.2)
  case oa =>
    intro hb
    simp only [List.mem_cons, List.not_mem_nil, or_false] at hb
    rcases hb with h | h
    · exact absurd h (Nat.ne_of_gt hLa)
    · have e1 := (NZ _ (.tail _ (.head _))).1
      have e2 := (NZ _ (.tail _ (.tail _ (.tail _ (.tail _ (.head _)))))).1
      rw [h, e2] at e1
      have e3 := congrArg Obj.cls (Option.some.inj e1)
      injection e3 with e4
      exact absurd e4 (by decide)
  case body =>
    have hkb : 0 ≤ k ∧ k < 64 := by
      have hm := List.mem_of_getElem? hk
      split at hm
      · exact encB_bd _ (bInts_bd b) k hm
      · exact encL_bd _ (bInts_bd b) k hm
    tb_rel
    refine wpAny_call ?_
    refine enc64 (Cg.push F rfl rfl (by omega) (by omega)) (by omega) (Eg.keep F.keep) hkb.1 (by rw [hlen]; exact hkb.2) fun h' tk' t' kp => ?_
    dsimp only
    exact .mk ⟨_, _, rfl, fr_kp F kp, news_kp N kp, _, rfl⟩
  case fin =>
    have hI := ints_ptw (vs := ys) (ks := encOf bl big b) (by rw [h1, encOf, List.length_map]) fun i k hk => by
      rw [encOf, List.getElem?_map] at hk
      obtain ⟨k0, hk0, rfl⟩ := Option.map_eq_some_iff.mp hk
      obtain ⟨y, ey, t, rfl⟩ := h2 i k0 hk0
      exact ⟨t, ey⟩
    have hIl := hI.length
    have hE1 := encL_len (KBw.bInts b)
    have hE2 := encB_len (KBw.bInts b)
    rw [KBw.ints_length] at hE1 hE2
    have hsz : ys.length ≤ 400 := by rw [h1]; clear hlt5 hfS hlt; split <;> omega
    dsimp only
    iterate 1 tb_start
    refine call_bytes_ints (list_at (N _ (.head _)).1) hI (fun k hk => ?_) (by rw [sizeLine_eq]; omega) rfl fun h6 t6 k6 hk6 => ?_
    · rw [encOf] at hk
      obtain ⟨k0, _, rfl⟩ := List.mem_map.mp hk
      have := (bl.getD k0.toNat 0).toNat_lt
      omega
    replace F := fr_kp F hk6
    replace N := news_kp N hk6
    clear hlt5 hfS hlt hfr hE1 hE2
    tb_rel
    rename_i F' N'
    refine hR _ _ _ _ (fun b o hb e => F'.keep _ _ (gk b o (by simpa using hb) e)) ⟨_, (N' _ (.tail _ (.tail _ (.tail _ (.head _))))).1, .inr ⟨c', rfl, c', oc, vs0, t0, rfl, ?_, hd5, hv5⟩⟩ (bare_fin _ _)
    rcases hx5 with ⟨h3, h4⟩ | ⟨_, h3⟩
    · have := (N' _ (.tail _ (.head _))).1
      rw [h3, h4] at this
      exact this
    · exact F'.keep _ _ h3
  case fp =>
    intro b hb
    have up : ∀ z o, g.get? z = some o → z < h8.objs.size := fun z o e => Heap.lt_size (FZ.keep _ _ e)
    rcases mem5 (show b ∈ [Lg, vl, f, c', L + 1 + 1] from hb) with rfl | rfl | rfl | h | rfl
    · exact Heap.lt_size (NZ _ (.head _)).1
    · exact Heap.lt_size (NZ _ (.tail _ (.tail _ (.tail _ (.tail _ (.head _)))))).1
    · exact Heap.lt_size (NZ _ (.tail _ (.tail _ (.head _)))).1
    · rcases hx5 with ⟨h3, h4⟩ | ⟨_, h3⟩
      · rw [← h, ← h3]; exact Heap.lt_size (NZ _ (.tail _ (.tail _ (.tail _ (.head _))))).1
      · rw [← h]; exact up _ _ h3
    · exact Heap.lt_size (NZ (L + 1 + 1, oX) (by simp)).1
  case feed =>
    have NG := pNG.out
    have F7 := pF7.out
    have hdp := C.hd
    have hun := C.hu
    dsimp only at hdp hun
    have hvf : @LT.lt Nat instLTNat vl f := hlt5.1
    have hLv : @LT.lt Nat instLTNat (L + 1) vl := hlt.2.2.1
    have hfg : @LT.lt Nat instLTNat f Lg := hfS _ (.head _)
    have hlc : @LT.lt Nat instLTNat (L + 1 + 1) vl := hlt.2.1
    have hcs : (c' ≠ Lg ∧ c' ≠ vl) ∧ h7.get? c' = some oc ∧ h8.get? c' = some oc := by
      rcases hx5 with ⟨h3, h4⟩ | ⟨_, h3⟩
      · have e1 := (NG (x, ox) (.tail _ (.tail _ (.tail _ (.head _))))).1
        have e2 := (NZ (x, ox) (.tail _ (.tail _ (.tail _ (.head _))))).1
        have e3 := (NG _ (.tail _ (.tail _ (.tail _ (.tail _ (.head _)))))).1
        have hxl : x ≠ Lg := Nat.ne_of_lt (hfS _ (.tail _ (.head _)))
        rw [h3] at e1 e2 hxl
        rw [h4] at e1 e2
        refine ⟨⟨hxl, fun h => ?_⟩, e1, e2⟩
        rw [h] at e1
        rw [e1] at e3
        have := congrArg Obj.data (Option.some.inj e3)
        rw [hd5] at this; cases this
      · have hc : @LT.lt Nat instLTNat c' L := Nat.lt_of_lt_of_le (Heap.lt_size h3) FZ.above
        exact ⟨⟨by intro h; rw [h] at hc; exact Nat.lt_asymm hc lLg, by intro h; rw [h] at hc; omega⟩, F7.keep _ _ h3, FZ.keep _ _ h3⟩
    have hbl : (KBw.bInts b).length = b.size := KBw.ints_length b
    refine feed_enc (dp := dp + 1) (un := un + 3) (vl := vl) (fo := fo) (side := [(f, fo), (c', oc), (L + 1 + 1, oX)]) (h7 := h7) C.S gl (fun h k => T.nolimit.keeps k) FZ.above lLg (by omega) (by omega) (by omega) (by omega) (by omega) hfo hG NV (.head _) ?_ ?_ F7 (NG _ (.tail _ (.tail _ (.tail _ (.tail _ (.head _)))))).1 hiA (by rw [hbl]; omega) (bInts_bd b) (by omega)
      (fun b o e => Nat.lt_of_lt_of_le (Heap.lt_size (Cg.B.stays _ _ e)) FZ.above) ?_ (by omega) (by omega) ?_
    · intro q hq
      rcases mem3 hq with rfl | rfl | rfl
      · exact ⟨Nat.ne_of_lt hfg, Nat.ne_of_gt hvf⟩
      · exact hcs.1
      · exact ⟨Nat.ne_of_lt (Nat.lt_trans hlc (Nat.lt_trans hvf hfg)), Nat.ne_of_lt hlc⟩
    · intro q hq
      rcases mem3 hq with rfl | rfl | rfl
      · exact (NG _ (.tail _ (.tail _ (.head _)))).1
      · exact hcs.2.1
      · exact (NG (L + 1 + 1, oX) (by simp)).1
    · intro e he L' hf
      rcases mem_c he with rfl | he
      · cases hf; exact Nat.le_refl _
      · exact Nat.le_of_lt (frames_out Cg.B.frames FZ.above e he L' hf)
    · intro b hb o e
      have go : ∀ q, News g L h7 [q] → News g L h8 [q] → q.1 = b → h8.get? b = some o := fun q n1 n2 eq => by
        have := (n1 _ (.head _)).1
        rw [eq, e] at this; rw [this, ← eq]; exact (n2 _ (.head _)).1
      rcases mem5 (show b ∈ [Lg, vl, f, c', L + 1 + 1] from hb) with rfl | rfl | rfl | rfl | rfl
      · exact go (Lg, oG) (fun q hq => NG q (by rw [List.mem_singleton.mp hq]; exact .head _)) (fun q hq => NZ q (by rw [List.mem_singleton.mp hq]; exact .head _)) rfl
      · exact go (vl, _) (fun q hq => NG q (by rw [List.mem_singleton.mp hq]; exact .tail _ (.tail _ (.tail _ (.tail _ (.head _)))))) (fun q hq => NZ q (by rw [List.mem_singleton.mp hq]; exact .tail _ (.tail _ (.tail _ (.tail _ (.head _)))))) rfl
      · exact go (f, fo) (fun q hq => NG q (by rw [List.mem_singleton.mp hq]; exact .tail _ (.tail _ (.head _)))) (fun q hq => NZ q (by rw [List.mem_singleton.mp hq]; exact .tail _ (.tail _ (.head _)))) rfl
      · rw [hcs.2.1] at e; cases e; exact hcs.2.2
      · exact go (L + 1 + 1, oX) (fun q hq => NG q (by rw [List.mem_singleton.mp hq]; simp)) (fun q hq => NZ q (by rw [List.mem_singleton.mp hq]; simp)) rfl

end
section

noncomputable def outsN (p : Gn) : Nat → List Int
  | 0 => []
  | n + 1 => p.out n :: outsN p n
theorem outs_eq {p : Gn} : ∀ {l : List Int}, Outs p l → outsN p l.length = l
  | [], _ => rfl
  | x :: r, h => by
    show p.out r.length :: outsN p r.length = x :: r
    rw [h.1, outs_eq h.2]
theorem kpB_mono {o1 o2 : List Addr} {h h' : Heap} (k : KpB o1 h h') (s : ∀ b ∈ o1, b ∈ o2) : KpB o2 h h' := fun b o hb e => k b o (fun h => hb (s b h)) e
theorem kpB_trans {o : List Addr} {a b c : Heap} (k : KpB o a b) (l : KpB o b c) : KpB o a c := fun x y hb e => l x y hb (k x y hb e)
theorem upB_kp {o : List Addr} {a b c : Heap} (k : KpB o a b) (u : UpB o b c) : UpB o a c := fun x y hb e hn => u x y hb (k x y hb e) hn

theorem extend_feed {p : Gn} {w : World} {A : Around} {a gi : Nat} {S : Addr} {res : Value} {R : Result → Shared → Prop} {h00 : Heap} (hSo : S ∉ p.own) (hSf : S ∉ p.fp) (hSa : a ≠ S) (hao : a ∉ p.own) (ok : ∀ h', KpB (S :: p.own) h00 h' → p.Ok h') :
    ∀ (n : Nat) (gs : GenState) (hs : Heap) (s : Shared) (acc : Array Value) (c : Nat) (done : List Int), Feed p w A.in1 a gi n gs hs → (∀ b ∈ p.fp, ∀ o, hs.get? b = some o → s.heap.get? b = some o) → s.gens[gi]? = some gs → s.heap.IsGen a gi → KpB (S :: p.own) h00 s.heap →
      s.heap.get? S = some { cls := .type "list", dict := none, data := .seq acc c, slots := #[] } → IntsAre acc.toList done → acc.size + n ≤ 8000 →
      (p.bad = false → ∀ h' tk acc' c', KpB (S :: p.own) s.heap h' → h'.get? S = some { cls := .type "list", dict := none, data := .seq acc' c', slots := #[] } → IntsAre acc'.toList (done ++ outsN p n) → R (.ok (.ret res)) { s with heap := h', toks := tk, gens := s.gens.setIfInBounds gi .finished }) →
      (p.bad = true → ∀ h' tk e a0, FlyC p.base p.outer e (.type "KeyError") a0 h' → UpB (S :: p.own) s.heap h' → R (.error (.ref e)) { s with heap := h', toks := tk, gens := s.gens.setIfInBounds gi .finished }) →
      codeAny (model PR w) A (.builtin "list.extend.loop" ⟨[.ref S, .ref a, res], []⟩) R s := by
  have sub : ∀ b ∈ p.own, b ∈ S :: p.own := fun b hb => .tail _ hb
  intro n
  induction n with
  | zero =>
    intro gs hs s acc c done fd hf hgs hg k0 hS hi hz hR hE
    refine codeAny_builtin F.entry_extend_loop ?_
    rw [Around.under_plainId F.plain_extend_loop _]
    show wpAny _ A.in1 (pyNext (.ref a) >>= _) _ _ s
    refine wpAny_bind (fd s _ _ (ok _ k0) hf hgs hg (fun hb h' tk kb => ?_) (fun hb h' tk e a0 hfl hu => ?_))
    · refine wpAny_pure (hR hb h' tk acc c (kpB_mono kb sub) (kb S _ hSo hS) ?_)
      rw [show done ++ outsN p 0 = done from List.append_nil _]; exact hi
    · exact hE hb h' tk e a0 hfl fun b o hb2 => hu b o (fun h => hb2 (sub b h))
  | succ n ih =>
    intro gs hs s acc c done fd hf hgs hg k0 hS hi hz hR hE
    refine codeAny_builtin F.entry_extend_loop ?_
    rw [Around.under_plainId F.plain_extend_loop _]
    show wpAny _ A.in1 (pyNext (.ref a) >>= _) _ _ s
    refine wpAny_bind (fd s _ _ (ok _ k0) hf hgs hg (fun h' tk t gs' kb fd' => ?_) (fun hb h' tk e a0 hfl hu => ?_))
    · have hS' := kb S _ hSo hS
      show wpAny _ A.in1 (updateSeq S (·.push _) >>= _) _ _ _
      refine wpAny_bind ?_
      have hlt : gi < s.gens.size := (Array.getElem?_eq_some_iff.mp hgs).1
      have oth : ∀ b o, b ≠ S → h'.get? b = some o → (h'.update S (Obj.mapSeq (·.push (.int (p.out n) t)))).get? b = some o := fun b o hb e => (Heap.get?_update_other _ _ (Ne.symm hb)).trans e
      have k1 : KpB (S :: p.own) s.heap (h'.update S (Obj.mapSeq (·.push (.int (p.out n) t)))) := fun b o hb e => oth b o (fun h => hb (h ▸ .head _)) (kb b o (fun h => hb (sub b h)) e)
      refine wpAny_updateSeq hS' rfl (wpAny_pure ⟨plainId_quiet F.plain_extend_loop _, ih gs' h' _ (acc.push (.int (p.out n) t)) _ (done ++ [p.out n]) fd' (fun b hb o e => oth b o (fun h => hSf (h ▸ hb)) e) (by simp [Array.getElem?_setIfInBounds, hlt]) ?_ (kpB_trans k0 k1) (Heap.get?_update_self _ hS' rfl) ?_ (by rw [Array.size_push]; omega) (fun hb h2 tk2 acc2 c2 kb2 hS2 hi2 => ?_) (fun hb h2 tk2 e a0 hfl hu => ?_)⟩)
        (by rw [sizeLine_eq]; omega) (by show (acc.push _).size ≤ sizeLine + 1; rw [Array.size_push, sizeLine_eq]; omega)
      · obtain ⟨o, nm, qn, e, r⟩ := hg
        exact ⟨o, nm, qn, oth a o hSa (kb a o hao e), r⟩
      · rw [Array.toList_push]; exact hi.append (.cons _ _ .nil)
      · simp only [set_set]
        refine hR hb h2 tk2 acc2 c2 (kpB_trans k1 kb2) hS2 ?_
        rw [List.append_assoc] at hi2; exact hi2
      · simp only [set_set]
        exact hE hb h2 tk2 e a0 hfl (upB_kp k1 hu)
    · exact hE hb h' tk e a0 hfl fun b o hb2 => hu b o (fun h => hb2 (sub b h))

theorem call_list_feed {p : Gn} {w : World} {A : Around} {E : Value → Shared → Prop} {s : Shared} {a gi n : Nat} {gs : GenState} {Q : Value → Shared → Prop} (hg : s.heap.IsGen a gi) (hgs : s.gens[gi]? = some gs) (feed : Feed p w A.in1.in1 a gi n gs s.heap)
    (hfp : ∀ b ∈ p.fp, b < s.heap.objs.size) (hob : ∀ b ∈ p.own, b < s.heap.objs.size) (hao : a ∉ p.own) (hn : n ≤ 8000) (ok : ∀ h', KpB p.own s.heap h' → p.Ok h')
    (hQ : p.bad = false → ∀ h' tk vs c, KpB p.own s.heap h' → h'.get? s.heap.objs.size = some (W.listOf vs.toArray c) → IntsAre vs (outsN p n) → Q (.ref s.heap.objs.size) { s with heap := h', toks := tk, gens := s.gens.setIfInBounds gi .finished })
    (hE : p.bad = true → ∀ h' tk e a0, FlyC p.base p.outer e (.type "KeyError") a0 h' → UpB p.own s.heap h' → E (.ref e) { s with heap := h', toks := tk, gens := s.gens.setIfInBounds gi .finished }) :
    wpAny (model PR w) A (call (.type "list") [.ref a]) Q E s := by
  refine callType_codes (Q₁ := fun obj s₁ => obj = .ref s.heap.objs.size ∧ s₁ = { s with heap := s.heap.push { cls := .type "list", data := .seq #[] } }) F.called_list (F.typeCall_list_1 _) F.entry_list_init
    (code_list_new _ ⟨rfl, rfl⟩) fun obj s₁ h₁ => ?_
  obtain ⟨rfl, rfl⟩ := h₁
  generalize hSz : s.heap.objs.size = S at *
  have hS : (s.heap.push { cls := .type "list", data := .seq #[] }).get? S = some { cls := .type "list", data := .seq #[] } := hSz ▸ Heap.get?_push_size _ rfl
  have lt_of : ∀ b o, s.heap.get? b = some o → b ≠ S := fun b o e => hSz ▸ Nat.ne_of_lt (Heap.lt_size e)
  have hSa : a ≠ S := let ⟨o, _, _, e, _⟩ := hg; lt_of a o e
  have hSo : S ∉ p.own := fun h => Nat.lt_irrefl _ (hob S h)
  have hSf : S ∉ p.fp := fun h => Nat.lt_irrefl _ (hfp S h)
  refine ⟨⟨_, hS, rfl⟩, F.args_list_init_2 _ _, ?_⟩
  show wpAny _ _ (do let old ← Builtin.List.listItems (.ref S); Builtin.List.listUpdate (.ref S) (fun _ => #[]); letGo old.toList.reverse; Builtin.List.listExtendWith (.ref S) (.ref a) .none) _ _ _
  refine wpAny_bind ?_
  unfold Builtin.List.listItems
  refine wpAny_bind (wpAny_seqItems hS rfl (wpAny_pure ?_))
  show wpAny _ _ (updateSeq S (fun _ => #[]) >>= fun _ => letGo (#[] : Array Value).toList.reverse >>= fun _ => Builtin.List.listExtendWith (.ref S) (.ref a) .none) _ _ _
  refine wpAny_bind (wpAny_updateSeq hS rfl ?_)
  have hS₂ := Heap.get?_update_self (Obj.mapSeq (fun _ => (#[] : Array Value))) hS rfl
  have up : ∀ b o, s.heap.get? b = some o → (s.heap.push { cls := .type "list", data := .seq #[] }).get? b = some o := fun b o e => Heap.get?_push_of_some _ e
  have oth : ∀ b o, s.heap.get? b = some o → ((s.heap.push { cls := .type "list", data := .seq #[] }).update S (Obj.mapSeq (fun _ => (#[] : Array Value)))).get? b = some o :=
    fun b o e => (Heap.get?_update_other _ _ (Ne.symm (lt_of b o e))).trans (up b o e)
  generalize (s.heap.push { cls := .type "list", data := .seq #[] }).update S (Obj.mapSeq (fun _ => (#[] : Array Value))) = H1 at hS₂ oth ⊢
  refine wpAny_bind (wpAny_letGo ?_)
  have hT : ∀ h', Kp s.heap h' → h'.IsGen a gi := fun h' k => let ⟨o, nm, qn, e, r⟩ := hg; ⟨o, nm, qn, k a o e, r⟩
  unfold Builtin.List.listExtendWith
  refine wpAny_bind (wpAny_typeOf (hT _ oth).typeIs ?_)
  have h1 : Builtin.List.listSameRef (.ref S) (.ref a) = false := by simp [Builtin.List.listSameRef, Ne.symm hSa]
  have h2 : (Value.type "generator" == Value.type "list") = false := by decide
  have h3 : (Value.type "generator" == Value.type "tuple") = false := by decide
  simp only [h1, h2, h3, Bool.or_false, Bool.false_eq_true, if_false]
  refine wpAny_bind (wpAny_pyIter_gen (hT _ oth) ?_)
  refine wpAny_bind (wpAny_holding ?_)
  unfold Builtin.List.listLengthHint
  refine wpAny_bind (wpAny_specialOf (hT _ oth).typeIs F.gen_no_len ?_)
  show wpAny _ _ (specialOf (Value.ref a) (Str.ofString "__length_hint__") >>= _) _ _ _
  refine wpAny_bind (wpAny_specialOf (hT _ oth).typeIs F.gen_no_hint ?_)
  refine wpAny_pure ?_
  show wpAny _ _ (rule "list.extend.makes-room" >>= fun _ => Builtin.List.listTouch (.ref S) >>= fun _ =>
    again (.builtin "list.extend.loop" ⟨[.ref S, .ref a, .none], []⟩)) _ _ _
  refine wpAny_bind (wpAny_rule ?_)
  refine wpAny_bind ?_
  show wpAny _ _ (updateSeq S (·.push .none) >>= fun _ => updateSeq S (·.pop)) _ _ _
  refine wpAny_bind (wpAny_updateSeq hS₂ rfl ?_)
  have hS₃ := Heap.get?_update_self (Obj.mapSeq (·.push Value.none)) hS₂ rfl
  refine wpAny_updateSeq (hz := by seq_fits) hS₃ rfl ?_
  have hS₄ := Heap.get?_update_self (Obj.mapSeq (·.pop)) hS₃ rfl
  have oth2 : ∀ b o, s.heap.get? b = some o → ((H1.update S (Obj.mapSeq (·.push Value.none))).update S (Obj.mapSeq (·.pop))).get? b = some o :=
    fun b o e => (Heap.get?_update_other _ _ (Ne.symm (lt_of b o e))).trans ((Heap.get?_update_other _ _ (Ne.symm (lt_of b o e))).trans (oth b o e))
  generalize (H1.update S (Obj.mapSeq (·.push Value.none))).update S (Obj.mapSeq (·.pop)) = H2 at hS₄ oth2 ⊢
  have down : ∀ h', KpB (S :: p.own) s.heap h' → KpB p.own s.heap h' := fun h' k b o hb e => k b o (fun h => (List.mem_cons.mp h).elim (lt_of b o e) hb) e
  refine wpAny_pure ⟨plainId_quiet F.plain_extend_loop _, extend_feed (A := A.in1) (h00 := s.heap) hSo hSf hSa hao (fun h' k => ok h' (down h' k)) n gs s.heap _ #[] _ [] feed (fun b _ o e => oth2 b o e) hgs (hT _ oth2) (fun b o _ e => oth2 b o e) hS₄ .nil (by simpa using hn) (fun hb h' tk acc' c' kb hS' hi => ?_) (fun hb h' tk e a0 hfl hu => ?_)⟩
  · refine ⟨rfl, hQ hb h' tk acc'.toList c' (down _ fun b o hb2 e => kb b o hb2 (oth2 b o e)) ?_ hi⟩
    exact hS'
  · exact hE hb h' tk e a0 hfl fun b o hb2 e hn => hu b o (fun h => (List.mem_cons.mp h).elim (lt_of b o e) hb2) (oth2 b o e) hn

end
section

noncomputable abbrev Tab107 : Heap → Prop := Tab 107 115 8 (Str.ofString "Base64Engine.decode_bytes.<locals>.next_value")
noncomputable def lookI (bl : List UInt8) (k : Int) : Option Int := (look bl k).map fun (i : Nat) => (i : Int)
noncomputable def decOf (bl : List UInt8) (big : Bool) (b : Array UInt8) : Option (List Int) :=
  if b.size % 4 = 1 then none else if (KBw.bInts b).all (fun k => (lookI bl k).isSome) then some ((if big then decB else decL) ((KBw.bInts b).map fun k => (lookI bl k).getD 0)) else none

/-- a raise that leaves a call: what is kept, the code tables -/
inductive Rz (own : List Addr) (Tb : Heap → Prop) (base h₀ : Heap) (l : List Env) (e : Addr) (cls : String) (h : Heap) : Prop
  | mk (B : Heap) (a0 : Value) (sb : base.StaysIn B) (kb : ∀ b o, b ∉ own → h₀.get? b = some o → b ∉ l.filterMap (·.frame) → B.get? b = some o) (tb : Tb B) (fl : Heap.FlyingW B l e (.type cls) a0 h) (up : UpB own h₀ h) : Rz own Tb base h₀ l e cls h


theorem upB_refl {own : List Addr} {h : Heap} : UpB own h h := fun _ o _ e _ => ⟨o.slots, e⟩
theorem Tab.fields {P : Addr} {l c : Nat} {q : Str} {h B : Heap} (x : Tab P l c q h) (k : ∀ b o vs, o.data = .fields vs → h.get? b = some o → B.get? b = some o) : Tab P l c q B := by
  obtain ⟨ps, e, r⟩ := x
  refine ⟨ps, k _ _ _ rfl e, r.imp id fun ⟨cv, e1, c, oc, vs, t, e2, e3, e4, e5⟩ => ⟨cv, e1, c, oc, vs, t, e2, k _ _ _ e4 e3, e4, e5⟩⟩

section
variable {M : Model} {A : Around} {E : Value → Shared → Prop} {s' : Shared} {base g g₂ h h00 : Heap} {outer : List Env} {L e : Addr} {m : Str → Option Value} {env : Env} {Q : Unit → Shared → Prop} {own : List Addr} {Tb : Heap → Prop} {cls : String}

theorem fr_mem {b : Addr} (hf : env.frame = some L) (hm : b ∈ (env :: outer).filterMap (·.frame)) : b = L ∨ b ∈ outer.filterMap (·.frame) := by
  rw [List.filterMap_cons, hf] at hm
  exact List.mem_cons.mp hm

theorem rz_new (K : Below A base outer g) (hx : Heap.NewExcOf h s'.heap e cls) (F : Fr g L h m) (hf : env.frame = some L) (hk : env.scope.kind = .function)
    (hg : ∀ b o, b ∉ own → b ∉ outer.filterMap (·.frame) → h00.get? b = some o → g.get? b = some o) (hgu : UpB own h00 g) (hT : ∀ B, (∀ b o vs, o.data = .fields vs → h.get? b = some o → B.get? b = some o) → Tb B)
    (hQ : ∀ h', Rz own Tb base h00 outer e cls h' → Q () { s' with heap := h' }) : wpAny M (A.deeper env) (leaving env (.ref e)) Q E s' := by
  have K' := pushX K F hf hk
  have hin : ∀ e ∈ (env :: outer), ∀ b, e.frame = some b → b ∈ (env :: outer).filterMap (·.frame) := fun env he b hb => List.mem_filterMap.mpr ⟨env, he, hb⟩
  have st : base.StaysIn (hideAll h ((env :: outer).filterMap (·.frame))) := fun b o q => hideAll_get _ (K'.stays b o q) fun hm => by
    rw [(K'.frames.mem hm).1] at q; cases q
  have sg : ∀ b o, b ∉ own → h00.get? b = some o → b ∉ outer.filterMap (·.frame) → (hideAll h ((env :: outer).filterMap (·.frame))).get? b = some o := fun b o hb q nm => hideAll_get _ (F.keep b o (hg b o hb nm q)) fun hm => by
    rcases fr_mem hf hm with z | z
    · have := hg b o hb nm q
      rw [z, kts_self F] at this
      cases this
    · exact nm z
  have hT' : Tb (hideAll h ((env :: outer).filterMap (·.frame))) := hT _ fun b o vs hd e => hideAll_get _ e fun hm => by
    obtain ⟨_, o', e', hn⟩ := K'.frames.mem hm
    rw [e] at e'; cases e'
    exact hn vs hd
  obtain ⟨ob, vs, he, hcls, hd, hv1⟩ := hx.there
  have hv0 : ∃ a0, vs[0]? = some a0 := by
    have := (Array.getElem?_eq_some_iff.mp hv1).1
    exact ⟨vs[0], by simp⟩
  obtain ⟨a0, hv0⟩ := hv0
  have hen : (hideAll h ((env :: outer).filterMap (·.frame))).get? e = none := by
    cases q : (hideAll h ((env :: outer).filterMap (·.frame))).get? e with
    | none => rfl
    | some o => have := of_hideAll _ q; rw [hx.new] at this; cases this
  refine wpAny_leaving_firstW (a0 := a0) K'.stack ((funFrames_hide K'.frames hin).of_keeps fun b o hb _ => ⟨o, hx.keeps b o hb, rfl⟩) hf he (fun b o hb => hx.keeps b o (of_hideAll _ hb)) hen hd hv1 hv0 fun h' hL => ?_
  obtain ⟨k1, ⟨_, _, k2⟩, k3, k4⟩ := hL
  refine hQ h' ⟨_, a0, st, sg, hT', ⟨k1, hen, k2, by rw [← hcls]; exact k3⟩, fun b o hb e hn => ?_⟩
  obtain ⟨sl, e1⟩ := hgu b o hb e hn
  obtain ⟨sl2, e2⟩ := k4 b _ (hx.keeps _ _ (F.keep _ _ e1)) hn
  exact ⟨sl2, e2⟩

theorem rz_on (K : Below A base outer g) (F : Fr g L g₂ m) (R : Rz own Tb base g₂ (env :: outer) e cls s'.heap) (hf : env.frame = some L)
    (hg : ∀ b o, b ∉ own → b ∉ outer.filterMap (·.frame) → h00.get? b = some o → g.get? b = some o) (hgu : UpB own h00 g)
    (hQ : ∀ h', Rz own Tb base h00 outer e cls h' → Q () { s' with heap := h' }) : wpAny M (A.deeper env) (leaving env (.ref e)) Q E s' := by
  obtain ⟨B, a0, hB, hBG, hT, hfl, hu⟩ := R
  refine wpAny_leaves_onW (Around.frames_deeper K.stack) hf hfl fun h' x1 x2 => ?_
  refine hQ h' ⟨B, a0, hB, fun b o hb e nm => hBG b o hb (F.keep _ _ (hg b o hb nm e)) fun hm => ?_, hT, x1, fun b o hb e hn => ?_⟩
  · rcases fr_mem hf hm with z | z
    · have := hg b o hb nm e
      rw [z, kts_self F] at this
      cases this
    · exact nm z
  · obtain ⟨sl, e1⟩ := hgu b o hb e hn
    obtain ⟨sl2, e2⟩ := hu b _ hb (F.keep _ _ e1) hn
    obtain ⟨sl3, e3⟩ := x2 b _ e2 hn
    exact ⟨sl3, e3⟩
end

theorem Eng.three {w : World} {h : Heap} {e : Addr} {bl : List UInt8} {big : Bool} (E : Eng w h e bl big) : ∃ z : List (Addr × Obj), (∀ q ∈ z, h.get? q.1 = some q.2 ∧ ∀ vs, q.2.data ≠ .fields vs) ∧ ∀ h' : Heap, (∀ q ∈ z, h'.get? q.1 = some q.2) → Eng w h' e bl big := by
  obtain ⟨h1, h2, dx, a1, a2, a3, t1, t2, t3, tb, lk, n, f, e1, e2, e3, e4, e5, e6⟩ := E
  obtain ⟨o, es, ep, ho, hc, hd, r⟩ := e4
  refine ⟨[(e, _), (dx, _), (lk, o)], fun q hq => ?_, fun h' hk => ⟨h1, h2, dx, a1, a2, a3, t1, t2, t3, tb, lk, n, f, hk _ (.head _), hk _ (.tail _ (.head _)), e3, ⟨o, es, ep, hk _ (.tail _ (.tail _ (.head _))), hc, hd, r⟩, e5, e6⟩⟩
  rcases mem3 hq with rfl | rfl | rfl
  · exact ⟨e1, by nofun⟩
  · exact ⟨e2, by nofun⟩
  · exact ⟨ho, fun vs => by rw [hd]; nofun⟩

theorem Cx.hide {w : World} {mean mg mb G A base outer d u} {h : Heap} {own : List Addr} (C : Cx w mean mg mb G A base outer d u h) (hb : ∀ b ∈ own, base.get? b = none) (hf : ∀ env ∈ outer, ∀ L', env.frame = some L' → L' ∉ own) (hG : ∀ b ∈ own, G.get? b = none) :
    Cx w mean mg mb G A base outer d u (hideAll h own) :=
  ⟨⟨C.B.stack, fun b o e => hideAll_get _ (C.B.stays b o e) fun hm => (by rw [hb b hm] at e; cases e), ff_keep (own := own) (fun b o hm e => hideAll_get _ e hm) _ hf C.B.frames⟩, C.S, keeps_hide own C.le hG, C.hh, C.hd, C.hu⟩


theorem plain_unchain : plainId "proto.unchain" = true := by decide +kernel
theorem entry_unchain : entryFor table "proto.unchain" = some Builtin.«proto.unchain» := entryFor_of_fast (by kernel_rfl)

noncomputable def RaisIn (z : Addr) (E : Value → Shared → Prop) : Value → Shared → Prop := fun v s₁ => ∃ a X N I h0, ExcClass X N I ∧ v = .ref a ∧ Heap.NewExc h0 s₁.heap a X ∧ a ≠ z ∧ Ctx0 z s₁.heap ∧ ∀ h', Heap.NewExcOf h0 h' a X → E (.ref a) { s₁ with heap := h' }

theorem raiseNew_in {prog : Program} {w : World} {A : Around} {s : Shared} {E : Value → Shared → Prop} {α : Type} {a z : Addr} {Q : α → Shared → Prop} {X : String} {h0 : Heap} (hh : A.handled = some (.ref z)) (hx : Heap.NewExc h0 s.heap a X) (haz : a ≠ z) (c : Ctx0 z s.heap)
    (h : ∀ h', Heap.NewExcOf h0 h' a X → E (.ref a) { s with heap := h' }) : wpAny (model prog w) A (raiseNew (.ref a) : Sem α) Q E s := by
  obtain ⟨oz, vz, hz, hdz, h2z⟩ := c
  unfold raiseNew
  refine wpAny_bind (wpAny_handled ?_)
  rw [hh]
  dsimp only
  have hne : (Value.ref z != Value.ref a) = true := by simp [Ne.symm haz]
  rw [if_pos hne]
  obtain ⟨ob, t, he, hc, hd⟩ := hx.there
  refine wpAny_bind (wpAny_holding (wpAny_runValue (codeAny_builtin entry_unchain ?_)))
  rw [Around.under_plainId plain_unchain _]
  show wpAny _ _ (field (.ref z) 2 >>= _) _ _ _
  refine wpAny_bind (wpAny_field hz hdz h2z ?_)
  refine wpAny_pure ?_
  show wpAny _ _ (setField (.ref a) 2 (.ref z) >>= _) _ _ _
  refine wpAny_bind (wpAny_setField he hd (by simp) (wpAny_throw (h _ ⟨fun b o e => ?_, hx.new, ?_⟩)))
  · exact (Heap.get?_update_other _ _ (fun q => by have h1 := hx.new; rw [q, e] at h1; cases h1)).trans (hx.keeps b o e)
  · exact ⟨_, _, Heap.get?_update_self _ he (Obj.isFreed_of_fields (Obj.data_mapFields hd _)), (Obj.cls_mapFields _ _).trans hc, Obj.data_mapFields hd _, by simp⟩

theorem Raise_in {prog : Program} {w : World} {A : Around} {s : Shared} {E : Value → Shared → Prop} {env : Env} {e : Expr} {pos : Pos} {z : Addr} {Q : Flow → Shared → Prop} (hh : A.handled = some (.ref z))
    (h : wpAny (model prog w) A (eval e env) (RaisIn z E) E s) : wpAny (model prog w) A (exec (.Raise (some e) none pos) env) Q E s := by
  show wpAny (model prog w) A (do standAt pos; raiseStmt env (some (do let v ← eval e env; standAt pos; pure v)) none) Q E s
  refine wpAny_bind (wpAny_standAt ?_)
  unfold raiseStmt
  dsimp only
  refine wpAny_bind (wpAny_bind (wpAny_mono h (fun v s₁ h₁ => wpAny_bind (wpAny_standAt (wpAny_pure ?_))) fun _ _ x => x))
  obtain ⟨a, X, N, I, h0, hc, rfl, hx, haz, c, hE⟩ := h₁
  obtain ⟨ob, t, ha, hcls, hd⟩ := hx.there
  have hT : s₁.TypeIs (.ref a) X := ⟨ob, ha, hcls⟩
  have hnt : ∀ {Q' : Bool → Shared → Prop}, Q' false s₁ → wpAny (model prog w) A (isType (.ref a)) Q' E s₁ := by
    intro Q' hq
    simp only [isType, loadHead]
    refine wpAny_bind (wpAny_loadPart ha ?_)
    rw [hd]; exact wpAny_pure hq
  refine wpAny_bind (wpAny_pure ?_)
  dsimp only
  refine wpAny_bind (wpAny_holding ?_)
  unfold excFromValue isExcClass
  refine wpAny_bind (wpAny_bind (hnt ?_))
  simp only [Bool.false_eq_true, if_false]
  refine wpAny_pure ?_
  simp only [Bool.false_eq_true, if_false]
  refine wpAny_bind (wpAny_isInstance hT hc.base ?_)
  simp only [if_true]
  refine wpAny_pure ?_
  refine wpAny_bind (hnt ?_)
  simp only [Bool.false_eq_true, if_false]
  unfold raisedInstance
  refine wpAny_bind (wpAny_bind (wpAny_typeOf hT (wpAny_bind (m := typeOf (.type X)) (wpAny_pure ?_))))
  rw [if_pos hc.metaType]
  refine wpAny_pure ?_
  unfold setFlight
  refine wpAny_bind (wpAny_bind (wpAny_field ha hd (x := .none) rfl ?_))
  rw [if_neg (by decide)]
  refine wpAny_pure ?_
  exact raiseNew_in hh hx haz c hE

section
variable {prog : Program} {w : World} {A₀ : Around} {E : Value → Shared → Prop} {s' : Shared} {base g G B : Heap} {outer : List Env} {L a e : Addr} {m : Str → Option Value} {name : Str} {scope : Scope} {cd a0 : Value} {cl : List (Str × Addr)}
  {b₀ : Stmt} {suite : List Stmt} {pos np : Pos} {rest : List ExceptHandler} {Q : Flow → Shared → Prop} {KF : Frag} {p : Program} {loose : List Str} {mean : ExcName → Option Value} {mg mb : Str → Option Value} {x : Str} {X T' : String}

theorem caught_Z (hfl : FlyC B (envX name scope L a cd cl :: outer) e (.type X) a0 s'.heap) (hBG : ∀ b o, G.get? b = some o → b ∉ (envX name scope L a cd cl :: outer).filterMap (·.frame) → B.get? b = some o)
    (F : Fr g L G m) (K : Below A₀ base outer g) (hsm : G.UpToSlots s'.heap) (XB : KF.In base) (TB : Top p loose mean mg mb base)
    (ex : nsIn KF mainGlobals x = some none) (hv : bootBuiltins x = some (.type T')) (hn' : x ≠ "__name__")
    (hexc : isSubtype (.type T') (.type "BaseException") = pure true) (hnt : isSubtype (.type ((Manifest.find? T').elim "type" fun y => y.metatype)) (.type "tuple") = pure false) (hsub : isSubtype (.type X) (.type T') = pure true)
    (k : ∀ h' g', KtsTurn (outer.filterMap (·.frame)) g g' → Fr g' L h' m → FlyC B (envX name scope L a cd cl :: outer) e (.type X) a0 h' → Below A₀ base outer g' → KF.In g' → Top p loose mean mg mb g' →
      wpAny (model prog w) ((A₀.deeper (envX name scope L a cd cl)).mark (some (.ref e))) (execs (b₀ :: suite) (envX name scope L a cd cl)) Q E { s' with heap := h' })
    (hk : scope.kind = .function := by rfl) (hx : (envX name scope L a cd cl).kindOf x = some .globalImplicit := by rfl) (hd : (x == ("__debug__" : Str)) = false := by decide)
    (hE : PassesOwnAt (model prog w) ((A₀.deeper (envX name scope L a cd cl)).mark (some (.ref e))) (A₀.deeper (envX name scope L a cd cl)) (envX name scope L a cd cl) E := by passes_own) :
    wpAny (model prog w) (A₀.deeper (envX name scope L a cd cl)) (noteFrame (.ref e) (envX name scope L a cd cl))
      (fun _ s₂ => wpAny (model prog w) (A₀.deeper (envX name scope L a cd cl)) (setFlight (.ref e) none) (fun _ s₃ =>
        wpAny (model prog w) (A₀.deeper (envX name scope L a cd cl)) (handleBy (.ref e) (envX name scope L a cd cl) (.ExceptHandler (some (.Name x np)) none (b₀ :: suite) pos :: rest)) Q E s₃) E s₂) E s' := by
  refine looks_onC (Around.frames_deeper K.stack) rfl hfl fun h₄ hheld₄ hsm₄ => ?_
  refine landsC hheld₄ fun h₅ hheld hsm₅' => ?_
  have hsm₅ := hsm₄.trans hsm₅'
  obtain ⟨g₅, T₅, F₅, K₅⟩ := kts_ground (name := name) (scope := scope) (a := a) (cd := cd) K F hBG hheld.1.1 (hsm.trans hsm₅)
  have X₅ : KF.In g₅ := XB.keeps K₅.stays
  have P₅ : TopRead p loose mg mb g₅ := topRead_of (TB.keeps K₅.stays)
  obtain ⟨ob, hob, hobc⟩ := hheld.1.there
  refine wpAny_handleBy_builtin (X := X) (T := T') (b := true) hexc hnt hsub (nameX_B F₅ X₅ P₅ ex hv hn' ⟨rfl, ⟨ob, hob, hobc⟩, ?_⟩ hk hx hd)
  refine lands_againC hheld fun h₆ hfl₆ hsm₆ => ?_
  obtain ⟨g₆, T₆, F₆, K₆⟩ := kts_ground (name := name) (scope := scope) (a := a) (cd := cd) K F hBG hfl₆.1.1 ((hsm.trans hsm₅).trans hsm₆)
  exact wpAny_passesOwnAt hE (k h₆ g₆ T₆ F₆ hfl₆ K₆ (XB.keeps K₆.stays) (TB.keeps K₆.stays))
end


theorem feed_dec {w : World} {mean mg mb G} {g B h7 : Heap} {L Lg vl nv a gi dp un len n0 : Nat} {outer : List Env} {gd : Option (List Code)} {env : Env} {fo : Obj} {oc : Value} {od : Option Addr} {fd : FuncData} {sl : Array (Option Value)} {side : List (Addr × Obj)} {vs : List Value} {ks : List Int} {dec : List Int → List Int} {m : Str → Option Value} {gs : GenState} {f : Int → Option Int} {bad : Bool}
    (S : St w mean mg mb G) (gl : Kp G g) (nl : ∀ h, Kp g h → h.NoLimit) (hz : g.objs.size ≤ L) (hLg : L < Lg) (hvl : L < vl) (hnv : L < nv) (hvg : vl ≠ Lg) (hng : nv ≠ Lg) (hvn : vl ≠ nv) (hfo : fo = ⟨oc, od, .func fd, sl⟩)
    (hG : GenReadyD w mean mg mb G nv f Lg m dec len gs h7) (NV : NextV w mean mg mb G nv vl side f) (hsd : (nv, fo) ∈ side) (hso : ∀ q ∈ side, q.1 ≠ Lg ∧ q.1 ≠ vl) (hs7 : ∀ q ∈ side, h7.get? q.1 = some q.2) (F7 : Fr g Lg h7 m)
    (hv7 : h7.get? vl = some (W.listOf vs.toArray n0)) (hi : IntsAre vs ks) (hlen : ks.length = len) (hks : ∀ k ∈ ks, 0 ≤ k ∧ k < 256) (hl1 : ks.length ≤ 1000) (hb1 : ∀ k ∈ ks, f k = none → bad = true) (hb2 : bad = true → ∃ k ∈ ks, f k = none) (hbL : B.get? Lg = none) (hbv : B.get? vl = none) (hbg : bad = true → B.IsGen a gi)
    (hfr : ∀ e ∈ env :: outer, ∀ L', e.frame = some L' → L' ≤ L) (hdp : dp + 20 < recursionLimit) (hun : un + 100 < cLine) :
    Feed ⟨g, [Lg, vl], Lg :: vl :: side.map (·.1), outOf (dec (ks.map fun k => (f k).getD 0)), bad, B, env :: outer⟩ w ⟨none, dp, some (env :: outer), gd, un⟩ a gi (dec (ks.map fun k => (f k).getD 0)).length gs h7 := by
  have fresh : ∀ b, L < b → g.get? b = none := fun b hb => none_of_size (Nat.le_trans hz (Nat.le_of_lt hb))
  refine feed_of rfl (by show dp < _; omega) nl hbg _ _ h7 ?_
  subst hfo
  refine hG _ dp un gd vl oc od fd sl side vs n0 ks ⟨rfl, .head _, .tail _ (.head _), .tail _ (.tail _ (List.mem_map_of_mem (f := (·.1)) hsd)), Nat.le_trans hz (Nat.le_of_lt hLg), hvg, hng, hvn, fresh _ hvl, fresh _ hnv, hbL, hbv, fun e he L' hf hm => ?_⟩ S gl hdp hun hsd (fun q hq hm => ?_) NV hb1 hb2 F7 hs7 (fun q hq => .tail _ (.tail _ (List.mem_map_of_mem (f := (·.1)) hq))) hv7 hi hlen hks hl1 (outs_of _ _ rfl)
  · have := hfr e he L' hf
    rcases mem2 hm with rfl | rfl
    · exact absurd hLg (Nat.not_lt_of_le this)
    · exact absurd hvl (Nat.not_lt_of_le this)
  · simp only [List.mem_cons, List.not_mem_nil, or_false] at hm
    exact hm.elim (hso q hq).1 (hso q hq).2

theorem decL_len : ∀ ks : List Int, (decL ks).length ≤ ks.length
  | [] => by simp [decL]
  | [_] => by simp [decL]
  | [_, _] => by simp [decL]
  | [_, _, _] => by simp [decL]
  | _ :: _ :: _ :: _ :: r => by
    have := decL_len r
    simp only [decL, List.length_cons]
    omega
theorem decB_len : ∀ ks : List Int, (decB ks).length ≤ ks.length
  | [] => by simp [decB]
  | [_] => by simp [decB]
  | [_, _] => by simp [decB]
  | [_, _, _] => by simp [decB]
  | _ :: _ :: _ :: _ :: r => by
    have := decB_len r
    simp only [decB, List.length_cons]
    omega
theorem lookI_bd {bl : List UInt8} (h : bl.length = 64) {k r : Int} (e : lookI bl k = some r) : 0 ≤ r ∧ r < 64 := by
  unfold lookI look at e
  obtain ⟨i, hi, rfl⟩ := Option.map_eq_some_iff.mp e
  have := (List.findIdx?_eq_some_iff_findIdx_eq.mp hi).1
  omega
theorem decL_bd : ∀ ks : List Int, (∀ k ∈ ks, 0 ≤ k ∧ k < 64) → ∀ x ∈ decL ks, 0 ≤ x ∧ x < 256
  | [], _ => List.forall_mem_nil _
  | [_], _ => List.forall_mem_nil _
  | [v1, v2], h =>
    have b1 := h v1 (.head _)
    have b2 := h v2 (.tail _ (.head _))
    fa_cons (ob2 256 b1 (ms_bd 3 6 b2.1 (by decide)) (by decide)) (List.forall_mem_nil _)
  | [v1, v2, v3], h =>
    have b1 := h v1 (.head _)
    have b2 := h v2 (.tail _ (.head _))
    have b3 := h v3 (.tail _ (.tail _ (.head _)))
    fa_cons (ob2 256 b1 (ms_bd 3 6 b2.1 (by decide)) (by decide)) (fa_cons (ob2 256 (sh_bd 2 16 b2 (by decide)) (ms_bd 15 4 b3.1 (by decide)) (by decide)) (List.forall_mem_nil _))
  | v1 :: v2 :: v3 :: v4 :: r, h =>
    have b1 := h v1 (.head _)
    have b2 := h v2 (.tail _ (.head _))
    have b3 := h v3 (.tail _ (.tail _ (.head _)))
    have b4 := h v4 (.tail _ (.tail _ (.tail _ (.head _))))
    fa_cons (ob2 256 b1 (ms_bd 3 6 b2.1 (by decide)) (by decide)) (fa_cons (ob2 256 (sh_bd 2 16 b2 (by decide)) (ms_bd 15 4 b3.1 (by decide)) (by decide)) (fa_cons (ob2 256 (sh_bd 4 4 b3 (by decide)) (mu_bd 2 b4) (by decide))
      (decL_bd r fun k hk => h k (.tail _ (.tail _ (.tail _ (.tail _ hk)))))))
theorem decB_bd : ∀ ks : List Int, (∀ k ∈ ks, 0 ≤ k ∧ k < 64) → ∀ x ∈ decB ks, 0 ≤ x ∧ x < 256
  | [], _ => List.forall_mem_nil _
  | [_], _ => List.forall_mem_nil _
  | [v1, v2], h =>
    have b1 := h v1 (.head _)
    have b2 := h v2 (.tail _ (.head _))
    fa_cons (ob1 256 (mu_bd 2 b1) (sh_bd 4 4 b2 (by decide)) (by decide)) (List.forall_mem_nil _)
  | [v1, v2, v3], h =>
    have b1 := h v1 (.head _)
    have b2 := h v2 (.tail _ (.head _))
    have b3 := h v3 (.tail _ (.tail _ (.head _)))
    fa_cons (ob1 256 (mu_bd 2 b1) (sh_bd 4 4 b2 (by decide)) (by decide)) (fa_cons (ob1 256 (ms_bd 15 4 b2.1 (by decide)) (sh_bd 2 16 b3 (by decide)) (by decide)) (List.forall_mem_nil _))
  | v1 :: v2 :: v3 :: v4 :: r, h =>
    have b1 := h v1 (.head _)
    have b2 := h v2 (.tail _ (.head _))
    have b3 := h v3 (.tail _ (.tail _ (.head _)))
    have b4 := h v4 (.tail _ (.tail _ (.tail _ (.head _))))
    fa_cons (ob1 256 (mu_bd 2 b1) (sh_bd 4 4 b2 (by decide)) (by decide)) (fa_cons (ob1 256 (ms_bd 15 4 b2.1 (by decide)) (sh_bd 2 16 b3 (by decide)) (by decide)) (fa_cons (ob1 256 (ms_bd 3 6 b3.1 (by decide)) b4 (by decide))
      (decB_bd r fun k hk => h k (.tail _ (.tail _ (.tail _ (.tail _ hk)))))))

end
section
theorem dec112 {w : World} {mean mg mb G base outer d u dp un gd} {s : Shared} {R : Result → Shared → Prop} {e : Addr} {bl : List UInt8} {big : Bool} {b : Array UInt8} {tb : Tok}
    (C : Cx w mean mg mb G ⟨none, dp, some outer, gd, un⟩ base outer d u s.heap) (hd : 60 ≤ d) (hu : 600 ≤ u) (he : Eng w s.heap e bl big) (hb : b.size ≤ 100) (ht0 : Tab107 s.heap) (hb107 : base.get? 107 = none) (hGb : Kp G base)
    (hR : ∀ out, decOf bl big b = some out → ∀ h' tk gn t, KpB [107] s.heap h' → Tab107 h' → (AllBare s.gens → AllBare gn) → R (.ok (.ret (.bytes (byteArr out) t))) { s with heap := h', toks := tk, gens := gn })
    (hE : decOf bl big b = none → ∀ h' tk gn e, Rz [107] Tab107 base s.heap outer e "ValueError" h' → (AllBare s.gens → AllBare gn) → R (.error (.ref e)) { s with heap := h', toks := tk, gens := gn }) :
    codeAny (model PR w) ⟨none, dp, some outer, gd, un⟩ (.call (.ref 112) ⟨[.ref e, .bytes b tb], []⟩) R s := by
  obtain ⟨ps, ht, hps⟩ := ht0
  have he0 := he
  obtain ⟨hlen, hnd, dx, h1, h2, h3, t1, t2, t3, tb', lk, n, f, he, hx, _⟩ := he
  have X0 := C.X
  revert X0
  delta PR
  k_fill
  intro X0
  refine enterC C (by omega) (by k_is) (by k_is) (BindsTo.of_eq rfl) rfl (by decide +kernel) ?_ rfl rfl rfl
  intro L h₁ tk cells F N Y B X T
  obtain ⟨g, hg⟩ : ∃ g, g = hideAll s.heap [107] := ⟨_, rfl⟩
  have gl : Kp G g := by rw [hg]; exact keeps_hide [107] C.le (by intro a ha; rw [List.mem_singleton.mp ha]; exact C.S.n107)
  have gs : Kp g s.heap := fun b o e => of_hideAll _ (hg ▸ e)
  have gk : ∀ b o, b ≠ 107 → s.heap.get? b = some o → g.get? b = some o := fun b o hb e => by rw [hg]; exact hideAll_get _ e (by simpa using hb)
  have gz : g.objs.size = s.heap.objs.size := by rw [hg]; exact hideAll_size _ _
  replace N := List.forall_mem_append.mpr ⟨news_hide2 [107] N, news_hide [107] F (news := [(107, tabObj ps)]) (by intro q hq; rw [List.mem_singleton.mp hq]; exact ⟨.head _, ht⟩)⟩
  replace N : News g L h₁ (cells ++ [(107, tabObj ps)]) := by rw [hg]; exact N
  replace F := fr_hide [107] F
  rw [← hg] at F
  clear hg
  have g107 : ∀ b o, (∀ vs, o.data ≠ .fields vs) → s.heap.get? b = some o → g.get? b = some o := fun b o hn e => gk b o (fun h => hn _ (by rw [h, ht] at e; cases e; rfl)) e
  have Cg := C.ghost gl g107 (fun b o e => gk b o (fun h => by rw [h, hb107] at e; cases e) (C.B.stays _ _ e))
  have Eg := he0.move g107
  have e107 : ∀ b o, s.heap.get? b = some o → o.cls ≠ .none → g.get? b = some o := fun b o eb hn => gk b o (fun h => by rw [h, ht] at eb; cases eb; exact hn rfl) eb
  replace he := e107 _ _ he (by nofun)
  replace hx := e107 _ _ hx (by nofun)
  replace hps : ps = #[] ∨ ∃ cv, ps = #[rawInt 115, rawInt 8, .ref cv] ∧ g.CodeRec (.ref cv) (Str.ofString "Base64Engine.decode_bytes.<locals>.next_value") := hps.imp id fun ⟨cv, e1, c, oc, vs, t, e2, e3, e4, e5⟩ => ⟨cv, e1, c, oc, vs, t, e2, gk c oc (fun h => by rw [h, ht] at e3; cases e3; cases e4; rw [e1] at e5; cases e5) e3, e4, e5⟩
  clear X0 X T
  have X := C.S.X.keeps gl
  have T := C.S.T.keeps gl
  k_cells Y
  rename_i o3 o2 d3 d2
  replace d3 : o3.data = .cell none := d3
  replace d2 : o2.data = .cell (some (.ref e)) := d2
  have F : Fr g L h₁ (mp [(Str.ofString "source", some (.bytes b tb))]) := F
  replace N : News g L h₁ [(L + 1 + 1, o3), (L + 1, o2), (107, tabObj ps)] := N
  have l107 : @LT.lt Nat instLTNat 107 L := Nat.lt_of_lt_of_le (Heap.lt_size ht) (gz ▸ F.above)
  have l107b : @LT.lt Nat instLTNat 107 h₁.objs.size := Nat.lt_trans l107 F.ns.lt
  have hfm : ((b.size : Nat) : Int).fmod 4 = ((b.size % 4 : Nat) : Int) := by rw [Int.fmod_eq_emod_of_nonneg _ (by decide)]; rfl
  show wpAny _ _ _ _ _ _
  k_fold
  iterate 50 tb_start
  · rename_i hc
    have hm1 : b.size % 4 = 1 := by
      rw [hfm] at hc
      omega
    tb_rel
    rename Heap.NewExc _ _ _ _ => hx8
    rename Fr _ _ _ _ => Fx
    rename News _ _ _ _ => Nx
    refine rz_new Cg.B hx8.of Fx rfl rfl (own := [107]) (Tb := Tab107) (h00 := s.heap) (fun b o hb _ e => gk b o (by simpa using hb) e) (fun b o hb e _ => ⟨o.slots, gk b o (by simpa using hb) e⟩) (fun B hB => ?_) fun h' hz => ?_
    · refine Tab.fields ⟨ps, (Nx _ (.tail _ (.tail _ (.tail _ (.head _))))).1, ?_⟩ hB
      exact hps.imp id fun ⟨cv, e1, c, oc, vs, t, e2, e3, e4, e5⟩ => ⟨cv, e1, c, oc, vs, t, e2, Fx.keep _ _ e3, e4, e5⟩
    · refine hE ?_ _ _ _ _ hz id
      rw [decOf, if_pos hm1]
  rename_i hc
  have hm1 : b.size % 4 ≠ 1 := fun h => hc (by rw [hfm, h]; decide)
  tb_rel
  rename Fr _ _ _ _ => F2
  rename News _ _ _ _ => N2
  refine call_list_bytes rfl b tb (by omega) fun vl hA tkA vs nA hsz hkA hoA hiA => ?_
  have hlt := news_lt N2 hsz
  k_lt hlt
  replace N2 := news_new F2 N2 hkA hsz hoA
  replace F2 := fr_kp F2 hkA
  dsimp only
  tb_rel
  rename_i hX oX FX NX dX
  refine nestDef_K rfl rfl rfl ?_
  rw [show qualnameIn (envOfC (Str.ofString "Base64Engine.decode_bytes") _ L 112 (Value.ref 111)) (Str.ofString "next_value") (Str.ofString "next_value") = Str.ofString "Base64Engine.decode_bytes.<locals>.next_value" from by kernel_rfl]
  refine' nest_tab (ps := ps) (pos := ⟨115, 8, 116, 48⟩) (mg := mg) FX NX T (C.S.cd.2.2.1.keeps gl) rfl ?U9 ?M9 hps rfl ?H9
  (case U9 => k_updF)
  (case M9 => k_mem)
  intro f c' oc vs0 t0 ctv doc h5 tk5 x ox fo hfo F5 N5 hx5 hd5 hv5 hlt5
  obtain ⟨z3, hz3, hz4⟩ := Eg.three
  have NV : NextV w mean mg mb G f vl ([(f, fo), (c', oc), (L + 1 + 1, oX), (L + 1, o2)] ++ z3) (lookI bl) := by
    intro dp gd un base outer s R k t vs n0 C1 hbv hfv hsd hv hvs hok hno
    have q1 := hsd (f, fo) (by simp)
    have q2 := hsd (c', oc) (by simp)
    have q3 := hsd (L + 1 + 1, oX) (by simp)
    have q4 := hsd (L + 1, o2) (by simp)
    have qz : ∀ q ∈ z3, s.heap.get? q.1 = some q.2 := fun q hq => hsd q (List.mem_append_right _ hq)
    rw [hfo] at q1
    have gvl := (NX _ (.head _)).2.2
    have gc1 := (NX (L + 1 + 1, oX) (by simp)).2.2
    have gc2 := (NX (L + 1, o2) (by simp)).2.2
    have Gn1 : ∀ b, g.get? b = none → G.get? b = none := fun b hb => by cases q : G.get? b with | none => rfl | some o => rw [gl _ _ q] at hb; cases hb
    have C2 := C1.hide (own := [vl]) (fun b hb => by rw [List.mem_singleton.mp hb]; exact hbv) (fun env he L' hL hm => hfv env he (by rw [hL, List.mem_singleton.mp hm])) (fun b hb => by rw [List.mem_singleton.mp hb]; exact Gn1 _ gvl)
    refine enterF C1 (by omega) q1 ⟨c', oc, vs0, t0, rfl, q2, hd5, hv5⟩ (BindsTo.of_eq rfl) (by intro y hy; cases hy) ?_ rfl rfl rfl (by decide)
    intro L1 h1 F1
    obtain ⟨g1, hg1⟩ : ∃ g1, g1 = hideAll s.heap [vl, L + 1 + 1, L + 1] := ⟨_, rfl⟩
    have hid : ∀ b o, g.get? b = some o → b ∉ [vl, L + 1 + 1, L + 1] := fun b o e hm => by
      rcases mem3 hm with rfl | rfl | rfl
      · rw [gvl] at e; cases e
      · rw [gc1] at e; cases e
      · rw [gc2] at e; cases e
    have gl1 : Kp G g1 := fun b o e => by rw [hg1]; exact hideAll_get _ (C1.le b o e) (hid b o (gl b o e))
    have X := C1.S.X.keeps gl1
    have T := C1.S.T.keeps gl1
    have N1 : News g1 L1 h1 [(vl, W.listOf (Value.int k t :: vs).toArray n0), (L + 1 + 1, oX), (L + 1, o2)] := by
      rw [hg1]
      refine news_hide _ F1 fun q hq => ?_
      rcases mem3 hq with rfl | rfl | rfl
      · exact ⟨.head _, hv⟩
      · exact ⟨.tail _ (.head _), q3⟩
      · exact ⟨.tail _ (.tail _ (.head _)), q4⟩
    have F1' := fr_hide [vl, L + 1 + 1, L + 1] F1
    rw [← hg1] at F1'
    clear F1
    have eg1 : ∀ q ∈ z3, g1.get? q.1 = some q.2 := fun q hq => by rw [hg1]; exact hideAll_get _ (qz q hq) (hid _ _ (hz3 q hq).1)
    have Eg1 := hz4 g1 eg1
    have hvc : @LT.lt Nat instLTNat (L + 1 + 1) vl := hlt.2.1
    have hvd : @LT.lt Nat instLTNat (L + 1) vl := hlt.2.2.1
    obtain ⟨_, _, dx1, i1, i2, i3, u1, u2, u3, ub, lk1, n1, f1, he1, hx1, _⟩ := Eg1
    replace F1' : Fr g1 L1 h1 (mp []) := F1'
    clear hlt5 N5 F5 FX NX hlt gs gk gz he hx e107 hps l107 l107b hx5 q1 q2 C gl1 Gn1 gl hR hE Cg Eg hm1 hfm hc
    iterate 3 tb_start
    refine nameX_F N1 rfl (.tail _ (.tail _ (.head _))) d2 ?_
    iterate 4 tb_start
    refine nameX_F N1 rfl (.tail _ (.head _)) dX ?_
    iterate 5 tb_start
    refine kl_popAt (its := (Value.int k t :: vs).toArray) (k := 0) (p := []) (q := vs) (y := .int k t) F1' N1 rfl (by simp [seqIndex?]) rfl (.head (by
      intro p hp
      rcases mem2 hp with rfl | rfl
      · exact Nat.ne_of_lt hvc
      · exact Nat.ne_of_lt hvd)) (by rw [sizeLine_eq]; simp; omega) fun h6 F6 N6 => ?_
    tb_rel
    have kb6 : KpB [vl] s.heap h6 := fun b o hb e => by
      by_cases hb1 : b = L + 1 + 1
      · subst hb1; rw [q3] at e; cases e; exact (N6 _ (.tail _ (.head _))).1
      · by_cases hb2 : b = L + 1
        · subst hb2; rw [q4] at e; cases e; exact (N6 _ (.tail _ (.tail _ (.head _)))).1
        · exact F6.keep _ _ (by rw [hg1]; exact hideAll_get _ e (by simpa using ⟨by simpa using hb, hb1, hb2⟩))
    have F62 : Fr (hideAll s.heap [vl]) L1 h6 (mp []) := ⟨F6.ns, fun b o e => kb6 b o (fun hm => by rw [hideAll_none _ hm] at e; cases e) (of_hideAll _ e), by rw [hideAll_size]; have := F6.above; rw [hg1, hideAll_size] at this; exact this⟩
    have E6 := hz4 h6 fun q hq => kb6 _ _ (fun hm => hid _ _ (hz3 q hq).1 (by rw [List.mem_singleton.mp hm]; exact .head _)) (qz q hq)
    refine wpAny_call ?_
    refine dec64 (C2.push F62 rfl rfl (by omega) (by omega)) (by omega) E6 (fun i hi h' tk' t' kp => ?_) (fun hn h' tk' e' a0 hfl hup => ?_)
    · dsimp only
      exact hok i (by rw [lookI, hi]; rfl) h' tk' t' _ (fun b o hb e => kp b o (kb6 b o hb e)) (kp _ _ (N6 _ (.head _)).1)
    · dsimp only
      refine leaves_onC (Around.frames_deeper C1.B.stack) rfl hfl fun h'' x1 x2 => ?_
      refine hno (by rw [lookI, hn]; rfl) h'' _ e' a0 x1 fun b o hb e hn => ?_
      obtain ⟨sl, e1⟩ := hup b _ (kb6 b o hb e) hn
      obtain ⟨sl2, e2⟩ := x2 b _ e1 hn
      exact ⟨sl2, e2⟩
  have hfd : ((b.size : Nat) : Int).fdiv 4 = ((b.size / 4 : Nat) : Int) := by rw [Int.fdiv_eq_ediv_of_nonneg _ (by decide)]; rfl
  clear FX NX
  dsimp only
  k_lt hlt5
  rw [hfd, hfm] at F5
  clear hfd hfm
  iterate 3 tb_start
  refine wpAny_Try_except ?_
  tb_rel
  rename Fr _ _ _ _ => FS
  rename News _ _ _ _ => NS
  refine wpAny_call ?_
  refine dec78 (f' := lookI bl) (c := b.size / 4) (tl := b.size % 4) (Cg.push FS rfl rfl (by omega) (by omega)) (by omega) (by omega) (Eg.keep FS.keep) (by omega) (fun k r e => lookI_bd hlen e) fun Lg h7 a tk7 nm qn gs F7 N7 hLa hG => ?_
  have NG := news_new FS NS F7.keep (Nat.le_trans F7.above (Nat.le_of_lt hLa)) (N7 _ (.head _)).1
  obtain ⟨oG, hoG⟩ : ∃ o, h7.get? Lg = some o := let ⟨o, _, _, e, _⟩ := F7.ns; ⟨o, e⟩
  have NL := news_new FS NS F7.keep F7.above hoG
  replace NG := news_two NL NG
  have FG := fr_kp FS F7.keep
  have hfS := news_lt NS F7.above
  have lLg : @LT.lt Nat instLTNat L Lg := Nat.lt_of_lt_of_le FS.ns.lt F7.above
  replace F7 := fr_out FS F7
  clear FS NL
  dsimp only
  tb_rel
  obtain ⟨bad, hbad⟩ : ∃ bad, bad = !((KBw.bInts b).all fun k => (lookI bl k).isSome) := ⟨_, rfl⟩
  obtain ⟨B, hB⟩ : ∃ B, B = hideAll h7 (Lg :: vl :: L :: outer.filterMap (·.frame)) := ⟨_, rfl⟩
  obtain ⟨side, hside⟩ : ∃ side, side = [(f, fo), (c', oc), (L + 1 + 1, oX), (L + 1, o2)] ++ z3 := ⟨_, rfl⟩
  rw [← hside] at NV
  have hvf : @LT.lt Nat instLTNat vl f := hlt5.1
  have hLv : @LT.lt Nat instLTNat (L + 1) vl := hlt.2.2.1
  have hfg : @LT.lt Nat instLTNat f Lg := hfS _ (.head _)
  have hlc : @LT.lt Nat instLTNat (L + 1 + 1) vl := hlt.2.1
  have hLf : @LT.lt Nat instLTNat L f := by omega
  have hLvl : @LT.lt Nat instLTNat L vl := by omega
  have zL : g.objs.size ≤ L := FG.above
  have gltL : ∀ b o, g.get? b = some o → @LT.lt Nat instLTNat b L := fun b o e => Nat.lt_of_lt_of_le (Heap.lt_size e) zL
  have hcs : (c' ≠ Lg ∧ c' ≠ vl ∧ c' ≠ L) ∧ h7.get? c' = some oc := by
    rcases hx5 with ⟨h3, h4⟩ | ⟨_, h3⟩
    · have e1 := (NG (x, ox) (.tail _ (.tail _ (.tail _ (.head _))))).1
      have e3 := (NG _ (.tail _ (.tail _ (.tail _ (.tail _ (.head _)))))).1
      have hxl : x ≠ Lg := Nat.ne_of_lt (hfS _ (.tail _ (.head _)))
      have hxL := (NG (x, ox) (.tail _ (.tail _ (.tail _ (.head _))))).2.1
      dsimp only at hxL
      rw [h3] at e1 hxl hxL
      rw [h4] at e1
      refine ⟨⟨hxl, fun h => ?_, hxL⟩, e1⟩
      rw [h] at e1
      rw [e1] at e3
      have := congrArg Obj.data (Option.some.inj e3)
      rw [hd5] at this; cases this
    · have hc := gltL _ _ h3
      exact ⟨⟨by intro h; rw [h] at hc; exact Nat.lt_asymm hc lLg, by intro h; rw [h] at hc; exact Nat.lt_asymm hc hLvl, Nat.ne_of_lt hc⟩, F7.keep _ _ h3⟩
  have sd7 : ∀ q ∈ side, (q.1 ≠ Lg ∧ q.1 ≠ vl) ∧ h7.get? q.1 = some q.2 := by
    intro q hq
    rw [hside] at hq
    rcases List.mem_append.mp hq with hq | hq
    · simp only [List.mem_cons, List.not_mem_nil, or_false] at hq
      rcases hq with rfl | rfl | rfl | rfl
      · exact ⟨⟨Nat.ne_of_lt hfg, Nat.ne_of_gt hvf⟩, (NG _ (.tail _ (.tail _ (.head _)))).1⟩
      · exact ⟨⟨hcs.1.1, hcs.1.2.1⟩, hcs.2⟩
      · exact ⟨⟨Nat.ne_of_lt (Nat.lt_trans hlc (Nat.lt_trans hvf hfg)), Nat.ne_of_lt hlc⟩, (NG (L + 1 + 1, oX) (by simp)).1⟩
      · exact ⟨⟨Nat.ne_of_lt (Nat.lt_trans hLv (Nat.lt_trans hvf hfg)), Nat.ne_of_lt hLv⟩, (NG (L + 1, o2) (by simp)).1⟩
    · have e := (hz3 q hq).1
      have hc := gltL _ _ e
      exact ⟨⟨Nat.ne_of_lt (Nat.lt_trans hc lLg), Nat.ne_of_lt (Nat.lt_trans hc hLvl)⟩, F7.keep _ _ e⟩
  have hdp := C.hd
  have hun := C.hu
  dsimp only at hdp hun
  have hbl : (KBw.bInts b).length = b.size := KBw.ints_length b
  have haL := (NG _ (.tail _ (.head _))).2.1
  dsimp only at haL
  have hgen := (NG _ (.tail _ (.head _))).1
  have hav : a ≠ vl := fun h => by
    have e2 := (NG _ (.tail _ (.tail _ (.tail _ (.tail _ (.head _)))))).1
    rw [h, e2] at hgen
    have e3 := congrArg Obj.cls (Option.some.inj hgen)
    injection e3 with e4
    exact absurd e4 (by decide)
  have haN := (NG _ (.tail _ (.head _))).2.2
  dsimp only at haN
  have hfrm : ∀ q, q ∈ outer.filterMap (·.frame) → ∃ o, g.get? q = some o ∧ ∀ vs, o.data ≠ .fields vs := fun q hq => (Cg.B.frames.mem hq).2
  have gB : ∀ q o, g.get? q = none → h7.get? q = some o → q ≠ Lg → q ≠ vl → q ≠ L → B.get? q = some o := fun q o e0 e h1 h2 h3 => by
    rw [hB]
    refine hideAll_get _ e fun hm => ?_
    simp only [List.mem_cons] at hm
    rcases hm with h | h | h | h
    · exact h1 h
    · exact h2 h
    · exact h3 h
    · obtain ⟨o', e', _⟩ := hfrm q h
      rw [e0] at e'; cases e'
  refine call_list_feed (p := ⟨g, [Lg, vl], Lg :: vl :: side.map (·.1), outOf ((if big then decB else decL) ((KBw.bInts b).map fun k => (lookI bl k).getD 0)), bad, B, _ :: outer⟩) (gi := s.gens.size) (gs := gs) (IsGen_of hgen) (by simp)
    (feed_dec (dp := dp + 1) (un := un + 5) (vl := vl) (fo := fo) (side := side) (h7 := h7) (f := lookI bl) (bad := bad) C.S gl (fun h k => T.nolimit.keeps k) zL lLg hLvl hLf (by omega) (by omega) (by omega) hfo hG NV (by rw [hside]; exact .head _) (fun q hq => (sd7 q hq).1) (fun q hq => (sd7 q hq).2) F7
      (NG _ (.tail _ (.tail _ (.tail _ (.tail _ (.head _)))))).1 hiA (by rw [hbl]; omega) (bInts_bd b) (by omega) ?b1 ?b2 ?bL ?bv ?bg ?fr (by omega) (by omega)) ?fp ?ob ?oa ?n ?ok (fun hb0 h8 tk8 ws c8 kb8 e8 i8 => ?Q) (fun hb1 h8 tk8 ex a0 hfl hup => ?E)
  case b1 =>
    intro k hk h
    cases hq : bad with
    | true => rfl
    | false =>
      rw [hq] at hbad
      have := List.all_eq_true.mp (by simpa using hbad.symm : ((KBw.bInts b).all fun k => (lookI bl k).isSome) = true) k hk
      rw [h] at this; cases this
  case b2 =>
    intro hb
    by_cases h : ∃ k, k ∈ KBw.bInts b ∧ lookI bl k = none
    · exact h
    · have : ((KBw.bInts b).all fun k => (lookI bl k).isSome) = true := List.all_eq_true.mpr fun k hk => by
        cases q : lookI bl k with
        | none => exact absurd ⟨k, hk, q⟩ h
        | some _ => rfl
      rw [hbad, this] at hb; cases hb
  case bL => rw [hB]; exact hideAll_none _ (.head _)
  case bv => rw [hB]; exact hideAll_none _ (.tail _ (.head _))
  case bg => exact fun _ => IsGen_of (gB a _ haN hgen (Nat.ne_of_gt hLa) hav haL)
  case fr =>
    intro e he L' hf
    rcases mem_c he with rfl | he
    · cases hf; exact Nat.le_refl _
    · exact Nat.le_of_lt (frames_out Cg.B.frames zL e he L' hf)
  case fp =>
    intro q hq
    rcases mem_c hq with rfl | hq
    · exact Heap.lt_size hoG
    · rcases mem_c hq with rfl | hq
      · exact Heap.lt_size (NG _ (.tail _ (.tail _ (.tail _ (.tail _ (.head _)))))).1
      · obtain ⟨q', hq', rfl⟩ := List.mem_map.mp hq
        exact Heap.lt_size (sd7 q' hq').2
  case ob =>
    intro q hq
    rcases mem_c hq with rfl | hq
    · exact Heap.lt_size hoG
    · rw [List.mem_singleton.mp hq]
      exact Heap.lt_size (NG _ (.tail _ (.tail _ (.tail _ (.tail _ (.head _)))))).1
  case oa =>
    intro h
    rcases List.mem_cons.mp h with h | h
    · exact absurd h (Nat.ne_of_gt hLa)
    · exact hav (List.mem_singleton.mp h)
  case n =>
    have h1 := decL_len ((KBw.bInts b).map fun k => (lookI bl k).getD 0)
    have h2 := decB_len ((KBw.bInts b).map fun k => (lookI bl k).getD 0)
    rw [List.length_map, hbl] at h1 h2
    clear hlt5 hfS hlt
    split <;> omega
  case ok =>
    intro h' kb
    have o7 : ∀ q o, g.get? q = some o → q ∉ [Lg, vl] := fun q o e hm => by
      have := gltL _ _ e
      rcases mem2 hm with rfl | rfl
      · exact Nat.lt_asymm this lLg
      · exact Nat.lt_asymm this hLvl
    refine ⟨fun q o e => kb q o (o7 q o e) (F7.keep _ _ e), ?_, fun q o e => ?_⟩
    · refine ff_keep kb _ (fun env he L' hf hm => ?_) ?_
      · have : L' ≤ L := by
          rcases mem_c he with rfl | he
          · cases hf; exact Nat.le_refl _
          · exact Nat.le_of_lt (frames_out Cg.B.frames zL env he L' hf)
        rcases mem2 hm with rfl | rfl
        · exact Nat.not_lt_of_le this lLg
        · exact Nat.not_lt_of_le this hLvl
      · rw [hB]
        refine funFrames_hide (pushX Cg.B FG rfl rfl).frames fun env he q hq => ?_
        rcases mem_c he with rfl | he
        · cases hq; exact .tail _ (.tail _ (.head _))
        · exact .tail _ (.tail _ (.tail _ (List.mem_filterMap.mpr ⟨env, he, hq⟩)))
    · refine kb q o (fun hm => ?_) (by rw [hB] at e; exact of_hideAll _ e)
      rcases mem2 hm with rfl | rfl
      · rw [hB, hideAll_none _ (.head _)] at e; cases e
      · rw [hB, hideAll_none _ (.tail _ (.head _))] at e; cases e
  case Q =>
    have hall : ((KBw.bInts b).all fun k => (lookI bl k).isSome) = true := by
      have hb0' : bad = false := hb0
      rw [hb0'] at hbad
      simpa using hbad.symm
    have hdec : decOf bl big b = some ((if big then decB else decL) ((KBw.bInts b).map fun k => (lookI bl k).getD 0)) := by
      rw [decOf, if_neg hm1, if_pos hall]
    rw [outs_eq (outs_of _ _ rfl)] at i8
    have o7 : ∀ q o, g.get? q = some o → q ∉ [Lg, vl] := fun q o e hm => by
      have := gltL _ _ e
      rcases mem2 hm with rfl | rfl
      · exact Nat.lt_asymm this lLg
      · exact Nat.lt_asymm this hLvl
    have F8 : Fr g L h8 _ := ⟨FG.ns.at' fun o e => kb8 L o (by simpa using ⟨Nat.ne_of_lt lLg, Nat.ne_of_lt hLvl⟩) e, fun q o e => kb8 q o (o7 q o e) (FG.keep q o e), FG.above⟩
    have hxn : x ≠ Lg ∧ x ≠ vl := by
      rcases hx5 with ⟨h3, _⟩ | ⟨⟨h3, _⟩, _⟩
      · rw [h3]; exact ⟨hcs.1.1, hcs.1.2.1⟩
      · rw [h3]; exact ⟨Nat.ne_of_lt hfg, Nat.ne_of_gt hvf⟩
    have N8 : News g L h8 [(h7.objs.size, W.listOf ws.toArray c8), (x, ox), (107, tabObj #[rawInt 115, rawInt 8, .ref c'])] := fun q hq => by
      rcases mem3 hq with rfl | rfl | rfl
      · exact ⟨e8, Nat.ne_of_gt FG.ns.lt, next_is_new FG⟩
      · have := NG (x, ox) (.tail _ (.tail _ (.tail _ (.head _))))
        exact ⟨kb8 _ _ (by simpa using hxn) this.1, this.2⟩
      · have := NG (107, tabObj #[rawInt 115, rawInt 8, .ref c']) (by simp)
        exact ⟨kb8 _ _ (by simpa using ⟨Nat.ne_of_lt (Nat.lt_trans l107 lLg), Nat.ne_of_lt (Nat.lt_trans l107 hLvl)⟩) this.1, this.2⟩
    have hin : ∀ k ∈ (KBw.bInts b).map (fun k => (lookI bl k).getD 0), 0 ≤ k ∧ k < 64 := fun k hk => by
      obtain ⟨k0, _, rfl⟩ := List.mem_map.mp hk
      cases q : lookI bl k0 with
      | none => exact ⟨by decide, by decide⟩
      | some r => exact lookI_bd hlen q
    have hbd : ∀ k ∈ (if big then decB else decL) ((KBw.bInts b).map fun k => (lookI bl k).getD 0), 0 ≤ k ∧ k < 256 := fun k hk => by
      split at hk
      · exact decB_bd _ hin k hk
      · exact decL_bd _ hin k hk
    have hsz8 := i8.length
    have l1 := decL_len ((KBw.bInts b).map fun k => (lookI bl k).getD 0)
    have l2 := decB_len ((KBw.bInts b).map fun k => (lookI bl k).getD 0)
    rw [List.length_map, hbl] at l1 l2
    have hsz9 : ws.length ≤ 100 := by rw [hsz8]; clear hlt5 hfS hlt; split <;> omega
    clear hlt5 hfS hlt NG hG NV N7
    dsimp only
    tb_rel
    rename Fr _ _ _ _ => FQ
    rename News _ _ _ _ => NQ
    refine hR _ hdec _ _ _ _ (fun b o hb e => FQ.keep _ _ (gk b o (by simpa using hb) e)) ⟨_, (NQ (107, tabObj #[rawInt 115, rawInt 8, .ref c']) (by simp)).1, .inr ⟨c', rfl, c', oc, vs0, t0, rfl, ?_, hd5, hv5⟩⟩ (bare_fin _ _)
    rcases hx5 with ⟨h3, h4⟩ | ⟨_, h3⟩
    · have := (NQ (x, ox) (by simp)).1
      rw [h3, h4] at this
      exact this
    · exact FQ.keep _ _ h3
  case E =>
    have hb1' : bad = true := hb1
    have hnone : decOf bl big b = none := by
      rw [decOf, if_neg hm1, if_neg]
      intro h
      rw [h] at hbad
      rw [hb1'] at hbad
      cases hbad
    have o7 : ∀ q o, g.get? q = some o → q ∉ [Lg, vl] := fun q o e hm => by
      have := gltL _ _ e
      rcases mem2 hm with rfl | rfl
      · exact Nat.lt_asymm this lLg
      · exact Nat.lt_asymm this hLvl
    have LG : L ∉ [Lg, vl] := by simpa using ⟨Nat.ne_of_lt lLg, Nat.ne_of_lt hLvl⟩
    have FG2 : Fr g L (hideAll h7 [Lg, vl]) _ := ⟨FG.ns.at' fun o e => hideAll_get _ e LG, fun q o e => hideAll_get _ (FG.keep q o e) (o7 q o e), FG.above⟩
    have b107 : B.get? 107 = some (tabObj #[rawInt 115, rawInt 8, .ref c']) := by
      have := NG (107, tabObj #[rawInt 115, rawInt 8, .ref c']) (by simp)
      exact gB _ _ this.2.2 this.1 (Nat.ne_of_lt (Nat.lt_trans l107 lLg)) (Nat.ne_of_lt (Nat.lt_trans l107 hLvl)) (Nat.ne_of_lt l107)
    have bc : B.get? c' = some oc := by
      rw [hB]
      refine hideAll_get _ hcs.2 fun hm => ?_
      simp only [List.mem_cons] at hm
      rcases hm with h | h | h | h
      · exact hcs.1.1 h
      · exact hcs.1.2.1 h
      · exact hcs.1.2.2 h
      · obtain ⟨o', e', hn⟩ := hfrm _ h
        have := F7.keep _ _ e'
        rw [hcs.2] at this
        cases this
        exact hn _ hd5
    dsimp only
    clear hlt5 hfS hlt hG NV N7
    refine caught_Z (T' := "KeyError") (G := hideAll h7 [Lg, vl]) hfl (fun q o e hm => ?_) FG2 Cg.B (fun q o e hn => ?_) (C.S.X.keeps hGb) (C.S.T.keeps hGb) ?ex9 ?bt9 ?nn9 ?exc9 ?nt9 ?sub9 fun h9 g9 T9 F9 hfl9 K9 X9 P9 => ?kk9
    · have hq : q ∉ [Lg, vl] := fun h => by rw [hideAll_none _ h] at e; cases e
      rw [hB]
      refine hideAll_get _ (of_hideAll _ e) fun h => ?_
      simp only [List.mem_cons, not_or, List.not_mem_nil, not_false_eq_true, and_true] at h hq
      rcases h with h | h | h | h
      · exact hq.1 h
      · exact hq.2 h
      · exact hm (by rw [List.filterMap_cons]; exact h ▸ .head _)
      · exact hm (by rw [List.filterMap_cons]; exact .tail _ h)
    · exact hup q o (fun h => by rw [hideAll_none _ h] at e; cases e) (of_hideAll _ e) hn
    case ex9 => kernel_rfl
    case bt9 => exact excClass_KeyError.boot
    case nn9 => decide
    case exc9 => rw [isSubtype_type]; kernel_rfl
    case nt9 => rw [isSubtype_type]; kernel_rfl
    case sub9 => rw [isSubtype_type]; kernel_rfl
    have N9 : News g9 L h9 [] := .nil
    clear X T F7 NG FG FG2
    iterate 1 tb_start
    refine Raise_in (z := ex) rfl ?_
    iterate 6 tb_start
    refine call_exc excClass_ValueError fun h10 e10 hx10 => ?_
    obtain ⟨oz, vz, z1, z2, z3'⟩ := hfl9.2
    refine ⟨e10, _, _, _, _, excClass_ValueError, rfl, hx10, fun h => ?_, ⟨oz, vz, hx10.keeps _ _ z1, z2, z3'⟩, fun h11 hx11 => ?_⟩
    · have := hx10.new
      rw [h, z1] at this; cases this
    dsimp only
    refine rz_new K9 hx11 F9 rfl rfl (own := [107]) (Tb := Tab107) (h00 := s.heap) (fun q o hq nm e => T9.other q o (gk q o (by simpa using hq) e) nm) (fun q o hq e _ => T9.up (gk q o (by simpa using hq) e)) (fun B2 hB2 => ?_) fun h' hz => ?_
    · exact ⟨_, hB2 _ _ _ rfl (hfl9.1.1 _ _ b107), .inr ⟨c', rfl, c', oc, vs0, t0, rfl, hB2 _ _ _ hd5 (hfl9.1.1 _ _ bc), hd5, hv5⟩⟩
    · exact hE hnone _ _ _ _ hz (bare_fin _ _)

end
section

section
variable {w : World} {A : Around} {E : Value → Shared → Prop} {s : Shared}

theorem call_set_bytes {Q : Value → Shared → Prop} (hh : A.handled = none) (x : Array UInt8) (t : Tok) (hb : x.size + 1 < scanBound)
    (h : ∀ h' tk, h'.SetOf (intKind PR w) s.heap.objs.size (fun k' => (firstMet (fun i => (KBw.bInts x).getD i 0) x.size).any (· == k')) (firstMet (fun i => (KBw.bInts x).getD i 0) x.size).length → Kp s.heap h' → Q (.ref s.heap.objs.size) { s with heap := h', toks := tk }) :
    wpAny (model PR w) A (call (.type "set") [.bytes x t]) Q E s := by
  obtain ⟨c, tl, hmro⟩ := F.called_set.mro
  have hmade := F.called_set.made
  have hsub := F.called_set.sub
  refine wpAny_call (codeAny_of_tree ?_)
  show wpAny _ _ (callAny (.type "set") _) _ _ _
  refine wpAny_pure ⟨Code.quiet_builtin _ (by decide +kernel), codeAny_builtin F.entry_type_call ?_⟩
  rw [Around.under_plain (weight_type_call_type "set" [.bytes x t] []) rfl]
  have h1 := F.called_set.notType
  have h2 := F.called_set.canCreate
  have hct := F.typeCall_set_1 (.bytes x t)
  repeat (any_goals (first | assumption | wp_step))
  refine codeAny_mono (code_set_new_1 (.bytes x t) (E := E) (Q₁ := fun obj s₁ => ∃ led : Bool, obj = .ref s.heap.objs.size ∧ s₁ = { s with heap := s.heap.push { cls := .type "set", dict := none, data := .set #[] 0 (.fresh 0 0 led) } }) fun led => ⟨led, rfl, rfl⟩) fun r s₁ hr => ?_
  cases r with
  | error e => exact hr
  | ok fl =>
    cases fl with
    | ret obj =>
      obtain ⟨led, rfl, rfl⟩ := hr
      have hS : (s.heap.push { cls := .type "set", dict := none, data := .set #[] 0 (.fresh 0 0 led) }).get? s.heap.objs.size = some { cls := .type "set", dict := none, data := .set #[] 0 (.fresh 0 0 led) } := Heap.get?_push_size _ rfl
      have hT : Shared.TypeIs { s with heap := s.heap.push { cls := .type "set", dict := none, data := .set #[] 0 (.fresh 0 0 led) } } (.ref s.heap.objs.size) "set" := ⟨_, hS, rfl⟩
      have hli := F.called_set.init.lookup
      have hbi := F.called_set.init.bind (.ref s.heap.objs.size)
      repeat (any_goals (first | assumption | wp_step))
      refine codeAny_mono (codeAny_call_builtin (R := wants (fun r s₂ => r = .none ∧ ∃ h' tk, s₂ = { s with heap := h', toks := tk } ∧
          h'.SetOf (intKind PR w) s.heap.objs.size (fun k' => (firstMet (fun i => (KBw.bInts x).getD i 0) x.size).any (· == k')) (firstMet (fun i => (KBw.bInts x).getD i 0) x.size).length ∧ Kp s.heap h') E) F.called_set.init.plain F.entry_set_init (check_set_init_1 hT ?_)) fun r₂ s₂ hr₂ => ?_
      · have hsbs : isSubtype (.type "bytes") (.type "set") = pure false := by rw [isSubtype_type]; kernel_rfl
        have hsbf : isSubtype (.type "bytes") (.type "frozenset") = pure false := by rw [isSubtype_type]; kernel_rfl
        have hne : (Value.type "bytes" == Value.type "dict") = false := by decide
        have hty : typeOf (.bytes x t) = pure (.type "bytes") := rfl
        unfold Builtin.«set.__init__» noKeywords Builtin.Frozenset.updateFrom
        generalize hPI : pyIter = PI
        wp_walk
        subst hPI
        refine KBw.pyIter_bytes ?_
        refine wpAny_bind (wpAny_runValue ?_)
        have hh3 : A.in1.in1.in1.handled = none := by simp [hh]
        have hval : ∀ (i : Nat) (v : Value), BAt x i v → ∃ t, v = .int ((fun i => (KBw.bInts x).getD i 0) i) t := fun i v ⟨c, u, hc, hv⟩ => ⟨u, by
          rw [hv]
          congr 1
          show _ = (KBw.bInts x).getD i 0
          rw [List.getD_eq_getElem?_getD, KBw.ints_get hc]; rfl⟩
        have hSf : s.heap.objs.size ∉ [(s.heap.push { cls := .type "set", dict := none, data := .set #[] 0 (.fresh 0 0 led) }).objs.size] := by
          rw [Heap.size_push]; simp
        refine codeAny_set_update_loopS ((KBw.walks hh3 _ x t).toS) s.heap.objs.size hSf (fun i => (KBw.bInts x).getD i 0) hval hb (x.size - 0) 0 _ (by omega) (Nat.zero_le _) ⟨_, Heap.get?_push_size _ rfl, rfl, rfl⟩ ?hS0 ?hR
        case hS0 =>
          have hget : ((s.heap.push { cls := .type "set", dict := none, data := .set #[] 0 (.fresh 0 0 led) }).push { cls := .type "bytes_iterator", data := .fields #[.bytes x t, .int 0 0] }).get? s.heap.objs.size
              = some { cls := .type "set", dict := none, data := .set #[] 0 (.fresh 0 0 led) } := Heap.get?_push_of_some _ hS
          exact SetOf_congr ((setObjOf_fresh (knd := intKind PR w) led).setOf hget (by unfold scanBound; omega)) (fun _ => rfl) rfl
        case hR =>
          intro s' hm hS'
          rw [Moved.eq_with hm]
          refine wpAny_pure ?_
          show wpAny _ _ (ret Value.none) _ _ _
          refine wpAny_pure ⟨rfl, _, _, rfl, hS', fun b o e => ?_⟩
          refine hm.heap b o (fun hmem => ?_) (Heap.get?_push_of_some _ (Heap.get?_push_of_some _ e))
          have hlt := Heap.lt_size e
          rcases List.mem_cons.mp hmem with e' | hmem
          · rw [e'] at hlt; exact Nat.lt_irrefl _ hlt
          · rw [List.mem_singleton.mp hmem, Heap.size_push] at hlt; exact Nat.lt_irrefl _ (Nat.lt_of_succ_lt hlt)
      · cases r₂ with
        | error e => exact hr₂
        | ok fl₂ =>
          cases fl₂ with
          | ret r =>
            obtain ⟨rfl, h', tk, rfl, hS', hk'⟩ := hr₂
            repeat (any_goals (first | assumption | wp_step))
            exact h _ _ hS' hk'
          | _ => exact hr₂.elim
    | _ => exact hr.elim
end


theorem slot_gen_ga : Slot "generator" "__getattribute__" "object.__getattribute__" :=
  .of (owner := "object") (n := "__getattribute__") (by rw [typeLookup_type, builtinLookup_eq_fast]; kernel_rfl) (by decide +kernel) (by decide +kernel) (by decide +kernel)
    (by first | exact .inl (by decide +kernel) | exact .inr (by decide +kernel)) (by rw [isSubtype_type]; kernel_rfl)
theorem gen_no_keys : typeLookup (.type "generator") "keys" = pure none := by rw [typeLookup_type, builtinLookup_eq_fast]; kernel_rfl
theorem gen_no_getattr : typeLookup (.type "generator") "__getattr__" = pure none := by rw [typeLookup_type, builtinLookup_eq_fast]; kernel_rfl

theorem meets_ga_miss_gen (a g : Nat) (nm qn : Value) (u : Tok) :
    Meets (Builtin.«object.__getattribute__» ⟨[.ref a, .str "keys" u], []⟩) (fun A R s => s.heap.get? a = some (genObj g nm qn) ∧ raisesAttr (.ref a) "keys" A R s) :=
  Meets.of_wp fun prog w A R s hs => by
    obtain ⟨hp, gs, d, tk, os⟩ := s
    obtain ⟨hx, hs⟩ := hs
    have hT : (⟨hp, gs, d, tk, os⟩ : Shared).TypeIs (.ref a) "generator" := ⟨_, hx, rfl⟩
    have f1 := gen_no_keys
    unfold Builtin.«object.__getattribute__»
    repeat (any_goals (first | assumption | wp_step))
    exact wpAny_raiseAttrError hs.1 hs.2 (attrMsg_fits (by decide +kernel) (by size_fits))

theorem keys_gen {w : World} {A : Around} {E : Value → Shared → Prop} {s : Shared} {a g : Nat} {nm qn : Value} {Q : Option Value → Shared → Prop} (hx : s.heap.get? a = some (genObj g nm qn)) (hA : A.handled = none) (h : ∀ h' tk, Kp s.heap h' → Q none { s with heap := h', toks := tk }) :
    wpAny (model PR w) A (getAttr? (.ref a) "keys") Q E s := by
  obtain ⟨hp, gs, d, tk, os⟩ := s
  have hT : (⟨hp, gs, d, tk, os⟩ : Shared).TypeIs (.ref a) "generator" := ⟨_, hx, rfl⟩
  have f1 := sub_AttributeError
  have f3 := slot_gen_ga.lookup
  have f4 := slot_gen_ga.bind (.ref a)
  have f5 := gen_no_getattr
  unfold getAttr? getAttrBy?
  repeat (any_goals (first | assumption | ((with_reducible show wpAny _ _ (call (Value.builtin "object.__getattribute__") _ _) _ _ _); refine call_meets slot_gen_ga (show Shared.TypeIs _ (.ref a) "generator" from ⟨_, hx, rfl⟩) F.entry_object_getattribute (F.args_object_getattribute_2 _ _) (meets_ga_miss_gen a g nm qn _) ⟨hx, hA, fun h' tk' e hx' => ?_⟩) | wp_step))
  obtain ⟨t', u', he⟩ := hx'.there
  have ht2 : (⟨h', gs, d, tk', os⟩ : Shared).TypeIs (.ref e) "AttributeError" := ⟨_, he, rfl⟩
  have hx2 := hx'.keeps _ _ hx
  show wpAny _ _ (getattributeRaised _ _ _ _ _ _ _) _ _ _
  unfold getattributeRaised
  repeat (any_goals (first | assumption | wp_step))
  trace_state
  exact h _ _ hx'.keeps


section
variable {w : World} {A : Around} {E : Value → Shared → Prop} {s : Shared} {b : Array UInt8} {t : Tok}
theorem nextOf_bytes_item {it : Addr} {i : Nat} {c : UInt8} {Q : Value → Shared → Prop} (hit : KBw.IsBytesIter s.heap it b t i) (hx : b[i]? = some c)
    (hQ : ∀ h', KBw.IsBytesIter h' it b t (i + 1) → Heap.SameBut it s.heap h' → Q (.int (c.toNat : Int) s.toks) { s with heap := h', toks := s.toks + 1 }) : wpAny (model PR w) A (Builtin.SmallTypes.nextOf (.ref it)) Q E s := by
  obtain ⟨o, ho, hc, hd⟩ := id hit
  unfold Builtin.SmallTypes.nextOf
  refine wpAny_bind (wpAny_callSpecial?_slot (name := Str.ofString "__next__") (KBw.iter_typeIs hit) KBw.slot_next
    (wpAny_call_entry KBw.slot_next (KBw.iter_typeIs hit) KBw.entry_next ?_ (KBw.args_next _)))
  show wpAny _ _ (field (.ref it) 0 >>= _) _ _ s
  refine wpAny_bind (wpAny_field ho hd (x := .bytes b t) rfl ?_)
  show wpAny _ _ (if (Value.bytes b t == Value.none) = true then _ else _) _ _ s
  rw [if_neg (show ¬ ((Value.bytes b t == Value.none) = true) from Bool.false_ne_true)]
  show wpAny _ _ (field (.ref it) 1 >>= _) _ _ s
  refine wpAny_bind (wpAny_field ho hd (x := .int i 0) rfl ?_)
  refine wpAny_bind (wpAny_of_eq (a := b) rfl ?_)
  simp only [Int.toNat_natCast, hx]
  refine wpAny_bind (wpAny_setField ho hd (by simp) (wpAny_bind (wpAny_mkInt (wpAny_pure ⟨_, rfl, wpAny_pure (hQ _ ?_ (Heap.SameBut.update ..))⟩))))
  exact ⟨_, Heap.get?_update_self _ ho (Obj.isFreed_of_fields (Obj.data_mapFields hd _)), (Obj.cls_mapFields ..).trans hc, by
    rw [Obj.data_mapFields hd]; simp [rawInt]⟩
theorem nextOf_bytes_end {it : Addr} {i : Nat} {Q : Value → Shared → Prop} (hh : A.handled = none) (hit : KBw.IsBytesIter s.heap it b t i) (hx : b[i]? = none)
    (hE : ∀ h' e, Heap.ExtBut it s.heap h' → (∃ o, h'.get? e = some o ∧ o.cls = .type "StopIteration") → E (.ref e) { s with heap := h' }) : wpAny (model PR w) A (Builtin.SmallTypes.nextOf (.ref it)) Q E s := by
  obtain ⟨o, ho, hc, hd⟩ := id hit
  unfold Builtin.SmallTypes.nextOf
  refine wpAny_bind (wpAny_callSpecial?_slot (name := Str.ofString "__next__") (KBw.iter_typeIs hit) KBw.slot_next
    (wpAny_call_entry KBw.slot_next (KBw.iter_typeIs hit) KBw.entry_next ?_ (KBw.args_next _)))
  show wpAny _ _ (field (.ref it) 0 >>= _) _ _ s
  refine wpAny_bind (wpAny_field ho hd (x := .bytes b t) rfl ?_)
  show wpAny _ _ (if (Value.bytes b t == Value.none) = true then _ else _) _ _ s
  rw [if_neg (show ¬ ((Value.bytes b t == Value.none) = true) from Bool.false_ne_true)]
  show wpAny _ _ (field (.ref it) 1 >>= _) _ _ s
  refine wpAny_bind (wpAny_field ho hd (x := .int i 0) rfl ?_)
  refine wpAny_bind (wpAny_of_eq (a := b) rfl ?_)
  simp only [Int.toNat_natCast, hx]
  refine wpAny_bind (wpAny_rule (wpAny_bind (wpAny_setField ho hd (by simp) ?_)))
  show wpAny _ _ (newExc (.type "StopIteration") [] >>= _) _ _ _
  refine wpAny_bind ?_
  simp only [newExc, newTuple]
  refine wpAny_bind (wpAny_newObj_type ?_ (by size_fits))
  refine wpAny_bind (m := firstArgMember _ _) (wpAny_of_eq (a := Value.none) (by first | rfl | (simp only [firstArgMember]; rfl)) ?_)
  refine wpAny_newObj_type ?_ (by size_fits)
  simp only [raiseNew]
  refine wpAny_bind (wpAny_handled ?_)
  first | rw [show A.in1.handled = none from hh] | rw [hh]
  refine wpAny_bind (wpAny_pure (wpAny_throw ?_))
  exact hE _ _ (((Heap.SameBut.update ..).extBut.push _).push _) ⟨_, Heap.get?_push_size _ rfl, rfl⟩
end
theorem draws_bytes {w : World} {A : Around} (hh : A.handled = none) (it : Addr) (b : Array UInt8) (t : Tok) :
    Draws PR w A it [it] b.size (BAt b) (fun i h => KBw.IsBytesIter h it b t i) where
  live := fun _ _ st => let ⟨o, ho, _⟩ := st; ⟨o, ho⟩
  frame := fun _ _ _ st hk => let ⟨o, ho, r⟩ := st; ⟨o, hk it (by simp) o ho, r⟩
  item := fun i s Q E hi st hQ => by
    refine nextOf_bytes_item st (c := b[i]) (by simp [hi]) fun h' hit' hs' => ?_
    exact hQ _ h' (s.toks + 1) ⟨_, _, by simp [hi], rfl⟩ hit' hs'
  done := fun s Q E st hE => nextOf_bytes_end hh st (by simp) hE

/-- a pair out of a generator -/
noncomputable abbrev pairObj (k : Int) (t : Tok) (i : Nat) (u : Tok) : Obj := { cls := .type "tuple", data := .seq #[.int k t, .int i u] }
noncomputable def PairY (ks : List Int) (C : Addr) (fp wr : List Addr) : Protocol := fun m s₀ v s₁ kap => ∃ h' tk T t u k, s₁ = { s₀ with heap := h', toks := tk } ∧ v = .ref T ∧ m < ks.length ∧ ks[ks.length - 1 - m]? = some k ∧ h'.get? T = some (pairObj k t (ks.length - 1 - m) u) ∧
  KpB (C :: wr) s₀.heap h' ∧ ∀ s'', (∀ b ∈ C :: fp, ∀ o, h'.get? b = some o → s''.heap.get? b = some o) → kap (.send .none) s''
noncomputable def PairR (C : Addr) (wr : List Addr) : GenEnd := fun n s₀ r s₁ => r = .ok .next ∧ n = 0 ∧ ∃ h' tk, s₁ = { s₀ with heap := h', toks := tk } ∧ KpB (C :: wr) s₀.heap h'

theorem kpB_in {wr : List Addr} {C : Addr} {a b c : Heap} (k : KpB (C :: wr) a b) (l : ∀ x o, x ∉ wr → b.get? x = some o → c.get? x = some o) : KpB (C :: wr) a c := fun x o hx e => l x o (fun h => hx (.tail _ h)) (k x o hx e)
theorem kpB_C {wr : List Addr} {C : Addr} {a b c : Heap} (k : KpB (C :: wr) a b) (l : ∀ x o, x ≠ C → b.get? x = some o → c.get? x = some o) : KpB (C :: wr) a c := fun x o hx e => l x o (fun h => hx (h ▸ .head _)) (k x o hx e)

section
variable {w : World} {A : Around}
theorem seg_pairs {iter : Expr} {xa xb : Str} {pa pb pt pc pd pe : Pos} {kt ke : Nat} {scope : Scope} {pos : Pos} {I : Addr} {fp wr : List Addr} {ks : List Int} {St₀ : Nat → Heap → Prop} {Mid : Nat → Addr → Heap → Prop} {cenv : Env}
    (hh : A.handled = none) (W₀ : ∀ A' : Around, A'.handled = none → WalksU PR w A' I fp wr ks.length (fun i vals => ∃ k t u, ks[i]? = some k ∧ vals = #[.int i u, .int k t]) St₀ Mid) (hab : xa ≠ xb)
    (hxa : cenv.kindOf xa = some .local) (hxb : cenv.kindOf xb = some .local) (hp : (cenv.scope.kind == .class || (cenv.scope.kind == .module && cenv.locals != cenv.globals)) = false)
    (hk0 : cenv.scope.kind = .function) (hda : (xa == ("__debug__" : Str)) = false) (hdb : (xb == ("__debug__" : Str)) = false)
    (hco : cenv.scope.isCoroutine = false) (hCf : cenv.locals ∉ fp) :
    ∀ (k i : Nat) (s₀ s : Shared) (m : Str → Option Value), ks.length - i = k → i ≤ ks.length → St₀ i s.heap → s.heap.Ns cenv.locals m → (∃ h' tk, s = { s₀ with heap := h', toks := tk } ∧ KpB (cenv.locals :: wr) s₀.heap h') →
      Seg (model PR w) A (PairR cenv.locals wr) (PairY ks cenv.locals fp wr) k s₀
        (.compLoop (.GeneratorExp (.Tuple [.Name xb pc, .Name xa pd] ke pe) [⟨.Tuple [.Name xa pa, .Name xb pb] kt pt, iter, [], 0⟩] scope pos) 0 (.ref I) .none cenv)
        ((model PR w).den (.compLoop (.GeneratorExp (.Tuple [.Name xb pc, .Name xa pd] ke pe) [⟨.Tuple [.Name xa pa, .Name xb pb] kt pt, iter, [], 0⟩] scope pos) 0 (.ref I) .none cenv)) [] s := by
  have hh' : (A.over (.compLoop (.GeneratorExp (.Tuple [.Name xb pc, .Name xa pd] ke pe) [⟨.Tuple [.Name xa pa, .Name xb pb] kt pt, iter, [], 0⟩] scope pos) 0 (.ref I) .none cenv) []).handled = none := hh
  have hCw : cenv.locals ∉ wr := fun h => hCf ((W₀ A hh).sub _ h)
  intro k
  induction k with
  | zero =>
    intro i s₀ s m hk hi hst hn hsince
    have hin : i = ks.length := by omega
    subst hin
    obtain ⟨h0, tk0, rfl, kb0⟩ := hsince
    show Seg _ A _ _ _ s₀ _ ((compTurn (.GeneratorExp _ [⟨.Tuple [.Name xa pa, .Name xb pb] kt pt, iter, [], 0⟩] scope pos) 0 (.ref I) .none cenv).onRaise (leaving cenv)) [] _
    rw [compTurn_gen, Sem.onRaise_eq_wrap]
    refine seg_bind_wrap (wpAny_standAt ?_)
    refine seg_bind_wrap ((W₀ _ hh').done _ _ _ hst fun h' tk hk' => ?_)
    exact seg_end (.ok .next) ⟨rfl, rfl, _, _, rfl, kpB_in kb0 fun b o hw e => hk' b o hw e⟩
  | succ k ih =>
    intro i s₀ s m hk hi hst hn hsince
    have hlt : i < ks.length := by omega
    obtain ⟨h0, tk0, rfl, kb0⟩ := hsince
    show Seg _ A _ _ _ s₀ _ ((compTurn (.GeneratorExp _ [⟨.Tuple [.Name xa pa, .Name xb pb] kt pt, iter, [], 0⟩] scope pos) 0 (.ref I) .none cenv).onRaise (leaving cenv)) [] _
    rw [compTurn_gen, Sem.onRaise_eq_wrap]
    refine seg_bind_wrap (wpAny_standAt ?_)
    refine seg_bind_wrap ((W₀ _ hh').item i _ _ _ hlt hst fun T vals h₁ tk₁ hPv hT₁ hmid hk₁ => ?_)
    obtain ⟨kv, t, u, hkv, rfl⟩ := hPv
    refine seg_bind_wrap ((W₀ _ hh').go _ _ _ i T _ _ _ hmid fun h₁' hst₁ hk₁' => ?_)
    have hT₁' : h₁'.IsTuple T #[.int i u, .int kv t] := let ⟨o, e, r⟩ := hT₁; ⟨o, hk₁' _ o ((W₀ _ hh').apart i T _ hmid) e, r⟩
    refine seg_bind_wrap (wpAny_assign_Tuple hh' hT₁' rfl rfl fun h₁'' hx₁ => ?_)
    replace hx₁ : Heap.ExtBut h₁'.objs.size h₁' h₁'' := hx₁
    have old₁ : ∀ b o, h₁'.get? b = some o → h₁''.get? b = some o := fun b o e => hx₁ b o (Nat.ne_of_lt (Heap.lt_size e)) e
    show wpAny _ _ (do holding [Value.int kv t] (assign (.Name xa pa) cenv (.int i u)); do holding [] (assign (.Name xb pb) cenv (.int kv t)); pure ()) _ _ _
    refine wpAny_bind (wpAny_holding (wpAny_assign_Name (wpAny_storeName_local hxa (hn.at' fun o e => old₁ _ o (hk₁' _ o hCw (hk₁ _ o hCw e))) (fun h₂a hn₂a hs₂a => ?_) hp)))
    replace hs₂a : Heap.SameBut cenv.locals h₁'' h₂a := hs₂a
    refine wpAny_bind (wpAny_holding (wpAny_assign_Name (wpAny_storeName_local hxb hn₂a (fun h₂ hn₂ hs₂ => wpAny_pure ?_) hp)))
    replace hs₂ : Heap.SameBut cenv.locals h₂a h₂ := hs₂
    have kb₂ : KpB (cenv.locals :: wr) s₀.heap h₂ := kpB_C (kpB_C (kpB_in (kpB_in kb0 hk₁) hk₁') fun b o hb e => hs₂a.extBut b o hb (old₁ b o e)) fun b o hb e => hs₂.extBut b o hb e
    have hst₂ : St₀ (i + 1) h₂ := (W₀ A hh).frame _ _ _ hst₁ fun b hb o e => hs₂.extBut b o (fun h => hCf (h ▸ hb)) (hs₂a.extBut b o (fun h => hCf (h ▸ hb)) (old₁ b o e))
    refine seg_bind_wrap (wpAny_pure ?_)
    simp only [if_true]
    have hy : ∀ v, yieldOut cenv v = yieldValue v := fun v => by simp only [yieldOut, hco, Bool.false_eq_true, if_false]
    simp only [hy]
    rw [Sem.bind_eq_wrap', Sem.bind_eq_wrap', Sem.wrap_wrap, Sem.wrap_wrap]
    refine seg_wrap (wpAny_Tuple_spliced (spliced_more (wpAny_Name (wpAny_loadName_local hk0 hxb hn₂ (v := .int kv t) (by simp) ?_) hdb)))
    refine spliced_more (wpAny_Name (wpAny_loadName_local hk0 hxa hn₂ (v := .int i u) (by simp [hab]) ?_) hda)
    refine spliced_none ⟨by rw [sizeLine_eq]; simp, ?_⟩
    dsimp only
    have hix : ks.length - 1 - k = i := by omega
    have up3 : ∀ b o, h₂.get? b = some o → (h₂.push { cls := .type "tuple", data := .seq [Value.int kv t, Value.int i u].toArray }).get? b = some o := fun b o e => Heap.get?_push_of_some _ e
    refine seg_at (seg_yield rfl rfl rfl ⟨_, _, h₂.objs.size, t, u, kv, rfl, rfl, by omega, by rw [hix]; exact hkv, by rw [hix]; exact Heap.get?_push_size _ rfl, fun b o hb e => up3 b o (kb₂ b o hb e), fun s'' hal => ?_⟩)
    exact seg_again rfl (ih (i + 1) s'' s'' _ (by omega) hlt ((W₀ A hh).frame _ _ _ hst₂ fun b hb o e => hal b (List.mem_cons_of_mem _ hb) o (up3 b o e)) ((hn₂.keeps up3).at' fun o e => hal _ (List.mem_cons_self ..) o e) ⟨s''.heap, s''.toks, rfl, fun _ _ _ e => e⟩)
end


theorem meets_enumerate_newB (x : Array UInt8) (t : Tok) :
    Meets (Builtin.«enumerate.__new__» ⟨[.type "enumerate", .bytes x t], []⟩) (fun _ R s =>
      R (.ok (.ret (.ref (s.heap.push { cls := .type "bytes_iterator", data := .fields #[.bytes x t, .int 0 0] }).objs.size)))
        { s with heap := (s.heap.push { cls := .type "bytes_iterator", data := .fields #[.bytes x t, .int 0 0] }).push { cls := .type "enumerate", data := .fields #[.none, .bool false, .ref s.heap.objs.size, rawInt 0, .none, .none] } }) :=
  .of_wp fun prog w A R s h => by
    obtain ⟨hp, g, d, tk, os⟩ := s
    have hsub := sub_enumerate
    wp_walk
    refine wpAny_stack_any fun st => wpAny_pure ?_
    split
    · rename_i c _ _ _ _ _
      cases (c == Value.type "enumerate")
      · wp_walk using KBw.pyIter_bytes
        exact ⟨_, rfl, h⟩
      · wp_walk using KBw.pyIter_bytes
        exact ⟨_, rfl, h⟩
    · wp_walk using KBw.pyIter_bytes
      exact ⟨_, rfl, h⟩

section
variable {w : World} {A : Around} {E : Value → Shared → Prop} {s : Shared}
theorem call_enumerate_bytes {x : Array UInt8} {t : Tok} {Q : Value → Shared → Prop}
    (h : ∀ h', IsEnum h' (s.heap.objs.size + 1) s.heap.objs.size 0 .none → KBw.IsBytesIter h' s.heap.objs.size x t 0 → h'.objs.size = s.heap.objs.size + 2 →
      (∀ b o, s.heap.get? b = some o → h'.get? b = some o) → Q (.ref (s.heap.objs.size + 1)) { s with heap := h' }) :
    wpAny (model PR w) A (call (.type "enumerate") [.bytes x t]) Q E s := by
  refine callType_new F.called_enumerate (by decide) (F.typeCall_enumerate_1 _) (F.newCall_enumerate_1 _) (fun obj => F.args_object_init_2 obj _) F.entry_enumerate_new
    (meets_enumerate_newB x t) ?_
  have hz : (s.heap.push { cls := .type "bytes_iterator", data := .fields #[.bytes x t, .int 0 0] }).objs.size = s.heap.objs.size + 1 := Heap.size_push ..
  show _ ∧ _
  rw [hz]
  have he : IsEnum ((s.heap.push { cls := .type "bytes_iterator", data := .fields #[.bytes x t, .int 0 0] }).push
      { cls := .type "enumerate", data := .fields #[.none, .bool false, .ref s.heap.objs.size, rawInt 0, .none, .none] }) (s.heap.objs.size + 1) s.heap.objs.size 0 .none := by
    have := Heap.get?_push_size (s.heap.push { cls := .type "bytes_iterator", data := .fields #[.bytes x t, .int 0 0] })
      (o := { cls := .type "enumerate", data := .fields #[.none, .bool false, .ref s.heap.objs.size, rawInt 0, .none, .none] }) rfl
    rw [hz] at this; exact this
  refine ⟨⟨_, he, rfl⟩, h _ he ⟨_, Heap.get?_push_of_some _ (Heap.get?_push_size _ rfl), rfl, rfl⟩ (by rw [Heap.size_push, hz]) fun b o x => Heap.get?_push_of_some _ (Heap.get?_push_of_some _ x)⟩
end

theorem gen_tab {M : Model} {A : Around} {E : Value → Shared → Prop} {s : Shared} {env : Env} {c P : Addr} {pos : Pos} {q : Str} {scope : Scope} {Q : Value → Shared → Prop} (hc : env.code = .ref c) (C : CodeHd s.heap c P) (T : Tab P pos.line pos.col q s.heap)
    (hQ : ∀ c' h' tk, Heap.ExtBut P s.heap h' → Tab P pos.line pos.col q h' → Q (.ref c') { s with heap := h', toks := tk }) : wpAny M A (genexprCode env pos q scope) Q E s := by
  obtain ⟨ps, hP, hr⟩ := T
  rcases hr with rfl | ⟨cv, rfl, hr⟩
  · refine wpAny_genexprCodeX hc (C.code hP triples_nil) (C.tab hP) rfl fun c' h' tk hx hge hlt hcode hrec htab _ => ?_
    exact hQ c' h' tk hx ⟨_, htab.2, .inr ⟨c', by simp, hrec⟩⟩
  · refine wpAny_genexprCode_hit hc (C.code hP (triples_one _ _ _)) (codeAmong_one pos cv) ?_
    have := hQ cv s.heap s.toks (fun b o _ e => e) ⟨_, hP, .inr ⟨cv, rfl, hr⟩⟩
    exact this


structure PairsTo (ks : List Int) (i : Nat) (kvs : List (Int × Value)) : Prop where
  len : kvs.length = i
  at_ : ∀ j k, j < i → ks[j]? = some k → ∃ t, kvs[j]? = some (k, .int j t)
theorem PairsTo.keys {ks : List Int} {i : Nat} {kvs : List (Int × Value)} (h : PairsTo ks i kvs) (hi : i ≤ ks.length) : kvs.map (·.1) = ks.take i := by
  apply List.ext_getElem?
  intro j
  by_cases hj : j < i
  · have hk : ks[j]? = some (ks[j]'(by omega)) := List.getElem?_eq_getElem (by omega)
    obtain ⟨t, e⟩ := h.at_ j _ hj hk
    rw [List.getElem?_map, e, List.getElem?_take, if_pos hj, hk]
    rfl
  · rw [List.getElem?_eq_none (by rw [List.length_map, h.len]; omega), List.getElem?_eq_none (by rw [List.length_take]; omega)]

noncomputable def PairReady (w : World) (ks : List Int) (C : Addr) (fp wr : List Addr) (A : Around) (n : Nat) (gs : GenState) (h : Heap) : Prop :=
  ∀ s'' : Shared, (∀ b ∈ C :: fp, ∀ o, h.get? b = some o → s''.heap.get? b = some o) → gs.Goes (model PR w) A (PairR C wr) (PairY ks C fp wr) n (.send .none) s''

theorem entry_dul : entryFor table "dict.update.loop" = some Builtin.«dict.update.loop» := entryFor_of_tree (by kernel_rfl)
theorem plain_dul : plainId "dict.update.loop" = true := by decide +kernel
section
variable {w : World} {A : Around} {R : Result → Shared → Prop}
theorem dict_loop {ks : List Int} {C a g d : Addr} {fp wr : List Addr} {nm qn : Value} {h00 : Heap} (hh : A.handled = none) (hroom : A.depth < recursionLimit) (hnd : ks.Nodup) (hsz : ks.length ≤ 1000)
    (haC : a ∉ C :: wr) (hdC : d ∉ C :: wr) (hdf : d ∉ C :: fp) (hda : a ≠ d) (nl : ∀ h', KpB (d :: C :: wr) h00 h' → h'.NoLimit) :
    ∀ (n i : Nat) (gs : GenState) (hs : Heap) (s : Shared) (kvs : List (Int × Value)), n + i = ks.length → PairReady w ks C fp wr A.in1.in1 n gs hs → (∀ b ∈ C :: fp, ∀ o, hs.get? b = some o → s.heap.get? b = some o) → s.gens[g]? = some gs →
      s.heap.get? a = some (genObj g nm qn) → s.heap.DictOf (intKind PR w) d kvs → PairsTo ks i kvs → KpB (d :: C :: wr) h00 s.heap →
      (∀ h' tk kvs', KpB (d :: C :: wr) s.heap h' → h'.DictOf (intKind PR w) d kvs' → PairsTo ks ks.length kvs' → R (.ok (.ret .none)) { s with heap := h', toks := tk, gens := s.gens.setIfInBounds g .finished }) →
      codeAny (model PR w) A (.builtin "dict.update.loop" ⟨[.ref d, .ref a, rawInt i, .none], []⟩) R s := by
  intro n
  induction n with
  | zero =>
    intro i gs hs s kvs hn hr hf hgs ha hD hP k0 hR
    refine codeAny_builtin entry_dul ?_
    rw [Around.under_plainId plain_dul _]
    show wpAny _ A.in1 (pyNext (.ref a) >>= _) _ _ s
    refine wpAny_bind (wpAny_pyNext_genexp (P := fun n s₀ s₁ => n = 0 ∧ ∃ h' tk, s₁ = { s₀ with heap := h', toks := tk } ∧ KpB (C :: wr) s₀.heap h') (Y := PairY ks C fp wr) (n := 0) hh (nl _ k0) hroom (IsGen_of ha) hgs (hr _ hf) (fun v s₁ gs' hY => ?_) fun s₁ hp h' hk => ?_)
    · obtain ⟨h9, _, _, _, _, _, _, _, _, _, _, _, hn9⟩ := hY
      exact (hn9 { s with heap := h9 } fun _ _ _ e => e).elim
    · obtain ⟨_, h1, tk, rfl, kb⟩ := hp
      simp only [Shared.setGen, set_set]
      show wpAny _ _ (Builtin.Dict.addKeywords d [] >>= fun _ => ret .none) _ _ _
      refine wpAny_bind (wpAny_pure (wpAny_pure ?_))
      have kk : KpB (d :: C :: wr) s.heap h' := fun b o hb e => hk b o (kb b o (fun h => hb (.tail _ h)) e)
      refine hR h' tk kvs kk ?_ (by have : i = ks.length := by omega
                                    rw [← this]; exact hP)
      obtain ⟨o, es, ep, ho, r⟩ := hD
      exact ⟨o, es, ep, hk d o (kb d o hdC ho), r⟩
  | succ n ih =>
    intro i gs hs s kvs hn hr hf hgs ha hD hP k0 hR
    have hlt : g < s.gens.size := (Array.getElem?_eq_some_iff.mp hgs).1
    refine codeAny_builtin entry_dul ?_
    rw [Around.under_plainId plain_dul _]
    show wpAny _ A.in1 (pyNext (.ref a) >>= _) _ _ s
    refine wpAny_bind (wpAny_pyNext_genexp (P := fun n s₀ s₁ => n = 0 ∧ ∃ h' tk, s₁ = { s₀ with heap := h', toks := tk } ∧ KpB (C :: wr) s₀.heap h') (Y := PairY ks C fp wr) (n := n + 1) hh (nl _ k0) hroom (IsGen_of ha) hgs (hr _ hf) (fun v s₁ gs' hY => ?_) fun s₁ hp h' hk => absurd hp.1 (Nat.succ_ne_zero n))
    obtain ⟨h1, tk, T, t, u, k, rfl, rfl, hlt1, hkk, hT, kb, hgo⟩ := hY
    simp only [Shared.setGen, set_set]
    dsimp only at kb hgo ⊢
    have hik : ks.length - 1 - n = i := by omega
    simp only [Nat.add_sub_cancel, hik] at hkk hT hlt1
    have hD1 : h1.DictOf (intKind PR w) d kvs := by
      obtain ⟨o, es, ep, ho, r⟩ := hD
      exact ⟨o, es, ep, kb d o hdC ho, r⟩
    refine wpAny_bind (wpAny_holding ?_)
    refine wpAny_bind (wpAny_tryCatch ?_)
    unfold Builtin.Dict.pairItems
    refine wpAny_bind (wpAny_typeOf (T := "tuple") ⟨_, hT, rfl⟩ ?_)
    rw [if_pos (by decide)]
    refine wpAny_bind (wpAny_seqItems hT rfl ?_)
    refine wpAny_pure ?_
    show wpAny _ _ (holding [Value.int k t, Value.int i u] (dictSet d (.int k t) (.int i u))) _ _ _
    have hkeys := hP.keys (by omega)
    have hkn : k ∉ kvs.map (·.1) := by
      rw [hkeys]
      intro hm
      obtain ⟨j, hj, e⟩ := List.mem_iff_getElem.mp hm
      rw [List.length_take] at hj
      rw [List.getElem_take] at e
      have e2 : ks[i]'(by omega) = k := by have := List.getElem?_eq_getElem (l := ks) (i := i) (by omega); rw [hkk] at this; exact (Option.some.inj this).symm
      have := (List.getElem_inj hnd).mp (e.trans e2.symm)
      omega
    have hst : stored kvs k (Value.int i u) = kvs ++ [(k, Value.int i u)] := by
      unfold stored
      rw [if_neg]
      intro h
      obtain ⟨kv, hkv, hd⟩ := List.any_eq_true.mp h
      exact hkn (List.mem_map.mpr ⟨kv, hkv, by simpa using hd⟩)
    refine wpAny_holding (wpAny_dictSet_pairs (knd := intKind PR w) (k := k) (by simp [intKind, Value.isInt]) hD1 (fun h2 hD2 hs2 => ?_) (by rw [hP.len, sizeLine_eq]; omega))
    rw [hst] at hD2
    have k1 : KpB (d :: C :: wr) s.heap h2 := fun b o hb e => hs2.extBut b o (fun h => hb (h ▸ .head _)) (kb b o (fun h => hb (.tail _ h)) e)
    refine wpAny_pure ⟨plainId_quiet plain_dul _, ?_⟩
    refine ih (i + 1) gs' h1 _ _ (by omega) hgo (fun b hb o e => hs2.extBut b o (fun h => hdf (h ▸ hb)) e) (by simp [Array.getElem?_setIfInBounds, hlt]) (hs2.extBut a _ hda (kb a _ haC ha)) hD2 ⟨by rw [List.length_append, hP.len]; rfl, fun j k' hj hk' => ?_⟩ (kpB_trans k0 k1) (fun h' tk' kvs' kb' hD' hP' => ?_)
    · by_cases hji : j < i
      · obtain ⟨t', e⟩ := hP.at_ j k' hji hk'
        exact ⟨t', by rw [List.getElem?_append_left (by rw [hP.len]; exact hji)]; exact e⟩
      · obtain rfl : j = i := by omega
        rw [hkk] at hk'; cases hk'
        exact ⟨u, by rw [List.getElem?_append_right (by rw [hP.len]; exact Nat.le_refl _), hP.len, Nat.sub_self]; rfl⟩
    · simp only [set_set]
      exact hR h' tk' kvs' (kpB_trans k1 kb') hD' hP'
end

theorem call_dict_pairs {w : World} {A : Around} {E : Value → Shared → Prop} {s : Shared} {ks : List Int} {C a g : Addr} {fp wr : List Addr} {nm qn : Value} {gs : GenState} {Q : Value → Shared → Prop} (hh : A.handled = none) (hroom : A.depth < recursionLimit) (hnd : ks.Nodup) (hsz : ks.length ≤ 1000)
    (hr : ∀ A' : Around, A'.handled = none → PairReady w ks C fp wr A' ks.length gs s.heap) (hg : s.heap.get? a = some (genObj g nm qn)) (hgs : s.gens[g]? = some gs) (hlt : ∀ b ∈ C :: fp, b < s.heap.objs.size) (hwr : ∀ b ∈ wr, b ∈ fp) (haC : a ∉ C :: wr) (nl : ∀ h', KpB (C :: wr) s.heap h' → h'.NoLimit)
    (hQ : ∀ h' tk kvs, KpB (C :: wr) s.heap h' → h'.DictOf (intKind PR w) s.heap.objs.size kvs → PairsTo ks ks.length kvs → Q (.ref s.heap.objs.size) { s with heap := h', toks := tk, gens := s.gens.setIfInBounds g .finished }) :
    wpAny (model PR w) A (call (.type "dict") [.ref a]) Q E s := by
  refine callType_codes (Q₁ := fun obj s₁ => obj = .ref s.heap.objs.size ∧ s₁ = { s with heap := s.heap.push { cls := .type "dict", data := .dict #[] } }) F.kt_called_dict (F.kt_typeCall_dict_1 _) F.entry_dict_init (kt_code_dict_new _ ⟨rfl, rfl⟩) ?_
  rintro obj s₁ ⟨rfl, rfl⟩
  generalize hdz : s.heap.objs.size = d at *
  have hnew : (s.heap.push { cls := .type "dict", data := .dict #[] }).DictOf (intKind PR w) d [] := hdz ▸ Heap.DictOf.new s.heap
  have up : Kp s.heap (s.heap.push { cls := .type "dict", data := .dict #[] }) := fun b o e => Heap.get?_push_of_some _ e
  have lt_of : ∀ b o, s.heap.get? b = some o → b ≠ d := fun b o e => hdz ▸ Nat.ne_of_lt (Heap.lt_size e)
  have hda : a ≠ d := lt_of a _ hg
  have hdf : d ∉ C :: fp := fun h => Nat.lt_irrefl _ (hlt d h)
  have hdC : d ∉ C :: wr := fun h => hdf (by
    rcases List.mem_cons.mp h with h | h
    · exact h ▸ .head _
    · exact .tail _ (hwr _ h))
  have hga := up _ _ hg
  refine ⟨hnew.typeIs, F.args_dict_init_2 _ _, ?_⟩
  unfold Builtin.«dict.__init__»
  refine wpAny_bind ?_
  unfold Builtin.Dict.selfAndRest
  refine wpAny_bind (wpAny_notOrdered_dict hnew.typeIs ?_)
  show wpAny _ _ (pure (d, [Value.ref a])) _ _ _
  refine wpAny_pure ?_
  show wpAny _ _ (Builtin.Dict.updateFrom "dict.__init__" d (.ref a) [] .none) _ _ _
  unfold Builtin.Dict.updateFrom
  refine wpAny_bind (wpAny_typeOf (T := "generator") ⟨_, hga, rfl⟩ ?_)
  rw [if_pos (by decide)]
  refine wpAny_bind (keys_gen hga hh fun h1 tk1 k1 => ?_)
  show wpAny _ _ (rule _ >>= fun _ => (pyIter (.ref a) >>= fun x => again (.builtin "dict.update.loop" ⟨[.ref d, x, rawInt 0, .none], []⟩))) _ _ _
  refine wpAny_bind (wpAny_rule (wpAny_bind (wpAny_pyIter_gen (IsGen_of (k1 _ _ hga)) (wpAny_pure ⟨plainId_quiet plain_dul _, ?_⟩))))
  have hnew1 : h1.DictOf (intKind PR w) d [] := by
    obtain ⟨o, es, ep, ho, r⟩ := hnew
    exact ⟨o, es, ep, k1 _ _ ho, r⟩
  have up1 : Kp s.heap h1 := fun b o e => k1 b o (up b o e)
  have down : ∀ h', KpB (d :: C :: wr) h1 h' → KpB (C :: wr) s.heap h' := fun h' k b o hb e => k b o (fun h => (List.mem_cons.mp h).elim (lt_of b o e) hb) (up1 b o e)
  refine dict_loop (A := A.in1) (h00 := h1) (ks := ks) (C := C) (g := g) (fp := fp) (wr := wr) (nm := nm) (qn := qn) hh hroom hnd hsz haC hdC hdf hda (fun h' k => nl h' (down h' k)) ks.length 0 gs s.heap _ [] rfl (hr _ hh) (fun b _ o e => up1 b o e) hgs (k1 _ _ hga) hnew1 ⟨rfl, fun j k hj => absurd hj (Nat.not_lt_zero _)⟩ (fun _ _ _ e => e) fun h' tk kvs kb hD hP => ?_
  exact ⟨rfl, hQ h' tk kvs (down h' kb) hD hP⟩

/-- the generator of pairs made -/
theorem genexp_make {w : World} {A : Around} {E : Value → Shared → Prop} {s : Shared} {env : Env} {iter : Expr} {xa xb : Str} {pa pb pt pc pd pe : Pos} {kt ke : Nat} {scope : Scope} {cl : List (Str × Addr)} {pos : Pos} {b : Array UInt8} {tb : Tok} {c P : Addr} {bm : Addr} {ob : Obj} {mg : Str → Option Value} {Q : Value → Shared → Prop}
    (hh : A.handled = none) (hroom : A.depth < recursionLimit) (hit : ∀ Q', (∀ tk, wpAny (model PR w) A (call (.type "enumerate") [.bytes b tb]) Q' E { s with toks := tk }) → wpAny (model PR w) A (eval iter env) Q' E s)
    (nl : ∀ h', KpB [P] s.heap h' → h'.NoLimit) (hc : env.code = .ref c) (hC : CodeHd s.heap c P) (T : Tab P pos.line pos.col (env.qual ++ "<genexpr>") s.heap)
    (hgl : env.globals = mainGlobals) (hg : ∀ h', KpB [P] s.heap h' → h'.Ns mainGlobals mg) (hbm : mg "__builtins__" = some (.ref bm)) (hne : bm ≠ builtinsNs) (hob : s.heap.get? bm = some ob) (hbP : bm ≠ P) (hcls : ob.cls = .type "module") (hdict : ob.dict = some builtinsNs) (hdata : ob.data = .plain)
    (hQ : ∀ a h' tk gs C fp wr nm qn, KpB [P] s.heap h' → (∀ h'', KpB (C :: wr) h' h'' → Tab P pos.line pos.col (env.qual ++ "<genexpr>") h'') → h'.get? a = some (genObj s.gens.size nm qn) → s.heap.objs.size ≤ a → a ∉ C :: fp → (∀ x ∈ C :: fp, s.heap.objs.size ≤ x ∧ x < h'.objs.size) → (∀ x ∈ wr, x ∈ fp) →
      (∀ A' : Around, A'.handled = none → PairReady w (KBw.bInts b) C fp wr A' (KBw.bInts b).length gs h') → gs.bare = true → Q (.ref a) { s with heap := h', toks := tk, gens := s.gens.push gs })
    (hco : scope.isCoroutine = false := by rfl) (hclos : closureFor scope env = pure cl := by rfl) (hcell : ∀ y ∈ scope.names, y.2 ≠ .cell := by decide) (h0 : scope.names.lookup (".0" : Str) = some NameKind.local := by rfl) (hkind : scope.kind = .function := by rfl)
    (hxa : scope.names.lookup xa = some .local := by rfl) (hxb : scope.names.lookup xb = some .local := by rfl) (hab : xa ≠ xb := by decide) (hda : (xa == ("__debug__" : Str)) = false := by decide) (hdb : (xb == ("__debug__" : Str)) = false := by decide)
    (hs : ∀ x, genFold iter env x = pure x := by intro _; rfl) :
    wpAny (model PR w) A (eval (.GeneratorExp (.Tuple [.Name xb pc, .Name xa pd] ke pe) [⟨.Tuple [.Name xa pa, .Name xb pb] kt pt, iter, [], 0⟩] scope pos) env) Q E s := by
  refine wpAny_GeneratorExp_make hco hclos hcell h0 hkind hroom (hit _ fun tk1 => call_enumerate_bytes fun h1 he hi hz1 k1 => ?_) hs
  refine wpAny_pyIter_enum he ⟨nl _ fun b o _ e => k1 b o e, ?_⟩
  dsimp only at he hi hz1 k1 ⊢
  refine gen_tab (pos := pos) hc (hC.keeps k1) (T.fields fun b o _ _ e => k1 b o e) fun c' h3 tk3 hx3 T3 => ?_
  have k3 : KpB [P] s.heap h3 := fun b o hb e => hx3 b o (by simpa using hb) (k1 b o e)
  refine wpAny_builtinsFor (hgl ▸ hg h3 k3) hbm hne (k3 _ _ (by simpa using hbP) hob) hcls hdict hdata ?_
  intro h4 hn4 hs4
  dsimp only at hs4 hn4 ⊢
  obtain ⟨psT, hPT, _⟩ := T
  have hPlt : P < s.heap.objs.size := Heap.lt_size hPT
  have he3 : h3.get? (s.heap.objs.size + 1) = some _ := hx3 _ _ (Nat.ne_of_gt (Nat.lt_succ_of_lt hPlt)) he
  have hz3 : s.heap.objs.size + 1 < h3.objs.size := Heap.lt_size he3
  have hz4 : h4.objs.size = h3.objs.size + 1 := by rw [hs4.1, Heap.size_push]
  have up4 : ∀ x o, h3.get? x = some o → h4.get? x = some o := fun x o e => hs4.extBut x o (Nat.ne_of_lt (Heap.lt_size e)) (Heap.get?_push_of_some _ e)
  have up5 : ∀ x o, h3.get? x = some o → (h4.push { cls := .type "generator", data := .fields #[.int s.gens.size 0, .str "<genexpr>" (tk3 + 1), .str (env.qual ++ "<genexpr>") (tk3 + 1 + 1)] }).get? x = some o := fun x o e => Heap.get?_push_of_some _ (up4 x o e)
  have hW : ∀ A' : Around, A'.handled = none → WalksU PR w A' (s.heap.objs.size + 1) [s.heap.objs.size + 1, s.heap.objs.size] [s.heap.objs.size + 1, s.heap.objs.size] (KBw.bInts b).length (fun i vals => ∃ k t u, (KBw.bInts b)[i]? = some k ∧ vals = #[.int i u, .int k t])
      (fun i h => (∃ old, IsEnum h (s.heap.objs.size + 1) s.heap.objs.size i old) ∧ KBw.IsBytesIter h s.heap.objs.size b tb i) (fun i T h => (∃ x, IsEnumOut h (s.heap.objs.size + 1) s.heap.objs.size ((i : Int) + 1) x T) ∧ KBw.IsBytesIter h s.heap.objs.size b tb (i + 1) ∧ T ≠ s.heap.objs.size + 1 ∧ T ≠ s.heap.objs.size) := fun A' hA => by
    have W := (WalksT.enumerateD (draws_bytes (w := w) (A := A'.in1) hA s.heap.objs.size b tb) (s.heap.objs.size + 1) (Nat.succ_ne_self _) (by simp) (by simp)).toU
    rw [KBw.ints_length]
    refine ⟨W.sub, W.frame, fun i s Q E hi st hQ => W.item i s Q E hi st fun T vals h' tk hP => hQ T vals h' tk ?_, W.go, W.apart, W.done, W.self⟩
    obtain ⟨t, x, ⟨c, u, hc, rfl⟩, rfl⟩ := hP
    exact ⟨_, u, t, KBw.ints_get hc, rfl⟩
  refine hQ h4.objs.size _ _ _ h3.objs.size [s.heap.objs.size + 1, s.heap.objs.size] [s.heap.objs.size + 1, s.heap.objs.size] _ _ (fun x o hx e => up5 x o (k3 x o hx e)) (fun h'' k'' => ?_) (Heap.get?_push_size _ rfl) (by omega) ?_ ?_ (fun _ h => h) (fun A' hA s'' hal => ⟨rfl, ?_⟩) rfl
  · have go : ∀ x o, h3.get? x = some o → x ≠ s.heap.objs.size + 1 → x ≠ s.heap.objs.size → h''.get? x = some o := fun x o e h1 h2 => k'' x o (by
      simp only [List.mem_cons, List.not_mem_nil, or_false, not_or]
      exact ⟨Nat.ne_of_lt (Heap.lt_size e), h1, h2⟩) (up5 x o e)
    obtain ⟨ps3, e3, r3⟩ := T3
    refine ⟨ps3, go _ _ e3 (Nat.ne_of_lt (Nat.lt_succ_of_lt hPlt)) (Nat.ne_of_lt hPlt), r3.imp id fun ⟨cv, f1, c, oc, vs, t, f2, f3, f4, f5⟩ => ⟨cv, f1, c, oc, vs, t, f2, go _ _ f3 (fun h => ?_) (fun h => ?_), f4, f5⟩⟩
    · rw [h, he3] at f3; cases f3; cases f4; simp at f5
    · obtain ⟨oi, hoi, hoc, hod⟩ := hi
      rw [h, hx3 _ _ (Nat.ne_of_gt hPlt) hoi] at f3; cases f3
      rw [hod] at f4; cases f4; simp at f5
  · simp only [List.mem_cons, List.not_mem_nil, or_false, not_or]
    exact ⟨Nat.ne_of_gt (by omega), Nat.ne_of_gt (by omega), Nat.ne_of_gt (by omega)⟩
  · intro x hx
    rw [Heap.size_push]
    simp only [List.mem_cons, List.not_mem_nil, or_false] at hx
    have q1 : @LE.le Nat _ s.heap.objs.size h3.objs.size := by omega
    have q2 : @LT.lt Nat _ h3.objs.size (h4.objs.size + 1) := by omega
    have q3 : @LT.lt Nat _ (s.heap.objs.size + 1) (h4.objs.size + 1) := by omega
    rcases hx with rfl | rfl | rfl
    · exact ⟨q1, q2⟩
    · exact ⟨Nat.le_succ _, q3⟩
    · exact ⟨Nat.le_refl _, Nat.lt_of_succ_lt q3⟩
  · have hst : (∃ old, IsEnum s''.heap (s.heap.objs.size + 1) s.heap.objs.size ((0 : Nat) : Int) old) ∧ KBw.IsBytesIter s''.heap s.heap.objs.size b tb 0 := by
      refine ⟨⟨_, hal _ (by simp) _ (up5 _ _ he3)⟩, ?_⟩
      obtain ⟨o, ho, r⟩ := hi
      exact ⟨o, hal _ (by simp) _ (up5 _ _ (hx3 _ _ (Nat.ne_of_gt hPlt) ho)), r⟩
    have hn : s''.heap.Ns h3.objs.size _ := (hn4.push _).at' fun o e => hal _ (.head _) o e
    have hCf : h3.objs.size ∉ [s.heap.objs.size + 1, s.heap.objs.size] := by
      simp only [List.mem_cons, List.not_mem_nil, or_false, not_or]
      exact ⟨Nat.ne_of_gt hz3, Nat.ne_of_gt (Nat.lt_of_succ_lt hz3)⟩
    have loop := seg_pairs (iter := iter) (pa := pa) (pb := pb) (pt := pt) (pc := pc) (pd := pd) (pe := pe) (kt := kt) (ke := ke) (scope := scope) (pos := pos) (cenv := genEnv scope cl h3.objs.size (.ref c') builtinsNs env) hA hW hab hxa hxb (by simp [genEnv, hkind]) hkind hda hdb hco hCf
      (KBw.bInts b).length 0 s'' s'' _ (Nat.sub_zero _) (Nat.zero_le _) hst hn ⟨s''.heap, s''.toks, rfl, fun _ _ _ e => e⟩
    show Seg _ A' _ _ _ s'' _ ((compStart (.GeneratorExp _ [⟨.Tuple [.Name xa pa, .Name xb pb] kt pt, iter, [], 0⟩] scope pos) 0 (.ref (s.heap.objs.size + 1)) .none (genEnv scope cl h3.objs.size (.ref c') builtinsNs env)).onRaise (leaving (genEnv scope cl h3.objs.size (.ref c') builtinsNs env))) [] s''
    unfold compStart
    rw [Sem.onRaise_eq_wrap]
    show Seg _ A' _ _ _ s'' _ ((ask >>= _).wrap _ _ _ _) [] s''
    refine seg_bind_wrap (wpAny_askSetting ?_)
    have hA2 : (A'.over (.compStart (.GeneratorExp (.Tuple [.Name xb pc, .Name xa pd] ke pe) [⟨.Tuple [.Name xa pa, .Name xb pb] kt pt, iter, [], 0⟩] scope pos) 0 (.ref (s.heap.objs.size + 1)) .none (genEnv scope cl h3.objs.size (.ref c') builtinsNs env)) []).handled = none := hA
    split
    · exact seg_again rfl loop
    · first
      | exact seg_bind_wrap (wpAny_rule (seg_bind_wrap (wpAny_standAt (seg_bind_wrap ((hW _ hA2).self 0 s'' _ _ hst (seg_again rfl loop))))))
      | (refine seg_bind_wrap (wpAny_rule ?_); show Seg _ A' _ _ _ s'' _ ((standAt iter.pos >>= _).wrap _ _ _ _) [] s''; exact seg_bind_wrap (wpAny_standAt (seg_bind_wrap ((hW _ hA2).self 0 s'' _ _ hst (seg_again rfl loop)))))


theorem forIn_run {α β : Type} (f : α → β → Sem (ForInStep β)) (S : Nat → β) : ∀ (l : List α) (i : Nat), (∀ j x, i ≤ j → j < i + l.length → f x (S j) = pure (.yield (S (j + 1)))) → forIn l (S i) f = pure (S (i + l.length))
  | [], i, _ => by rw [List.forIn_nil]; rfl
  | a :: l, i, h => by
    rw [List.forIn_cons, h i a (Nat.le_refl _) (by simp), pure_bind]
    show forIn l (S (i + 1)) f = _
    rw [forIn_run f S l (i + 1) fun j x h1 h2 => h j x (by omega) (by rw [List.length_cons]; omega)]
    rw [List.length_cons]
    congr 2
    omega
theorem forIn_done {α β : Type} (f : α → β → Sem (ForInStep β)) (st : β) (l : List α) (h : ∀ x, f x st = pure (.done st)) : forIn l st f = pure st := by
  cases l with
  | nil => rw [List.forIn_nil]
  | cons a l => rw [List.forIn_cons, h a, pure_bind]
theorem enc_latin (id : String) (self : Value) (x : Str) (hx : ∀ c ∈ x.cps, c < 256) (hs : x.length ≤ 1000) : Builtin._codecs.encodeNarrow id Builtin._codecs.latin1Codec none self x = pure (x.cps.map fun c => c.toUInt8) := by
  have hsz : x.cps.size ≤ 1000 := hs
  have hbad : ∀ c ∈ x.cps, Builtin._codecs.latin1Codec.bad c = false := fun c hc => by
    have := hx c hc
    show decide (c ≥ 256) = false
    exact decide_eq_false (by omega)
  unfold Builtin._codecs.encodeNarrow
  dsimp only
  rw [Std.Legacy.Range.forIn_eq_forIn_range']
  show (forIn (List.range' 0 ((x.length - 0 + 1 - 1) / 1) 1) _ _ >>= _) = _
  rw [show (x.length - 0 + 1 - 1) / 1 = x.cps.size by show (x.cps.size - 0 + 1 - 1) / 1 = _; omega]
  rcases Nat.eq_zero_or_pos x.cps.size with h0 | h0
  · rw [h0, List.range'_zero, List.forIn_nil, pure_bind]
    have : x.cps = #[] := Array.eq_empty_of_size_eq_zero h0
    rw [this]; simp
  · rw [show List.range' 0 x.cps.size 1 = 0 :: List.range' 1 (x.cps.size - 1) 1 from by
      conv => lhs; rw [show x.cps.size = x.cps.size - 1 + 1 by omega]
      rw [List.range'_succ], List.forIn_cons]
    have hm : x.cps[0] ∈ x.cps := Array.getElem_mem _
    have h1 : x.cps[0]? = some x.cps[0] := by simp [h0]
    have hfi : (x.cps.extract 0 x.cps.size).findIdx? Builtin._codecs.latin1Codec.bad = none := by
      rw [Array.extract_size, Array.findIdx?_eq_none_iff]
      exact fun c hc => hbad c hc
    rw [if_neg (show ¬ ((#[] : Array UInt8).size > sizeLine) by rw [sizeLine_eq]; simp)]
    simp only [h1, hbad _ hm, Bool.not_false, if_true]
    rw [hfi]
    simp only [Option.getD_none, pure_bind, Array.extract_size, Nat.zero_add]
    have hout : (x.cps.foldl (fun acc y => acc ++ (Builtin._codecs.latin1Codec.bytesOf y).toArray) (#[] : Array UInt8)) = x.cps.map fun c => c.toUInt8 := by
      rw [← Array.foldl_toList]
      have key : ∀ (l : List Nat) (acc : Array UInt8), l.foldl (fun acc y => acc ++ (Builtin._codecs.latin1Codec.bytesOf y).toArray) acc = acc ++ (l.map fun c => c.toUInt8).toArray := by
        intro l
        induction l with
        | nil => intro acc; simp
        | cons a l ih => 
          intro acc
          rw [List.foldl_cons, ih]
          show (acc ++ [a.toUInt8].toArray) ++ _ = _
          simp
      rw [key]
      apply Array.ext'
      simp
    rw [hout, forIn_done]
    · rw [pure_bind]
    · intro y
      dsimp only
      rw [if_neg (by rw [Array.size_map, sizeLine_eq]; omega)]
      have h2 : x.cps[x.cps.size]? = none := by simp
      rw [h2]
theorem dec_latin (id : String) (b : Array UInt8) (hs : b.size ≤ 1000) : Builtin._codecs.runDecoder id Builtin._codecs.latin1Decoder none true b 0 [] = pure (b.map fun c => c.toNat, b.size) := by
  unfold Builtin._codecs.runDecoder
  dsimp only
  rw [Std.Legacy.Range.forIn_eq_forIn_range']
  show (forIn (List.range' 0 ((b.size - 0 + 1 - 1) / 1) 1) _ _ >>= _) = _
  rw [show (b.size - 0 + 1 - 1) / 1 = b.size by omega]
  rw [show ((0, (#[] : Array Nat), ({ held := [] } : Builtin._codecs.Faults)) : Nat × Array Nat × Builtin._codecs.Faults) = (fun i => (i, (b.extract 0 i).map fun c => c.toNat, ({ held := [] } : Builtin._codecs.Faults))) 0 from by simp]
  rw [forIn_run _ (fun i => (i, (b.extract 0 i).map fun c => c.toNat, ({ held := [] } : Builtin._codecs.Faults))) (List.range' 0 b.size 1) 0 ?_]
  · rw [pure_bind]
    simp
  · intro j y h1 h2
    rw [List.length_range'] at h2
    have hj : j < b.size := by omega
    dsimp only
    rw [if_neg (by rw [Array.size_map, Array.size_extract, sizeLine_eq]; omega), if_neg (by omega)]
    show pure (ForInStep.yield (j + 1, ((b.extract 0 j).map fun c => c.toNat) ++ [(b.getD j 0).toNat].toArray, _)) = _
    congr 4
    rw [← Array.push_eq_append, Array.getD_eq_getD_getElem?]
    rw [Array.extract_succ_right (by omega) hj, Array.map_push, Array.getElem?_eq_getElem hj]
    rfl

theorem encode_road (id : String) (self : Value) (x : Str) : Builtin._codecs.encodeRoad id self x (Str.ofString "latin-1") none = (Builtin._codecs.encodeNarrow id Builtin._codecs.latin1Codec none self x >>= fun b => mkBytes b) := by kernel_rfl
theorem decode_road (id : String) (b : Array UInt8) : Builtin._codecs.decodeRoad id b (Str.ofString "latin-1") none [] = (Builtin._codecs.runDecoder id Builtin._codecs.latin1Decoder none true b 0 [] >>= fun r => mkStr ⟨r.1⟩) := by kernel_rfl
theorem encode_two (x : Str) (t u : Tok) : Builtin.«str.encode» ⟨[.str x t, .str (Str.ofString "latin-1") u], []⟩ = (do ret (← Builtin._codecs.encodeRoad "str.encode" (.str x t) x (Str.ofString "latin-1") none)) := by kernel_rfl
theorem decode_two (c : UInt8) (cs : List UInt8) (t u : Tok) : Builtin.«bytes.decode» ⟨[.bytes (c :: cs).toArray t, .str (Str.ofString "latin-1") u], []⟩ = (mkStr (Str.ofString "utf-8") >>= fun _ => mkStr (Str.ofString "latin-1") >>= fun e => mkStr (Str.ofString "bytes.decode") >>= fun d =>
    call (.builtin "_codecs.decode.text") [.bytes (c :: cs).toArray t, e, .none, d] >>= fun v => ret v) := by kernel_rfl

theorem meets_encode (x : Str) (t u : Tok) (hx : ∀ c ∈ x.cps, c < 256) (hs : x.length ≤ 1000) : Meets (Builtin.«str.encode» ⟨[.str x t, .str (Str.ofString "latin-1") u], []⟩) (fun _ R s => ∀ t' k, R (.ok (.ret (.bytes (x.cps.map fun c => c.toUInt8) t'))) { s with toks := k }) := by
  refine .of_wp fun prog w A R s h => ?_
  rw [encode_two, encode_road, enc_latin _ _ _ hx hs]
  refine wpAny_bind (wpAny_bind (wpAny_pure ?_))
  exact wpAny_mkBytes (wpAny_pure ⟨_, rfl, h _ _⟩) (by show (x.cps.map _).size ≤ _; rw [Array.size_map, sizeLine_eq]; have : x.cps.size ≤ 1000 := hs; omega)
theorem meets_dec_text (b : Array UInt8) (t t1 t2 : Tok) (d : Str) (hs : b.size ≤ 1000) : Meets (Builtin.«_codecs.decode.text» ⟨[.bytes b t, .str (Str.ofString "latin-1") t1, .none, .str d t2], []⟩) (fun _ R s => R (.ok (.ret (.str ⟨b.map fun c => c.toNat⟩ s.toks))) { s with toks := s.toks + 1 }) := by
  refine .of_wp fun prog w A R s h => ?_
  show wpAny _ _ (Builtin.Bytes.bytesLike _ (.bytes b t) >>= fun r => _) _ _ s
  refine wpAny_bind (wpAny_of_eq KBd.like_eq ?_)
  refine wpAny_bind (wpAny_of_eq KBd.held_eq ?_)
  show wpAny _ _ (Builtin._codecs.decodeRoad _ b (Str.ofString "latin-1") none [] >>= fun v => _) _ _ s
  rw [decode_road, dec_latin _ _ hs]
  refine wpAny_bind (wpAny_bind (wpAny_pure ?_))
  exact wpAny_mkStr (wpAny_pure ⟨_, rfl, h⟩) (by show (b.map _).size ≤ _; rw [Array.size_map, sizeLine_eq]; omega)
theorem args_bytes_decode_2 (a b : Value) : argsOk "bytes.decode" ⟨[a, b], []⟩ := by unfold argsOk; kernel_rfl
theorem meets_decode (c : UInt8) (cs : List UInt8) (t u : Tok) (hs : (c :: cs).length ≤ 1000) : Meets (Builtin.«bytes.decode» ⟨[.bytes (c :: cs).toArray t, .str (Str.ofString "latin-1") u], []⟩) (fun _ R s => ∀ t' k, R (.ok (.ret (.str ⟨(c :: cs).toArray.map fun c => c.toNat⟩ t'))) { s with toks := k }) := by
  refine .of_wp fun prog w A R s h => ?_
  rw [decode_two]
  refine wpAny_bind (wpAny_mkStr ?_ (by decide))
  refine wpAny_bind (wpAny_mkStr ?_ (by decide))
  refine wpAny_bind (wpAny_mkStr ?_ (by decide))
  exact wpAny_bind (call_function_meets KBd.kind_text KBd.plain_text KBd.entry_text (KBd.args_text _ _ _ _) (meets_dec_text _ _ _ _ _ (by simpa using hs)) (wpAny_pure ⟨_, rfl, h _ _⟩))
section
variable {prog : Program} {w : World} {A : Around} {E : Value → Shared → Prop} {s : Shared}
theorem call_encode {x : Str} {t u : Tok} {Q : Value → Shared → Prop} (hx : ∀ c ∈ x.cps, c < 256) (hs : x.length ≤ 1000) (h : ∀ t' k, Q (.bytes (x.cps.map fun c => c.toUInt8) t') { s with toks := k }) :
    wpAny (model prog w) A (call (.builtin "str.encode") [.str x t, .str (Str.ofString "latin-1") u]) Q E s :=
  call_meets F.slot_str_encode (show s.TypeIs (.str x t) "str" from rfl) F.entry_str_encode (F.args_str_encode_2 _ _) (meets_encode x t u hx hs) h
theorem call_decode {c : UInt8} {cs : List UInt8} {t u : Tok} {Q : Value → Shared → Prop} (hs : (c :: cs).length ≤ 1000) (h : ∀ t' k, Q (.str ⟨(c :: cs).toArray.map fun c => c.toNat⟩ t') { s with toks := k }) :
    wpAny (model prog w) A (call (.builtin "bytes.decode") [.bytes (c :: cs).toArray t, .str (Str.ofString "latin-1") u]) Q E s :=
  call_meets FB.slot_bytes_decode (typeIs_bytes _ _ _) FB.entry_bytes_decode (args_bytes_decode_2 _ _) (meets_decode c cs t u hs) h
end

end
section

noncomputable abbrev Tab45 : Heap → Prop := Tab 45 25 22 (Str.ofString "Base64Engine.__init__.<locals>.<genexpr>")


theorem firstMet_len (val : Nat → Int) : ∀ i, (firstMet val i).length = i ↔ ((List.range i).map val).Nodup
  | 0 => by simp [firstMet_zero]
  | i + 1 => by
    have ih := firstMet_len val i
    have ha := firstMet_any val i (val i)
    have hl := firstMet_length_le val i
    rw [firstMet_succ, List.range_succ, List.map_append, List.map_singleton, List.nodup_append]
    unfold step_dedup
    cases hq : (firstMet val i).any (· == val i) with
    | true =>
      simp only [if_true]
      rw [hq] at ha
      constructor
      · intro h; omega
      · intro h
        obtain ⟨z, hz, e⟩ := List.any_eq_true.mp ha.symm
        exact absurd (by simpa using e) (h.2.2 z hz (val i) (by simp))
    | false =>
      simp only [Bool.false_eq_true, if_false]
      rw [hq] at ha
      rw [List.length_append, List.length_singleton]
      constructor
      · intro h
        refine ⟨ih.mp (by omega), by simp, fun a hm b hb e => ?_⟩
        rw [List.mem_singleton.mp hb] at e
        have : ((List.range i).map val).any (· == val i) = true := List.any_eq_true.mpr ⟨a, hm, by simpa using e⟩
        rw [this] at ha; cases ha
      · intro h
        have := ih.mpr h.1
        omega
theorem firstMet_nodup (ks : List Int) : (firstMet (fun i => ks.getD i 0) ks.length).length = ks.length ↔ ks.Nodup := by
  rw [firstMet_len]
  have : (List.range ks.length).map (fun i => ks.getD i 0) = ks := by
    apply List.ext_getElem
    · simp
    · intro i h1 h2
      simp [List.getD_eq_getElem?_getD, List.getElem?_eq_getElem h2]
  rw [this]
theorem KBx_ints {ks : List Int} (hks : ∀ k ∈ ks, 0 ≤ k ∧ k < 256) : KBw.bInts (byteArr ks) = ks := by
  unfold KBw.bInts byteArr
  rw [List.map_map]
  conv => rhs; rw [← List.map_id ks]
  refine List.map_congr_left fun k hk => ?_
  have := hks k hk
  show ((UInt8.ofNat k.toNat).toNat : Int) = k
  rw [UInt8.toNat_ofNat']
  omega


theorem look_ks {ks : List Int} (hks : ∀ k ∈ ks, 0 ≤ k ∧ k < 256) (k : Int) : look (byteArr ks).toList k = ks.findIdx? fun x => decide (x = k) := by
  unfold look byteArr
  rw [List.toList_toArray, List.findIdx?_map]
  have : ∀ l : List Int, (∀ x ∈ l, 0 ≤ x ∧ x < 256) → l.findIdx? ((fun b : UInt8 => decide (((b.toNat : Nat) : Int) = k)) ∘ fun n : Int => n.toNat.toUInt8) = l.findIdx? fun x => decide (x = k) := by
    intro l
    induction l with
    | nil => intro _; rfl
    | cons a l ih =>
      intro hl
      have ha := hl a (.head _)
      have e : ((fun b : UInt8 => decide (((b.toNat : Nat) : Int) = k)) ∘ fun n : Int => n.toNat.toUInt8) a = decide (a = k) := by
        show decide (((UInt8.ofNat a.toNat).toNat : Int) = k) = decide (a = k)
        rw [UInt8.toNat_ofNat']
        congr 1
        rw [show ((a.toNat % 2 ^ 8 : Nat) : Int) = a by omega]
      rw [List.findIdx?_cons, List.findIdx?_cons, e, ih fun x hx => hl x (.tail _ hx)]
  exact this ks hks
theorem val_none : ∀ {kvs : List (Int × Value)} {k : Int}, k ∉ kvs.map (·.1) → valueAt kvs k = none
  | [], _, _ => rfl
  | (a, v) :: r, k, h => by
    have h1 : a ≠ k := fun e => h (by rw [e]; exact .head _)
    have h2 := val_none (kvs := r) (k := k) fun hm => h (.tail _ hm)
    unfold valueAt at h2 ⊢
    rw [List.find?_cons, show decide ((a, v).1 = k) = false from decide_eq_false h1]
    exact h2
theorem val_at : ∀ {kvs : List (Int × Value)} {k : Int} {v : Value} {i : Nat}, (kvs.map (·.1)).Nodup → kvs[i]? = some (k, v) → valueAt kvs k = some v
  | [], _, _, _, _, h => by simp at h
  | (a, x) :: r, k, v, 0, _, h => by
    have : a = k ∧ x = v := by simpa using h
    obtain ⟨rfl, rfl⟩ := this
    unfold valueAt
    rw [List.find?_cons, show decide ((a, x).1 = a) = true from decide_eq_true rfl]
    rfl
  | (a, x) :: r, k, v, i + 1, hn, h => by
    have hr : r[i]? = some (k, v) := by simpa using h
    have hm : k ∈ r.map (·.1) := List.mem_map.mpr ⟨(k, v), List.mem_of_getElem? hr, rfl⟩
    rw [List.map_cons, List.nodup_cons] at hn
    have h1 : a ≠ k := fun e => hn.1 (by show a ∈ _; rw [e]; exact hm)
    have h2 := val_at hn.2 hr
    unfold valueAt at h2 ⊢
    rw [List.find?_cons, show decide ((a, x).1 = k) = false from decide_eq_false h1]
    exact h2
theorem eng_of {w : World} {h : Heap} {x dx lk : Addr} {ks : List Int} {big : Bool} {h1 h2 h3 : Int} {t1 t2 t3 tb : Tok} {n : Nat} {kvs : List (Int × Value)} (hks : ∀ k ∈ ks, 0 ≤ k ∧ k < 256) (hl : ks.length = 64) (hnd : ks.Nodup) (hx : h.get? x = some (instObj 262 dx)) (hdx : h.get? dx = some (engD h1 h2 h3 t1 t2 t3 tb (byteArr ks).toList lk big n))
    (hsy : (lk == sysModules) = false) (hD : h.DictOf (intKind PR w) lk kvs) (hP : PairsTo ks ks.length kvs) : Eng w h x (byteArr ks).toList big := by
  have hkeys : kvs.map (·.1) = ks := by rw [hP.keys (Nat.le_refl _), List.take_length]
  refine ⟨by rw [byteArr]; simp [hl], ?_, dx, h1, h2, h3, t1, t2, t3, tb, lk, n, valueAt kvs, hx, hdx, hsy, hD.mapOf, fun k hk => ?_, fun k i hk => ?_⟩
  · rw [byteArr, List.toList_toArray]
    refine List.pairwise_map.mpr (List.Pairwise.imp_of_mem (fun {a b} ha hb hab => ?_) hnd)
    have h1 := hks a ha
    have h2 := hks b hb
    intro e
    have e2 := congrArg UInt8.toNat e
    have e3 : (UInt8.ofNat a.toNat).toNat = (UInt8.ofNat b.toNat).toNat := e2
    rw [UInt8.toNat_ofNat', UInt8.toNat_ofNat'] at e3
    exact hab (by omega)
  · rw [look_ks hks] at hk
    refine val_none fun hm => ?_
    rw [hkeys] at hm
    have := List.findIdx?_eq_none_iff.mp hk k hm
    simp at this
  · rw [look_ks hks] at hk
    obtain ⟨hi, e, _⟩ := List.findIdx?_eq_some_iff_getElem.mp hk
    have e' : ks[i] = k := by simpa using e
    obtain ⟨t, ht⟩ := hP.at_ i k hi (by rw [List.getElem?_eq_getElem hi, e'])
    exact ⟨t, val_at (by rw [hkeys]; exact hnd) ht⟩
/-- a code table laid in the ledger -/
theorem tab_led {P : Addr} {l c : Nat} {q : Str} {g h : Heap} {L : Addr} {m : Str → Option Value} (T : Tab P l c q h) (F : Fr g L h m) (hg : g.get? P = none) : ∃ ps x ox vs, News g L h [(P, tabObj ps), (x, ox)] ∧ ox.data = .fields vs ∧ ∀ h'' : Heap, Kp g h'' → h''.get? P = some (tabObj ps) → h''.get? x = some ox → Tab P l c q h'' := by
  obtain ⟨ps, e, r⟩ := T
  have nf : ∀ b o vs, h.get? b = some o → o.data = .fields vs → b ≠ L := fun b o vs e1 e2 e3 => by
    obtain ⟨o', es, ep, f1, f2, _⟩ := F.ns
    rw [e3] at e1; rw [e1] at f1; cases f1
    rw [e2] at f2; cases f2
  have nP : News g L h [(P, tabObj ps)] := fun q hq => by rw [List.mem_singleton.mp hq]; exact ⟨e, nf _ _ _ e rfl, hg⟩
  rcases r with rfl | ⟨cv, rfl, c', oc, vs, t, e2, e3, e4, e5⟩
  · exact ⟨_, P, tabObj #[], _, fun q hq => nP q (by simpa using hq), rfl, fun h'' _ h1 _ => ⟨_, h1, .inl rfl⟩⟩
  · cases hc : g.get? c' with
    | none =>
      refine ⟨_, c', oc, vs, fun q hq => ?_, e4, fun h'' _ h1 h2 => ⟨_, h1, .inr ⟨cv, rfl, c', oc, vs, t, e2, h2, e4, e5⟩⟩⟩
      rcases mem_c hq with rfl | hq
      · exact nP _ (.head _)
      · rw [List.mem_singleton.mp hq]; exact ⟨e3, nf _ _ _ e3 e4, hc⟩
    | some o =>
      have := F.keep _ _ hc
      rw [e3] at this; cases this
      exact ⟨_, P, tabObj #[rawInt l, rawInt c, .ref cv], _, fun q hq => nP q (by simpa using hq), rfl, fun h'' k h1 _ => ⟨_, h1, .inr ⟨cv, rfl, c', oc, vs, t, e2, k _ _ hc, e4, e5⟩⟩⟩
theorem fr_kpB {g h h' : Heap} {L : Addr} {m : Str → Option Value} {own : List Addr} (F : Fr g L h m) (k : KpB own h h') (hL : L ∉ own) (hg : ∀ b ∈ own, g.get? b = none) : Fr g L h' m :=
  ⟨F.ns.at' fun o e => k L o hL e, fun b o e => k b o (fun hm => by rw [hg b hm] at e; cases e) (F.keep b o e), F.above⟩
theorem news_kpB {g h h' : Heap} {L : Addr} {own : List Addr} {news : List (Addr × Obj)} (N : News g L h news) (k : KpB own h h') (hn : ∀ q ∈ news, q.1 ∉ own) : News g L h' news := fun q hq => ⟨k _ _ (hn q hq) (N q hq).1, (N q hq).2⟩

theorem init50 {w : World} {mean mg mb G base outer d u dp un gd} {s : Shared} {R : Result → Shared → Prop} {x dx : Addr} {txt big : Bool} {ks : List Int} {tv : Tok} {args : Args}
    (C : Cx w mean mg mb G ⟨none, dp, some outer, gd, un⟩ base outer d u s.heap) (hd : 30 ≤ d) (hu : 300 ≤ u) (hx : s.heap.get? x = some (instObj 262 dx)) (hdx : s.heap.get? dx = some emptyDict) (hks : ∀ k ∈ ks, 0 ≤ k ∧ k < 256) (hlen : ks.length ≤ 100)
    (ht0 : Tab45 s.heap) (hb : ∀ b ∈ [45, dx, x], base.get? b = none) (hGd : ∀ b ∈ [45, dx, x], G.get? b = none) (hfd : ∀ env ∈ outer, ∀ L', env.frame = some L' → L' ∉ [45, dx, x])
    (hargs : args = ⟨[.ref x, mapV txt ks tv, .bool big], []⟩ ∨ args = ⟨[.ref x, mapV txt ks tv], [(Str.ofString "big", .bool big)]⟩ ∨ (args = ⟨[.ref x, mapV txt ks tv], []⟩ ∧ big = false))
    (hR : ks.length = 64 → ks.Nodup → ∀ h' tk gn lk olk h1 h2 h3 t1 t2 t3 tb n, KpB [45, dx] s.heap h' → Tab45 h' → (AllBare s.gens → AllBare gn) → h'.get? dx = some (engD h1 h2 h3 t1 t2 t3 tb (byteArr ks).toList lk big n) → h'.get? lk = some olk → s.heap.objs.size ≤ lk →
      (∀ h'' : Heap, h''.get? x = some (instObj 262 dx) → h''.get? dx = some (engD h1 h2 h3 t1 t2 t3 tb (byteArr ks).toList lk big n) → h''.get? lk = some olk → Eng w h'' x (byteArr ks).toList big) → R (.ok (.ret .none)) { s with heap := h', toks := tk, gens := gn })
    (hE : ¬ (ks.length = 64 ∧ ks.Nodup) → ∀ h' tk gn e, Rz [45, dx, x] Tab45 base s.heap outer e "ValueError" h' → (AllBare s.gens → AllBare gn) → R (.error (.ref e)) { s with heap := h', toks := tk, gens := gn }) :
    codeAny (model PR w) ⟨none, dp, some outer, gd, un⟩ (.call (.ref 50) args) R s := by
  obtain ⟨ps, ht, hps⟩ := ht0
  have hd45 : dx ≠ 45 := fun h => by rw [h, ht] at hdx; cases hdx
  have hx45 : x ≠ 45 := fun h => by rw [h, ht] at hx; cases hx
  have hxd : x ≠ dx := fun h => by rw [h, hdx] at hx; cases hx
  have X0 := C.X
  revert X0
  delta PR
  k_fill
  intro X0
  have Cg := C.hide (own := [45, dx, x]) hb hfd hGd
  obtain ⟨g, hg⟩ : ∃ g, g = hideAll s.heap [45, dx, x] := ⟨_, rfl⟩
  rw [← hg] at Cg
  have gl : Kp G g := Cg.le
  have gk : ∀ b o, b ∉ [45, dx, x] → s.heap.get? b = some o → g.get? b = some o := fun b o hb e => by rw [hg]; exact hideAll_get _ e hb
  have gs : Kp g s.heap := fun b o e => of_hideAll _ (hg ▸ e)
  have gz : g.objs.size = s.heap.objs.size := by rw [hg]; exact hideAll_size _ _
  refine enter (binds := [(Str.ofString "self", .ref x), (Str.ofString "charmap", mapV txt ks tv), (Str.ofString "big", .bool big)]) C (by omega) (by k_is) (by k_is) ?hbind (locs rfl) ?_ rfl rfl rfl (by decide)
  case hbind =>
    rcases hargs with h | h | ⟨h, hb⟩
    · rw [h]; exact BindsTo.of_defaults rfl (C.X 43 _ (by k_is)) rfl rfl rfl
    · rw [h]; exact BindsTo.of_defaults rfl (C.X 43 _ (by k_is)) rfl rfl rfl
    · rw [h, hb]; exact BindsTo.of_defaults rfl (C.X 43 _ (by k_is)) rfl rfl rfl
  intro L h₁ F0 N0 _ _ _
  have F : Fr g L h₁ (mp [(Str.ofString "big", some (.bool big)), (Str.ofString "charmap", some (mapV txt ks tv)), (Str.ofString "self", some (.ref x))]) := by rw [hg]; exact fr_hide _ F0
  have N : News g L h₁ [(x, instObj 262 dx), (dx, emptyDict), (45, tabObj ps)] := by
    rw [hg]
    refine news_hide _ F0 fun q hq => ?_
    rcases mem3 hq with rfl | rfl | rfl
    · exact ⟨by simp, hx⟩
    · exact ⟨by simp, hdx⟩
    · exact ⟨by simp, ht⟩
  have l45 : @LT.lt Nat instLTNat 45 L := Nat.lt_of_lt_of_le (Heap.lt_size ht) (gz ▸ F.above)
  have ldx : @LT.lt Nat instLTNat dx L := Nat.lt_of_lt_of_le (Heap.lt_size hdx) (gz ▸ F.above)
  have lx : @LT.lt Nat instLTNat x L := Nat.lt_of_lt_of_le (Heap.lt_size hx) (gz ▸ F.above)
  clear F0 N0 X0
  have X := C.S.X.keeps gl
  have T := C.S.T.keeps gl
  show wpAny _ _ _ _ _ _
  k_fold
  iterate 2 tb_start
  refine wpAny_mono (Q := fun f s' => Fin (f = .next ∧ ∃ hh tkk tb, s' = { s with heap := hh, toks := tkk } ∧ Fr g L hh (mp [(Str.ofString "big", some (.bool big)), (Str.ofString "charmap", some (.bytes (byteArr ks) tb)), (Str.ofString "self", some (.ref x))]) ∧
    News g L hh [(x, instObj 262 dx), (dx, emptyDict), (45, tabObj ps)])) (E := fun _ _ => False) ?_ (fun f s' hf => ?_) (fun _ _ e => e.elim)
  · cases txt with
    | true =>
      replace F : Fr g L h₁ (mp [(Str.ofString "big", some (.bool big)), (Str.ofString "charmap", some (.str (txtOf ks) tv)), (Str.ofString "self", some (.ref x))]) := F
      tb_rel
      refine getMethod_builtin (T := "str") (id := "str.encode") rfl PySem.F.plainAttrs_str PySem.F.slot_str_encode PySem.F.type_str_encode (fun _ e => nomatch e) ?_
      tb_rel
      refine call_encode (fun c hc => ?_) (by show (txtOf ks).cps.size ≤ 1000; rw [txtOf]; simp; omega) fun t' k => ?_
      · rw [txtOf] at hc
        obtain ⟨z, hz, rfl⟩ := List.mem_map.mp (by simpa using hc : c ∈ ks.map Int.toNat)
        have := hks z hz
        omega
      rw [show ((txtOf ks).cps.map fun c => c.toUInt8) = byteArr ks from by rw [txtOf, byteArr]; simp]
      tb_rel
      rename Fr _ _ _ _ => F2
      rename News _ _ _ _ => N2
      exact .mk ⟨rfl, _, _, _, rfl, F2, N2⟩
    | false =>
      replace F : Fr g L h₁ (mp [(Str.ofString "big", some (.bool big)), (Str.ofString "charmap", some (.bytes (byteArr ks) tv)), (Str.ofString "self", some (.ref x))]) := F
      tb_rel
      exact .mk ⟨rfl, _, _, _, rfl, F, N⟩
  obtain ⟨rfl, hh, tkk, tb, rfl, F, N⟩ := hf.out
  dsimp only
  have hbs : (byteArr ks).size = ks.length := by rw [byteArr]; simp
  have tabs : ∀ (hA : Heap) {m}, Fr g L hA m → News g L hA [(45, tabObj ps)] → Tab45 hA := fun hA m FA NA => ⟨ps, (NA _ (.head _)).1, hps.imp id fun ⟨cv, e1, c, oc, vs, t, e2, e3, e4, e5⟩ => ⟨cv, e1, c, oc, vs, t, e2, FA.keep _ _ (gk c oc (fun hm => by
    simp only [List.mem_cons, List.not_mem_nil, or_false] at hm
    rcases hm with h | h | h
    · rw [h, ht] at e3; cases e3; cases e4; rw [e1] at e5; cases e5
    · rw [h, hdx] at e3; cases e3; cases e4
    · rw [h, hx] at e3; cases e3; cases e4) e3), e4, e5⟩⟩
  tb_rel
  · rename Heap.NewExc _ _ _ _ => hx8
    rename Fr _ _ _ _ => Fx
    rename News _ _ _ _ => Nx
    rename ((_ : Int) ≠ 64) => hn
    rw [hbs] at hn
    refine rz_new Cg.B hx8.of Fx rfl rfl (own := [45, dx, x]) (Tb := Tab45) (h00 := s.heap) (fun b o hb _ e => gk b o hb e) (fun b o hb e _ => ⟨o.slots, gk b o hb e⟩) (fun B hB => (tabs _ Fx (news_sub Nx (.cons _ (.cons _ (.cons_cons _ .slnil))))).fields hB) fun h' hz => hE (fun h => hn (by rw [h.1]; rfl)) _ _ _ _ hz id
  rename ((_ : Int) = 64) => hn
  have h64 : ks.length = 64 := by rw [hbs] at hn; omega
  tb_rel
  refine call_set_bytes rfl _ tb (by rw [hbs]; unfold scanBound; omega) fun hS tkS hSet kS => ?_
  obtain ⟨oS, hoS, hso⟩ := hSet.objOf
  have hfm := firstMet_nodup ks
  rw [← hbs] at hfm
  generalize hnS : (firstMet (fun i => (KBw.bInts (byteArr ks)).getD i 0) (byteArr ks).size).length = nS at hso
  have hdist : nS = 64 ↔ ks.Nodup := by
    rw [← hnS, KBx_ints hks]
    rw [hbs, h64] at hfm
    rw [hbs, h64]
    exact hfm
  have hle : nS ≤ 64 := by rw [← hnS]; have := firstMet_length_le (fun i => (KBw.bInts (byteArr ks)).getD i 0) (byteArr ks).size; rw [hbs, h64] at this; rw [hbs, h64]; exact this
  have hfit : (nS : Int) < 2 ^ 63 := by omega
  clear hnS hSet hfm
  have lS := news_lt N (Nat.le_refl hh.objs.size)
  replace N := news_new F N kS (Nat.le_refl _) hoS
  replace F := fr_kp F kS
  k_lt lS
  dsimp only
  tb_rel
  · rename Heap.NewExc _ _ _ _ => hx8
    rename ((_ : Int) ≠ 64) => hq
    refine rz_new Cg.B hx8.of F rfl rfl (own := [45, dx, x]) (Tb := Tab45) (h00 := s.heap) (fun b o hb _ e => gk b o hb e) (fun b o hb e _ => ⟨o.slots, gk b o hb e⟩) (fun B hB => (tabs _ F (news_sub N (.cons _ (.cons _ (.cons _ (.cons_cons _ .slnil)))))).fields hB) fun h' hz => hE (fun h => hq (by rw [hdist.mpr h.2]; rfl)) _ _ _ _ hz id
  rename ((_ : Int) = 64) => hq
  have hnd : ks.Nodup := hdist.mp (by omega)
  clear hso hdist hle hfit
  have ne1 : @Ne Nat dx 45 := hd45
  have ne2 : @Ne Nat x 45 := hx45
  have ne3 : @Ne Nat x dx := hxd
  tb_rel
  rename Fr _ _ _ _ => F3
  rename News _ _ _ _ => N3
  obtain ⟨bm, ob, hbm, hbne, hob, hbc, hbd, hbdat⟩ := T.bmain
  have g45 : g.get? 45 = none := by rw [hg]; exact hideAll_none _ (.head _)
  have n45 : ∀ b o, g.get? b = some o → b ∉ [45] := fun b o e hm => by rw [List.mem_singleton.mp hm, g45] at e; cases e
  have hdp := C.hd
  dsimp only at hdp
  refine genexp_make (b := byteArr ks) (tb := tb) (c := 49) (P := 45) (bm := bm) (ob := ob) (mg := mg) rfl (by show dp + 1 < _; omega) (fun Q' hQ' => ?it) (fun h' k => T.nolimit.keeps fun b o e => k b o (n45 b o e) (F3.keep b o e)) rfl (C.S.cd.1.keeps fun b o e => F3.keep b o (gl b o e)) ?tab rfl (fun h' k => (T.g).at' fun o e => k _ o (n45 _ o e) (F3.keep _ o e)) hbm hbne (F3.keep _ _ hob) (fun h => by rw [h, g45] at hob; cases hob) hbc hbd hbdat (fun a h7 tk7 gs7 C7 fp wr nm qn k7 T7 ha hsz hafp hfp hwr hrd hbare => ?mk)
  case it =>
    tb_rel
    exact hQ' _
  case tab =>
    have := tabs _ F3 (news_sub N3 (.cons _ (.cons _ (.cons _ (.cons_cons _ .slnil)))))
    exact this
  case mk =>
    have hafp2 : a ∉ C7 :: wr := fun h => hafp (by
      rcases List.mem_cons.mp h with h | h
      · exact h ▸ .head _
      · exact .tail _ (hwr _ h))
    have hnew : ∀ b o, g.get? b = some o → b ∉ C7 :: wr := fun b o e hm => by
      have h1 := Heap.lt_size (F3.keep _ _ e)
      have h2 := (hfp b (by
        rcases List.mem_cons.mp hm with h | h
        · exact h ▸ .head _
        · exact .tail _ (hwr _ h))).1
      exact Nat.not_lt_of_le h2 h1
    have hold : ∀ b o, h7.get? b = some o → @LT.lt Nat _ b L ∨ b = x ∨ b = dx → b ∉ C7 :: wr := fun b o e hb hm => by
      have h2 := (hfp b (by
        rcases List.mem_cons.mp hm with h | h
        · exact h ▸ .head _
        · exact .tail _ (hwr _ h))).1
      have h3 := F3.ns.lt
      rcases hb with hb | rfl | rfl
      · exact Nat.not_lt_of_le h2 (Nat.lt_trans hb h3)
      · exact Nat.not_lt_of_le h2 (Nat.lt_trans lx h3)
      · exact Nat.not_lt_of_le h2 (Nat.lt_trans ldx h3)
    tb_rel
    refine call_dict_pairs (ks := KBw.bInts (byteArr ks)) (C := C7) (g := s.gens.size) (fp := fp) (wr := wr) (gs := gs7) rfl (by show dp + 1 < _; omega) (by rw [KBx_ints hks]; exact hnd) (by rw [KBx_ints hks]; omega) hrd ha (by simp) (fun b hb => (hfp b hb).2) hwr hafp2 (fun h' k => T.nolimit.keeps fun b o e => k b o (hnew b o e) (k7 b o (n45 b o e) (F3.keep b o e))) (fun h8 tk8 kvs k8 hD hP => ?q)
    case q =>
      have F7 := fr_kpB F3 k7 (by simp only [List.mem_singleton]; exact Nat.ne_of_gt l45) (by intro b hb; rw [List.mem_singleton.mp hb]; exact g45)
      have hLn : L ∉ C7 :: wr := fun hm => by
        have h2 := (hfp L (by
          rcases List.mem_cons.mp hm with h | h
          · exact h ▸ .head _
          · exact .tail _ (hwr _ h))).1
        exact Nat.not_lt_of_le h2 F3.ns.lt
      have F8 := fr_kpB F7 k8 hLn (fun b hb => by
        cases q : g.get? b with
        | none => rfl
        | some o => exact absurd hb (hnew b o q))
      have e1 := (N3 (x, instObj 262 dx) (by simp)).1
      have e2 := (N3 _ (.tail _ (.tail _ (.head _)))).1
      have p1 := (N3 (x, instObj 262 dx) (by simp)).2
      have p2 := (N3 _ (.tail _ (.tail _ (.head _)))).2
      have i1 := k7 _ _ (by simpa using ne2) e1
      have i2 := k7 _ _ (by simpa using ne1) e2
      have j1 := k8 _ _ (hold _ _ i1 (.inr (.inl rfl))) i1
      have j2 := k8 _ _ (hold _ _ i2 (.inr (.inr rfl))) i2
      obtain ⟨ps8, x8, ox8, vs8, N8, hd8, keep8⟩ := tab_led (T7 h8 k8) F8 g45
      obtain ⟨olk, hlk⟩ : ∃ o, h8.get? h7.objs.size = some o := let ⟨o, _, _, e, _⟩ := hD; ⟨o, e⟩
      have hz7 : @LT.lt Nat _ L h7.objs.size := F7.ns.lt
      obtain ⟨lk, hlke⟩ : ∃ lk, lk = h7.objs.size := ⟨_, rfl⟩
      have lL : @LT.lt Nat _ L lk := hlke ▸ hz7
      have lx2 : @LT.lt Nat _ x lk := Nat.lt_trans lx lL
      have ldx2 : @LT.lt Nat _ dx lk := Nat.lt_trans ldx lL
      have l452 : @LT.lt Nat _ 45 lk := Nat.lt_trans l45 lL
      have nx8 : @Ne Nat x8 dx := fun h => by
        have := (N8 _ (.tail _ (.head _))).1
        rw [h, j2] at this
        have := congrArg Obj.data (Option.some.inj this)
        rw [hd8] at this; cases this
      replace hD : h8.DictOf (intKind PR w) lk kvs := hlke ▸ hD
      replace hlk : h8.get? lk = some olk := hlke ▸ hlk
      have glk : g.get? lk = none := hlke ▸ next_is_new F7
      replace N8 : News g L h8 [(lk, olk), (x, instObj 262 dx), (dx, _), (45, tabObj ps8), (x8, ox8)] := fun q hq => by
        rcases mem_c hq with rfl | hq
        · exact ⟨hlk, Nat.ne_of_gt lL, glk⟩
        · rcases mem_c hq with rfl | hq
          · exact ⟨j1, p1⟩
          · rcases mem_c hq with rfl | hq
            · exact ⟨j2, p2⟩
            · exact N8 q hq
      have hset : (s.gens.push gs7).setIfInBounds s.gens.size .finished = s.gens.push .finished := set_push _ _ _
      dsimp only at hlke ⊢
      rw [← hlke, hset]
      rw [KBx_ints hks] at hP
      clear hrd T7 k7 k8 ha hsz hafp hfp hwr hnew hold hafp2 hLn e1 e2 i1 i2 F7 F3 N3 tabs
      tb_rel
      rename Fr _ _ _ _ => FZ
      rename News _ _ _ _ => NZ
      have q1 := (NZ _ (.head _)).1
      have q2 := (NZ (x, instObj 262 dx) (by simp)).1
      have q3 := (NZ _ (.tail _ (.tail _ (.head _)))).1
      refine hR h64 hnd _ _ _ lk olk _ _ _ _ _ _ _ _ (fun b o hb e => ?_) (keep8 _ FZ.keep (NZ _ (.tail _ (.tail _ (.tail _ (.head _))))).1 (NZ _ (.tail _ (.tail _ (.tail _ (.tail _ (.head _)))))).1) (fun hb => hb.push rfl) q3 q1 (gz ▸ Nat.le_trans FZ.above (Nat.le_of_lt lL)) fun h'' y1 y2 y3 => ?_
      · by_cases hbx : b = x
        · subst hbx; rw [hx] at e; cases e; exact q2
        · exact FZ.keep _ _ (gk b o (by simp only [List.mem_cons, List.not_mem_nil, or_false, not_or] at hb ⊢; exact ⟨hb.1, hb.2, hbx⟩) e)
      · refine eng_of hks h64 hnd y1 y2 ?_ ?_ hP
        · exact beq_eq_false_iff_ne.mpr fun h => by
            rw [h] at l452
            exact absurd l452 (by decide)
        · obtain ⟨o, es, ep, ho, r⟩ := hD
          rw [hlk] at ho; cases ho
          exact ⟨olk, es, ep, y3, r⟩

end

section

theorem under_make {dp un : Nat} {outer : List Env} {gd : Option (List Code)} {C : Addr} {rest : List Value} {kw : List (Str × Value)} : (⟨none, dp, some outer, gd, un⟩ : Around).under (.builtin "type.__call__" ⟨.ref C :: rest, kw⟩) = ⟨none, dp + 1, some outer, gd, un + 1⟩ := rfl
theorem Cx.make {w : World} {mean mg mb G dp un gd base outer d u} {h h' : Heap} (C : Cx w mean mg mb G ⟨none, dp, some outer, gd, un⟩ base outer d u h) (k : Kp h h') (hd : 1 ≤ d) (hu : 1 ≤ u) : Cx w mean mg mb G ⟨none, dp + 1, some outer, gd, un + 1⟩ base outer (d - 1) (u - 1) h' := by
  have h1 := C.hd
  have h2 := C.hu
  dsimp only at h1 h2
  exact ⟨⟨rfl, fun b o e => k b o (C.B.stays b o e), C.B.frames.of_keeps fun b o e _ => ⟨o, k b o e, rfl⟩⟩, C.S, fun b o e => k b o (C.le b o e), rfl, by show dp + 1 + (d - 1) < _; omega, by show un + 1 + (u - 1) < _; omega⟩
theorem rz_weak {own own2 : List Addr} {Tb Tb2 : Heap → Prop} {base h0 h1 h : Heap} {l : List Env} {e : Addr} {cls : String} (R : Rz own Tb base h1 l e cls h) (k : ∀ b o, b ∉ own2 → h0.get? b = some o → b ∉ own ∧ h1.get? b = some o)
    (hT : ∀ B, (∀ b o, b ∉ own → h1.get? b = some o → b ∉ l.filterMap (·.frame) → B.get? b = some o) → Tb B → Tb2 B) : Rz own2 Tb2 base h0 l e cls h := by
  obtain ⟨B, a0, h2, h3, h4, h5, h6⟩ := R
  refine ⟨B, a0, h2, fun b o hb e hn => ?_, hT B h3 h4, h5, fun b o hb e hn => ?_⟩
  · obtain ⟨q1, q2⟩ := k b o hb e
    exact h3 b o q1 q2 hn
  · obtain ⟨q1, q2⟩ := k b o hb e
    exact h6 b o q1 q2 hn
theorem ff_old {h base : Heap} {z : Nat} (hz : h.objs.size ≤ z) : ∀ l : List Env, h.FunFrames base l → ∀ env ∈ l, ∀ L', env.frame = some L' → L' < z := fun _ x => frames_out x hz

/-- what making an engine wants of its arguments -/
noncomputable def MakeArgs (txt big : Bool) (ks : List Int) (tv : Tok) (args : Args) : Prop :=
  args = ⟨[mapV txt ks tv, .bool big], []⟩ ∨ args = ⟨[mapV txt ks tv], [(Str.ofString "big", .bool big)]⟩ ∨ (args = ⟨[mapV txt ks tv], []⟩ ∧ big = false)

theorem new262 {w : World} {mean mg mb G base outer d u dp un gd} {s : Shared} {R : Result → Shared → Prop} {txt big : Bool} {ks : List Int} {tv : Tok} {args : Args}
    (C : Cx w mean mg mb G ⟨none, dp, some outer, gd, un⟩ base outer d u s.heap) (hd : 40 ≤ d) (hu : 400 ≤ u) (hks : ∀ k ∈ ks, 0 ≤ k ∧ k < 256) (hlen : ks.length ≤ 100)
    (ht0 : Tab45 s.heap) (hb : base.get? 45 = none) (hfd : ∀ env ∈ outer, ∀ L', env.frame = some L' → L' ≠ 45)
    (hargs : MakeArgs txt big ks tv args)
    (hR : ks.length = 64 → ks.Nodup → ∀ h' tk gn x, KpB [45] s.heap h' → Tab45 h' → (AllBare s.gens → AllBare gn) → s.heap.objs.size ≤ x → (∃ dx, h'.get? x = some (instObj 262 dx)) → Eng w h' x (byteArr ks).toList big → R (.ok (.ret (.ref x))) { s with heap := h', toks := tk, gens := gn })
    (hE : ¬ (ks.length = 64 ∧ ks.Nodup) → ∀ h' tk gn e, Rz [45] Tab45 base s.heap outer e "ValueError" h' → (AllBare s.gens → AllBare gn) → R (.error (.ref e)) { s with heap := h', toks := tk, gens := gn }) :
    codeAny (model PR w) ⟨none, dp, some outer, gd, un⟩ (.call (.ref 262) args) R s := by
  obtain ⟨hh, g, dd, t, os⟩ := s
  have X0 := C.X
  revert X0
  delta PR
  k_fill
  intro X0
  obtain ⟨rest, kw⟩ := args
  dsimp only at *
  refine make_core (C := 262) (init := .ref 50) (makes_of X0 (by k_is)) (looks_findIn X0 (by k_is)) (fun self => bind_fn X0 self (by k_is)) (.inl rfl) ?_
  rw [under_make]
  have up : ∀ b o, hh.get? b = some o → ((hh.push emptyDict).push (instObj 262 hh.objs.size)).get? b = some o := fun b o e => Heap.get?_push_of_some _ (Heap.get?_push_of_some _ e)
  have hx : ((hh.push emptyDict).push (instObj 262 hh.objs.size)).get? (hh.objs.size + 1) = some (instObj 262 hh.objs.size) := by heap_get
  have hdx : ((hh.push emptyDict).push (instObj 262 hh.objs.size)).get? hh.objs.size = some emptyDict := by heap_get
  have hnone : ∀ b, hh.objs.size ≤ b → hh.get? b = none := fun b hb => none_of_size hb
  have g45 : @LT.lt Nat _ 45 hh.objs.size := by obtain ⟨ps, e, _⟩ := ht0; exact Heap.lt_size e
  have old : ∀ b o, hh.get? b = some o → b ≠ hh.objs.size ∧ b ≠ hh.objs.size + 1 := fun b o e => by
    have := Heap.lt_size e
    exact ⟨Nat.ne_of_lt this, Nat.ne_of_lt (Nat.lt_succ_of_lt this)⟩
  have bnone : ∀ b, hh.objs.size ≤ b → base.get? b = none := fun b hb => by
    cases q : base.get? b with
    | none => rfl
    | some o => have := C.B.stays _ _ q; rw [hnone b hb] at this; cases this
  have gnone : ∀ b, hh.objs.size ≤ b → G.get? b = none := fun b hb => by
    cases q : G.get? b with
    | none => rfl
    | some o => have := C.le _ _ q; rw [hnone b hb] at this; cases this
  refine init50 (dx := hh.objs.size) (txt := txt) (big := big) (ks := ks) (tv := tv) (C.make up (by omega) (by omega)) (by omega) (by omega) hx hdx hks hlen (ht0.fields fun b o _ _ e => up b o e) ?hb ?hg ?hf ?ha (fun h1 h2 h' tk gn lk olk a1 a2 a3 t1 t2 t3 tb n kb tab bare e1 e2 hsz heng => ?hR) (fun hn h' tk gn e hz bare => ?hE)
  case hb =>
    intro b hm
    rcases mem3 hm with rfl | rfl | rfl
    · exact hb
    · exact bnone _ (Nat.le_refl _)
    · exact bnone _ (Nat.le_succ _)
  case hg =>
    intro b hm
    rcases mem3 hm with rfl | rfl | rfl
    · exact C.S.n45
    · exact gnone _ (Nat.le_refl _)
    · exact gnone _ (Nat.le_succ _)
  case hf =>
    intro env he L' hL hm
    have := ff_old (Nat.le_refl _) _ C.B.frames env he L' hL
    rcases mem3 hm with rfl | rfl | rfl
    · exact hfd env he _ hL rfl
    · exact Nat.lt_irrefl _ this
    · exact Nat.not_succ_lt_self this
  case ha =>
    rcases hargs with h | h | ⟨h, hb⟩
    · cases h; exact .inl rfl
    · cases h; exact .inr (.inl rfl)
    · cases h; exact .inr (.inr ⟨rfl, hb⟩)
  case hR =>
    have hx2 := kb _ _ (by simp only [List.mem_cons, List.not_mem_nil, or_false, not_or]; exact ⟨Nat.ne_of_gt (Nat.lt_succ_of_lt g45), Nat.succ_ne_self _⟩) hx
    refine ⟨rfl, hR h1 h2 h' tk gn _ (fun b o hb e => kb b o ?_ (up b o e)) tab bare (Nat.le_succ _) ⟨_, hx2⟩ (heng h' hx2 e1 e2)⟩
    simp only [List.mem_cons, List.not_mem_nil, or_false, not_or]
    exact ⟨by simpa using hb, (old b o e).1⟩
  case hE =>
    refine hE hn h' tk gn e (rz_weak hz (fun b o hb e => ⟨?_, up b o e⟩) fun B _ h => h) bare
    simp only [List.mem_cons, List.not_mem_nil, or_false, not_or]
    exact ⟨by simpa using hb, (old b o e).1, (old b o e).2⟩

theorem newexc_out {h0 h1 h2 : Heap} {e : Addr} {cls : String} (k : Kp h0 h1) (x : Heap.NewExc h1 h2 e cls) : Heap.NewExc h0 h2 e cls :=
  by
  refine ⟨fun b o q => x.keeps b o (k b o q), ?_, x.there⟩
  cases q : h0.get? e with
  | none => rfl
  | some o => have := k _ _ q; rw [x.new] at this; cases this

theorem exp28 {w : World} {mean mg mb G base outer d u dp un gd} {s : Shared} {R : Result → Shared → Prop} {v : Value} {t1 t2 : Tok}
    (C : Cx w mean mg mb G ⟨none, dp, some outer, gd, un⟩ base outer d u s.heap) (hd : 3 ≤ d) (hu : 20 ≤ u)
    (hR : ∀ h' tk e, Heap.NewExc s.heap h' e "TypeError" → R (.ok (.ret (.ref e))) { s with heap := h', toks := tk }) :
    codeAny (model PR w) ⟨none, dp, some outer, gd, un⟩ (.call (.ref 28) ⟨[v, .str (Str.ofString "unicode or bytes") t1, .str (Str.ofString "charmap") t2], []⟩) R s := by
  have X0 := C.X
  revert X0
  delta PR
  k_fill
  intro X0
  refine enter C (by omega) (by k_is) (by k_is) (BindsTo.of_eq rfl) (locs rfl) ?_ rfl rfl rfl (by decide)
  intro L h₁ F N B X T
  clear X0
  dsimp only
  k_fold
  iterate 25 tb_start
  refine call_exc excClass_TypeError fun h' e hx => ?_
  tb_rel
  exact hR _ _ _ (newexc_out F.keep hx)

theorem exp35 {w : World} {mean mg mb G base outer d u dp un gd} {s : Shared} {R : Result → Shared → Prop} {v : Value} {t2 : Tok}
    (C : Cx w mean mg mb G ⟨none, dp, some outer, gd, un⟩ base outer d u s.heap) (hd : 6 ≤ d) (hu : 40 ≤ u)
    (hR : ∀ h' tk e, Heap.NewExc s.heap h' e "TypeError" → R (.ok (.ret (.ref e))) { s with heap := h', toks := tk }) :
    codeAny (model PR w) ⟨none, dp, some outer, gd, un⟩ (.call (.ref 35) ⟨[v, .str (Str.ofString "charmap") t2], []⟩) R s := by
  have X0 := C.X
  revert X0
  delta PR
  k_fill
  intro X0
  refine enter C (by omega) (by k_is) (by k_is) (BindsTo.of_eq rfl) (locs rfl) ?_ rfl rfl rfl (by decide)
  intro L h₁ F N B X T
  clear X0
  dsimp only
  k_fold
  tb_rel
  refine wpAny_call ?_
  refine exp28 (C.push F rfl rfl (by omega) (by omega)) (by omega) (by omega) fun h' tk e hx => ?_
  dsimp only
  tb_rel
  exact hR _ _ _ (newexc_out F.keep hx)

theorem init50T {w : World} {mean mg mb G base outer d u dp un gd} {s : Shared} {R : Result → Shared → Prop} {x sl : Addr} {vs : List Value} 
    (C : Cx w mean mg mb G ⟨none, dp, some outer, gd, un⟩ base outer d u s.heap) (hd : 30 ≤ d) (hu : 300 ≤ u) (hl : s.heap.IsList sl vs.toArray)
    (hE : ∀ h' tk e, Rz [] (fun _ => True) base s.heap outer e "TypeError" h' → R (.error (.ref e)) { s with heap := h', toks := tk }) :
    codeAny (model PR w) ⟨none, dp, some outer, gd, un⟩ (.call (.ref 50) ⟨[.ref x, .ref sl], []⟩) R s := by
  have X0 := C.X
  revert X0
  delta PR
  k_fill
  intro X0
  refine enter (binds := [(Str.ofString "self", .ref x), (Str.ofString "charmap", .ref sl), (Str.ofString "big", .bool false)]) C (by omega) (by k_is) (by k_is) ?hbind (locs rfl) ?_ rfl rfl rfl (by decide)
  case hbind => exact BindsTo.of_defaults rfl (C.X 43 _ (by k_is)) rfl rfl rfl
  intro L h₁ F N B X T
  clear X0
  show wpAny _ _ _ _ _ _
  k_fold
  tb_rel
  refine wpAny_call ?_
  refine exp35 (C.push F rfl rfl (by omega) (by omega)) (by omega) (by omega) fun h' tk e hx => ?_
  dsimp only
  refine raisable_of_new excClass_TypeError hx ?_
  refine rz_new C.B hx.of F rfl rfl (own := []) (Tb := fun _ => True) (h00 := s.heap) (fun b o _ _ e => e) (fun b o _ e _ => ⟨o.slots, e⟩) (fun _ _ => trivial) fun h' hz => hE _ _ _ hz

theorem new262T {w : World} {mean mg mb G base outer d u dp un gd} {s : Shared} {R : Result → Shared → Prop} {sl : Addr} {vs : List Value}
    (C : Cx w mean mg mb G ⟨none, dp, some outer, gd, un⟩ base outer d u s.heap) (hd : 40 ≤ d) (hu : 400 ≤ u) (hl : s.heap.IsList sl vs.toArray)
    (hE : ∀ h' tk e, Rz [] (fun _ => True) base s.heap outer e "TypeError" h' → R (.error (.ref e)) { s with heap := h', toks := tk }) :
    codeAny (model PR w) ⟨none, dp, some outer, gd, un⟩ (.call (.ref 262) ⟨[.ref sl], []⟩) R s := by
  obtain ⟨hh, g, dd, t, os⟩ := s
  have X0 := C.X
  revert X0
  delta PR
  k_fill
  intro X0
  dsimp only at *
  refine make_core (C := 262) (init := .ref 50) (makes_of X0 (by k_is)) (looks_findIn X0 (by k_is)) (fun self => bind_fn X0 self (by k_is)) (.inl rfl) ?_
  rw [under_make]
  have up : ∀ b o, hh.get? b = some o → ((hh.push emptyDict).push (instObj 262 hh.objs.size)).get? b = some o := fun b o e => Heap.get?_push_of_some _ (Heap.get?_push_of_some _ e)
  refine init50T (vs := vs) (C.make up (by omega) (by omega)) (by omega) (by omega) (hl.at fun o e => up _ o e) fun h' tk e hz => ?_
  exact hE h' tk e (rz_weak hz (fun b o hb e => ⟨hb, up b o e⟩) fun B _ h => h)

theorem enc91T {w : World} {mean mg mb G base outer d u dp un gd} {s : Shared} {R : Result → Shared → Prop} {x : Value} {y : Str} {t : Tok}
    (C : Cx w mean mg mb G ⟨none, dp, some outer, gd, un⟩ base outer d u s.heap) (hd : 30 ≤ d) (hu : 300 ≤ u)
    (hE : ∀ h' tk e, Rz [] (fun _ => True) base s.heap outer e "TypeError" h' → R (.error (.ref e)) { s with heap := h', toks := tk }) :
    codeAny (model PR w) ⟨none, dp, some outer, gd, un⟩ (.call (.ref 91) ⟨[x, .str y t], []⟩) R s := by
  have X0 := C.X
  revert X0
  delta PR
  k_fill
  intro X0
  refine enterC C (by omega) (by k_is) (by k_is) (BindsTo.of_eq rfl) rfl (by decide +kernel) ?_ rfl rfl rfl
  intro L h₁ tk cells F N Y B X T
  clear X0
  k_cells Y
  have F : Fr s.heap L h₁ (mp [(Str.ofString "source", some (.str y t))]) := F
  show wpAny _ _ _ _ _ _
  k_fold
  tb_rel
  rename Heap.NewExc _ _ _ _ => hx8
  exact rz_new C.B hx8.of F rfl rfl (own := []) (Tb := fun _ => True) (h00 := s.heap) (fun b o _ _ e => e) (fun b o _ e _ => ⟨o.slots, e⟩) (fun _ _ => trivial) fun h' hz => hE _ _ _ hz
theorem dec112T {w : World} {mean mg mb G base outer d u dp un gd} {s : Shared} {R : Result → Shared → Prop} {x : Value} {y : Str} {t : Tok}
    (C : Cx w mean mg mb G ⟨none, dp, some outer, gd, un⟩ base outer d u s.heap) (hd : 30 ≤ d) (hu : 300 ≤ u)
    (hE : ∀ h' tk e, Rz [] (fun _ => True) base s.heap outer e "TypeError" h' → R (.error (.ref e)) { s with heap := h', toks := tk }) :
    codeAny (model PR w) ⟨none, dp, some outer, gd, un⟩ (.call (.ref 112) ⟨[x, .str y t], []⟩) R s := by
  have X0 := C.X
  revert X0
  delta PR
  k_fill
  intro X0
  refine enterC C (by omega) (by k_is) (by k_is) (BindsTo.of_eq rfl) rfl (by decide +kernel) ?_ rfl rfl rfl
  intro L h₁ tk cells F N Y B X T
  clear X0
  k_cells Y
  have F : Fr s.heap L h₁ (mp [(Str.ofString "source", some (.str y t))]) := F
  show wpAny _ _ _ _ _ _
  k_fold
  tb_rel
  rename Heap.NewExc _ _ _ _ => hx8
  exact rz_new C.B hx8.of F rfl rfl (own := []) (Tb := fun _ => True) (h00 := s.heap) (fun b o _ _ e => e) (fun b o _ e _ => ⟨o.slots, e⟩) (fun _ _ => trivial) fun h' hz => hE _ _ _ hz

end
section

/-- a fresh enumerator -/
noncomputable def EnumSrc (w : World) (h0 h : Heap) (e : Addr) (n : Nat) (P : Nat → Value → Prop) : Prop :=
  ∃ (it : Addr) (St : Nat → Heap → Prop) (Mid : Nat → Addr → Heap → Prop), (∀ b o, h0.get? b = some o → b < it) ∧ (∀ b o, h0.get? b = some o → b < e) ∧ it < h.objs.size ∧ e < h.objs.size ∧
    (∀ A' : Around, A'.handled = none → WalksU PR w A' e [e, it] [e, it] n (fun i vals => ∃ u x, P i x ∧ vals = #[.int i u, x]) St Mid) ∧ St 0 h

section
variable {w : World} {A : Around} {E : Value → Shared → Prop} {s : Shared}
theorem enumSrc_of {h0 h' : Heap} {n : Nat} {P : Nat → Value → Prop} {St : Nat → Heap → Prop} (he : IsEnum h' (h0.objs.size + 1) h0.objs.size 0 .none) (hi : St 0 h') (hz : h'.objs.size = h0.objs.size + 2)
    (D : ∀ A' : Around, A'.handled = none → Draws PR w A' h0.objs.size [h0.objs.size] n P St) : EnumSrc w h0 h' (h0.objs.size + 1) n P :=
  ⟨h0.objs.size, (fun i h => (∃ old, IsEnum h (h0.objs.size + 1) h0.objs.size i old) ∧ St i h), (fun i T h => (∃ x, IsEnumOut h (h0.objs.size + 1) h0.objs.size ((i : Int) + 1) x T) ∧ St (i + 1) h ∧ T ≠ h0.objs.size + 1 ∧ T ≠ h0.objs.size),
    fun _ _ q => Heap.lt_size q, fun _ _ q => Nat.lt_succ_of_lt (Heap.lt_size q), by rw [hz]; exact Nat.lt_succ_of_lt (Nat.lt_succ_self _), by rw [hz]; exact Nat.lt_succ_self _, fun A' hA => by
      have W := (WalksT.enumerateD (D A'.in1 hA) (h0.objs.size + 1) (Nat.succ_ne_self _) (by simp) (by simp)).toU
      exact ⟨W.sub, W.frame, fun i s Q E hi st hQ => W.item i s Q E hi st fun T vals h' tk ⟨t, x, p, v⟩ => hQ T vals h' tk ⟨t, x, p, v⟩, W.go, W.apart, W.done, W.self⟩, ⟨_, he⟩, hi⟩
theorem enum_bytes {x : Array UInt8} {t : Tok} {Q : Value → Shared → Prop}
    (h : ∀ e h', (∀ b o, s.heap.get? b = some o → h'.get? b = some o) → EnumSrc w s.heap h' e x.size (BAt x) → Q (.ref e) { s with heap := h' }) :
    wpAny (model PR w) A (call (.type "enumerate") [.bytes x t]) Q E s :=
  call_enumerate_bytes fun h' he hi hz k => h _ h' k (enumSrc_of (St := fun i h => KBw.IsBytesIter h s.heap.objs.size x t i) he hi hz fun _ hA => draws_bytes hA _ x t)
noncomputable abbrev SAt (x : Str) : Nat → Value → Prop := fun i v => ∃ c u, x.cps[i]? = some c ∧ v = .str ⟨#[c]⟩ u
theorem enum_str {x : Str} {t : Tok} {Q : Value → Shared → Prop}
    (h : ∀ e h', (∀ b o, s.heap.get? b = some o → h'.get? b = some o) → EnumSrc w s.heap h' e x.cps.size (SAt x) → Q (.ref e) { s with heap := h' }) :
    wpAny (model PR w) A (call (.type "enumerate") [.str x t]) Q E s := by
  refine call_enumerate_str fun h' he hi hz k => h _ h' k ?_
  unfold strIterType at hi
  split at hi
  · exact enumSrc_of (St := fun i h => h.IsStrIter s.heap.objs.size "str_ascii_iterator" x t i) he hi hz fun _ hA => Draws.strAscii hA _ x t
  · exact enumSrc_of (St := fun i h => h.IsStrIter s.heap.objs.size "str_iterator" x t i) he hi hz fun _ hA => Draws.strWide hA _ x t
end

/-- the items of an enumeration that pass a test -/
noncomputable def Picked (P : Nat → Value → Prop) (T : Nat → Bool) (i : Nat) (ys : List Value) : Prop := ∃ f : Nat → Value, ys = ((List.range i).filter T).map f ∧ ∀ j < i, T j = true → P j (f j)
theorem Picked.zero {P : Nat → Value → Prop} {T : Nat → Bool} : Picked P T 0 [] := ⟨fun _ => .none, rfl, fun j hj => absurd hj (Nat.not_lt_zero _)⟩
theorem Picked.yes {P : Nat → Value → Prop} {T : Nat → Bool} {i : Nat} {ys : List Value} {y : Value} (h : Picked P T i ys) (ht : T i = true) (hy : P i y) : Picked P T (i + 1) (ys ++ [y]) := by
  obtain ⟨f, rfl, hf⟩ := h
  refine ⟨fun j => if j = i then y else f j, ?_, fun j hj htj => ?_⟩
  · rw [List.range_succ, List.filter_append, List.map_append]
    have e : [i].filter T = [i] := by simp [ht]
    rw [e]
    congr 1
    · refine List.map_congr_left fun j hj => ?_
      have := List.mem_range.mp (List.mem_filter.mp hj).1
      rw [if_neg (by omega)]
    · simp
  · dsimp only
    by_cases e : j = i
    · rw [if_pos e, e]; exact hy
    · rw [if_neg e]; exact hf j (by omega) htj
theorem Picked.no {P : Nat → Value → Prop} {T : Nat → Bool} {i : Nat} {ys : List Value} (h : Picked P T i ys) (ht : T i = false) : Picked P T (i + 1) ys := by
  obtain ⟨f, rfl, hf⟩ := h
  refine ⟨f, ?_, fun j hj htj => ?_⟩
  · rw [List.range_succ, List.filter_append]
    have e : [i].filter T = [] := by simp [ht]
    rw [e, List.append_nil]
  · rcases Nat.lt_succ_iff_lt_or_eq.mp hj with hj | rfl
    · exact hf j hj htj
    · rw [ht] at htj; cases htj
theorem Picked.len {P : Nat → Value → Prop} {T : Nat → Bool} {i : Nat} {ys : List Value} (h : Picked P T i ys) : ys.length ≤ i := by
  obtain ⟨f, rfl, _⟩ := h
  rw [List.length_map]
  exact Nat.le_trans (List.length_filter_le _ _) (by simp)

theorem compLoop_P {prog : Program} {w : World} {A : Around} {s : Shared} {elt iter : Expr} {elts : List Expr} {x1} {tp : Pos} {ifs : List Expr} {scope : Scope} {pos : Pos} {it acc : Value} {env : Env} {R : Result → Shared → Prop} (I : Nat → Shared → Prop)
    (turn : ∀ n s, I n s → wpAny (model prog w) A (pyNext it) (fun r s₁ => match r with
      | none => R (.ok .next) s₁
      | some v => wpAny (model prog w) A (letOwnedTupleGo (.Tuple elts x1 tp) it v) (fun _ s₁' => wpAny (model prog w) A (assign (.Tuple elts x1 tp) env v) (fun _ s₂ =>
          wpAny (model prog w) A (forIn ifs true fun c r => if r = true then do let ok ← isTrue c env (eval c env); pure (ForInStep.yield ok) else pure (ForInStep.yield r)) (fun ok s₃ =>
            if ok = true then wpAny (model prog w) A (eval elt env) (fun x s₄ =>
              wpAny (model prog w) A (call (.builtin "list.append") [acc, x]) (fun _ s₅ => ∃ m, m < n ∧ I m s₅) (notedBy (model prog w) A env fun e s' => R (.error e) s') s₄) (notedBy (model prog w) A env fun e s' => R (.error e) s') s₃
            else ∃ m, m < n ∧ I m s₃) (notedBy (model prog w) A env fun e s' => R (.error e) s') s₂)
          (notedBy (model prog w) A env fun e s' => R (.error e) s') s₁') (notedBy (model prog w) A env fun e s' => R (.error e) s') s₁) (notedBy (model prog w) A env fun e s' => R (.error e) s') s)
    (n : Nat) (h : I n s) : codeAny (model prog w) A (.compLoop (.ListComp elt [⟨.Tuple elts x1 tp, iter, ifs, 0⟩] scope pos) 0 it acc env) R s := by
  refine codeAny_loop rfl I (fun n s hI => ?_) n h
  show wpAny _ A ((compTurn (.ListComp elt [⟨.Tuple elts x1 tp, iter, ifs, 0⟩] scope pos) 0 it acc env).onRaise (fun x => do noteFrame x env; theTreesLotGoes x)) _ _ s
  refine wpAny_noted ?_
  rw [compTurn_list]
  refine wpAny_bind (wpAny_standAt (wpAny_bind (wpAny_mono (turn n s hI) (fun r s₁ h₁ => ?_) fun _ _ h' => h')))
  cases r with
  | none => exact wpAny_pure h₁
  | some v =>
    refine wpAny_bind (wpAny_mono h₁ (fun _ s₁' h₁' => ?_) fun _ _ h' => h')
    refine wpAny_bind (wpAny_mono h₁' (fun _ s₂ h₂ => wpAny_bind (wpAny_mono h₂ (fun ok s₃ h₃ => ?_) fun _ _ h' => h')) fun _ _ h' => h')
    cases ok with
    | false => exact wpAny_pure ⟨rfl, h₃⟩
    | true =>
      exact wpAny_bind (wpAny_bind (wpAny_mono h₃ (fun x s₄ h₄ => wpAny_bind (wpAny_mono h₄ (fun _ s₅ h₅ => wpAny_pure (wpAny_pure ⟨rfl, h₅⟩)) fun _ _ h' => h')) fun _ _ h' => h'))

theorem comp_P0 {w : World} {A : Around} {E : Value → Shared → Prop} {s : Shared} {h₀ : Heap} {L : Addr} {m : Str → Option Value} {env : Env} {elt iter tst : Expr} {xa xb : Str} {pa pb pt : Pos} {kt : Nat} {scope : Scope} {cl : List (Str × Addr)} {pos pos2 : Pos} {Q : Value → Shared → Prop} {use : Option (Value → Sem Unit)}
    {n : Nat} {P : Nat → Value → Prop} {news : List (Addr × Obj)} (V : Nat → Value → Prop) (T : Nat → Bool)
    (hh : A.handled = none) (hn : n ≤ 8000) (F : Fr h₀ L s.heap m) (N : News h₀ L s.heap news)
    (hit : ∀ Q', (∀ e h tk, Kp s.heap h → EnumSrc w s.heap h e n P → Q' (.ref e) { s with heap := h, toks := tk }) → wpAny (model PR w) A (eval iter env) Q' E s)
    (test : ∀ i x u oC C D m₂ h tk (E' : Value → Shared → Prop) ys, i < n → P i x → LCg.NsObj oC m₂ → m₂ xa = some (.int i u) → m₂ xb = some x → Fr h₀ L h m → News h₀ L h ((C, oC) :: (D, LCg.lst ys) :: news) → (∀ q ∈ news, q.1 ≠ C ∧ q.1 ≠ D) → C ≠ D →
      wpAny (model PR w) A (isTrue tst (compEnvC scope cl C env) (eval tst (compEnvC scope cl C env))) (fun b s₂ => Fin (b = T i ∧ ∃ tk', s₂ = { s with heap := h, toks := tk' })) E' { s with heap := h, toks := tk })
    (body : ∀ i x u oC C D m₂ h tk (E' : Value → Shared → Prop) ys, i < n → P i x → LCg.NsObj oC m₂ → m₂ xa = some (.int i u) → m₂ xb = some x → Fr h₀ L h m → News h₀ L h ((C, oC) :: (D, LCg.lst ys) :: news) → (∀ q ∈ news, q.1 ≠ C ∧ q.1 ≠ D) → C ≠ D →
      wpAny (model PR w) A (eval elt (compEnvC scope cl C env)) (fun y s₂ => Fin (V i y ∧ ∃ tk', s₂ = { s with heap := h, toks := tk' })) E' { s with heap := h, toks := tk })
    (fin : ∀ D C h tk ys m', Picked V T n ys → Fr h₀ L h m → News h₀ L h ((D, LCg.lst ys) :: news) → (∀ q ∈ news, q.1 < D) → (∀ q ∈ news, q.1 ≠ C) → D ≠ C → C ≠ L → h₀.get? C = none → h.Ns C m' → compPost (model PR w) A E use Q (.ref D) C (.ok .next) { s with heap := h, toks := tk })
    (hclos : closureFor scope env = pure cl := by rfl) (hcell : ∀ y ∈ scope.names, y.2 ≠ .cell := by decide) (hkind : scope.kind = .function := by rfl)
    (hnames : ∀ y ∈ scope.names, y.2 = .local → scope.names.lookup y.1 = some .local := by decide) (hxa : scope.names.lookup xa = some .local := by rfl) (hxb : scope.names.lookup xb = some .local := by rfl) (hab : xa ≠ xb := by decide)
    (hs : ∀ x, foldedSetIterable iter env x = pure x := by intro _; rfl) :
    wpAny (model PR w) A (comprehension (.ListComp elt [⟨.Tuple [.Name xa pa, .Name xb pb] kt pt, iter, [tst], 0⟩] scope pos) scope env pos2 (newList []) false (eval iter env) use) Q E s := by
  refine wpAny_comprehension_free (use := use) rfl hs hclos hkind hnames (hit _ fun e h0 tk0 k0 src => ?_)
  obtain ⟨it, St, Mid, z1, z2, z3, z4, W, st0⟩ := src
  refine (W A hh).self 0 _ _ _ st0 ?_
  refine wpAny_newObj_type (wpAny_newFunctionEnv hcell (by intro y hy; simp at hy) (fun h₁ hns₁ hsb₁ => ?_) hkind)
  dsimp only at hns₁ hsb₁ ⊢
  generalize hH2 : h0.push { cls := .type "list", dict := none, data := .seq ([] : List Value).toArray } = H2 at hns₁ hsb₁ ⊢
  have F0 := fr_kp F k0
  have N0 := news_kp N k0
  have hC : H2.objs.size = h0.objs.size + 1 := by rw [← hH2, Heap.size_push]
  have hDC : h0.objs.size ≠ H2.objs.size := by rw [hC]; exact Nat.ne_of_lt (Nat.lt_succ_self _)
  have below : ∀ b, b < h0.objs.size → b ≠ H2.objs.size ∧ b ≠ h0.objs.size := fun b hb => ⟨by rw [hC]; exact Nat.ne_of_lt (Nat.lt_succ_of_lt hb), Nat.ne_of_lt hb⟩
  have old : ∀ b o, h0.get? b = some o → h₁.get? b = some o := fun b o e => hsb₁.extBut b o (below b (Heap.lt_size e)).1 (Heap.get?_push_of_some _ (hH2 ▸ Heap.get?_push_of_some _ e))
  have hacc : h₁.get? h0.objs.size = some (LCg.lst []) := hsb₁.extBut _ _ hDC (Heap.get?_push_of_some _ (hH2 ▸ Heap.get?_push_size _ rfl))
  have fresh₀ : ∀ b, h0.objs.size ≤ b → h₀.get? b = none := fun b hb => by
    cases e : h₀.get? b with
    | none => rfl
    | some o' => exact absurd (Heap.lt_size (F0.keep b o' e)) (Nat.not_lt_of_le hb)
  have hD₀ : h₀.get? h0.objs.size = none := fresh₀ _ (Nat.le_refl _)
  have hC₀ : h₀.get? H2.objs.size = none := fresh₀ _ (by rw [hC]; exact Nat.le_succ _)
  have hLlt : L < h0.objs.size := F0.ns.lt
  have hDL : h0.objs.size ≠ L := Ne.symm (below L hLlt).2
  have hCL : H2.objs.size ≠ L := Ne.symm (below L hLlt).1
  have hnews0 : ∀ q ∈ news, q.1 < h0.objs.size := fun q hq => Heap.lt_size (N0 q hq).1
  have wrL : ∀ b ∈ [e, it], b ≠ L ∧ b ≠ H2.objs.size ∧ b ≠ h0.objs.size ∧ h₀.get? b = none ∧ ∀ q ∈ news, q.1 ≠ b := fun b hb => by
    have hb1 : (∀ c o, s.heap.get? c = some o → c < b) ∧ b < h0.objs.size := by
      rcases mem_c hb with rfl | hb
      · exact ⟨z2, z4⟩
      · rw [List.mem_singleton.mp hb]; exact ⟨z1, z3⟩
    obtain ⟨oL, _, _, hoL, _⟩ := F.ns
    refine ⟨Nat.ne_of_gt (hb1.1 L oL hoL), (below b hb1.2).1, (below b hb1.2).2, ?_, fun q hq => Nat.ne_of_lt (hb1.1 _ _ (N q hq).1)⟩
    cases e : h₀.get? b with
    | none => rfl
    | some o' => exact absurd (hb1.1 _ _ (F.keep b o' e)) (Nat.lt_irrefl _)
  have neC : ∀ {ys : List Value} {q : Addr × Obj}, q ∈ (h0.objs.size, LCg.lst ys) :: news → q.1 ≠ H2.objs.size := fun {ys q} hq => by
    rcases mem_c hq with rfl | hq
    · exact hDC
    · exact (below _ (hnews0 q hq)).1
  have neW : ∀ {ys : List Value} {q : Addr × Obj}, q ∈ (h0.objs.size, LCg.lst ys) :: news → q.1 ∉ [e, it] := fun {ys q} hq hm => by
    obtain ⟨_, _, a3, _, a5⟩ := wrL _ hm
    rcases mem_c hq with rfl | hq
    · exact a3 rfl
    · exact a5 q hq rfl
  have loop : ∀ s₃ : Shared, s₃ = { s with heap := h₁, toks := tk0 + ([] : List (Str × Value)).length } →
      codeAny (model PR w) A (.compLoop (.ListComp elt [⟨.Tuple [.Name xa pa, .Name xb pb] kt pt, iter, [tst], 0⟩] scope pos) 0 (.ref e) (.ref h0.objs.size) (compEnvC scope cl H2.objs.size env))
        (compPost (model PR w) A E use Q (.ref h0.objs.size) H2.objs.size) s₃ := by
    rintro s₃ rfl
    refine compLoop_P
      (fun k s' => ∃ h' tk i ys m', s' = { s with heap := h', toks := tk } ∧ i ≤ n ∧ k = n + 1 - i ∧ Picked V T i ys ∧ St i h' ∧
        Fr h₀ L h' m ∧ h'.Ns H2.objs.size m' ∧ News h₀ L h' ((h0.objs.size, LCg.lst ys) :: news)) ?_ (n + 1)
      ⟨h₁, _, 0, [], _, rfl, Nat.zero_le _, rfl, .zero, (W A hh).frame _ _ _ st0 fun b _ o e => old b o e, F0.keeps old, hns₁, fun q hq => ?_⟩
    · rintro k s' ⟨h', tk, i, ys, m', rfl, hi, rfl, hp, st, F', hn', N'⟩
      by_cases hlt : i < n
      · refine (W A hh).item i _ _ _ hlt st fun Tp vals h₂ tk₂ hPv hT₂ hmid hk₂ => ?_
        obtain ⟨u, x, hPx, rfl⟩ := hPv
        dsimp only
        have CW : H2.objs.size ∉ [e, it] := fun hm => (wrL _ hm).2.1 rfl
        have LW : L ∉ [e, it] := fun hm => (wrL _ hm).1 rfl
        have W0 : ∀ b o, h₀.get? b = some o → b ∉ [e, it] := fun b o q hm => by rw [(wrL b hm).2.2.2.1] at q; cases q
        refine (W A hh).go _ _ _ i Tp _ _ _ hmid fun h₃ st₃ hk₃ => ?_
        dsimp only at hk₃ ⊢
        have hT₃ : h₃.IsTuple Tp #[.int i u, x] := let ⟨o, e, r⟩ := hT₂; ⟨o, hk₃ _ o ((W A hh).apart i Tp _ hmid) e, r⟩
        refine wpAny_assign_Tuple hh hT₃ rfl rfl fun h₃' hx₃ => ?_
        replace hx₃ : Heap.ExtBut h₃.objs.size h₃ h₃' := hx₃
        have old₃ : ∀ b o, h₃.get? b = some o → h₃'.get? b = some o := fun b o e => hx₃ b o (Nat.ne_of_lt (Heap.lt_size e)) e
        show wpAny _ _ (do holding [x] (assign (.Name xa pa) (compEnvC scope cl H2.objs.size env) (.int i u)); do holding [] (assign (.Name xb pb) (compEnvC scope cl H2.objs.size env) x); pure ()) _ _ _
        refine wpAny_bind (wpAny_holding (wpAny_assign_Name (wpAny_storeName_local (lookup_relabel_local hxa) (hn'.at' fun o e => old₃ _ o (hk₃ _ o CW (hk₂ _ o CW e))) (fun h₄ hn₄ hs₄ => ?_) (by simp [compEnvC, relabel, hkind]))))
        replace hs₄ : Heap.SameBut H2.objs.size h₃' h₄ := hs₄
        refine wpAny_bind (wpAny_holding (wpAny_assign_Name (wpAny_storeName_local (lookup_relabel_local hxb) hn₄ (fun h₅ hn₅ hs₅ => wpAny_pure ?_) (by simp [compEnvC, relabel, hkind]))))
        replace hs₅ : Heap.SameBut H2.objs.size h₄ h₅ := hs₅
        have up : ∀ b o, b ∉ [e, it] → b ≠ H2.objs.size → h'.get? b = some o → h₅.get? b = some o := fun b o h1 h2 q => hs₅.extBut b o h2 (hs₄.extBut b o h2 (old₃ b o (hk₃ b o h1 (hk₂ b o h1 q))))
        have up3 : ∀ b o, b ≠ H2.objs.size → h₃.get? b = some o → h₅.get? b = some o := fun b o h2 q => hs₅.extBut b o h2 (hs₄.extBut b o h2 (old₃ b o q))
        have F₅ : Fr h₀ L h₅ m := ⟨F'.ns.at' fun o q => up L o LW (Ne.symm hCL) q, fun b o q => up b o (W0 b o q) (fun h => by rw [h, hC₀] at q; cases q) (F'.keep b o q), F'.above⟩
        have st₅ : St (i + 1) h₅ := (W A hh).frame _ _ _ st₃ fun b hb o q => up3 b o (wrL b hb).2.1 q
        obtain ⟨oC, heC, hoC⟩ := LCg.ns_obj hn₅
        replace heC : h₅.get? H2.objs.size = some oC := heC
        have N₅ : News h₀ L h₅ ((H2.objs.size, oC) :: (h0.objs.size, LCg.lst ys) :: news) := fun q hq => by
          rcases mem_c hq with rfl | hq
          · exact ⟨heC, hCL, hC₀⟩
          · exact ⟨up _ _ (neW hq) (neC hq) (N' q hq).1, (N' q hq).2⟩
        have hba : (fun y => if y = xb then some x else if y = xa then some (Value.int i u) else m' y) xa = some (.int i u) := by simp [hab]
        refine wpAny_tests_one ?_
        refine wpAny_mono (test i x u oC H2.objs.size h0.objs.size _ h₅ _ _ ys hlt hPx hoC (by simp [hab]) (by simp) F₅ N₅ (fun q hq => below _ (hnews0 q hq)) (Ne.symm hDC)) (fun bb s₆ h₆ => ?_) fun _ _ e => e
        obtain ⟨hbb, tk₆, rfl⟩ := h₆.out
        cases hTi : T i with
        | false =>
          rw [hbb, hTi, if_neg Bool.false_ne_true]
          exact ⟨n + 1 - (i + 1), by omega, h₅, _, i + 1, ys, _, rfl, hlt, rfl, hp.no hTi, st₅, F₅, hn₅, fun q hq => N₅ q (.tail _ hq)⟩
        | true =>
          rw [hbb, hTi, if_pos rfl]
          refine wpAny_mono (body i x u oC H2.objs.size h0.objs.size _ h₅ _ _ ys hlt hPx hoC (by simp [hab]) (by simp) F₅ N₅ (fun q hq => below _ (hnews0 q hq)) (Ne.symm hDC)) (fun y s₇ h₇ => ?_) fun _ _ e => e
          obtain ⟨hVy, tk₇, rfl⟩ := h₇.out
          have hyl := hp.len
          refine append_at (hsz := by show ys.toArray.size ≤ sizeLine; rw [List.size_toArray, sizeLine_eq]; omega) (N₅ _ (.tail _ (.head _))).1 fun h₈ hs₈ hD₈ => ?_
          refine ⟨n + 1 - (i + 1), by omega, h₈, _, i + 1, ys ++ [y], _, rfl, hlt, rfl, hp.yes hTi hVy, (W A hh).frame _ _ _ st₅ fun b hb o q => hs₈.extBut b o (wrL b hb).2.2.1 q, F₅.change hs₈ hDL hD₀, hn₅.sameBut hs₈ (Ne.symm hDC), fun q hq => ?_⟩
          rcases mem_c hq with rfl | hq
          · exact ⟨hD₈.trans (congrArg some (LCg.lst_snoc ys y)), hDL, hD₀⟩
          · exact ⟨hs₈.extBut _ _ (below _ (hnews0 q hq)).2 (N₅ q (.tail _ (.tail _ hq))).1, (N₅ q (.tail _ (.tail _ hq))).2⟩
      · obtain rfl : i = n := Nat.le_antisymm hi (Nat.not_lt.mp hlt)
        refine (W A hh).done _ _ _ st fun h₂ tk₂ kb => ?_
        dsimp only at kb ⊢
        have F₂ : Fr h₀ L h₂ m := ⟨F'.ns.at' fun o e => kb L o (fun hm => (wrL _ hm).1 rfl) e, fun b o e => kb b o (fun hm => by rw [(wrL b hm).2.2.2.1] at e; cases e) (F'.keep b o e), F'.above⟩
        have N₂ : News h₀ L h₂ ((h0.objs.size, LCg.lst ys) :: news) := fun q hq => ⟨kb _ _ (neW hq) (N' q hq).1, (N' q hq).2⟩
        exact fin _ _ h₂ tk₂ ys m' hp F₂ N₂ hnews0 (fun q hq => (below _ (hnews0 q hq)).1) hDC hCL hC₀ (hn'.at' fun o e => kb _ o (fun hm => (wrL _ hm).2.1 rfl) e)
    · rcases mem_c hq with rfl | hq
      · exact ⟨hacc, hDL, hD₀⟩
      · exact ⟨old _ _ (N0 q hq).1, (N0 q hq).2⟩
  exact codeAny_compStart_list (loop _ rfl) ((W A hh).self 0 _ _ _ ((W A hh).frame _ _ _ st0 fun b _ o e => old b o e) (loop _ rfl))

section
variable {w : World} {A : Around} {E : Value → Shared → Prop} {s : Shared} {h₀ : Heap} {L : Addr} {env : Env} {elt iter tst : Expr} {xa xb : Str} {pa pb pt : Pos} {kt : Nat} {scope : Scope} {cl : List (Str × Addr)} {pos : Pos}
    {n : Nat} {P : Nat → Value → Prop} {news : List (Addr × Obj)}
theorem comp_P {m : Str → Option Value} {Q : Value → Shared → Prop} (V : Nat → Value → Prop) (T : Nat → Bool)
    (hh : A.handled = none) (hn : n ≤ 8000) (F : Fr h₀ L s.heap m) (N : News h₀ L s.heap news)
    (hit : ∀ Q', (∀ e h tk, Kp s.heap h → EnumSrc w s.heap h e n P → Q' (.ref e) { s with heap := h, toks := tk }) → wpAny (model PR w) A (eval iter env) Q' E s)
    (test : ∀ i x u oC C D m₂ h tk (E' : Value → Shared → Prop) ys, i < n → P i x → LCg.NsObj oC m₂ → m₂ xa = some (.int i u) → m₂ xb = some x → Fr h₀ L h m → News h₀ L h ((C, oC) :: (D, LCg.lst ys) :: news) → (∀ q ∈ news, q.1 ≠ C ∧ q.1 ≠ D) → C ≠ D →
      wpAny (model PR w) A (isTrue tst (compEnvC scope cl C env) (eval tst (compEnvC scope cl C env))) (fun b s₂ => Fin (b = T i ∧ ∃ tk', s₂ = { s with heap := h, toks := tk' })) E' { s with heap := h, toks := tk })
    (body : ∀ i x u oC C D m₂ h tk (E' : Value → Shared → Prop) ys, i < n → P i x → LCg.NsObj oC m₂ → m₂ xa = some (.int i u) → m₂ xb = some x → Fr h₀ L h m → News h₀ L h ((C, oC) :: (D, LCg.lst ys) :: news) → (∀ q ∈ news, q.1 ≠ C ∧ q.1 ≠ D) → C ≠ D →
      wpAny (model PR w) A (eval elt (compEnvC scope cl C env)) (fun y s₂ => Fin (V i y ∧ ∃ tk', s₂ = { s with heap := h, toks := tk' })) E' { s with heap := h, toks := tk })
    (fin : ∀ D h tk ys, Picked V T n ys → Fr h₀ L h m → News h₀ L h ((D, LCg.lst ys) :: news) → (∀ q ∈ news, q.1 < D) → Q (.ref D) { s with heap := h, toks := tk })
    (hclos : closureFor scope env = pure cl := by rfl) (hcell : ∀ y ∈ scope.names, y.2 ≠ .cell := by decide) (hkind : scope.kind = .function := by rfl)
    (hnames : ∀ y ∈ scope.names, y.2 = .local → scope.names.lookup y.1 = some .local := by decide) (hxa : scope.names.lookup xa = some .local := by rfl) (hxb : scope.names.lookup xb = some .local := by rfl) (hab : xa ≠ xb := by decide)
    (hs : ∀ x, foldedSetIterable iter env x = pure x := by intro _; rfl) :
    wpAny (model PR w) A (eval (.ListComp elt [⟨.Tuple [.Name xa pa, .Name xb pb] kt pt, iter, [tst], 0⟩] scope pos) env) Q E s := by
  rw [eval_ListComp]
  refine comp_P0 (use := none) V T hh hn F N hit test body (fun D C h tk ys m' hp F N h1 h2 h3 h4 h5 hC => ⟨m', hC, fun h'' hs'' => ?_⟩) hclos hcell hkind hnames hxa hxb hab hs
  refine fin D h'' tk ys hp (F.change hs'' h4 h5) (fun q hq => ⟨hs''.extBut _ _ ?_ (N q hq).1, (N q hq).2⟩) h1
  rcases mem_c hq with rfl | hq
  · exact h3
  · exact h2 q hq
theorem comp_PA {l : List (Str × Option Value)} {y : Str} {py spos : Pos} {Q : Flow → Shared → Prop} (V : Nat → Value → Prop) (T : Nat → Bool)
    (hh : A.handled = none) (hn : n ≤ 8000) (F : Fr h₀ L s.heap (mp l)) (N : News h₀ L s.heap news)
    (hit : ∀ Q', (∀ e h tk, Kp s.heap h → EnumSrc w s.heap h e n P → Q' (.ref e) { s with heap := h, toks := tk }) → wpAny (model PR w) A (eval iter env) Q' E s)
    (test : ∀ i x u oC C D m₂ h tk (E' : Value → Shared → Prop) ys, i < n → P i x → LCg.NsObj oC m₂ → m₂ xa = some (.int i u) → m₂ xb = some x → Fr h₀ L h (mp l) → News h₀ L h ((C, oC) :: (D, LCg.lst ys) :: news) → (∀ q ∈ news, q.1 ≠ C ∧ q.1 ≠ D) → C ≠ D →
      wpAny (model PR w) A (isTrue tst (compEnvC scope cl C env) (eval tst (compEnvC scope cl C env))) (fun b s₂ => Fin (b = T i ∧ ∃ tk', s₂ = { s with heap := h, toks := tk' })) E' { s with heap := h, toks := tk })
    (body : ∀ i x u oC C D m₂ h tk (E' : Value → Shared → Prop) ys, i < n → P i x → LCg.NsObj oC m₂ → m₂ xa = some (.int i u) → m₂ xb = some x → Fr h₀ L h (mp l) → News h₀ L h ((C, oC) :: (D, LCg.lst ys) :: news) → (∀ q ∈ news, q.1 ≠ C ∧ q.1 ≠ D) → C ≠ D →
      wpAny (model PR w) A (eval elt (compEnvC scope cl C env)) (fun y s₂ => Fin (V i y ∧ ∃ tk', s₂ = { s with heap := h, toks := tk' })) E' { s with heap := h, toks := tk })
    (fin : ∀ D h tk ys, Picked V T n ys → Fr h₀ L h (mp (put y (.ref D) l)) → News h₀ L h ((D, LCg.lst ys) :: news) → (∀ q ∈ news, q.1 < D) → Q .next { s with heap := h, toks := tk })
    (hL : env.locals = L := by rfl) (hsw : swapsWith (.ListComp elt [⟨.Tuple [.Name xa pa, .Name xb pb] kt pt, iter, [tst], 0⟩] scope pos) (some (.Name y py)) spos.line env = pure true := by rfl) (hy : env.kindOf y = some .local := by rfl) (hp : (env.scope.kind == .class || (env.scope.kind == .module && env.locals != env.globals)) = false := by rfl)
    (hclos : closureFor scope env = pure cl := by rfl) (hcell : ∀ y ∈ scope.names, y.2 ≠ .cell := by decide) (hkind : scope.kind = .function := by rfl)
    (hnames : ∀ y ∈ scope.names, y.2 = .local → scope.names.lookup y.1 = some .local := by decide) (hxa : scope.names.lookup xa = some .local := by rfl) (hxb : scope.names.lookup xb = some .local := by rfl) (hab : xa ≠ xb := by decide)
    (hs : ∀ x, foldedSetIterable iter env x = pure x := by intro _; rfl) :
    wpAny (model PR w) A (exec (.Assign [.Name y py] (.ListComp elt [⟨.Tuple [.Name xa pa, .Name xb pb] kt pt, iter, [tst], 0⟩] scope pos) spos) env) Q E s := by
  rw [exec_Assign_Name_used _ _ _ _ hsw]
  refine wpAny_bind (wpAny_standAt (wpAny_bind ?_))
  show wpAny _ A (do let _ ← comprehension (.ListComp elt [⟨.Tuple [.Name xa pa, .Name xb pb] kt pt, iter, [tst], 0⟩] scope pos) scope env _ (newList []) false (eval iter env) (some (assign (.Name y py) env))) _ _ s
  refine wpAny_bind (wpAny_mono (comp_P0 (use := some (assign (.Name y py) env)) (Q := fun _ s' => Q .next s') V T hh hn F N hit test body (fun D C h tk ys m' hp' F N h1 h2 h3 h4 h5 hC => ?_) hclos hcell hkind hnames hxa hxb hab hs) (fun _ s' hq => wpAny_pure (wpAny_pure hq)) fun _ _ e => e)
  show wpAny _ A (assign (.Name y py) env (.ref D)) _ _ _
  refine wpAny_assign_Name (wpAny_storeName_local hy (hL ▸ F.ns) (fun h₂ hn₂ hs₂ => ?_) hp)
  rw [hL] at hn₂ hs₂
  refine ⟨m', hC.sameBut hs₂ h4, fun h₃ hs₃ => ?_⟩
  have L0 : h₀.get? L = none := kts_self F
  have F₂ : Fr h₀ L h₂ (mp (put y (.ref D) l)) := fr_cg ⟨hn₂, fun b o e => hs₂.extBut b o (fun h => by rw [h, L0] at e; cases e) (F.keep b o e), F.above⟩ fun z => (mp_put y (.ref D) l z).symm
  refine fin D h₃ _ ys hp' (F₂.change hs₃ h4 h5) (fun q hq => ⟨hs₃.extBut _ _ ?_ (hs₂.extBut _ _ (N q hq).2.1 (N q hq).1), (N q hq).2⟩) h1
  rcases mem_c hq with rfl | hq
  · exact h3
  · exact h2 q hq
end

end
section

theorem or_lo {a b : Int} (n : Nat) (ha : 0 ≤ a) (hb : 0 ≤ b) (hb2 : b < 2 ^ n) : Builtin.bitOr (a * 2 ^ n) b = a * 2 ^ n + b := by
  have h0 : Builtin.bitAnd (a * 2 ^ n) b = 0 := by
    have hp : (0 : Int) ≤ a * 2 ^ n := Int.mul_nonneg ha (Int.le_of_lt (Int.pow_pos (by decide)))
    rw [bitAnd_pp hp hb]
    have e : (a * 2 ^ n).toNat = a.toNat <<< n := by
      rw [Nat.shiftLeft_eq]
      obtain ⟨m, rfl⟩ := Int.eq_ofNat_of_zero_le ha
      have h2 : (m : Int) * 2 ^ n = ((m * 2 ^ n : Nat) : Int) := by push_cast; rfl
      rw [h2, Int.toNat_natCast, Int.toNat_natCast]
    have hb3 : b.toNat < 2 ^ n := by
      have : (b.toNat : Int) < ((2 ^ n : Nat) : Int) := by push_cast; omega
      omega
    have hd : a.toNat <<< n &&& b.toNat = 0 := by
      apply Nat.eq_of_testBit_eq
      intro i
      rw [Nat.testBit_and, Nat.testBit_shiftLeft, Nat.zero_testBit]
      by_cases hi : n ≤ i
      · have : b.toNat.testBit i = false := Nat.testBit_lt_two_pow (Nat.lt_of_lt_of_le hb3 (Nat.pow_le_pow_right (by decide) hi))
        rw [this, Bool.and_false]
      · simp [hi]
    rw [e, hd]; rfl
  rw [bitOr_and, h0]; omega
theorem and_comm' (x y : Int) : Builtin.bitAnd x y = Builtin.bitAnd y x := bitAnd_comm x y
theorem or_hi {a b : Int} (n : Nat) (ha : 0 ≤ a) (hb : 0 ≤ b) (hb2 : b < 2 ^ n) : Builtin.bitOr b (a * 2 ^ n) = a * 2 ^ n + b := by
  rw [← or_lo n ha hb hb2, bitOr_and, bitOr_and, bitAnd_comm]; omega

/-- plain forms -/
noncomputable def cL (v1 v2 v3 : Int) : List Int := [v1 % 64, (v2 % 16) * 4 + v1 / 64, (v3 % 4) * 16 + v2 / 16, v3 / 4]
noncomputable def cB (v1 v2 v3 : Int) : List Int := [v1 / 4, (v1 % 4) * 16 + v2 / 16, (v2 % 16) * 4 + v3 / 64, v3 % 64]
noncomputable def dL (v1 v2 v3 v4 : Int) : List Int := [(v2 % 4) * 64 + v1, (v3 % 16) * 16 + v2 / 4, v4 * 4 + v3 / 16]
noncomputable def dB (v1 v2 v3 v4 : Int) : List Int := [v1 * 4 + v2 / 16, (v2 % 16) * 16 + v3 / 4, (v3 % 4) * 64 + v4]
noncomputable def c3 (big : Bool) (v1 v2 v3 : Int) : List Int := if big then cB v1 v2 v3 else cL v1 v2 v3
noncomputable def d4 (big : Bool) (v1 v2 v3 v4 : Int) : List Int := if big then dB v1 v2 v3 v4 else dL v1 v2 v3 v4
noncomputable def enc (big : Bool) : List Int → List Int
  | v1 :: v2 :: v3 :: r => c3 big v1 v2 v3 ++ enc big r
  | [v1, v2] => (c3 big v1 v2 0).take 3
  | [v1] => (c3 big v1 0 0).take 2
  | [] => []
noncomputable def dec (big : Bool) : List Int → List Int
  | v1 :: v2 :: v3 :: v4 :: r => d4 big v1 v2 v3 v4 ++ dec big r
  | [v1, v2, v3] => (d4 big v1 v2 v3 0).take 2
  | [v1, v2] => (d4 big v1 v2 0 0).take 1
  | _ => []

theorem fd (v : Int) (n : Nat) : v.fdiv (2 ^ n) = v / 2 ^ n := Int.fdiv_eq_ediv_of_nonneg _ (Int.le_of_lt (Int.pow_pos (by decide)))

theorem encL_eq : ∀ ks : List Int, (∀ k ∈ ks, 0 ≤ k ∧ k < 256) → encL ks = enc false ks
  | [], _ => rfl
  | [v1], h => by
    have b1 := h v1 (.head _)
    simp only [encL, enc, c3, cL, Bool.false_eq_true, if_false, bitAnd_m6, fd, List.take]
    congr 2; omega
  | [v1, v2], h => by
    have b1 := h v1 (.head _)
    have b2 := h v2 (.tail _ (.head _))
    simp only [encL, enc, c3, cL, Bool.false_eq_true, if_false, bitAnd_m6, bitAnd_m4, fd, List.take]
    rw [or_lo 2 (by omega) (by omega) (by omega)]
    congr 2 <;> (try congr 1) <;> (try congr 1) <;> omega
  | v1 :: v2 :: v3 :: r, h => by
    have b1 := h v1 (.head _)
    have b2 := h v2 (.tail _ (.head _))
    have b3 := h v3 (.tail _ (.tail _ (.head _)))
    have ih := encL_eq r fun k hk => h k (.tail _ (.tail _ (.tail _ hk)))
    simp only [encL, enc, c3, cL, Bool.false_eq_true, if_false, bitAnd_m6, bitAnd_m4, bitAnd_m2, fd]
    rw [or_lo 2 (by omega) (by omega) (by omega), or_lo 4 (by omega) (by omega) (by omega), ih]
    rfl
theorem encB_eq : ∀ ks : List Int, (∀ k ∈ ks, 0 ≤ k ∧ k < 256) → encB ks = enc true ks
  | [], _ => rfl
  | [v1], h => by
    have b1 := h v1 (.head _)
    simp only [encB, enc, c3, cB, if_true, bitAnd_m2, fd, List.take]
    congr 2; omega
  | [v1, v2], h => by
    have b1 := h v1 (.head _)
    have b2 := h v2 (.tail _ (.head _))
    simp only [encB, enc, c3, cB, if_true, bitAnd_m2, bitAnd_m4, fd, List.take]
    rw [or_lo 4 (by omega) (by omega) (by omega)]
    congr 3; omega
  | v1 :: v2 :: v3 :: r, h => by
    have b1 := h v1 (.head _)
    have b2 := h v2 (.tail _ (.head _))
    have b3 := h v3 (.tail _ (.tail _ (.head _)))
    have ih := encB_eq r fun k hk => h k (.tail _ (.tail _ (.tail _ hk)))
    simp only [encB, enc, c3, cB, if_true, bitAnd_m6, bitAnd_m4, bitAnd_m2, fd]
    rw [or_lo 2 (by omega) (by omega) (by omega), or_lo 4 (by omega) (by omega) (by omega), ih]
    rfl
theorem decL_eq : ∀ ks : List Int, (∀ k ∈ ks, 0 ≤ k ∧ k < 64) → decL ks = dec false ks
  | [], _ => rfl
  | [_], _ => rfl
  | [v1, v2], h => by
    have b1 := h v1 (.head _)
    have b2 := h v2 (.tail _ (.head _))
    simp only [decL, dec, d4, dL, Bool.false_eq_true, if_false, bitAnd_m2, fd, List.take]
    rw [or_hi 6 (by omega) (by omega) (by omega)]; rfl
  | [v1, v2, v3], h => by
    have b1 := h v1 (.head _)
    have b2 := h v2 (.tail _ (.head _))
    have b3 := h v3 (.tail _ (.tail _ (.head _)))
    simp only [decL, dec, d4, dL, Bool.false_eq_true, if_false, bitAnd_m2, bitAnd_m4, fd, List.take]
    rw [or_hi 6 (by omega) (by omega) (by omega), or_hi 4 (by omega) (by omega) (by omega)]; rfl
  | v1 :: v2 :: v3 :: v4 :: r, h => by
    have b1 := h v1 (.head _)
    have b2 := h v2 (.tail _ (.head _))
    have b3 := h v3 (.tail _ (.tail _ (.head _)))
    have b4 := h v4 (.tail _ (.tail _ (.tail _ (.head _))))
    have ih := decL_eq r fun k hk => h k (.tail _ (.tail _ (.tail _ (.tail _ hk))))
    simp only [decL, dec, d4, dL, Bool.false_eq_true, if_false, bitAnd_m2, bitAnd_m4, fd]
    rw [or_hi 6 (by omega) (by omega) (by omega), or_hi 4 (by omega) (by omega) (by omega), or_hi 2 (by omega) (by omega) (by omega), ih]; rfl
theorem decB_eq : ∀ ks : List Int, (∀ k ∈ ks, 0 ≤ k ∧ k < 64) → decB ks = dec true ks
  | [], _ => rfl
  | [_], _ => rfl
  | [v1, v2], h => by
    have b1 := h v1 (.head _)
    have b2 := h v2 (.tail _ (.head _))
    simp only [decB, dec, d4, dB, if_true, fd, List.take]
    rw [or_lo 2 (by omega) (by omega) (by omega)]; rfl
  | [v1, v2, v3], h => by
    have b1 := h v1 (.head _)
    have b2 := h v2 (.tail _ (.head _))
    have b3 := h v3 (.tail _ (.tail _ (.head _)))
    simp only [decB, dec, d4, dB, if_true, bitAnd_m4, fd, List.take]
    rw [or_lo 2 (by omega) (by omega) (by omega), or_lo 4 (by omega) (by omega) (by omega)]; rfl
  | v1 :: v2 :: v3 :: v4 :: r, h => by
    have b1 := h v1 (.head _)
    have b2 := h v2 (.tail _ (.head _))
    have b3 := h v3 (.tail _ (.tail _ (.head _)))
    have b4 := h v4 (.tail _ (.tail _ (.tail _ (.head _))))
    have ih := decB_eq r fun k hk => h k (.tail _ (.tail _ (.tail _ (.tail _ hk))))
    simp only [decB, dec, d4, dB, if_true, bitAnd_m2, bitAnd_m4, fd]
    rw [or_lo 2 (by omega) (by omega) (by omega), or_lo 4 (by omega) (by omega) (by omega), or_lo 6 (by omega) (by omega) (by omega), ih]; rfl

theorem enc_big (big : Bool) (ks : List Int) (h : ∀ k ∈ ks, 0 ≤ k ∧ k < 256) : (if big then encB else encL) ks = enc big ks := by
  cases big
  · exact encL_eq ks h
  · exact encB_eq ks h
theorem dec_big (big : Bool) (ks : List Int) (h : ∀ k ∈ ks, 0 ≤ k ∧ k < 64) : (if big then decB else decL) ks = dec big ks := by
  cases big
  · exact decL_eq ks h
  · exact decB_eq ks h

theorem pm {x n a : Int} (h : 0 ≤ a ∧ a < n) : (x * n + a) % n = a := by
  rw [Int.add_comm, Int.add_mul_emod_self_right]
  exact Int.emod_eq_of_lt h.1 h.2
theorem pd {x n a : Int} (h : 0 ≤ a ∧ a < n) : (x * n + a) / n = x := by
  rw [Int.add_comm, Int.add_mul_ediv_right _ _ (Int.ne_of_gt (Int.lt_of_le_of_lt h.1 h.2)), Int.ediv_eq_zero_of_lt h.1 h.2, Int.zero_add]
theorem bdv {v : Int} (n : Int) {m : Int} (hm : 0 < m) (h0 : 0 ≤ v) (h : v < n * m) : 0 ≤ v / m ∧ v / m < n := ⟨Int.ediv_nonneg h0 (Int.le_of_lt hm), Int.ediv_lt_of_lt_mul hm h⟩
theorem dvm (v m : Int) : v / m * m + v % m = v := Int.ediv_mul_add_emod v m
theorem qA1 {v : Int} (x : Int) (h : 0 ≤ v ∧ v < 256) : (x * 4 + v / 64) % 4 * 64 + v % 64 = v := by rw [pm (bdv 4 (by decide) h.1 h.2), dvm]
theorem qA2 {v y : Int} (x : Int) (h : 0 ≤ v ∧ v < 256) (hy : 0 ≤ y ∧ y < 4) : (x * 16 + v / 16) % 16 * 16 + (v % 16 * 4 + y) / 4 = v := by rw [pm (bdv 16 (by decide) h.1 h.2), pd hy, dvm]
theorem qA3 {v y : Int} (hy : 0 ≤ y ∧ y < 16) : v / 4 * 4 + (v % 4 * 16 + y) / 16 = v := by rw [pd hy, dvm]
theorem qB2 {v y : Int} (x : Int) (h : 0 ≤ v ∧ v < 64) (hy : 0 ≤ y ∧ y < 64) : (x * 16 + v / 4) % 16 * 4 + (v % 4 * 64 + y) / 64 = v := by rw [pm (bdv 16 (by decide) h.1 h.2), pd hy, dvm]
theorem qB3 {v y : Int} (x : Int) (h : 0 ≤ v ∧ v < 64) (hy : 0 ≤ y ∧ y < 16) : (x * 4 + v / 16) % 4 * 16 + (v % 16 * 16 + y) / 16 = v := by rw [pm (bdv 4 (by decide) h.1 h.2), pd hy, dvm]
theorem cns {a b : Int} {l r : List Int} (h1 : a = b) (h2 : l = r) : a :: l = b :: r := by rw [h1, h2]

theorem dec_enc (big : Bool) : ∀ ks : List Int, (∀ k ∈ ks, 0 ≤ k ∧ k < 256) → dec big (enc big ks) = ks
  | [], _ => rfl
  | [v1], h => by
    have b1 := h v1 (.head _)
    cases big
    · exact cns (qA1 (0 % 16) b1) rfl
    · exact cns (qA3 (y := 0 / 16) (by decide)) rfl
  | [v1, v2], h => by
    have b1 := h v1 (.head _)
    have b2 := h v2 (.tail _ (.head _))
    cases big
    · exact cns (qA1 (v2 % 16) b1) (cns (qA2 (0 % 4) b2 (bdv 4 (by decide) b1.1 b1.2)) rfl)
    · exact cns (qA3 (bdv 16 (by decide) b2.1 b2.2)) (cns (qA2 (y := 0 / 64) (v1 % 4) b2 (by decide)) rfl)
  | v1 :: v2 :: v3 :: r, h => by
    have b1 := h v1 (.head _)
    have b2 := h v2 (.tail _ (.head _))
    have b3 := h v3 (.tail _ (.tail _ (.head _)))
    have ih := dec_enc big r fun k hk => h k (.tail _ (.tail _ (.tail _ hk)))
    cases big
    · exact cns (qA1 (v2 % 16) b1) (cns (qA2 (v3 % 4) b2 (bdv 4 (by decide) b1.1 b1.2)) (cns (qA3 (bdv 16 (by decide) b2.1 b2.2)) ih))
    · exact cns (qA3 (bdv 16 (by decide) b2.1 b2.2)) (cns (qA2 (v1 % 4) b2 (bdv 4 (by decide) b3.1 b3.2)) (cns (qA1 (v2 % 16) b3) ih))

theorem enc_len (big : Bool) : ∀ ks : List Int, (enc big ks).length % 4 ≠ 1 ∧ (enc big ks).length ≤ 2 * ks.length
  | [] => ⟨(by decide : 0 % 4 ≠ 1), Nat.le_refl 0⟩
  | [_] => by cases big <;> exact ⟨(by decide : 2 % 4 ≠ 1), (by decide : 2 ≤ 2 * 1)⟩
  | [_, _] => by cases big <;> exact ⟨(by decide : 3 % 4 ≠ 1), (by decide : 3 ≤ 2 * 2)⟩
  | _ :: _ :: _ :: r => by
    have h := enc_len big r
    have e : ∀ n : Nat, (n + 1 + 1 + 1 + 1) % 4 = n % 4 := fun n => Nat.add_mod_right n 4
    have l : ∀ n m : Nat, n ≤ 2 * m → n + 1 + 1 + 1 + 1 ≤ 2 * (m + 1 + 1 + 1) := fun n m h => by omega
    cases big
    · exact ⟨e (enc false r).length ▸ h.1, l _ _ h.2⟩
    · exact ⟨e (enc true r).length ▸ h.1, l _ _ h.2⟩
theorem dec_len (big : Bool) : ∀ ks : List Int, (dec big ks).length ≤ ks.length
  | [] => Nat.le_refl 0
  | [_] => (by decide : 0 ≤ 1)
  | [_, _] => by cases big <;> exact (by decide : 1 ≤ 2)
  | [_, _, _] => by cases big <;> exact (by decide : 2 ≤ 3)
  | _ :: _ :: _ :: _ :: r => by
    have h := dec_len big r
    cases big <;> exact Nat.le_succ_of_le (Nat.succ_le_succ (Nat.succ_le_succ (Nat.succ_le_succ h)))
theorem enc_bd (big : Bool) (ks : List Int) (h : ∀ k ∈ ks, 0 ≤ k ∧ k < 256) : ∀ x ∈ enc big ks, 0 ≤ x ∧ x < 64 := by
  cases big
  · rw [← encL_eq ks h]; exact encL_bd ks h
  · rw [← encB_eq ks h]; exact encB_bd ks h
theorem dec_bd (big : Bool) (ks : List Int) (h : ∀ k ∈ ks, 0 ≤ k ∧ k < 64) : ∀ x ∈ dec big ks, 0 ≤ x ∧ x < 256 := by
  cases big
  · rw [← decL_eq ks h]; exact decL_bd ks h
  · rw [← decB_eq ks h]; exact decB_bd ks h

/-- the bits of the last six that no octet needs -/
noncomputable def padBits (big : Bool) (tail : Nat) : Int := if tail = 2 then (if big then 15 else 60) else (if big then 3 else 48)
/-- a six with those bits gone -/
noncomputable def cut (big : Bool) (tail : Nat) (k : Int) : Int := if big then (if tail = 2 then k / 16 * 16 else k / 4 * 4) else (if tail = 2 then k % 4 else k % 16)
/-- a row of sixes, mended at its end -/
noncomputable def mend (big : Bool) (ks : List Int) : List Int := if ks.length % 4 = 0 then ks else ks.dropLast ++ [cut big (ks.length % 4) (ks.getLastD 0)]

theorem enc_dec (big : Bool) : ∀ ks : List Int, (∀ k ∈ ks, 0 ≤ k ∧ k < 64) → ks.length % 4 ≠ 1 → enc big (dec big ks) = mend big ks
  | [], _, _ => rfl
  | [v1], _, h => absurd rfl h
  | [v1, v2], h, _ => by
    have b1 := h v1 (.head _)
    have b2 := h v2 (.tail _ (.head _))
    cases big
    · exact cns (pm b1) (cns ((Int.zero_add _).trans (pd b1)) rfl)
    · exact cns (pd (bdv 4 (by decide) b2.1 b2.2)) (cns ((Int.add_zero _).trans (congrArg (· * 16) (pm (bdv 4 (by decide) b2.1 b2.2)))) rfl)
  | [v1, v2, v3], h, _ => by
    have b1 := h v1 (.head _)
    have b2 := h v2 (.tail _ (.head _))
    have b3 := h v3 (.tail _ (.tail _ (.head _)))
    cases big
    · exact cns (pm b1) (cns (qB2 (v3 % 16) b2 b1) (cns ((Int.zero_add _).trans (pd (bdv 16 (by decide) b2.1 b2.2))) rfl))
    · exact cns (pd (bdv 4 (by decide) b2.1 b2.2)) (cns (qB3 v1 b2 (bdv 16 (by decide) b3.1 b3.2)) (cns ((Int.add_zero _).trans (congrArg (· * 4) (pm (bdv 16 (by decide) b3.1 b3.2)))) rfl))
  | v1 :: v2 :: v3 :: v4 :: r, h, hl => by
    have b1 := h v1 (.head _)
    have b2 := h v2 (.tail _ (.head _))
    have b3 := h v3 (.tail _ (.tail _ (.head _)))
    have b4 := h v4 (.tail _ (.tail _ (.tail _ (.head _))))
    have e : (v1 :: v2 :: v3 :: v4 :: r).length % 4 = r.length % 4 := Nat.add_mod_right r.length 4
    have ih := enc_dec big r (fun k hk => h k (.tail _ (.tail _ (.tail _ (.tail _ hk))))) (e ▸ hl)
    have hm : mend big (v1 :: v2 :: v3 :: v4 :: r) = v1 :: v2 :: v3 :: v4 :: mend big r := by
      unfold mend
      rw [e]
      by_cases h0 : r.length % 4 = 0
      · rw [if_pos h0, if_pos h0]
      · rw [if_neg h0, if_neg h0]
        cases r with
        | nil => exact absurd rfl h0
        | cons a t => rfl
    rw [hm, ← ih]
    cases big
    · exact cns (pm b1) (cns (qB2 (v3 % 16) b2 b1) (cns (qB3 v4 b3 (bdv 16 (by decide) b2.1 b2.2)) (cns (pd (bdv 4 (by decide) b3.1 b3.2)) rfl)))
    · exact cns (pd (bdv 4 (by decide) b2.1 b2.2)) (cns (qB3 v1 b2 (bdv 16 (by decide) b3.1 b3.2)) (cns (qB2 (v2 % 16) b3 b4) (cns (pm b4) rfl)))


theorem bits_cons (n : Nat) (big : Bool) (v : Int) (r : List Int) : bitsOf n big (v :: r) = (if big then (rowOf n v).reverse else rowOf n v) ++ bitsOf n big r := rfl
theorem padRow_app {n q : Nat} {a b : List Int} (ha : a.length = n * q) {i : Nat} (hi : i < q) : padRow n (a ++ b) i = padRow n a i := by
  have h1 : i * n + n ≤ a.length := by
    rw [ha]
    calc i * n + n = (i + 1) * n := by rw [Nat.succ_mul]
      _ ≤ q * n := Nat.mul_le_mul_right n hi
      _ = n * q := Nat.mul_comm _ _
  have e : ((a ++ b).drop (i * n)).take n = (a.drop (i * n)).take n := by
    rw [List.drop_append_of_le_length (by omega), List.take_append_of_le_length (by rw [List.length_drop]; omega)]
  unfold padRow
  rw [e]
theorem padRow_app2 {n q : Nat} {a b : List Int} (ha : a.length = n * q) (i : Nat) : padRow n (a ++ b) (q + i) = padRow n b i := by
  have e : (a ++ b).drop ((q + i) * n) = b.drop (i * n) := by
    rw [Nat.add_mul, Nat.mul_comm q n, ← ha, ← List.drop_drop, List.drop_left]
  unfold padRow
  rw [e]
theorem vals_app {n q : Nat} (big : Bool) {a b : List Int} (hn : 0 < n) (ha : a.length = n * q) : valsOf n big (a ++ b) = valsOf n big a ++ valsOf n big b := by
  have h1 : ((a ++ b).length + n - 1) / n = q + (b.length + n - 1) / n := by
    rw [List.length_append, ha, show n * q + b.length + n - 1 = b.length + n - 1 + n * q by omega, Nat.add_mul_div_left _ _ hn, Nat.add_comm]
  have h2 : (a.length + n - 1) / n = q := by
    rw [ha, show n * q + n - 1 = n - 1 + n * q by omega, Nat.add_mul_div_left _ _ hn, Nat.div_eq_of_lt (by omega), Nat.zero_add]
  unfold valsOf
  rw [h1, h2, List.range_add, List.map_append, List.map_map]
  congr 1
  · refine List.map_congr_left fun i hi => ?_
    have hi := List.mem_range.mp hi
    unfold rowB
    rw [padRow_app ha hi]
  · refine List.map_congr_left fun i _ => ?_
    show valOf n (rowB n big (a ++ b) (q + i)) = _
    unfold rowB
    rw [padRow_app2 ha]
theorem vals_one {n : Nat} (big : Bool) {a : List Int} (hn : 0 < n) (ha : a.length = n) : valsOf n big a = [valOf n (if big then a.reverse else a)] := by
  unfold valsOf
  rw [show (a.length + n - 1) / n = 1 by rw [ha, show n + n - 1 = n - 1 + n * 1 by omega, Nat.add_mul_div_left _ _ hn, Nat.div_eq_of_lt (by omega)]]
  have : padRow n a 0 = a := by
    unfold padRow
    rw [Nat.zero_mul, List.drop_zero, ← ha, List.take_length, Nat.sub_self, List.replicate_zero, List.append_nil]
  show [valOf n (rowB n big a 0)] = _
  unfold rowB
  rw [this]
theorem vals_nil (n : Nat) (hn : 0 < n) (big : Bool) : valsOf n big [] = [] := by
  unfold valsOf
  rw [show (([] : List Int).length + n - 1) / n = 0 by rw [List.length_nil]; exact Nat.div_eq_of_lt (by omega)]
  rfl
/-- bits of a value from a place on, summed up again -/
noncomputable def sm (v : Int) : Int → Nat → Int
  | _, 0 => 0
  | d, n + 1 => v / d % 2 + 2 * sm v (d * 2) n
theorem mod_two_mul (x m : Int) (hm : 0 < m) : x % 2 + 2 * (x / 2 % m) = x % (2 * m) := by
  have h1 := Int.emod_add_mul_ediv x 2
  have h2 := Int.emod_add_mul_ediv (x / 2) m
  have h3 : 2 * m * (x / 2 / m) = 2 * (m * (x / 2 / m)) := Int.mul_assoc ..
  have a1 := Int.emod_nonneg x (show (2 : Int) ≠ 0 by decide)
  have a2 := Int.emod_lt_of_pos x (show (0 : Int) < 2 by decide)
  have b1 := Int.emod_nonneg (x / 2) (Int.ne_of_gt hm)
  have b2 := Int.emod_lt_of_pos (x / 2) hm
  generalize m * (x / 2 / m) = t at h2 h3
  generalize x / 2 % m = r at *
  generalize x % 2 = q at *
  generalize x / 2 = y at *
  have e : x = (q + 2 * r) + 2 * m * (y / m) := by rw [h3]; omega
  rw [e, Int.add_mul_emod_self_left]
  exact (Int.emod_eq_of_lt (by omega) (by omega)).symm
theorem sm_eq (v : Int) : ∀ (n : Nat) (d : Int), 0 < d → sm v d n = v / d % 2 ^ n
  | 0, d, _ => (Int.emod_one _).symm
  | n + 1, d, h => by
    show v / d % 2 + 2 * sm v (d * 2) n = _
    rw [sm_eq v n (d * 2) (by omega), ← Int.ediv_ediv_of_nonneg (Int.le_of_lt h), mod_two_mul _ _ (Int.pow_pos (by decide)), Int.pow_succ, Int.mul_comm]
theorem val6 (a b c d e f : Int) : valOf 6 [a, b, c, d, e, f] = a + 2 * (b + 2 * (c + 2 * (d + 2 * (e + 2 * (f + 2 * 0))))) := by
  show a * 1 + (b * 2 + (c * 4 + (d * 8 + (e * 16 + (f * 32 + 0))))) = _
  omega
theorem val8 (a b c d e f g h : Int) : valOf 8 [a, b, c, d, e, f, g, h] = a + 2 * (b + 2 * (c + 2 * (d + 2 * (e + 2 * (f + 2 * (g + 2 * (h + 2 * 0))))))) := by
  show a * 1 + (b * 2 + (c * 4 + (d * 8 + (e * 16 + (f * 32 + (g * 64 + (h * 128 + 0))))))) = _
  omega
theorem c2 (a b z : Int) : a + 2 * (b + 2 * z) = (a + 2 * (b + 2 * 0)) + 4 * z := by omega
theorem c4 (a b c d z : Int) : a + 2 * (b + 2 * (c + 2 * (d + 2 * z))) = (a + 2 * (b + 2 * (c + 2 * (d + 2 * 0)))) + 16 * z := by omega
theorem c6 (a b c d e f z : Int) : a + 2 * (b + 2 * (c + 2 * (d + 2 * (e + 2 * (f + 2 * z))))) = (a + 2 * (b + 2 * (c + 2 * (d + 2 * (e + 2 * (f + 2 * 0)))))) + 64 * z := by rw [c4, c2 e f z, c4 a b c d]; omega
theorem sm_lo (v : Int) (n : Nat) : sm v 1 n = v % 2 ^ n := by rw [sm_eq v n 1 (by decide), Int.ediv_one]
theorem sm_hi {v : Int} (n : Nat) {d : Int} (hd : 0 < d) (h0 : 0 ≤ v) (h1 : v < 2 ^ n * d) : sm v d n = v / d := by
  rw [sm_eq v n d hd]
  exact Int.emod_eq_of_lt (Int.ediv_nonneg h0 (Int.le_of_lt hd)) (Int.ediv_lt_of_lt_mul hd h1)
theorem m6_0 (v : Int) : valOf 6 [v / 1 % 2, v / 2 % 2, v / 4 % 2, v / 8 % 2, v / 16 % 2, v / 32 % 2] = v % 64 := (val6 ..).trans (sm_lo v 6)
theorem m6_62 {v : Int} (y : Int) (h : 0 ≤ v ∧ v < 256) : valOf 6 [v / 64 % 2, v / 128 % 2, y / 1 % 2, y / 2 % 2, y / 4 % 2, y / 8 % 2] = y % 16 * 4 + v / 64 := by
  rw [val6, c2]
  show sm v 64 2 + 4 * sm y 1 4 = _
  rw [sm_hi 2 (by decide) h.1 h.2, sm_lo, Int.add_comm, Int.mul_comm]; rfl
theorem m6_44 {v : Int} (y : Int) (h : 0 ≤ v ∧ v < 256) : valOf 6 [v / 16 % 2, v / 32 % 2, v / 64 % 2, v / 128 % 2, y / 1 % 2, y / 2 % 2] = y % 4 * 16 + v / 16 := by
  rw [val6, c4]
  show sm v 16 4 + 16 * sm y 1 2 = _
  rw [sm_hi 4 (by decide) h.1 h.2, sm_lo, Int.add_comm, Int.mul_comm]; rfl
theorem m6_26 {v : Int} (h : 0 ≤ v ∧ v < 256) : valOf 6 [v / 4 % 2, v / 8 % 2, v / 16 % 2, v / 32 % 2, v / 64 % 2, v / 128 % 2] = v / 4 := (val6 ..).trans (sm_hi (d := 4) 6 (by decide) h.1 h.2)
theorem n62 {v : Int} (y : Int) (h : 0 ≤ v ∧ v < 64) : valOf 8 [v / 1 % 2, v / 2 % 2, v / 4 % 2, v / 8 % 2, v / 16 % 2, v / 32 % 2, y / 1 % 2, y / 2 % 2] = y % 4 * 64 + v := by
  rw [val8, c6]
  show sm v 1 6 + 64 * sm y 1 2 = _
  rw [sm_hi 6 (by decide) h.1 h.2, sm_lo, Int.ediv_one, Int.add_comm, Int.mul_comm]; rfl
theorem n44 {v : Int} (y : Int) (h : 0 ≤ v ∧ v < 64) : valOf 8 [v / 4 % 2, v / 8 % 2, v / 16 % 2, v / 32 % 2, y / 1 % 2, y / 2 % 2, y / 4 % 2, y / 8 % 2] = y % 16 * 16 + v / 4 := by
  rw [val8, c4]
  show sm v 4 4 + 16 * sm y 1 4 = _
  rw [sm_hi 4 (by decide) h.1 h.2, sm_lo, Int.add_comm, Int.mul_comm]; rfl
theorem n26 {v y : Int} (h : 0 ≤ v ∧ v < 64) (hy : 0 ≤ y ∧ y < 64) : valOf 8 [v / 16 % 2, v / 32 % 2, y / 1 % 2, y / 2 % 2, y / 4 % 2, y / 8 % 2, y / 16 % 2, y / 32 % 2] = y * 4 + v / 16 := by
  rw [val8, c2]
  show sm v 16 2 + 4 * sm y 1 6 = _
  rw [sm_hi 2 (by decide) h.1 h.2, sm_hi 6 (by decide) hy.1 hy.2, Int.ediv_one, Int.add_comm, Int.mul_comm]
theorem row8 (v : Int) : rowOf 8 v = [v / 1 % 2, v / 2 % 2, v / 4 % 2, v / 8 % 2, v / 16 % 2, v / 32 % 2, v / 64 % 2, v / 128 % 2] := rfl
theorem row6 (v : Int) : rowOf 6 v = [v / 1 % 2, v / 2 % 2, v / 4 % 2, v / 8 % 2, v / 16 % 2, v / 32 % 2] := rfl
theorem vals6_cons (big : Bool) (a b c d e f : Int) (r : List Int) : valsOf 6 big (a :: b :: c :: d :: e :: f :: r) = (if big then valOf 6 [f, e, d, c, b, a] else valOf 6 [a, b, c, d, e, f]) :: valsOf 6 big r := by
  rw [show a :: b :: c :: d :: e :: f :: r = [a, b, c, d, e, f] ++ r from rfl, vals_app (q := 1) big (by decide) rfl, vals_one (n := 6) big (by decide) rfl]
  cases big <;> rfl
theorem vals8_cons (big : Bool) (a b c d e f g h : Int) (r : List Int) : valsOf 8 big (a :: b :: c :: d :: e :: f :: g :: h :: r) = (if big then valOf 8 [h, g, f, e, d, c, b, a] else valOf 8 [a, b, c, d, e, f, g, h]) :: valsOf 8 big r := by
  rw [show a :: b :: c :: d :: e :: f :: g :: h :: r = [a, b, c, d, e, f, g, h] ++ r from rfl, vals_app (q := 1) big (by decide) rfl, vals_one (n := 8) big (by decide) rfl]
  cases big <;> rfl
theorem vals6_two (big : Bool) (a b : Int) : valsOf 6 big [a, b] = [if big then valOf 6 [0, 0, 0, 0, b, a] else valOf 6 [a, b, 0, 0, 0, 0]] := by
  unfold valsOf
  rw [show ([a, b].length + 6 - 1) / 6 = 1 from by simp]
  cases big <;> rfl
theorem vals6_four (big : Bool) (a b c d : Int) : valsOf 6 big [a, b, c, d] = [if big then valOf 6 [0, 0, d, c, b, a] else valOf 6 [a, b, c, d, 0, 0]] := by
  unfold valsOf
  rw [show ([a, b, c, d].length + 6 - 1) / 6 = 1 from by simp]
  cases big <;> rfl

theorem sixes_eq (big : Bool) : ∀ ks : List Int, (∀ k ∈ ks, 0 ≤ k ∧ k < 256) → valsOf 6 big (bitsOf 8 big ks) = enc big ks
  | [], _ => vals_nil 6 (by decide) big
  | [v1], h => by
    have b1 := h v1 (.head _)
    cases big
    · refine (vals6_cons false _ _ _ _ _ _ _).trans (cns (m6_0 v1) ?_)
      exact (vals6_two false _ _).trans (cns (m6_62 0 b1) rfl)
    · refine (vals6_cons true _ _ _ _ _ _ _).trans (cns (m6_26 b1) ?_)
      exact (vals6_two true _ _).trans (cns (m6_44 (v := 0) v1 (by decide)) rfl)
  | [v1, v2], h => by
    have b1 := h v1 (.head _)
    have b2 := h v2 (.tail _ (.head _))
    cases big
    · refine (vals6_cons false _ _ _ _ _ _ _).trans (cns (m6_0 v1) ?_)
      refine (vals6_cons false _ _ _ _ _ _ _).trans (cns (m6_62 v2 b1) ?_)
      exact (vals6_four false _ _ _ _).trans (cns (m6_44 0 b2) rfl)
    · refine (vals6_cons true _ _ _ _ _ _ _).trans (cns (m6_26 b1) ?_)
      refine (vals6_cons true _ _ _ _ _ _ _).trans (cns (m6_44 v1 b2) ?_)
      exact (vals6_four true _ _ _ _).trans (cns (m6_62 (v := 0) v2 (by decide)) rfl)
  | v1 :: v2 :: v3 :: r, h => by
    have b1 := h v1 (.head _)
    have b2 := h v2 (.tail _ (.head _))
    have b3 := h v3 (.tail _ (.tail _ (.head _)))
    have ih := sixes_eq big r fun k hk => h k (.tail _ (.tail _ (.tail _ hk)))
    cases big
    · refine (vals6_cons false _ _ _ _ _ _ _).trans (cns (m6_0 v1) ?_)
      refine (vals6_cons false _ _ _ _ _ _ _).trans (cns (m6_62 v2 b1) ?_)
      refine (vals6_cons false _ _ _ _ _ _ _).trans (cns (m6_44 v3 b2) ?_)
      exact (vals6_cons false _ _ _ _ _ _ _).trans (cns (m6_26 b3) ih)
    · refine (vals6_cons true _ _ _ _ _ _ _).trans (cns (m6_26 b1) ?_)
      refine (vals6_cons true _ _ _ _ _ _ _).trans (cns (m6_44 v1 b2) ?_)
      refine (vals6_cons true _ _ _ _ _ _ _).trans (cns (m6_62 v2 b3) ?_)
      exact (vals6_cons true _ _ _ _ _ _ _).trans (cns (m6_0 v3) ih)

/-- the whole octets of a row of sixes -/
theorem oct_cons (big : Bool) (v1 v2 v3 v4 : Int) (r : List Int) : octOf big (v1 :: v2 :: v3 :: v4 :: r) = valsOf 8 big (bitsOf 6 big [v1, v2, v3, v4]) ++ octOf big r := by
  unfold octOf
  have e : bitsOf 6 big (v1 :: v2 :: v3 :: v4 :: r) = bitsOf 6 big [v1, v2, v3, v4] ++ bitsOf 6 big r := by
    unfold bitsOf; rw [← List.flatMap_append]; rfl
  have l : (bitsOf 6 big [v1, v2, v3, v4]).length = 24 := bits_len ..
  rw [e, List.length_append, l, show (24 + (bitsOf 6 big r).length) / 8 * 8 = 24 + (bitsOf 6 big r).length / 8 * 8 by omega, ← l, List.take_length_add_append, vals_app (q := 3) big (by decide) l]

theorem octets_eq (big : Bool) : ∀ ks : List Int, (∀ k ∈ ks, 0 ≤ k ∧ k < 64) → octOf big ks = dec big ks
  | [], _ => by
    unfold octOf
    rw [bits_len, show 6 * ([] : List Int).length / 8 * 8 = 0 from by simp only [List.length_cons, List.length_nil]]
    exact vals_nil 8 (by decide) big
  | [v1], h => by
    unfold octOf
    rw [bits_len, show 6 * [v1].length / 8 * 8 = 0 from by simp only [List.length_cons, List.length_nil]]
    exact vals_nil 8 (by decide) big
  | [v1, v2], h => by
    have b1 := h v1 (.head _)
    have b2 := h v2 (.tail _ (.head _))
    unfold octOf
    rw [bits_len, show 6 * [v1, v2].length / 8 * 8 = 8 from by simp only [List.length_cons, List.length_nil]]
    cases big
    · exact (vals8_cons false _ _ _ _ _ _ _ _ []).trans (cns (n62 v2 b1) (vals_nil 8 (by decide) _))
    · exact (vals8_cons true _ _ _ _ _ _ _ _ []).trans (cns (n26 b2 b1) (vals_nil 8 (by decide) _))
  | [v1, v2, v3], h => by
    have b1 := h v1 (.head _)
    have b2 := h v2 (.tail _ (.head _))
    have b3 := h v3 (.tail _ (.tail _ (.head _)))
    unfold octOf
    rw [bits_len, show 6 * [v1, v2, v3].length / 8 * 8 = 16 from by simp only [List.length_cons, List.length_nil]]
    cases big
    · exact (vals8_cons false _ _ _ _ _ _ _ _ _).trans (cns (n62 v2 b1) ((vals8_cons false _ _ _ _ _ _ _ _ []).trans (cns (n44 v3 b2) (vals_nil 8 (by decide) _))))
    · exact (vals8_cons true _ _ _ _ _ _ _ _ _).trans (cns (n26 b2 b1) ((vals8_cons true _ _ _ _ _ _ _ _ []).trans (cns (n44 v2 b3) (vals_nil 8 (by decide) _))))
  | v1 :: v2 :: v3 :: v4 :: r, h => by
    have b1 := h v1 (.head _)
    have b2 := h v2 (.tail _ (.head _))
    have b3 := h v3 (.tail _ (.tail _ (.head _)))
    have b4 := h v4 (.tail _ (.tail _ (.tail _ (.head _))))
    have ih := octets_eq big r fun k hk => h k (.tail _ (.tail _ (.tail _ (.tail _ hk))))
    rw [oct_cons, ih]
    show _ = d4 big v1 v2 v3 v4 ++ dec big r
    refine congrArg (· ++ dec big r) ?_
    cases big
    · exact (vals8_cons false _ _ _ _ _ _ _ _ _).trans (cns (n62 v2 b1) ((vals8_cons false _ _ _ _ _ _ _ _ _).trans (cns (n44 v3 b2) ((vals8_cons false _ _ _ _ _ _ _ _ []).trans (cns (n26 b3 b4) (vals_nil 8 (by decide) _))))))
    · exact (vals8_cons true _ _ _ _ _ _ _ _ _).trans (cns (n26 b2 b1) ((vals8_cons true _ _ _ _ _ _ _ _ _).trans (cns (n44 v2 b3) ((vals8_cons true _ _ _ _ _ _ _ _ []).trans (cns (n62 v3 b4) (vals_nil 8 (by decide) _))))))


noncomputable def chars (bl : List UInt8) : Str := ⟨bl.toArray.map fun c => c.toNat⟩
theorem charmap85 {w : World} {mean mg mb G base outer d u dp un gd} {s : Shared} {R : Result → Shared → Prop} {e : Addr} {bl : List UInt8} {big : Bool}
    (C : Cx w mean mg mb G ⟨none, dp, some outer, gd, un⟩ base outer d u s.heap) (hd : 3 ≤ d) (he : Eng w s.heap e bl big)
    (hR : ∀ h' tk t, Kp s.heap h' → R (.ok (.ret (.str (chars bl) t))) { s with heap := h', toks := tk }) :
    codeAny (model PR w) ⟨none, dp, some outer, gd, un⟩ (.call (.ref 85) ⟨[.ref e], []⟩) R s := by
  obtain ⟨hlen, hnd, dx, h1, h2, h3, t1, t2, t3, tb, lk, n, f, he, hx, _⟩ := he
  have X0 := C.X
  revert X0
  delta PR
  k_fill
  intro X0
  refine enter C (by omega) (by k_is) (by k_is) (BindsTo.of_eq rfl) (locs rfl) ?_ rfl rfl rfl (by decide)
  intro L h₁ F N B X T
  clear X0
  dsimp only
  k_fold
  tb_rel
  cases bl with
  | nil => simp at hlen
  | cons c cs =>
    refine call_decode (by omega) fun t' k => ?_
    tb_rel
    exact hR _ _ _ F.keep

noncomputable def padT (bits : Int) (i : Nat) : Bool := decide (Builtin.bitAnd i bits = 0)
theorem Cx.in1 {w : World} {mean mg mb G dp un gd base outer d u} {h : Heap} (C : Cx w mean mg mb G ⟨none, dp, some outer, gd, un⟩ base outer d u h) (hu : 1 ≤ u) : Cx w mean mg mb G ⟨none, dp, some outer, gd, un + 1⟩ base outer d (u - 1) h :=
  ⟨⟨rfl, C.B.stays, C.B.frames⟩, C.S, C.le, rfl, C.hd, by have := C.hu; show un + 1 + (u - 1) < _; dsimp only at this; omega⟩

theorem iadd_V {prog : Program} {w : World} {A : Around} {E : Value → Shared → Prop} {s : Shared} {h₀ : Heap} {L l b : Addr} {m : Str → Option Value} {news : List (Addr × Obj)} {g : Obj → List (Addr × Obj)} {vs ws : List Value} {n n2 : Nat} {Q : Value → Shared → Prop}
    (F : Fr h₀ L s.heap m) (N : News h₀ L s.heap news) (U : UpdF l (W.listOf vs.toArray n) news g) (hb : (b, W.listOf ws.toArray n2) ∈ news) (hz : vs.length + ws.length ≤ 16777216)
    (h : ∀ h' n', Fr h₀ L h' m → News h₀ L h' (g (W.listOf (vs ++ ws).toArray n')) → Q (.ref l) { s with heap := h' }) : wpAny (model prog w) A (inplaceOp .Add (.ref l) (.ref b)) Q E s := by
  obtain ⟨pre, post, rfl, hg, h1, h2⟩ := U.split
  have hl := (N (l, W.listOf vs.toArray n) (List.mem_append_right _ (.head _))).1
  refine iadd_at hl (N _ hb).1 (by simp only [List.size_toArray]; omega) ?_
  obtain ⟨n', hn'⟩ : ∃ n', Obj.mapSeq (fun x => x ++ ws.toArray) (W.listOf vs.toArray n) = W.listOf (vs ++ ws).toArray n' := by
    refine ⟨if (vs.toArray ++ ws.toArray).size == vs.toArray.size then n else n + 1, ?_⟩
    have e : vs.toArray ++ ws.toArray = (vs ++ ws).toArray := List.append_toArray ..
    exact congrArg (fun a => (⟨.type "list", none, Data.seq a (if (vs.toArray ++ ws.toArray).size == vs.toArray.size then n else n + 1), #[]⟩ : Obj)) e
  have z := news_upd F N h1 h2 hn' rfl
  exact h _ n' z.1 (by rw [hg]; exact z.2)

theorem padset131 {w : World} {mean mg mb G base outer d u dp un gd} {s : Shared} {R : Result → Shared → Prop} {e : Addr} {bl : List UInt8} {big : Bool} {bits : Int} {tz : Tok}
    (C : Cx w mean mg mb G ⟨none, dp, some outer, gd, un⟩ base outer d u s.heap) (hd : 10 ≤ d) (hu : 60 ≤ u) (he : Eng w s.heap e bl big) (hb0 : 0 ≤ bits) (hb1 : bits < 64)
    (hR : ∀ h' tk l vs1 vs2 n, Kp s.heap h' → s.heap.get? l = none → h'.get? l = some { cls := .type "tuple", dict := none, data := .seq (vs1 ++ vs2).toArray n, slots := #[] } → Picked (BAt bl.toArray) (padT bits) 64 vs1 → Picked (SAt (chars bl)) (padT bits) 64 vs2 →
      R (.ok (.ret (.ref l))) { s with heap := h', toks := tk }) :
    codeAny (model PR w) ⟨none, dp, some outer, gd, un⟩ (.call (.ref 131) ⟨[.ref e, .int bits tz], []⟩) R s := by
  have he0 := he
  obtain ⟨hlen, hnd, dx, h1, h2, h3, t1, t2, t3, tb, lk, n, f, he, hx, _⟩ := he
  have X0 := C.X
  revert X0
  delta PR
  k_fill
  intro X0
  refine enterC C (by omega) (by k_is) (by k_is) (BindsTo.of_eq rfl) rfl (by decide +kernel) ?_ rfl rfl rfl
  intro L h₁ tk cells F N Y B X T
  clear X0
  k_cells Y
  rename_i o2 d2
  replace d2 : o2.data = .cell (some (.int bits tz)) := d2
  have F : Fr s.heap L h₁ (mp [(Str.ofString "self", some (.ref e))]) := F
  show wpAny _ _ _ _ _ _
  k_fold
  tb_rel
  refine comp_PA (n := 64) (P := BAt bl.toArray) (BAt bl.toArray) (padT bits) rfl (by omega) F N (fun Q' hQ' => ?it) (fun i x u oC C D m₂ h tk E' ys hi hP hC hxa hxb F N off ne => ?test) (fun i x u oC C D m₂ h tk E' ys hi hP hC hxa hxb F N off ne => ?body) (fun D h tk ys hp F N hlt => ?fin)
  case it =>
    tb_rel
    refine enum_bytes fun e h' k' src => ?_
    have hz : bl.toArray.size = 64 := by simpa using hlen
    rw [hz] at src
    exact hQ' _ _ _ (by first | exact k' | skip) src
  case test =>
    iterate 6 tb_start
    refine truthy_int (.mk ⟨?_, _, rfl⟩)
    unfold padT
    by_cases h0 : Builtin.bitAnd i bits = 0
    · simp [h0]
    · simp [h0]
  case body =>
    tb_rel
    exact .mk ⟨hP, _, rfl⟩
  case fin =>
    rename Fr _ _ _ _ => F2
    rename News _ _ _ _ => N2
    k_lt hlt
    iterate 3 tb_start
    refine comp_P (n := 64) (P := SAt (chars bl)) (SAt (chars bl)) (padT bits) rfl (by omega) F2 N2 (fun Q' hQ' => ?it2) (fun i x u oC C D m₂ h tk E' ys hi hP hC hxa hxb F N off ne => ?test2) (fun i x u oC C D m₂ h tk E' ys hi hP hC hxa hxb F N off ne => ?body2) (fun D2 h2 tk2 ys2 hp2 F3 N3 hlt2 => ?fin2)
    case it2 =>
      tb_rel
      refine' get_prop ?k1 ?k2 ?k3 ?k4 ?k5 ?k6 ?k7 ?k8 ?k9 ?_
      (case k1 => k_asm)
      (case k2 => k_asm)
      (case k3 => first | k_inst | fail "inst")
      (case k4 => k_is)
      (case k5 => k_is)
      (case k6 => k_is)
      (case k7 => k_is)
      (case k8 => k_is)
      (case k9 => k_is)
      refine charmap85 ((C.push F2 rfl rfl (by omega) (by omega)).in1 (by omega)) (by omega) (he0.keep F2.keep) fun h' tk' t' k' => ?_
      dsimp only
      refine handed_on rfl ?_
      tb_rel
      refine enum_str fun e h' k'' src => ?_
      have hz : (chars bl).cps.size = 64 := by simp [chars, hlen]
      rw [hz] at src
      obtain ⟨it, St, Mid, z1, z2, z3⟩ := src
      exact hQ' _ _ _ (fun b o q => k'' b o (k' b o q)) ⟨it, St, Mid, fun b o q => z1 b o (k' b o q), fun b o q => z2 b o (k' b o q), z3⟩
    case test2 =>
      iterate 6 tb_start
      refine truthy_int (.mk ⟨?_, _, rfl⟩)
      unfold padT
      by_cases h0 : Builtin.bitAnd i bits = 0
      · simp [h0]
      · simp [h0]
    case body2 =>
      tb_rel
      exact .mk ⟨hP, _, rfl⟩
    case fin2 =>
      k_lt hlt2
      have hl1 := hp.len
      have hl2 := hp2.len
      refine' iadd_V (vs := ys) (ws := ys2) F3 N3 ?U ?b ?z ?_
      (case U => k_updF)
      (case b => k_mem)
      (case z => omega)
      intro h4 n4 F4 N4
      tb_rel
      rename Fr _ _ _ _ => FZ
      rename News _ _ _ _ => NZ
      exact hR _ _ _ ys ys2 _ FZ.keep (NZ _ (.head _)).2.2 (NZ _ (.head _)).1 hp hp2

end
section

noncomputable abbrev tupO (vs : List Value) (n : Nat) : Obj := { cls := .type "tuple", dict := none, data := .seq vs.toArray n, slots := #[] }
theorem news_fresh {h₀ h h' : Heap} {L l : Addr} {m : Str → Option Value} {news : List (Addr × Obj)} {o : Obj} (F : Fr h₀ L h m) (N : News h₀ L h news) (k : Kp h h') (hs : h.get? l = none) (ho : h'.get? l = some o) : News h₀ L h' ((l, o) :: news) := fun p hp => by
  rcases mem_c hp with rfl | hp
  · refine ⟨ho, fun e => ?_, ?_⟩
    · obtain ⟨oL, _, _, hL, _⟩ := F.ns
      have e2 : l = L := e
      rw [← e2, hs] at hL; cases hL
    · cases q : h₀.get? l with
      | none => rfl
      | some o => rw [F.keep _ _ q] at hs; cases hs
  · exact ⟨k _ _ (N p hp).1, (N p hp).2⟩
theorem news_ne {h₀ h : Heap} {L l : Addr} {news : List (Addr × Obj)} (N : News h₀ L h news) (hs : h.get? l = none) : ∀ p ∈ news, @Ne Nat p.1 l := fun p hp e => by
  have := (N p hp).1
  rw [show p.1 = l from e, hs] at this; cases this

theorem padinfo2 {w : World} {mean mg mb G base outer d u dp un gd} {s : Shared} {R : Result → Shared → Prop} {e : Addr} {bl : List UInt8} {big : Bool}
    (C : Cx w mean mg mb G ⟨none, dp, some outer, gd, un⟩ base outer d u s.heap) (hd : 14 ≤ d) (hu : 90 ≤ u) (he : Eng w s.heap e bl big)
    (hR : ∀ h' tk T l vs1 vs2 n t n2, Kp s.heap h' → s.heap.get? T = none → s.heap.get? l = none → h'.get? T = some (tupO [.int (-padBits big 2 - 1) t, .ref l] n2) → h'.get? l = some (tupO (vs1 ++ vs2) n) → Picked (BAt bl.toArray) (padT (padBits big 2)) 64 vs1 → Picked (SAt (chars bl)) (padT (padBits big 2)) 64 vs2 →
      R (.ok (.ret (.ref T))) { s with heap := h', toks := tk }) :
    codeAny (model PR w) ⟨none, dp, some outer, gd, un⟩ (.call (.ref 138) ⟨[.ref e], []⟩) R s := by
  have he0 := he
  obtain ⟨hlen, hnd, dx, h1, h2, h3, t1, t2, t3, tb, lk, n, f, he, hx, _⟩ := he
  have X0 := C.X
  revert X0
  delta PR
  k_fill
  intro X0
  refine enter C (by omega) (by k_is) (by k_is) (BindsTo.of_eq rfl) (locs rfl) ?_ rfl rfl rfl (by decide)
  intro L h₁ F N B X T
  clear X0
  dsimp only
  k_fold
  tb_rel
  · rename (big = true) => hb
    rename Fr _ _ _ _ => F2
    rename News _ _ _ _ => N2
    refine wpAny_call ?_
    refine padset131 (bits := 15) (C.push F2 rfl rfl (by omega) (by omega)) (by omega) (by omega) (he0.keep F2.keep) (by decide) (by decide) fun h' tk' l vs1 vs2 n3 k3 hl3 ho3 hp1 hp2 => ?_
    have hne := news_ne N2 hl3
    have N3 := news_fresh F2 N2 k3 hl3 ho3
    have F3 := fr_kp F2 k3
    clear N2 F2
    tb_rel
    rename Fr _ _ _ _ => FZ
    rename News _ _ _ _ => NZ
    have z1 := NZ _ (.head _)
    have z2 := NZ _ (.tail _ (.head _))
    have e1 : padBits big 2 = 15 := by rw [hb]; rfl
    rw [e1] at hR
    exact hR _ _ _ _ vs1 vs2 _ _ _ FZ.keep z1.2.2 z2.2.2 z1.1 z2.1 hp1 hp2
  · rename (big = false) => hb
    iterate 3 tb_start
    refine lshift_int_small (by decide) (by decide) (by decide) ?_
    rw [show (15 : Int) * 2 ^ (2 : Int).toNat = 60 from rfl]
    tb_rel
    rename Fr _ _ _ _ => F2
    rename News _ _ _ _ => N2
    refine wpAny_call ?_
    refine padset131 (bits := 60) (C.push F2 rfl rfl (by omega) (by omega)) (by omega) (by omega) (he0.keep F2.keep) (by decide) (by decide) fun h' tk' l vs1 vs2 n3 k3 hl3 ho3 hp1 hp2 => ?_
    have hne := news_ne N2 hl3
    have N3 := news_fresh F2 N2 k3 hl3 ho3
    have F3 := fr_kp F2 k3
    clear N2 F2
    tb_rel
    rename Fr _ _ _ _ => FZ
    rename News _ _ _ _ => NZ
    have z1 := NZ _ (.head _)
    have z2 := NZ _ (.tail _ (.head _))
    have e1 : padBits big 2 = 60 := by rw [hb]; rfl
    rw [e1] at hR
    exact hR _ _ _ _ vs1 vs2 _ _ _ FZ.keep z1.2.2 z2.2.2 z1.1 z2.1 hp1 hp2

theorem padinfo3 {w : World} {mean mg mb G base outer d u dp un gd} {s : Shared} {R : Result → Shared → Prop} {e : Addr} {bl : List UInt8} {big : Bool}
    (C : Cx w mean mg mb G ⟨none, dp, some outer, gd, un⟩ base outer d u s.heap) (hd : 14 ≤ d) (hu : 90 ≤ u) (he : Eng w s.heap e bl big)
    (hR : ∀ h' tk T l vs1 vs2 n t n2, Kp s.heap h' → s.heap.get? T = none → s.heap.get? l = none → h'.get? T = some (tupO [.int (-padBits big 3 - 1) t, .ref l] n2) → h'.get? l = some (tupO (vs1 ++ vs2) n) → Picked (BAt bl.toArray) (padT (padBits big 3)) 64 vs1 → Picked (SAt (chars bl)) (padT (padBits big 3)) 64 vs2 →
      R (.ok (.ret (.ref T))) { s with heap := h', toks := tk }) :
    codeAny (model PR w) ⟨none, dp, some outer, gd, un⟩ (.call (.ref 146) ⟨[.ref e], []⟩) R s := by
  have he0 := he
  obtain ⟨hlen, hnd, dx, h1, h2, h3, t1, t2, t3, tb, lk, n, f, he, hx, _⟩ := he
  have X0 := C.X
  revert X0
  delta PR
  k_fill
  intro X0
  refine enter C (by omega) (by k_is) (by k_is) (BindsTo.of_eq rfl) (locs rfl) ?_ rfl rfl rfl (by decide)
  intro L h₁ F N B X T
  clear X0
  dsimp only
  k_fold
  tb_rel
  · rename (big = true) => hb
    rename Fr _ _ _ _ => F2
    rename News _ _ _ _ => N2
    refine wpAny_call ?_
    refine padset131 (bits := 3) (C.push F2 rfl rfl (by omega) (by omega)) (by omega) (by omega) (he0.keep F2.keep) (by decide) (by decide) fun h' tk' l vs1 vs2 n3 k3 hl3 ho3 hp1 hp2 => ?_
    have hne := news_ne N2 hl3
    have N3 := news_fresh F2 N2 k3 hl3 ho3
    have F3 := fr_kp F2 k3
    clear N2 F2
    tb_rel
    rename Fr _ _ _ _ => FZ
    rename News _ _ _ _ => NZ
    have z1 := NZ _ (.head _)
    have z2 := NZ _ (.tail _ (.head _))
    have e1 : padBits big 3 = 3 := by rw [hb]; rfl
    rw [e1] at hR
    exact hR _ _ _ _ vs1 vs2 _ _ _ FZ.keep z1.2.2 z2.2.2 z1.1 z2.1 hp1 hp2
  · rename (big = false) => hb
    iterate 3 tb_start
    refine lshift_int_small (by decide) (by decide) (by decide) ?_
    rw [show (3 : Int) * 2 ^ (4 : Int).toNat = 48 from rfl]
    tb_rel
    rename Fr _ _ _ _ => F2
    rename News _ _ _ _ => N2
    refine wpAny_call ?_
    refine padset131 (bits := 48) (C.push F2 rfl rfl (by omega) (by omega)) (by omega) (by omega) (he0.keep F2.keep) (by decide) (by decide) fun h' tk' l vs1 vs2 n3 k3 hl3 ho3 hp1 hp2 => ?_
    have hne := news_ne N2 hl3
    have N3 := news_fresh F2 N2 k3 hl3 ho3
    have F3 := fr_kp F2 k3
    clear N2 F2
    tb_rel
    rename Fr _ _ _ _ => FZ
    rename News _ _ _ _ => NZ
    have z1 := NZ _ (.head _)
    have z2 := NZ _ (.tail _ (.head _))
    have e1 : padBits big 3 = 48 := by rw [hb]; rfl
    rw [e1] at hR
    exact hR _ _ _ _ vs1 vs2 _ _ _ FZ.keep z1.2.2 z2.2.2 z1.1 z2.1 hp1 hp2

end
section

noncomputable def sg (bl : List UInt8) (k : Int) : Int := ((bl.getD k.toNat 0).toNat : Int)
 
theorem picked_mem {P : Nat → Value → Prop} {T : Nat → Bool} {n : Nat} {ys : List Value} {y : Value} (h : Picked P T n ys) (hy : y ∈ ys) : ∃ j, j < n ∧ T j = true ∧ P j y := by
  obtain ⟨f, rfl, hf⟩ := h
  obtain ⟨j, hj, rfl⟩ := List.mem_map.mp hy
  obtain ⟨h1, h2⟩ := List.mem_filter.mp hj
  exact ⟨j, List.mem_range.mp h1, h2, hf j (List.mem_range.mp h1) h2⟩
theorem tup_ne {x : Array UInt8} {y : Str} {T1 T2 : Nat → Bool} {vs1 vs2 : List Value} {h : Heap} {Tp lp : Addr} {v : Value} {n4 n3 : Nat} (hp1 : Picked (BAt x) T1 64 vs1) (hp2 : Picked (SAt y) T2 64 vs2) (e1 : h.get? Tp = some (tupO [v, .ref lp] n4)) (e2 : h.get? lp = some (tupO (vs1 ++ vs2) n3)) : @Ne Nat Tp lp := fun e => by
  rw [show Tp = lp from e, e2] at e1
  have e3 := congrArg Obj.data (Option.some.inj e1)
  injection e3 with e4
  have e5 : vs1 ++ vs2 = [v, .ref lp] := congrArg Array.toList e4
  have hm : Value.ref lp ∈ vs1 ++ vs2 := by rw [e5]; simp
  rcases List.mem_append.mp hm with hm | hm
  · obtain ⟨_, _, _, c, u, _, e⟩ := picked_mem hp1 hm; cases e
  · obtain ⟨_, _, _, c, u, _, e⟩ := picked_mem hp2 hm; cases e



theorem occ_stay (s sub : Str) (hi : Nat) : ∀ (l : List Nat) (st : Array Nat × Nat), 1 ≤ st.fst.size → (forIn l st (StrLaws.occBody s sub hi 1)).run.fst = st.fst
  | [], _, _ => rfl
  | a :: l, st, h => by
    rw [List.forIn_cons]
    unfold StrLaws.occBody
    rw [if_neg (fun hc => by have := hc.1.1.1; omega)]
    exact occ_stay s sub hi l (st.fst, st.snd) h
theorem occ_first (s sub : Str) (hi z : Nat) : ∀ (l : List Nat) (free : Nat), (∀ i ∈ l, free ≤ i) → (∀ i ∈ l, (i + sub.length ≤ hi ∧ Builtin.Str.subAt s sub i = true) ↔ i = z) → z ∈ l → (forIn l ((#[] : Array Nat), free) (StrLaws.occBody s sub hi 1)).run.fst = #[z]
  | [], _, _, _, h => by simp at h
  | a :: l, free, hf, hp, hz => by
    rw [List.forIn_cons]
    have ha : free ≤ a := hf a (List.mem_cons_self ..)
    by_cases haz : a = z
    · subst haz
      have hc := (hp a (List.mem_cons_self ..)).mpr rfl
      have := occ_stay s sub hi l (#[a], a + sub.length) (by simp)
      unfold StrLaws.occBody at this ⊢
      rw [if_pos ⟨⟨⟨by simp, ha⟩, hc.1⟩, hc.2⟩]
      exact this
    · have hc : ¬ (a + sub.length ≤ hi ∧ Builtin.Str.subAt s sub a = true) := fun h => haz ((hp a (List.mem_cons_self ..)).mp h)
      have ih := occ_first s sub hi z l free (fun i hi' => hf i (List.mem_cons_of_mem _ hi')) (fun i hi' => hp i (List.mem_cons_of_mem _ hi')) ((List.mem_cons.mp hz).resolve_left (Ne.symm haz))
      unfold StrLaws.occBody at ih ⊢
      rw [if_neg (fun h => hc ⟨h.1.2, h.2⟩)]
      exact ih
theorem occ_at {x : Str} {c z : Nat} (hz : x.cps.toList[z]? = some c) (hu : ∀ i, x.cps.toList[i]? = some c → i = z) : Builtin.Str.occurrences x ⟨#[c]⟩ 0 x.length 1 = [z] := by
  rw [StrLaws.occ_eq, occ_first x ⟨#[c]⟩ x.length z _ 0 (fun _ _ => Nat.zero_le _)]
  · intro i _
    rw [StrLaws.subAt_one]
    exact ⟨hu i, fun h => h ▸ hz⟩
  · have h1 := (StrLaws.subAt_one x c z).mpr hz
    have : (⟨#[c]⟩ : Str).length = 1 := rfl
    simp [List.mem_range']
    omega

noncomputable def one (bl : List UInt8) (z : Int) : Str := ⟨#[(sg bl z).toNat]⟩
theorem sg_at {bl : List UInt8} (hl : bl.length = 64) {z : Int} (h0 : 0 ≤ z) (h1 : z < 64) : ∃ c, bl[z.toNat]? = some c ∧ sg bl z = (c.toNat : Int) := by
  have hlt : z.toNat < bl.length := by omega
  refine ⟨bl[z.toNat], List.getElem?_eq_getElem hlt, ?_⟩
  unfold sg
  rw [List.getD_eq_getElem?_getD, List.getElem?_eq_getElem hlt]
  rfl
theorem chars_at (bl : List UInt8) (i : Nat) : (chars bl).cps.toList[i]? = (bl[i]?).map fun c => c.toNat := by
  unfold chars
  simp
theorem find_one {bl : List UInt8} (hl : bl.length = 64) (hnd : bl.Nodup) {z : Int} (h0 : 0 ≤ z) (h1 : z < 64) : Builtin.Str.occurrences (chars bl) (one bl z) 0 (chars bl).length 1 = [z.toNat] := by
  obtain ⟨c, hc, hs⟩ := sg_at hl h0 h1
  unfold one
  rw [hs, Int.toNat_natCast]
  refine occ_at (by rw [chars_at, hc]; rfl) fun i hi => ?_
  rw [chars_at] at hi
  obtain ⟨c', hc', e⟩ := Option.map_eq_some_iff.mp hi
  have : c' = c := UInt8.toNat_inj.mp e
  subst this
  obtain ⟨a1, a2⟩ := List.getElem?_eq_some_iff.mp hc
  obtain ⟨b1, b2⟩ := List.getElem?_eq_some_iff.mp hc'
  exact (List.getElem_inj hnd).mp (b2.trans a2.symm)

noncomputable def eI (k : Int) : Value → Bool | .int a _ => a == k | _ => false
noncomputable def eS (x : Str) : Value → Bool | .str a _ => a == x | _ => false
theorem picked_any {P : Nat → Value → Prop} {T : Nat → Bool} {n z : Nat} {ys : List Value} {e : Value → Bool} (h : Picked P T n ys) (hz : z < n) (he : ∀ j y, P j y → (e y = true ↔ j = z)) : ys.any e = T z := by
  obtain ⟨f, rfl, hf⟩ := h
  rw [Bool.eq_iff_iff, List.any_eq_true]
  constructor
  · rintro ⟨y, hy, hey⟩
    obtain ⟨j, hj, rfl⟩ := List.mem_map.mp hy
    obtain ⟨j1, j2⟩ := List.mem_filter.mp hj
    have := (he j _ (hf j (List.mem_range.mp j1) j2)).mp hey
    exact this ▸ j2
  · intro ht
    exact ⟨f z, List.mem_map.mpr ⟨z, List.mem_filter.mpr ⟨List.mem_range.mpr hz, ht⟩, rfl⟩, (he z _ (hf z hz ht)).mpr rfl⟩
theorem picked_none {P : Nat → Value → Prop} {T : Nat → Bool} {n : Nat} {ys : List Value} {e : Value → Bool} (h : Picked P T n ys) (he : ∀ j y, P j y → e y = false) : ys.any e = false := by
  rw [Bool.eq_false_iff]
  intro h2
  obtain ⟨y, hy, hey⟩ := List.any_eq_true.mp h2
  obtain ⟨j, _, _, hP⟩ := picked_mem h hy
  rw [he j y hP] at hey; cases hey
theorem uniq_at {bl : List UInt8} (hnd : bl.Nodup) {i j : Nat} {c c' : UInt8} (hi : bl[i]? = some c) (hj : bl[j]? = some c') (e : c.toNat = c'.toNat) : i = j := by
  have : c = c' := UInt8.toNat_inj.mp e
  subst this
  obtain ⟨a1, a2⟩ := List.getElem?_eq_some_iff.mp hi
  obtain ⟨b1, b2⟩ := List.getElem?_eq_some_iff.mp hj
  exact (List.getElem_inj hnd).mp (a2.trans b2.symm)

section
variable {bl : List UInt8} {T : Nat → Bool} {vs1 vs2 : List Value} {z : Int}
theorem any_int (hl : bl.length = 64) (hnd : bl.Nodup) (h0 : 0 ≤ z) (h1 : z < 64) (hp1 : Picked (BAt bl.toArray) T 64 vs1) (hp2 : Picked (SAt (chars bl)) T 64 vs2) : (vs1 ++ vs2).any (eI (sg bl z)) = T z.toNat := by
  obtain ⟨c, hc, hs⟩ := sg_at hl h0 h1
  rw [List.any_append, picked_any (z := z.toNat) hp1 (by omega), picked_none hp2, Bool.or_false]
  · rintro j y ⟨c, u, _, rfl⟩; rfl
  · rintro j y ⟨c', u, hc', rfl⟩
    have hc2 : bl[j]? = some c' := by simpa using hc'
    rw [hs]
    show (((c'.toNat : Int) == (c.toNat : Int)) = true) ↔ _
    rw [beq_iff_eq]
    constructor
    · intro e; exact uniq_at hnd hc2 hc (by omega)
    · rintro rfl; rw [hc] at hc2; cases hc2; rfl
theorem any_str (hl : bl.length = 64) (hnd : bl.Nodup) (h0 : 0 ≤ z) (h1 : z < 64) (hp1 : Picked (BAt bl.toArray) T 64 vs1) (hp2 : Picked (SAt (chars bl)) T 64 vs2) : (vs1 ++ vs2).any (eS (one bl z)) = T z.toNat := by
  obtain ⟨c, hc, hs⟩ := sg_at hl h0 h1
  rw [List.any_append, picked_any (z := z.toNat) hp2 (by omega), picked_none hp1, Bool.false_or]
  · rintro j y ⟨c, u, _, rfl⟩; rfl
  · rintro j y ⟨k, u, hk, rfl⟩
    have hk2 : (bl[j]?).map (fun c => c.toNat) = some k := by rw [← chars_at]; simpa using hk
    obtain ⟨c', hc', e⟩ := Option.map_eq_some_iff.mp hk2
    unfold one
    rw [hs, Int.toNat_natCast]
    show (((⟨#[k]⟩ : Str) == ⟨#[c.toNat]⟩) = true) ↔ _
    rw [beq_iff_eq]
    constructor
    · intro h
      have : k = c.toNat := by simpa using h
      exact uniq_at hnd hc' hc (e.trans this)
    · rintro rfl; rw [hc] at hc'; cases hc'; rw [e]

theorem in_pad_int {w : World} {A : Around} {E : Value → Shared → Prop} {s : Shared} {lp : Addr} {n3 : Nat} {u : Tok} {Q : Value → Shared → Prop} (hl : bl.length = 64) (hnd : bl.Nodup) (h0 : 0 ≤ z) (h1 : z < 64) (hp1 : Picked (BAt bl.toArray) T 64 vs1) (hp2 : Picked (SAt (chars bl)) T 64 vs2)
    (ho : s.heap.get? lp = some (tupO (vs1 ++ vs2) n3)) (h : Q (.bool (T z.toNat)) s) : wpAny (model PR w) A (compareOp .In (.int (sg bl z) u) (.ref lp)) Q E s := by
  refine SeqRoads2.in_tuple (eI (sg bl z)) (fun y hy => ?_) ho (by rw [List.any_toArray, any_int hl hnd h0 h1 hp1 hp2]; exact h)
  rcases List.mem_append.mp (by simpa using hy : y ∈ vs1 ++ vs2) with hm | hm
  · obtain ⟨_, _, _, c, u', _, rfl⟩ := picked_mem hp1 hm
    exact fun prog w A E s Q hq => SeqAt.EqAt.int_int _ _ _ _ prog w E Q hq
  · obtain ⟨_, _, _, c, u', _, rfl⟩ := picked_mem hp2 hm
    exact fun prog w A E s Q hq => SeqAt.EqAt.str_int _ _ _ _ prog w E Q hq
theorem in_pad_str {w : World} {A : Around} {E : Value → Shared → Prop} {s : Shared} {lp : Addr} {n3 : Nat} {u : Tok} {Q : Value → Shared → Prop} (hl : bl.length = 64) (hnd : bl.Nodup) (h0 : 0 ≤ z) (h1 : z < 64) (hp1 : Picked (BAt bl.toArray) T 64 vs1) (hp2 : Picked (SAt (chars bl)) T 64 vs2)
    (ho : s.heap.get? lp = some (tupO (vs1 ++ vs2) n3)) (h : Q (.bool (T z.toNat)) s) : wpAny (model PR w) A (compareOp .In (.str (one bl z) u) (.ref lp)) Q E s := by
  refine SeqRoads2.in_tuple (eS (one bl z)) (fun y hy => ?_) ho (by rw [List.any_toArray, any_str hl hnd h0 h1 hp1 hp2]; exact h)
  rcases List.mem_append.mp (by simpa using hy : y ∈ vs1 ++ vs2) with hm | hm
  · obtain ⟨_, _, _, c, u', _, rfl⟩ := picked_mem hp1 hm
    exact fun prog w A E s Q hq => SeqAt.EqAt.int_str _ _ _ _ prog w E Q hq
  · obtain ⟨_, _, _, c, u', _, rfl⟩ := picked_mem hp2 hm
    exact fun prog w A E s Q hq => SeqAt.EqAt.str_str _ _ _ _ prog w E Q hq
end

theorem cut_all : ∀ (big : Bool) (t : Nat), (t = 2 ∨ t = 3) → ∀ i : Nat, i < 64 → ((padT (padBits big t) i = true ↔ cut big t i = i) ∧ Builtin.bitAnd (i : Int) (-padBits big t - 1) = cut big t i ∧ 0 ≤ cut big t i ∧ cut big t i < 64 ∧ padT (padBits big t) (cut big t i).toNat = true) := by
  rintro big t (rfl | rfl)
  · cases big
    · decide +kernel
    · decide +kernel
  · cases big
    · decide +kernel
    · decide +kernel
theorem cut_z {big : Bool} {t : Nat} {z : Int} (ht : t = 2 ∨ t = 3) (h0 : 0 ≤ z) (h1 : z < 64) : (padT (padBits big t) z.toNat = true ↔ cut big t z = z) ∧ Builtin.bitAnd z (-padBits big t - 1) = cut big t z ∧ 0 ≤ cut big t z ∧ cut big t z < 64 ∧ padT (padBits big t) (cut big t z).toNat = true := by
  have := cut_all big t ht z.toNat (by omega)
  rw [show ((z.toNat : Nat) : Int) = z by omega] at this
  exact this
theorem item_last (bl : List UInt8) (init : List Int) (z : Int) : Txt.item (txtOf ((init ++ [z]).map (sg bl))) (-1) = one bl z := by
  unfold Txt.item Txt.charAt txtOf one
  rw [List.map_append, List.map_append]
  have hl : (⟨((init.map (sg bl)).map Int.toNat ++ ([z].map (sg bl)).map Int.toNat).toArray⟩ : Str).length = init.length + 1 := by
    show (List.toArray _).size = _
    simp
  have : seqIndex? (-1) (init.length + 1) = some init.length := by
    unfold seqIndex?
    simp
    omega
  rw [hl, this]
  simp
theorem mend_last {big : Bool} {init : List Int} {z : Int} (ht : (init ++ [z]).length % 4 = 2 ∨ (init ++ [z]).length % 4 = 3) : mend big (init ++ [z]) = init ++ [cut big ((init ++ [z]).length % 4) z] := by
  unfold mend
  rw [if_neg (by omega), List.dropLast_concat, List.getLastD_concat]
theorem item_chars {bl : List UInt8} (hl : bl.length = 64) {z : Int} (h0 : 0 ≤ z) (h1 : z < 64) : Txt.item (chars bl) z = one bl z := by
  obtain ⟨c, hc, hs⟩ := sg_at hl h0 h1
  unfold Txt.item Txt.charAt one
  have hcl : (chars bl).length = 64 := by show (Array.map _ _).size = 64; simp [hl]
  have : seqIndex? z 64 = some z.toNat := by
    unfold seqIndex?
    dsimp only
    rw [if_neg (by omega : ¬ z < 0)]
    rw [if_pos (by simp [h0]; omega)]
  rw [hcl, this, hs]
  have h2 := chars_at bl z.toNat
  rw [hc] at h2
  have h3 : (chars bl).cps[z.toNat]? = some c.toNat := by simpa using h2
  show (⟨#[(((chars bl).cps[z.toNat]?)).getD 0]⟩ : Str) = _
  rw [h3]; rfl
theorem idx_init (n : Nat) : Builtin.Str.strSliceIndices none (some (-1)) 1 (n + 1) = List.range n := by
  unfold Builtin.Str.strSliceIndices sliceRange
  dsimp only
  simp only [show (1 : Int) > 0 by decide, if_true, show (-1 : Int) < 0 by decide]
  have e : max (0 : Int) (min (-1 + ((n + 1 : Nat) : Int)) ((n + 1 : Nat) : Int)) = (n : Int) := by omega
  rw [e]
  have c : (if (0 : Int) < (n : Int) then ((n : Int) - 0 + 1 - 1) / 1 else 0).toNat = n := by
    split
    · rw [Int.ediv_one]; omega
    · omega
  rw [c]
  conv => rhs; rw [← List.map_id (List.range n)]
  refine List.map_congr_left fun k _ => ?_
  show ((0 : Int) + 1 * (k : Int)).toNat = k
  omega
theorem slice_init (l : List Nat) (c : Nat) : Txt.slice ⟨(l ++ [c]).toArray⟩ none (some (-1)) = ⟨l.toArray⟩ := by
  have hl : (⟨(l ++ [c]).toArray⟩ : Str).length = l.length + 1 := by show (List.toArray _).size = _; simp
  unfold Txt.slice
  rw [hl, idx_init, List.length_range, if_neg (by simp)]
  congr 2
  have : ∀ (n : Nat), n ≤ l.length → (List.range n).filterMap (fun i => (l ++ [c]).toArray[i]?) = l.take n := by
    intro n
    induction n with
    | zero => intro _; rfl
    | succ n ih =>
      intro hn
      rw [List.range_succ, List.filterMap_append, ih (by omega), List.take_add_one]
      congr 1
      have h1 : (l ++ [c]).toArray[n]? = l[n]? := by rw [List.getElem?_toArray, List.getElem?_append_left (by omega)]
      have h2 : l[n]? = some l[n] := List.getElem?_eq_getElem (by omega)
      show List.filterMap (fun i => (l ++ [c]).toArray[i]?) [n] = _
      rw [List.filterMap_cons, h1, h2]
      rfl
  have h := this l.length (Nat.le_refl _)
  rw [List.take_length] at h
  exact h
theorem slice_txt (bl : List UInt8) (init : List Int) (z c : Int) : Txt.slice (txtOf ((init ++ [z]).map (sg bl))) none (some (-1)) ++ one bl c = txtOf ((init ++ [c]).map (sg bl)) := by
  unfold txtOf
  rw [List.map_append, List.map_append, List.map_append, List.map_append]
  show Txt.slice ⟨((init.map (sg bl)).map Int.toNat ++ [(sg bl z).toNat]).toArray⟩ none (some (-1)) ++ one bl c = _
  rw [slice_init]
  show (⟨(List.toArray _) ++ (#[(sg bl c).toNat] : Array Nat)⟩ : Str) = ⟨_⟩
  congr 1
  simp
theorem sg_bd (bl : List UInt8) (z : Int) : 0 ≤ sg bl z ∧ sg bl z < 256 := by
  unfold sg
  have := (bl.getD z.toNat 0).toNat_lt
  omega
theorem byteArr_ints (b : Array UInt8) : byteArr (KBw.bInts b) = b := by
  unfold byteArr KBw.bInts
  rw [List.map_map]
  have : b.toList.map ((fun n : Int => n.toNat.toUInt8) ∘ fun c : UInt8 => ((c.toNat : Nat) : Int)) = b.toList := by
    conv => rhs; rw [← List.map_id b.toList]
    refine List.map_congr_left fun c _ => ?_
    show (((c.toNat : Nat) : Int).toNat).toUInt8 = c
    rw [Int.toNat_natCast]
    exact UInt8.ofNat_toNat
  rw [this]
theorem look_sg {bl : List UInt8} (hl : bl.length = 64) (hnd : bl.Nodup) {z : Int} (h0 : 0 ≤ z) (h1 : z < 64) : look bl (sg bl z) = some z.toNat := by
  obtain ⟨c, hc, hs⟩ := sg_at hl h0 h1
  unfold look
  rw [hs]
  refine List.findIdx?_eq_some_iff_getElem.mpr ?_
  obtain ⟨a1, a2⟩ := List.getElem?_eq_some_iff.mp hc
  refine ⟨a1, by simp [a2], fun j hj => ?_⟩
  simp only [decide_eq_true_eq, Bool.not_eq_true, decide_eq_false_iff_not]
  intro e
  have := uniq_at hnd (List.getElem?_eq_getElem (Nat.lt_trans hj a1)) hc (by omega)
  omega

end
section
local macro_rules | `(tactic| tb_start) => `(tactic| ((first | (k_unfold; (try dsimp only)) | walk1 | (dsimp only; walk1)); (try dsimp only)))

/-- an activation of a plain function, one word for all its data -/
structure FD where
  w : World
  mean : ExcName → Option Value
  mg : Str → Option Value
  mb : Str → Option Value
  G : Heap
  dp : Nat
  un : Nat
  gd : Option (List Code)
  outer : List Env
  base : Heap
  d : Nat
  u : Nat
  L : Addr
  s : Shared
noncomputable def fnBody (w : World) (f : Addr) : List Stmt := match (Mine.hd.heap_1 w.params).lookup f with
  | some ⟨_, _, .func fd, _⟩ => (match fd.body with | .stmts l => l | _ => [])
  | _ => []
noncomputable def fnScope (w : World) (f : Addr) : Scope := match (Mine.hd.heap_1 w.params).lookup f with
  | some ⟨_, _, .func fd, _⟩ => fd.scope
  | _ => ⟨.function, [], false, false, []⟩
noncomputable abbrev FD.A (D : FD) (env : Env) : Around := (⟨none, D.dp, some D.outer, D.gd, D.un⟩ : Around).deeper env
noncomputable abbrev FD.st (D : FD) (h : Heap) (tk : Nat) : Shared := { D.s with heap := h, toks := tk }
noncomputable abbrev FD.K (D : FD) : Prop := Cx D.w D.mean D.mg D.mb D.G ⟨none, D.dp, some D.outer, D.gd, D.un⟩ D.base D.outer D.d D.u D.s.heap
noncomputable abbrev Led := List (Addr × Obj)
structure FH (D : FD) (m : Loc) (O : Led) (h : Heap) : Prop where
  fr : Fr D.s.heap D.L h (mp m)
  nw : News D.s.heap D.L h O
noncomputable def FV (D : FD) (env : Env) (m : Loc) (O : Led) (e : Expr) (post : Value → Led → Prop) : Prop :=
  ∀ h tk (E : Value → Shared → Prop) (Q : Value → Shared → Prop), FH D m O h → (∀ v X h' tk', post v X → FH D m (X ++ O) h' → Q v (D.st h' tk')) → wpAny (model PR D.w) (D.A env) (eval e env) Q E (D.st h tk)
structure FX (D : FD) (env : Env) (l : List Stmt) (Q : Flow → Shared → Prop) (E : Value → Shared → Prop) (h : Heap) (tk : Nat) : Prop where
  go : wpAny (model PR D.w) (D.A env) (execs l env) Q E (D.st h tk)
noncomputable abbrev IsL (ks : List Int) (v : Value) (X : Led) : Prop := ∃ l vs n Y, v = .ref l ∧ X = (l, W.listOf vs.toArray n) :: Y ∧ IntsAre vs ks

theorem MCall {M : Model} {A : Around} {E : Value → Shared → Prop} {s : Shared} {env : Env} {n name : Str} {p1 apos pos : Pos} {args : List Expr} {Q : Value → Shared → Prop} (hp : (apos.endLine == pos.line) = true) (hf : methodCallForm (args.length + 0) (backTo pos (starEach args env)) (backToKw pos (keywordEach [] env)) = true)
    (h : wpAny M A (eval (.Name n p1) env) (fun ov s₁ => wpAny M A (getMethod ov name (do return (← importBound (.Name n p1) env).getD true)) (fun fx s₂ => wpAny M A (callWith pos fx.1 fx.2 (backTo pos (starEach args env)) []) Q E s₂) E s₁) E s) :
    wpAny M A (eval (.Call (.Attribute (.Name n p1) name apos) args [] pos) env) Q E s := by
  show wpAny M A (do
    let ov ← eval (.Name n p1) env
    standAt apos.atName
    methodCall (.Name n p1) name apos pos env ov (args.length + 0) (backTo pos (starEach args env)) (backToKw pos (keywordEach [] env))) Q E s
  unfold methodCall
  rw [hf]
  refine wpAny_bind (wpAny_mono h (fun ov s₁ h₁ => wpAny_bind (wpAny_standAt (wpAny_bind (wpAny_holding (wpAny_mono h₁ (fun fx s₂ h₂ => ?_) fun _ _ x => x))))) fun _ _ x => x)
  unfold methodCallPos
  rw [hp]
  exact wpAny_bind (wpAny_pure h₂)

/-- a test -/
noncomputable def FT (D : FD) (env : Env) (m : Loc) (O : Led) (e : Expr) (b : Bool) : Prop :=
  ∀ h tk (E : Value → Shared → Prop) (Q : Bool → Shared → Prop), FH D m O h → (∀ tk', Q b (D.st h tk')) → wpAny (model PR D.w) (D.A env) (isTrue e env (eval e env)) Q E (D.st h tk)
section
variable {D : FD} {env : Env} {m : Loc} {O : Led} {h : Heap} {tk : Nat} {E : Value → Shared → Prop} {Q : Flow → Shared → Prop} {p1 p2 p3 p4 : Pos} {x : Str} {rest body orelse : List Stmt}
theorem fx_nil (hQ : Q .next (D.st h tk)) : FX D env [] Q E h tk := ⟨wpAny_execs_nil hQ⟩
theorem fx_if {test : Expr} {b : Bool} (I : FH D m O h) (ht : FT D env m O test b) (hQ : ∀ tk', FX D env (if b = true then body else orelse) (fun f s' => match f with | .next => wpAny (model PR D.w) (D.A env) (execs rest env) Q E s' | f => Q f s') E h tk') :
    FX D env (.If test body orelse p1 :: rest) Q E h tk := by
  refine ⟨wpAny_execs_cons (wpAny_If (ht h tk E _ I fun tk' => ?_))⟩
  have := (hQ tk').go
  cases b
  · exact this
  · exact this
theorem fx_assert {test : Expr} {msg : Option Expr} (I : FH D m O h) (ht : FT D env m O test true) (hQ : ∀ tk', FX D env rest Q E h tk') : FX D env (.Assert test msg p1 :: rest) Q E h tk :=
  ⟨wpAny_execs_cons (wpAny_Assert_holds (ht h tk E _ I fun tk' => ⟨rfl, (hQ tk').go⟩))⟩
theorem fx_ret {e : Expr} {post : Value → Led → Prop} (I : FH D m O h) (he : FV D env m O e post) (hQ : ∀ v X h' tk', post v X → FH D m (X ++ O) h' → Q (.ret v) (D.st h' tk')) : FX D env (.Return (some e) p1 :: rest) Q E h tk :=
  ⟨wpAny_execs_cons (wpAny_Return_some (he h tk E _ I hQ))⟩
theorem FH.sub {O' : Led} (I : FH D m O h) (s : ∀ q ∈ O', q ∈ O) : FH D m O' h := ⟨I.fr, fun q hq => I.nw q (s q hq)⟩
end

noncomputable abbrev e154 (D : FD) : Env := envX (Str.ofString "Base64Engine.check_repair_unused") (fnScope D.w 154) D.L 154 (.ref 153) []
noncomputable def l154 : List Str := [Str.ofString "self", Str.ofString "source", Str.ofString "tail", Str.ofString "mask", Str.ofString "padset", Str.ofString "last", Str.ofString "cm"]
noncomputable def lk154 (x : Str) : Bool := l154.contains x && !(x == ("__debug__" : Str))
theorem l154_all (w : World) : (l154.all fun x => (fnScope w 154).names.lookup x == some .local) = true := by kernel_rfl
theorem nm154 {w : World} {x : Str} (h : lk154 x = true) : (fnScope w 154).names.lookup x = some .local := by
  unfold lk154 at h
  rw [Bool.and_eq_true] at h
  have := List.all_eq_true.mp (l154_all w) x (by simpa using h.1)
  simpa using this
theorem nd154 {x : Str} (h : lk154 x = true) : (x == ("__debug__" : Str)) = false := by
  unfold lk154 at h
  rw [Bool.and_eq_true] at h
  simpa using h.2
theorem sk154 (w : World) : (fnScope w 154).kind = .function := by kernel_rfl
theorem u_name {D : FD} {m : Loc} {h : Heap} {tk : Nat} {x : Str} {p1 : Pos} {A : Around} {E : Value → Shared → Prop} {v : Value} {Q : Value → Shared → Prop} (F : Fr D.s.heap D.L h (mp m)) (hm : mp m x = some v) (hx : lk154 x = true) (hQ : Q v (D.st h tk)) : wpAny (model PR D.w) A (eval (.Name x p1) (e154 D)) Q E (D.st h tk) :=
  nameX_L (s := D.st h tk) F hm hQ (sk154 D.w) (nm154 (w := D.w) hx) (nd154 hx)
local macro_rules | `(tactic| walk_at "eval Name") => `(tactic| (k_here; refine u_name (by assumption) (by assumption) (by first | rfl | assumption) ?_))
structure K154 (D : FD) (e : Addr) (bl : List UInt8) (big : Bool) : Prop where
  K : D.K
  hd : 20 ≤ D.d
  hu : 130 ≤ D.u
  eng : Eng D.w D.s.heap e bl big
section
variable {D : FD} {m : Loc} {O : Led} {h h' : Heap} {tk : Nat} {E : Value → Shared → Prop} {Q : Flow → Shared → Prop} {p1 p2 p3 p4 p5 p6 p7 p8 p9 : Pos} {x y : Str} {rest body : List Stmt} {e : Addr} {bl : List UInt8} {big txt : Bool} {z : Int}
theorem K154.push (k : K154 D e bl big) {m : Loc} {h : Heap} (F : Fr D.s.heap D.L h (mp m)) : Cx D.w D.mean D.mg D.mb D.G (D.A (e154 D)) D.base (e154 D :: D.outer) 19 127 h := by
  have C := k.K.push F (env := e154 D) rfl (sk154 D.w) (Nat.le_trans (by decide) k.hd) (Nat.le_trans (by decide) k.hu)
  have hd := C.hd
  have hu := C.hu
  have h1 := k.hd
  have h2 := k.hu
  exact ⟨C.B, C.S, C.le, C.hh, by omega, by omega⟩
theorem fu_asg {ex : Expr} {post : Value → Led → Prop} (hx : lk154 x = true) (I : FH D m O h) (he : FV D (e154 D) m O ex post) (hQ : ∀ v X h' tk', post v X → FH D (put x v m) (X ++ O) h' → FX D (e154 D) rest Q E h' tk')
    (hs : swapsWith ex (some (.Name x p1)) p2.line (e154 D) = pure false := by rfl) : FX D (e154 D) (.Assign [.Name x p1] ex p2 :: rest) Q E h tk :=
  ⟨wpAny_execs_cons (wpAny_Assign_Name (he h tk E _ I fun v X h' tk' hp I' => st_mp (s := D.st h' tk') I'.fr I'.nw (fun h5 F5 N5 => (hQ v X h5 _ hp ⟨F5, N5⟩).go) (sk154 D.w) (nm154 (w := D.w) hx)) hs)⟩
theorem fu_tail {src : List Int} {tv : Tok} {u : Nat} (k : K154 D e bl big) (hs : mp m (Str.ofString "source") = some (mapV txt src tv)) (hl : src.length ≤ 100) :
    FV D (e154 D) m O (.BinOp (.Call (.Name (Str.ofString "len") p1) [.Name (Str.ofString "source") p2] [] p3) .BitAnd (.Constant (.int 3) u p4) p5) fun v X => (∃ t, v = .int ((src.length % 4 : Nat) : Int) t) ∧ X = [] := by
  intro h tk E Q I hQ
  obtain ⟨F, N⟩ := I
  have fill : (Mine.hd.heap_1 D.w.params).In D.s.heap → PR = PR := by
    delta PR
    k_fill
    exact fun _ => rfl
  clear fill
  have X0 := k.K.X
  have T := k.K.T
  have hb : ∀ n : Nat, Builtin.bitAnd (n : Int) 3 = ((n % 4 : Nat) : Int) := fun n => by rw [bitAnd_m2]; omega
  cases txt with
  | true =>
    obtain ⟨Xs, hXs⟩ : ∃ Xs, Xs = txtOf src := ⟨_, rfl⟩
    have hXl : Xs.length = src.length := by rw [hXs, txtOf]; show (List.toArray _).size = _; simp
    replace hs : mp m (Str.ofString "source") = some (.str Xs tv) := by rw [hXs]; exact hs
    tb_rel
    rw [hXl, hb]
    exact hQ _ [] _ _ ⟨⟨_, rfl⟩, rfl⟩ ⟨F, N⟩
  | false =>
    obtain ⟨Bs, hBs⟩ : ∃ Bs, Bs = byteArr src := ⟨_, rfl⟩
    have hBl : Bs.size = src.length := by rw [hBs, byteArr]; simp
    replace hs : mp m (Str.ofString "source") = some (.bytes Bs tv) := by rw [hBs]; exact hs
    tb_rel
    rw [hBl, hb]
    exact hQ _ [] _ _ ⟨⟨_, rfl⟩, rfl⟩ ⟨F, N⟩
theorem fu_eq {n j : Int} {t : Tok} {u : Nat} (hm : mp m (Str.ofString "tail") = some (.int n t)) : FT D (e154 D) m O (.Compare (.Name (Str.ofString "tail") p1) [.Eq] [.Constant (.int j) u p2] p3) (n == j) := fun _ _ _ _ I hQ =>
  wpAny_isTrue_Compare1 (u_name I.fr hm (by rfl) (wpAny_Constant_int (eq_int (wpAny_truthy_bool (hQ _)))))
theorem fu_not {n : Int} {t : Tok} (hm : mp m (Str.ofString "tail") = some (.int n t)) : FT D (e154 D) m O (.UnaryOp .Not (.Name (Str.ofString "tail") p1) p2) (n == 0) := by
  intro h tk E Q I hQ
  obtain ⟨F, N⟩ := I
  refine isTrue_not (isTrue_plain (u_name F hm (by rfl) (truthy_int ?_)))
  have z := hQ tk
  rw [← Bool.not_not (n == 0)] at z
  exact z
theorem fu_ret0 {v : Value} {u : Nat} (k : K154 D e bl big) (hs : mp m (Str.ofString "source") = some v) : FV D (e154 D) m O (.Tuple [.Constant (.bool false) u p1, .Name (Str.ofString "source") p2] 0 p3) fun v' X => ∃ T n, v' = .ref T ∧ X = [(T, tupO [.bool false, v] n)] := by
  intro h tk E Q I hQ
  obtain ⟨F, N⟩ := I
  have fill : (Mine.hd.heap_1 D.w.params).In D.s.heap → PR = PR := by
    delta PR
    k_fill
    exact fun _ => rfl
  clear fill
  have X0 := k.K.X
  have T := k.K.T
  tb_rel
  rename Fr _ _ _ _ => F1
  rename News _ _ _ _ => N1
  exact hQ _ [_] _ _ ⟨_, _, rfl, rfl⟩ ⟨F1, N1⟩
/-- what padinfo gives -/
noncomputable abbrev PadP (bl : List UInt8) (b : Int) (v : Value) (X : Led) : Prop := ∃ Tp lp vs1 vs2 n3 tm n4, v = .ref Tp ∧ X = [(Tp, tupO [.int (-b - 1) tm, .ref lp] n4), (lp, tupO (vs1 ++ vs2) n3)] ∧ Picked (BAt bl.toArray) (padT b) 64 vs1 ∧ Picked (SAt (chars bl)) (padT b) 64 vs2
theorem fu_pad2 (k : K154 D e bl big) (hm : mp m (Str.ofString "self") = some (.ref e)) : FV D (e154 D) m [] (.Attribute (.Name (Str.ofString "self") p1) (Str.ofString "_padinfo2") p2) (PadP bl (padBits big 2)) := by
  intro h tk E Q I hQ
  obtain ⟨F, N⟩ := I
  have fill : (Mine.hd.heap_1 D.w.params).In D.s.heap → PR = PR := by
    delta PR
    k_fill
    exact fun _ => rfl
  clear fill
  have X0 := k.K.X
  have T := k.K.T
  have he0 := k.eng
  obtain ⟨hlen, hnd, dx, h1, h2, h3, t1, t2, t3, tb, lk, n, f, he, hx, _⟩ := he0
  tb_rel
  refine' get_prop ?k1 ?k2 ?k3 ?k4 ?k5 ?k6 ?k7 ?k8 ?k9 ?_
  (case k1 => k_asm)
  (case k2 => k_asm)
  (case k3 => first | k_inst | fail "inst")
  (case k4 => k_is)
  (case k5 => k_is)
  (case k6 => k_is)
  (case k7 => k_is)
  (case k8 => k_is)
  (case k9 => k_is)
  refine padinfo2 ((k.push F).in1 (by decide)) (by decide) (by decide) (k.eng.keep F.keep) fun h' tk' Tp lp vs1 vs2 n3 tm n4 k3 hT3 hl3 oT3 ol3 hp1 hp2 => ?_
  have hTl : @Ne Nat Tp lp := tup_ne hp1 hp2 oT3 ol3
  have N4 := news_two (news_fresh F N k3 hT3 oT3) (news_fresh F N k3 hl3 ol3)
  refine handed_on rfl ?_
  exact hQ _ _ _ _ ⟨Tp, lp, vs1, vs2, n3, tm, n4, rfl, rfl, hp1, hp2⟩ ⟨fr_kp F k3, N4⟩
theorem fu_pad3 (k : K154 D e bl big) (hm : mp m (Str.ofString "self") = some (.ref e)) : FV D (e154 D) m [] (.Attribute (.Name (Str.ofString "self") p1) (Str.ofString "_padinfo3") p2) (PadP bl (padBits big 3)) := by
  intro h tk E Q I hQ
  obtain ⟨F, N⟩ := I
  have fill : (Mine.hd.heap_1 D.w.params).In D.s.heap → PR = PR := by
    delta PR
    k_fill
    exact fun _ => rfl
  clear fill
  have X0 := k.K.X
  have T := k.K.T
  have he0 := k.eng
  obtain ⟨hlen, hnd, dx, h1, h2, h3, t1, t2, t3, tb, lk, n, f, he, hx, _⟩ := he0
  tb_rel
  refine' get_prop ?k1 ?k2 ?k3 ?k4 ?k5 ?k6 ?k7 ?k8 ?k9 ?_
  (case k1 => k_asm)
  (case k2 => k_asm)
  (case k3 => first | k_inst | fail "inst")
  (case k4 => k_is)
  (case k5 => k_is)
  (case k6 => k_is)
  (case k7 => k_is)
  (case k8 => k_is)
  (case k9 => k_is)
  refine padinfo3 ((k.push F).in1 (by decide)) (by decide) (by decide) (k.eng.keep F.keep) fun h' tk' Tp lp vs1 vs2 n3 tm n4 k3 hT3 hl3 oT3 ol3 hp1 hp2 => ?_
  have hTl : @Ne Nat Tp lp := tup_ne hp1 hp2 oT3 ol3
  have N4 := news_two (news_fresh F N k3 hT3 oT3) (news_fresh F N k3 hl3 ol3)
  refine handed_on rfl ?_
  exact hQ _ _ _ _ ⟨Tp, lp, vs1, vs2, n3, tm, n4, rfl, rfl, hp1, hp2⟩ ⟨fr_kp F k3, N4⟩
theorem fu_unp {ex : Expr} {b : Int} (I : FH D m [] h) (he : FV D (e154 D) m [] ex (PadP bl b))
    (hQ : ∀ lp vs1 vs2 n3 tm h' tk', Picked (BAt bl.toArray) (padT b) 64 vs1 → Picked (SAt (chars bl)) (padT b) 64 vs2 → FH D (put (Str.ofString "padset") (.ref lp) (put (Str.ofString "mask") (.int (-b - 1) tm) m)) [(lp, tupO (vs1 ++ vs2) n3)] h' → FX D (e154 D) rest Q E h' tk')
    (hs : swapsWithSole [.Tuple [.Name (Str.ofString "mask") p1, .Name (Str.ofString "padset") p2] 0 p3] ex p4.line (e154 D) = pure false := by rfl) (hw : swappedStores [.Tuple [.Name (Str.ofString "mask") p1, .Name (Str.ofString "padset") p2] 0 p3] ex (e154 D) = pure none := by rfl) :
    FX D (e154 D) (.Assign [.Tuple [.Name (Str.ofString "mask") p1, .Name (Str.ofString "padset") p2] 0 p3] ex p4 :: rest) Q E h tk := by
  constructor
  refine wpAny_execs_cons (Assign_Tuple (he h tk _ _ I fun v X h1 tk1 hp I1 => ?_) hs hw)
  obtain ⟨Tp, lp, vs1, vs2, n3, tm, n4, rfl, rfl, hp1, hp2⟩ := hp
  refine unpackN_ (s := D.st h1 tk1) I1.fr I1.nw (t := Tp) (items := #[.int (-b - 1) tm, .ref lp]) ⟨_, (I1.nw _ (.head _)).1, rfl, n4, rfl⟩ rfl rfl rfl fun h2 F2 N2 => ?_
  refine assignInOrder_cons (assign_Name (st_mp (s := D.st h2 tk1) F2 N2 (fun h3 F3 N3 => ?_) (sk154 D.w) (nm154 (w := D.w) (by rfl))))
  refine assignInOrder_cons (assign_Name (st_mp (s := D.st h3 (tk1 + 1)) F3 N3 (fun h4 F4 N4 => ?_) (sk154 D.w) (nm154 (w := D.w) (by rfl))))
  exact assignInOrder_nil (hQ lp vs1 vs2 n3 tm h4 _ hp1 hp2 ⟨F4, fun q hq => N4 q (.tail _ hq)⟩).go
end

section
variable {D : FD} {m : Loc} {O : Led} {h h' : Heap} {tk : Nat} {E : Value → Shared → Prop} {Q : Flow → Shared → Prop} {p1 p2 p3 p4 p5 p6 p7 p8 p9 p10 : Pos} {x y : Str} {rest body : List Stmt} {e : Addr} {bl : List UInt8} {big txt : Bool} {z : Int} {init : List Int}
/-- one sign, as text or as a number -/
noncomputable def sgV (txt : Bool) (bl : List UInt8) (z : Int) (t : Tok) : Value := if txt then .str (one bl z) t else .int (sg bl z) t
theorem fu_last {tv : Tok} {u : Nat} (k : K154 D e bl big) (hs : mp m (Str.ofString "source") = some (mapV txt ((init ++ [z]).map (sg bl)) tv)) (hl : init.length + 1 ≤ 100) :
    FV D (e154 D) m O (.Subscript (.Name (Str.ofString "source") p1) (.UnaryOp .USub (.Constant (.int 1) u p2) p3) p4) fun v X => (∃ t, v = sgV txt bl z t) ∧ X = [] := by
  intro h tk E Q I hQ
  obtain ⟨F, N⟩ := I
  have fill : (Mine.hd.heap_1 D.w.params).In D.s.heap → PR = PR := by
    delta PR
    k_fill
    exact fun _ => rfl
  clear fill
  have X0 := k.K.X
  have T := k.K.T
  cases txt with
  | true =>
    obtain ⟨Xs, hXs⟩ : ∃ Xs, Xs = txtOf ((init ++ [z]).map (sg bl)) := ⟨_, rfl⟩
    have hXl : Xs.length = init.length + 1 := by rw [hXs, txtOf]; show (List.toArray _).size = _; simp
    replace hs : mp m (Str.ofString "source") = some (.str Xs tv) := by rw [hXs]; exact hs
    have hit : Txt.item Xs (-1) = one bl z := by rw [hXs]; exact item_last bl init z
    tb_rel
    rw [hit]
    exact hQ _ [] _ _ ⟨⟨_, rfl⟩, rfl⟩ ⟨F, N⟩
  | false =>
    obtain ⟨ks, hks⟩ : ∃ ks, ks = (init ++ [z]).map (sg bl) := ⟨_, rfl⟩
    have hkin : ∀ k ∈ ks, 0 ≤ k ∧ k < 256 := fun k hk => by rw [hks] at hk; obtain ⟨x, _, rfl⟩ := List.mem_map.mp hk; exact sg_bd bl x
    obtain ⟨Bs, hBs⟩ : ∃ Bs, Bs = byteArr ks := ⟨_, rfl⟩
    have hBi : KBw.bInts Bs = ks := by rw [hBs]; exact KBx_ints hkin
    have hkl : ks.length = init.length + 1 := by rw [hks]; simp
    have hlast : ks.getD (-1 + (ks.length : Int)).toNat 0 = sg bl z := by
      rw [hkl, show (-1 + ((init.length + 1 : Nat) : Int)).toNat = init.length by omega, hks]
      simp
    replace hs : mp m (Str.ofString "source") = some (.bytes Bs tv) := by rw [hBs, hks]; exact hs
    tb_rel
    rw [hlast]
    exact hQ _ [] _ _ ⟨⟨_, rfl⟩, rfl⟩ ⟨F, N⟩
theorem fu_in {b : Bool} {T : Nat → Bool} {vs1 vs2 : List Value} {n3 : Nat} {lp : Addr} {t : Tok} (k : K154 D e bl big) (hz : 0 ≤ z ∧ z < 64) (hm : mp m (Str.ofString "last") = some (sgV txt bl z t)) (hp : mp m (Str.ofString "padset") = some (.ref lp)) (hp1 : Picked (BAt bl.toArray) T 64 vs1) (hp2 : Picked (SAt (chars bl)) T 64 vs2) (hb : T z.toNat = b) :
    FT D (e154 D) m [(lp, tupO (vs1 ++ vs2) n3)] (.Compare (.Name (Str.ofString "last") p1) [.In] [.Name (Str.ofString "padset") p2] p3) b := by
  intro h tk E Q I hQ
  subst hb
  have ho := (I.nw _ (.head _)).1
  refine wpAny_isTrue_Compare1 (u_name I.fr hm (by rfl) (u_name I.fr hp (by rfl) ?_))
  have z := wpAny_truthy_bool (M := model PR D.w) (A := D.A (e154 D)) (E := E) (hQ tk)
  cases txt
  · exact in_pad_int k.eng.len k.eng.nd hz.1 hz.2 hp1 hp2 ho z
  · exact in_pad_str k.eng.len k.eng.nd hz.1 hz.2 hp1 hp2 ho z
theorem fu_isstr {l : List Int} {tv : Tok} (k : K154 D e bl big) (hs : mp m (Str.ofString "source") = some (mapV txt l tv)) : FT D (e154 D) m O (.Call (.Name (Str.ofString "isinstance") p1) [.Name (Str.ofString "source") p2, .Name (Str.ofString "str") p3] [] p4) txt := by
  intro h tk E Q I hQ
  obtain ⟨F, N⟩ := I
  have fill : (Mine.hd.heap_1 D.w.params).In D.s.heap → PR = PR := by
    delta PR
    k_fill
    exact fun _ => rfl
  clear fill
  have X0 := k.K.X
  have T := k.K.T
  cases txt with
  | true =>
    replace hs : mp m (Str.ofString "source") = some (.str (txtOf l) tv) := hs
    tb_rel
    exact hQ _
  | false =>
    replace hs : mp m (Str.ofString "source") = some (.bytes (byteArr l) tv) := hs
    tb_rel
    exact hQ _
theorem fu_cm (k : K154 D e bl big) (hm : mp m (Str.ofString "self") = some (.ref e)) : FV D (e154 D) m O (.Attribute (.Name (Str.ofString "self") p1) (Str.ofString "charmap") p2) fun v X => (∃ t, v = .str (chars bl) t) ∧ X = [] := by
  intro h tk E Q I hQ
  obtain ⟨F, N⟩ := I
  have fill : (Mine.hd.heap_1 D.w.params).In D.s.heap → PR = PR := by
    delta PR
    k_fill
    exact fun _ => rfl
  clear fill
  have X0 := k.K.X
  have T := k.K.T
  have he0 := k.eng
  obtain ⟨hlen, hnd, dx, h1, h2, h3, t1, t2, t3, tb, lk, n, f, he, hx, _⟩ := he0
  tb_rel
  refine' get_prop ?k1 ?k2 ?k3 ?k4 ?k5 ?k6 ?k7 ?k8 ?k9 ?_
  (case k1 => k_asm)
  (case k2 => k_asm)
  (case k3 => first | k_inst | fail "inst")
  (case k4 => k_is)
  (case k5 => k_is)
  (case k6 => k_is)
  (case k7 => k_is)
  (case k8 => k_is)
  (case k9 => k_is)
  refine charmap85 ((k.push F).in1 (by decide)) (by decide) (k.eng.keep F.keep) fun h5 tk5 t5 k5 => ?_
  refine handed_on rfl ?_
  exact hQ _ [] _ _ ⟨⟨_, rfl⟩, rfl⟩ ⟨fr_kp F k5, news_kp N k5⟩
theorem fu_lastT {t4 : Nat} {t tm tc : Tok} (k : K154 D e bl big) (hz : 0 ≤ z ∧ z < 64) (hm : mp m (Str.ofString "last") = some (sgV true bl z t)) (hmk : mp m (Str.ofString "mask") = some (.int (-padBits big t4 - 1) tm)) (hc : mp m (Str.ofString "cm") = some (.str (chars bl) tc)) (c2 : Builtin.bitAnd z (-padBits big t4 - 1) = cut big t4 z) (c3 : 0 ≤ cut big t4 z) (c4 : cut big t4 z < 64) (hp : (p2.endLine == p4.line) = true) :
    FV D (e154 D) m O (.Subscript (.Name (Str.ofString "cm") p5) (.BinOp (.Call (.Attribute (.Name (Str.ofString "cm") p1) (Str.ofString "index") p2) [.Name (Str.ofString "last") p3] [] p4) .BitAnd (.Name (Str.ofString "mask") p6) p7) p8) fun v X => (∃ t, v = sgV true bl (cut big t4 z) t) ∧ X = [] := by
  intro h tk E Q I hQ
  obtain ⟨F, N⟩ := I
  have fill : (Mine.hd.heap_1 D.w.params).In D.s.heap → PR = PR := by
    delta PR
    k_fill
    exact fun _ => rfl
  clear fill
  have X0 := k.K.X
  have T := k.K.T
  have hlen := k.eng.len
  have hfind : Txt.find (chars bl) (one bl z) = z := by unfold Txt.find; rw [find_one hlen k.eng.nd hz.1 hz.2]; show ((z.toNat : Nat) : Int) = z; omega
  have hcl : (chars bl).length = 64 := by show (Array.map _ _).size = 64; simp [hlen]
  have hic : Txt.item (chars bl) (cut big t4 z) = one bl (cut big t4 z) := item_chars hlen c3 c4
  replace hm : mp m (Str.ofString "last") = some (.str (one bl z) t) := hm
  tb_rel
  refine MCall hp rfl ?_
  tb_rel
  · exfalso; omega
  rw [hfind]
  iterate 2 tb_start
  rw [c2]
  tb_rel
  rw [hic]
  exact hQ _ [] _ _ ⟨⟨_, rfl⟩, rfl⟩ ⟨F, N⟩
theorem fu_lastB {t4 : Nat} {t tm : Tok} (k : K154 D e bl big) (hz : 0 ≤ z ∧ z < 64) (hse : mp m (Str.ofString "self") = some (.ref e)) (hm : mp m (Str.ofString "last") = some (sgV false bl z t)) (hmk : mp m (Str.ofString "mask") = some (.int (-padBits big t4 - 1) tm)) (c2 : Builtin.bitAnd z (-padBits big t4 - 1) = cut big t4 z) (c3 : 0 ≤ cut big t4 z) (c4 : cut big t4 z < 64) (hp : (p2.endLine == p9.line) = true) (hq : (p4.endLine == p6.line) = true) :
    FV D (e154 D) m O (.Call (.Attribute (.Name (Str.ofString "self") p1) (Str.ofString "_encode64") p2) [.BinOp (.Call (.Attribute (.Name (Str.ofString "self") p3) (Str.ofString "_decode64") p4) [.Name (Str.ofString "last") p5] [] p6) .BitAnd (.Name (Str.ofString "mask") p7) p8] [] p9) fun v X => (∃ t, v = sgV false bl (cut big t4 z) t) ∧ X = [] := by
  intro h tk E Q I hQ
  obtain ⟨F, N⟩ := I
  have fill : (Mine.hd.heap_1 D.w.params).In D.s.heap → PR = PR := by
    delta PR
    k_fill
    exact fun _ => rfl
  clear fill
  have X0 := k.K.X
  have T := k.K.T
  have he0 := k.eng
  obtain ⟨hlen, hnd, dx, h1, h2, h3, t1, t2, t3, tb, lk, n, f, he, hx, _⟩ := he0
  replace hm : mp m (Str.ofString "last") = some (.int (sg bl z) t) := hm
  refine MCall hp rfl ?_
  tb_rel
  refine MCall hq rfl ?_
  tb_rel
  refine wpAny_call ?_
  refine dec64 (k.push F) (by decide) (k.eng.keep F.keep) (fun i hi h5 tk5 t5 k5 => ?_) (fun hn => by rw [look_sg hlen hnd hz.1 hz.2] at hn; cases hn)
  rw [look_sg hlen hnd hz.1 hz.2] at hi
  cases hi
  rw [show ((z.toNat : Nat) : Int) = z by omega]
  have F5 := fr_kp F k5
  have N5 := news_kp N k5
  clear F N
  dsimp only
  iterate 2 tb_start
  rw [c2]
  tb_rel
  refine wpAny_call ?_
  refine enc64 (k.push F5) (by decide) (k.eng.keep F5.keep) c3 (by omega) fun h7 tk7 t7 k7 => ?_
  exact hQ _ [] _ _ ⟨⟨t7, rfl⟩, rfl⟩ ⟨fr_kp F5 k7, news_kp N5 k7⟩
theorem fu_bytes1 {t : Tok} (k : K154 D e bl big) (hm : mp m (Str.ofString "last") = some (sgV false bl z t)) : FV D (e154 D) m O (.Call (.Name (Str.ofString "bytes") p1) [.List [.Name (Str.ofString "last") p2] p3] [] p4) fun v _ => ∃ t, v = .bytes #[(sg bl z).toNat.toUInt8] t := by
  intro h tk E Q I hQ
  obtain ⟨F, N⟩ := I
  have fill : (Mine.hd.heap_1 D.w.params).In D.s.heap → PR = PR := by
    delta PR
    k_fill
    exact fun _ => rfl
  clear fill
  have X0 := k.K.X
  have T := k.K.T
  have hsb := sg_bd bl z
  replace hm : mp m (Str.ofString "last") = some (.int (sg bl z) t) := hm
  tb_rel
  rename Fr _ _ _ _ => F1
  rename News _ _ _ _ => N1
  exact hQ _ [_] _ _ ⟨_, rfl⟩ ⟨F1, N1⟩
theorem fu_ret1 {tv t : Tok} {u u2 : Nat} {c : Int} {v : Value} (k : K154 D e bl big) (hs : mp m (Str.ofString "source") = some (mapV txt ((init ++ [z]).map (sg bl)) tv)) (hl : init.length + 1 ≤ 100) (hm : mp m (Str.ofString "last") = some v) (hv : v = if txt then .str (one bl c) t else .bytes #[(sg bl c).toNat.toUInt8] t) :
    FV D (e154 D) m O (.Tuple [.Constant (.bool true) u p1, .BinOp (.Subscript (.Name (Str.ofString "source") p2) (.Slice none (some (.UnaryOp .USub (.Constant (.int 1) u2 p3) p4)) none p5) p6) .Add (.Name (Str.ofString "last") p7) p8] 0 p9) fun v X => ∃ T n t Y, v = .ref T ∧ X = (T, tupO [.bool true, mapV txt ((init ++ [c]).map (sg bl)) t] n) :: Y := by
  intro h tk E Q I hQ
  obtain ⟨F, N⟩ := I
  have fill : (Mine.hd.heap_1 D.w.params).In D.s.heap → PR = PR := by
    delta PR
    k_fill
    exact fun _ => rfl
  clear fill
  have X0 := k.K.X
  have T := k.K.T
  subst hv
  cases txt with
  | true =>
    obtain ⟨Xs, hXs⟩ : ∃ Xs, Xs = txtOf ((init ++ [z]).map (sg bl)) := ⟨_, rfl⟩
    have hXl : Xs.length = init.length + 1 := by rw [hXs, txtOf]; show (List.toArray _).size = _; simp
    have hol : (one bl c).length = 1 := rfl
    replace hs : mp m (Str.ofString "source") = some (.str Xs tv) := by rw [hXs]; exact hs
    replace hm : mp m (Str.ofString "last") = some (.str (one bl c) t) := hm
    tb_rel
    rename Fr _ _ _ _ => F1
    rename News _ _ _ _ => N1
    rw [hXs, slice_txt] at N1
    exact hQ _ [_] _ _ ⟨_, _, _, [], rfl, rfl⟩ ⟨F1, N1⟩
  | false =>
    obtain ⟨ks, hks⟩ : ∃ ks, ks = (init ++ [z]).map (sg bl) := ⟨_, rfl⟩
    have hkin : ∀ k ∈ ks, 0 ≤ k ∧ k < 256 := fun k hk => by rw [hks] at hk; obtain ⟨x, _, rfl⟩ := List.mem_map.mp hk; exact sg_bd bl x
    obtain ⟨Bs, hBs⟩ : ∃ Bs, Bs = byteArr ks := ⟨_, rfl⟩
    have hBi : KBw.bInts Bs = ks := by rw [hBs]; exact KBx_ints hkin
    have hkl : ks.length = init.length + 1 := by rw [hks]; simp
    have hsb := sg_bd bl c
    replace hs : mp m (Str.ofString "source") = some (.bytes Bs tv) := by rw [hBs, hks]; exact hs
    replace hm : mp m (Str.ofString "last") = some (.bytes #[(sg bl c).toNat.toUInt8] t) := hm
    tb_rel
    rename Fr _ _ _ _ => F1
    rename News _ _ _ _ => N1
    rename (KBw.bInts (KBy.picked _ _ _) = _) => hcut
    have hclip : clipAt ks.length (-1) = init.length := by unfold clipAt; rw [hkl]; simp; try omega
    have hpick : KBy.picked Bs none (some (-1)) = byteArr (init.map (sg bl)) := by
      rw [← byteArr_ints (KBy.picked Bs none (some (-1))), hcut, hclip, hks, List.map_append, List.take_append_of_le_length (by simp), List.take_of_length_le (by simp)]
    have hval : KBy.picked Bs none (some (-1)) ++ #[(sg bl c).toNat.toUInt8] = byteArr ((init ++ [c]).map (sg bl)) := by
      rw [hpick]; unfold byteArr; simp
    rw [hval] at N1
    exact hQ _ [_] _ _ ⟨_, _, _, [], rfl, rfl⟩ ⟨F1, N1⟩
end

section
variable {D : FD} {m : Loc} {O : Led} {h h' : Heap} {tk : Nat} {E : Value → Shared → Prop} {Q : Flow → Shared → Prop} {p1 p2 p3 p4 p5 p6 p7 p8 p9 p10 : Pos} {x y : Str} {rest body : List Stmt} {e : Addr} {bl : List UInt8} {big txt : Bool} {z : Int} {init sx : List Int} {tv : Tok}
theorem pn {v : Value} {w : Option Value} (hy : y ≠ x) (hm : mp m y = w) : mp (put x v m) y = w := by rw [mp_put, if_neg hy]; exact hm
theorem pe {v : Value} : mp (put x v m) x = some v := by rw [mp_put, if_pos rfl]
theorem fu_raise {u : Nat} {y : Str} (k : K154 D e bl big) (F : Fr D.s.heap D.L h (mp m)) (hE : ∀ h1 hx ex tk', Heap.NewExc h1 hx ex "ValueError" → Fr D.s.heap D.L h1 (mp m) → E (.ref ex) (D.st hx tk')) : FX D (e154 D) [.Raise (some (.Call (.Name (Str.ofString "ValueError") p1) [.Constant (.str y) u p2] [] p3)) none p4] Q E h tk := by
  constructor
  have fill : (Mine.hd.heap_1 D.w.params).In D.s.heap → PR = PR := by
    delta PR
    k_fill
    exact fun _ => rfl
  clear fill
  have X0 := k.K.X
  have T := k.K.T
  have N : News D.s.heap D.L h [] := .nil
  tb_rel
  rename Heap.NewExc _ _ _ _ => hx8
  rename Fr _ _ _ _ => FZ
  exact hE _ _ _ _ hx8 FZ
theorem rest154 {t4 n3 : Nat} {lp : Addr} {vs1 vs2 : List Value} {tm : Tok} (k : K154 D e bl big) (ht : t4 = 2 ∨ t4 = 3) (ht4 : t4 = (init ++ [z]).length % 4) (hz : 0 ≤ z ∧ z < 64) (hlen : init.length + 1 ≤ 100) (I : FH D m [(lp, tupO (vs1 ++ vs2) n3)] h) (hp1 : Picked (BAt bl.toArray) (padT (padBits big t4)) 64 vs1) (hp2 : Picked (SAt (chars bl)) (padT (padBits big t4)) 64 vs2) (h1 : mp m (Str.ofString "self") = some (.ref e)) (h2 : mp m (Str.ofString "source") = some (mapV txt ((init ++ [z]).map (sg bl)) tv)) (h3 : mp m (Str.ofString "padset") = some (.ref lp)) (h4 : mp m (Str.ofString "mask") = some (.int (-padBits big t4 - 1) tm))
    (hR : ∀ h' tk T n t', Kp D.s.heap h' → D.s.heap.get? T = none → h'.get? T = some (tupO [.bool (!(decide (mend big (init ++ [z]) = init ++ [z]))), mapV txt ((mend big (init ++ [z])).map (sg bl)) t'] n) → Q (.ret (.ref T)) (D.st h' tk)) : FX D (e154 D) ((fnBody D.w 154).drop 2) Q E h tk := by
  obtain ⟨l, hl0⟩ : ∃ l, l = (fnBody D.w 154).drop 2 := ⟨_, rfl⟩
  rw [← hl0]
  conv at hl0 => rhs; whnf
  subst hl0
  obtain ⟨c1, c2, c3, c4, c5⟩ := cut_z (big := big) ht hz.1 hz.2
  have hmend := mend_last (big := big) (ht4 ▸ ht)
  rw [← ht4] at hmend
  rw [hmend] at hR
  refine fu_asg (by rfl) I (fu_last k h2 hlen) fun v X h' tk' p1 I1 => ?_
  obtain ⟨⟨t, rfl⟩, rfl⟩ := p1
  have a1 := fun v => pn (m := m) (x := Str.ofString "last") (v := v) (by decide) h1
  have a2 := fun v => pn (m := m) (x := Str.ofString "last") (v := v) (by decide) h2
  have a3 := fun v => pn (m := m) (x := Str.ofString "last") (v := v) (by decide) h3
  have a4 := fun v => pn (m := m) (x := Str.ofString "last") (v := v) (by decide) h4
  refine fx_if I1 (fu_in k hz pe (a3 _) hp1 hp2 rfl) fun tk2 => ?_
  by_cases hpt : padT (padBits big t4) z.toNat = true
  · rw [if_pos hpt]
    rw [c1.mp hpt, decide_eq_true rfl] at hR
    refine fx_ret I1 (fu_ret0 k (a2 _)) fun v X h3 tk3 p3 I3 => ?_
    obtain ⟨T, n, rfl, rfl⟩ := p3
    exact hR h3 tk3 T n tv I3.fr.keep (I3.nw _ (.head _)).2.2 (I3.nw _ (.head _)).1
  · rw [if_neg hpt]
    have hcz : ¬ cut big t4 z = z := fun h => hpt (c1.mpr h)
    have hne : ¬ init ++ [cut big t4 z] = init ++ [z] := fun h => hcz (by simpa using h)
    rw [decide_eq_false hne] at hR
    refine fx_nil (fx_if I1 (fu_isstr k (a2 _)) fun tk3 => ?_).go
    have fin : ∀ m' v t h' tk', mp m' (Str.ofString "source") = some (mapV txt ((init ++ [z]).map (sg bl)) tv) → mp m' (Str.ofString "last") = some v → (v = if txt then .str (one bl (cut big t4 z)) t else .bytes #[(sg bl (cut big t4 z)).toNat.toUInt8] t) → FH D m' [] h' → FX D (e154 D) ((fnBody D.w 154).drop 5) Q E h' tk' := fun m' v t h' tk' b2 b3 hv I' => by
      obtain ⟨l, hl0⟩ : ∃ l, l = (fnBody D.w 154).drop 5 := ⟨_, rfl⟩
      rw [← hl0]
      conv at hl0 => rhs; whnf
      subst hl0
      refine fx_ret I' (fu_ret1 k b2 hlen b3 hv) fun v X h3 tk3 p3 I3 => ?_
      obtain ⟨T, n, t', Y, rfl, rfl⟩ := p3
      exact hR h3 tk3 T n t' I3.fr.keep (I3.nw _ (.head _)).2.2 (I3.nw _ (.head _)).1
    cases txt with
    | true =>
      rw [if_pos rfl]
      refine fu_asg (by rfl) I1 (fu_cm k (a1 _)) fun v X h3 tk3 p3 I3 => ?_
      obtain ⟨⟨tc, rfl⟩, rfl⟩ := p3
      refine fu_asg (by rfl) I3 (fu_lastT (t := t) (tm := tm) (tc := tc) k hz (pn (by decide) pe) (pn (by decide) (a4 _)) pe c2 c3 c4 (by rfl)) fun v X h4 tk4 p4 I4 => ?_
      obtain ⟨⟨t5, rfl⟩, rfl⟩ := p4
      refine fx_assert I4 (fu_in (t := t5) k ⟨c3, c4⟩ pe (pn (by decide) (pn (by decide) (a3 _))) hp1 hp2 c5) fun tk5 => fx_nil (fin _ _ t5 _ _ (pn (by decide) (pn (by decide) (a2 _))) pe rfl (I4.sub (List.forall_mem_nil _))).go
    | false =>
      rw [if_neg (by decide)]
      refine fu_asg (by rfl) I1 (fu_lastB (t := t) (tm := tm) k hz (a1 _) pe (a4 _) c2 c3 c4 (by rfl) (by rfl)) fun v X h4 tk4 p4 I4 => ?_
      obtain ⟨⟨t5, rfl⟩, rfl⟩ := p4
      refine fx_assert I4 (fu_in (t := t5) k ⟨c3, c4⟩ pe (pn (by decide) (a3 _)) hp1 hp2 c5) fun tk5 => ?_
      refine fu_asg (by rfl) I4 (fu_bytes1 (z := cut big t4 z) (t := t5) k pe) fun v X h6 tk6 p6 I6 => ?_
      obtain ⟨t6, rfl⟩ := p6
      exact fx_nil (fin _ _ t6 _ _ (pn (by decide) (pn (by decide) (a2 _))) pe rfl (I6.sub (List.forall_mem_nil _))).go
theorem main154 (k : K154 D e bl big) (hsx : ∀ k ∈ sx, 0 ≤ k ∧ k < 64) (hlen : sx.length ≤ 100) (F : Fr D.s.heap D.L h (mp m)) (h1 : mp m (Str.ofString "self") = some (.ref e)) (h2 : mp m (Str.ofString "source") = some (mapV txt (sx.map (sg bl)) tv))
    (hR : sx.length % 4 ≠ 1 → ∀ h' tk T n t', Kp D.s.heap h' → D.s.heap.get? T = none → h'.get? T = some (tupO [.bool (!(decide (mend big sx = sx))), mapV txt ((mend big sx).map (sg bl)) t'] n) → Q (.ret (.ref T)) (D.st h' tk))
    (hE : sx.length % 4 = 1 → ∀ m h1 hx ex tk', Heap.NewExc h1 hx ex "ValueError" → Fr D.s.heap D.L h1 (mp m) → E (.ref ex) (D.st hx tk')) : FX D (e154 D) (fnBody D.w 154) Q E h tk := by
  have go : ∀ t4 m' lp vs1 vs2 n3 tm h' tk', (t4 = 2 ∨ t4 = 3) → t4 = sx.length % 4 → mp m' (Str.ofString "self") = some (.ref e) → mp m' (Str.ofString "source") = some (mapV txt (sx.map (sg bl)) tv) → Picked (BAt bl.toArray) (padT (padBits big t4)) 64 vs1 → Picked (SAt (chars bl)) (padT (padBits big t4)) 64 vs2 → FH D (put (Str.ofString "padset") (.ref lp) (put (Str.ofString "mask") (.int (-padBits big t4 - 1) tm) m')) [(lp, tupO (vs1 ++ vs2) n3)] h' → FX D (e154 D) ((fnBody D.w 154).drop 2) Q E h' tk' := fun t4 m' lp vs1 vs2 n3 tm h' tk' ht he b1 b2 hp1 hp2 I' => by
    obtain ⟨init, z, rfl⟩ : ∃ init z, sx = init ++ [z] := by
      rcases List.eq_nil_or_concat sx with h | ⟨a, b, h⟩
      · rw [h] at he; rw [he] at ht; simp at ht
      · exact ⟨a, b, by rw [h, List.concat_eq_append]⟩
    exact rest154 k ht he (hsx z (List.mem_append_right _ (.head _))) (by rw [List.length_append, List.length_singleton] at hlen; exact hlen) I' hp1 hp2 (pn (by decide) (pn (by decide) b1)) (pn (by decide) (pn (by decide) b2)) pe (pn (by decide) pe) (hR (by omega))
  obtain ⟨l, hl0⟩ : ∃ l, l = fnBody D.w 154 := ⟨_, rfl⟩
  rw [← hl0]
  conv at hl0 => rhs; whnf
  subst hl0
  refine fu_asg (O := []) (by rfl) ⟨F, .nil⟩ (fu_tail k h2 (by rw [List.length_map]; exact hlen)) fun v X h3 tk3 p3 I3 => ?_
  obtain ⟨⟨t, rfl⟩, rfl⟩ := p3
  rw [List.length_map] at I3
  obtain ⟨r, hr⟩ : ∃ r, r = sx.length % 4 := ⟨_, rfl⟩
  rw [← hr] at I3
  have a1 := fun v => pn (m := m) (x := Str.ofString "tail") (v := v) (by decide) h1
  have a2 := fun v => pn (m := m) (x := Str.ofString "tail") (v := v) (by decide) h2
  refine fx_if I3 (fu_eq pe) fun tk4 => ?_
  rcases (show r = 2 ∨ r = 3 ∨ r = 0 ∨ r = 1 by omega) with rfl | rfl | rfl | rfl
  · rw [if_pos (by rfl)]
    exact fu_unp I3 (fu_pad2 k (a1 _)) fun lp vs1 vs2 n3 tm h5 tk5 hp1 hp2 I5 => fx_nil (go 2 _ lp vs1 vs2 n3 tm h5 tk5 (.inl rfl) hr (a1 _) (a2 _) hp1 hp2 I5).go
  · rw [if_neg (by decide)]
    refine fx_if I3 (fu_eq pe) fun tk5 => ?_
    rw [if_pos (by rfl)]
    exact fu_unp I3 (fu_pad3 k (a1 _)) fun lp vs1 vs2 n3 tm h5 tk5 hp1 hp2 I5 => fx_nil (wpAny_execs_nil (go 3 _ lp vs1 vs2 n3 tm h5 tk5 (.inr rfl) hr (a1 _) (a2 _) hp1 hp2 I5).go)
  · rw [if_neg (by decide)]
    refine fx_if I3 (fu_eq pe) fun tk5 => ?_
    rw [if_neg (by decide)]
    refine fx_if I3 (fu_not pe) fun tk6 => ?_
    rw [if_pos (by rfl)]
    have hmd : mend big sx = sx := by unfold mend; rw [if_pos hr.symm]
    have hR' := hR (by omega)
    rw [hmd, decide_eq_true rfl] at hR'
    refine fx_ret I3 (fu_ret0 k (a2 _)) fun v X h7 tk7 p7 I7 => ?_
    obtain ⟨T, n, rfl, rfl⟩ := p7
    exact hR' h7 tk7 T n tv I7.fr.keep (I7.nw _ (.head _)).2.2 (I7.nw _ (.head _)).1
  · rw [if_neg (by decide)]
    refine fx_if I3 (fu_eq pe) fun tk5 => ?_
    rw [if_neg (by decide)]
    refine fx_if I3 (fu_not pe) fun tk6 => ?_
    rw [if_neg (by decide)]
    exact fu_raise k I3.fr (hE hr.symm _)
end
theorem chk154 {w : World} {mean mg mb G base outer d u dp un gd} {s : Shared} {R : Result → Shared → Prop} {e : Addr} {bl : List UInt8} {big txt : Bool} {sx : List Int} {tv : Tok}
    (C : Cx w mean mg mb G ⟨none, dp, some outer, gd, un⟩ base outer d u s.heap) (hd : 20 ≤ d) (hu : 130 ≤ u) (he : Eng w s.heap e bl big) (hsx : ∀ k ∈ sx, 0 ≤ k ∧ k < 64) (hlen1 : sx.length ≤ 100)
    (hR : sx.length % 4 ≠ 1 → ∀ h' tk T n t', Kp s.heap h' → s.heap.get? T = none → h'.get? T = some (tupO [.bool (!(decide (mend big sx = sx))), mapV txt ((mend big sx).map (sg bl)) t'] n) → R (.ok (.ret (.ref T))) { s with heap := h', toks := tk })
    (hE : sx.length % 4 = 1 → ∀ h' tk e, Rz [] (fun _ => True) base s.heap outer e "ValueError" h' → R (.error (.ref e)) { s with heap := h', toks := tk }) :
    codeAny (model PR w) ⟨none, dp, some outer, gd, un⟩ (.call (.ref 154) ⟨[.ref e, mapV txt (sx.map (sg bl)) tv], []⟩) R s := by
  have X0 := C.X
  revert X0
  delta PR
  k_fill
  intro X0
  refine enter C (by omega) (by k_is) (by k_is) (BindsTo.of_eq rfl) (locs rfl) ?_ rfl rfl rfl (by decide)
  intro L h₁ F N B X T
  clear X0 B
  exact (main154 (D := ⟨w, mean, mg, mb, G, dp, un, gd, outer, base, d, u, L, s⟩) ⟨C, hd, hu, he⟩ hsx hlen1 F rfl rfl (fun h4 h' tk T n t' => hR h4 h' tk T n t') fun h4 m h1 hx ex tk' hx8 FZ => rz_new C.B hx8.of FZ rfl rfl (own := []) (Tb := fun _ => True) (h00 := s.heap) (fun b o _ _ e => e) (fun b o _ e _ => ⟨o.slots, e⟩) (fun _ _ => trivial) fun h' hz => hE h4 _ _ _ hz).go

end
section

theorem rep161 {w : World} {mean mg mb G base outer d u dp un gd} {s : Shared} {R : Result → Shared → Prop} {e : Addr} {bl : List UInt8} {big txt : Bool} {sx : List Int} {tv : Tok}
    (C : Cx w mean mg mb G ⟨none, dp, some outer, gd, un⟩ base outer d u s.heap) (hd : 24 ≤ d) (hu : 140 ≤ u) (he : Eng w s.heap e bl big) (hsx : ∀ k ∈ sx, 0 ≤ k ∧ k < 64) (hlen1 : sx.length ≤ 100)
    (hR : sx.length % 4 ≠ 1 → ∀ h' tk t', Kp s.heap h' → R (.ok (.ret (mapV txt ((mend big sx).map (sg bl)) t'))) { s with heap := h', toks := tk })
    (hE : sx.length % 4 = 1 → ∀ h' tk e, Rz [] (fun _ => True) base s.heap outer e "ValueError" h' → R (.error (.ref e)) { s with heap := h', toks := tk }) :
    codeAny (model PR w) ⟨none, dp, some outer, gd, un⟩ (.call (.ref 161) ⟨[.ref e, mapV txt (sx.map (sg bl)) tv], []⟩) R s := by
  have he0 := he
  obtain ⟨hlen, hnd, dx, h1, h2, h3, t1, t2, t3, tb, lk, n, f, he, hx, _⟩ := he
  have X0 := C.X
  revert X0
  delta PR
  k_fill
  intro X0
  refine enter C (by omega) (by k_is) (by k_is) (BindsTo.of_eq rfl) (locs rfl) ?_ rfl rfl rfl (by decide)
  intro L h₁ F N B X T
  clear X0 B
  have F : Fr s.heap L h₁ (mp [(Str.ofString "source", some (mapV txt (sx.map (sg bl)) tv)), (Str.ofString "self", some (.ref e))]) := F
  show wpAny _ _ _ _ _ _
  k_fold
  tb_rel
  refine wpAny_call ?_
  refine chk154 (C.push F rfl rfl (by omega) (by omega)) (by omega) (by omega) (he0.keep F.keep) hsx hlen1 (fun h1 h5 tk5 Tp n5 t5 k5 hT oT => ?_) (fun h1 h5 tk5 ex hz => ?_)
  · dsimp only at k5 hT ⊢
    have N5 := news_fresh F N k5 hT oT
    have F5 := fr_kp F k5
    clear F N
    tb_rel
    rename Fr _ _ _ _ => FZ
    exact hR h1 _ _ _ FZ.keep
  · dsimp only at hz ⊢
    exact rz_on C.B F hz rfl (fun b o _ _ e => e) (fun b o _ e _ => ⟨o.slots, e⟩) fun h' hz => hE h1 _ _ _ hz

end
section

noncomputable abbrev TT : List Addr := [45, 88, 107]
structure Tabs (h : Heap) : Prop where
  a : Tab45 h
  b : Tab88 h
  c : Tab107 h
noncomputable def NoStr (h : Heap) (b : Addr) : Prop := ∀ oc vs q t, h.get? b = some oc → oc.data = .fields vs → vs[1]? ≠ some (.str q t)
theorem Tab.nostr {P : Addr} {l c : Nat} {q : Str} {h : Heap} (T : Tab P l c q h) : NoStr h P := by
  obtain ⟨ps, e, r⟩ := T
  intro oc vs q t e1 e2 e3
  rw [e] at e1; cases e1
  cases e2
  rcases r with rfl | ⟨cv, rfl, _⟩
  · simp at e3
  · simp [rawInt] at e3
theorem tab_keep {P : Addr} {l c : Nat} {q : Str} {h B : Heap} {own : List Addr} (T : Tab P l c q h) (hP : P ∉ own) (ho : ∀ b ∈ own, NoStr h b) (k : ∀ b o vs, b ∉ own → o.data = .fields vs → h.get? b = some o → B.get? b = some o) : Tab P l c q B := by
  obtain ⟨ps, e, r⟩ := T
  refine ⟨ps, k _ _ _ hP rfl e, r.imp id fun ⟨cv, e1, c, oc, vs, t, e2, e3, e4, e5⟩ => ⟨cv, e1, c, oc, vs, t, e2, k _ _ _ (fun hm => ?_) e4 e3, e4, e5⟩⟩
  exact ho c hm oc vs q t e3 e4 e5
theorem Tabs.nostr {h : Heap} (T : Tabs h) : ∀ b ∈ TT, NoStr h b := by
  intro b hb
  rcases mem3 hb with rfl | rfl | rfl
  · exact T.a.nostr
  · exact T.b.nostr
  · exact T.c.nostr
theorem Tabs.keep {h B : Heap} (T : Tabs h) (k : Kp h B) : Tabs B := ⟨T.a.fields fun b o _ _ e => k b o e, T.b.fields fun b o _ _ e => k b o e, T.c.fields fun b o _ _ e => k b o e⟩
theorem Tabs.fields {h B : Heap} (T : Tabs h) (k : ∀ b o vs, o.data = .fields vs → h.get? b = some o → B.get? b = some o) : Tabs B := ⟨T.a.fields k, T.b.fields k, T.c.fields k⟩
theorem rz_TT {own : List Addr} {Tb : Heap → Prop} {base h0 h : Heap} {l : List Env} {e : Addr} {cls : String} (R : Rz own Tb base h0 l e cls h) (hown : ∀ b ∈ own, b ∈ TT) (FF : h0.FunFrames base l)
    (hTb : ∀ B, (∀ b o vs, b ∉ own → o.data = .fields vs → h0.get? b = some o → B.get? b = some o) → Tb B → Tabs B) : Rz TT Tabs base h0 l e cls h :=
  rz_weak R (fun b o hb e => ⟨fun hm => hb (hown b hm), e⟩) fun B k t => hTb B (fun b o vs hb hd e => k b o hb e fun hm => by
    obtain ⟨_, o', e', hn⟩ := FF.mem hm
    rw [e] at e'; cases e'
    exact hn vs hd) t
theorem rz_TT0 {base h0 h : Heap} {l : List Env} {e : Addr} {cls : String} (R : Rz [] (fun _ => True) base h0 l e cls h) (T : Tabs h0) (FF : h0.FunFrames base l) : Rz TT Tabs base h0 l e cls h :=
  rz_TT R (fun _ h => by cases h) FF fun B k _ => T.fields fun b o vs hd e => k b o vs (by simp) hd e

section
variable {w : World} {mean : ExcName → Option Value} {mg mb : Str → Option Value} {G base : Heap} {outer : List Env} {d u dp un : Nat} {gd : Option (List Code)} {s : Shared} {R : Result → Shared → Prop}
theorem newT {txt big : Bool} {ks : List Int} {tv : Tok} {args : Args}
    (C : Cx w mean mg mb G ⟨none, dp, some outer, gd, un⟩ base outer d u s.heap) (hd : 40 ≤ d) (hu : 400 ≤ u) (hks : ∀ k ∈ ks, 0 ≤ k ∧ k < 256) (hlen : ks.length ≤ 100)
    (T : Tabs s.heap) (hb : ∀ b ∈ TT, base.get? b = none) (hfd : ∀ env ∈ outer, ∀ L', env.frame = some L' → L' ∉ TT) (hargs : MakeArgs txt big ks tv args)
    (hR : ks.length = 64 → ks.Nodup → ∀ h' tk gn x, KpB TT s.heap h' → Tabs h' → (AllBare s.gens → AllBare gn) → s.heap.get? x = none → (∃ dx, h'.get? x = some (instObj 262 dx)) → Eng w h' x (byteArr ks).toList big → R (.ok (.ret (.ref x))) { s with heap := h', toks := tk, gens := gn })
    (hE : ¬ (ks.length = 64 ∧ ks.Nodup) → ∀ h' tk gn e, Rz TT Tabs base s.heap outer e "ValueError" h' → (AllBare s.gens → AllBare gn) → R (.error (.ref e)) { s with heap := h', toks := tk, gens := gn }) :
    codeAny (model PR w) ⟨none, dp, some outer, gd, un⟩ (.call (.ref 262) args) R s := by
  have hown : ∀ b ∈ [45], NoStr s.heap b := fun b hb => by rw [List.mem_singleton.mp hb]; exact T.a.nostr
  have sub : ∀ b ∈ [45], b ∈ TT := by simp
  refine new262 C hd hu hks hlen T.a (hb 45 (by simp)) (fun env he L' hL h => hfd env he L' hL (by rw [h]; simp)) hargs (fun h1 h2 h' tk gn x kb tab bare hsz hx heng => ?_) fun hn h' tk gn e hz bare => ?_
  · exact hR h1 h2 h' tk gn x (kpB_mono kb sub) ⟨tab, tab_keep T.b (by decide) hown fun b o vs hb _ e => kb b o hb e, tab_keep T.c (by decide) hown fun b o vs hb _ e => kb b o hb e⟩ bare (none_of_size hsz) hx heng
  · exact hE hn h' tk gn e (rz_TT hz sub C.B.frames fun B k t => ⟨t, tab_keep T.b (by decide) hown k, tab_keep T.c (by decide) hown k⟩) bare
theorem encT {e : Addr} {bl : List UInt8} {big : Bool} {b : Array UInt8} {tb : Tok}
    (C : Cx w mean mg mb G ⟨none, dp, some outer, gd, un⟩ base outer d u s.heap) (hd : 40 ≤ d) (hu : 400 ≤ u) (he : Eng w s.heap e bl big) (hb : b.size ≤ 100) (T : Tabs s.heap) (hbT : ∀ b ∈ TT, base.get? b = none)
    (hR : ∀ h' tk gn t, KpB TT s.heap h' → Tabs h' → (AllBare s.gens → AllBare gn) → R (.ok (.ret (.bytes (byteArr (encOf bl big b)) t))) { s with heap := h', toks := tk, gens := gn }) :
    codeAny (model PR w) ⟨none, dp, some outer, gd, un⟩ (.call (.ref 91) ⟨[.ref e, .bytes b tb], []⟩) R s := by
  have hown : ∀ b ∈ [88], NoStr s.heap b := fun b hb => by rw [List.mem_singleton.mp hb]; exact T.b.nostr
  refine enc91 C hd hu he hb T.b (hbT 88 (by simp)) fun h' tk gn t kb tab bare => ?_
  exact hR h' tk gn t (kpB_mono kb (by simp)) ⟨tab_keep T.a (by decide) hown fun b o vs hb _ e => kb b o hb e, tab, tab_keep T.c (by decide) hown fun b o vs hb _ e => kb b o hb e⟩ bare
theorem decT {e : Addr} {bl : List UInt8} {big : Bool} {b : Array UInt8} {tb : Tok}
    (C : Cx w mean mg mb G ⟨none, dp, some outer, gd, un⟩ base outer d u s.heap) (hd : 60 ≤ d) (hu : 600 ≤ u) (he : Eng w s.heap e bl big) (hb : b.size ≤ 100) (T : Tabs s.heap) (hbT : ∀ b ∈ TT, base.get? b = none) (hGb : Kp G base)
    (hR : ∀ out, decOf bl big b = some out → ∀ h' tk gn t, KpB TT s.heap h' → Tabs h' → (AllBare s.gens → AllBare gn) → R (.ok (.ret (.bytes (byteArr out) t))) { s with heap := h', toks := tk, gens := gn })
    (hE : decOf bl big b = none → ∀ h' tk gn e, Rz TT Tabs base s.heap outer e "ValueError" h' → (AllBare s.gens → AllBare gn) → R (.error (.ref e)) { s with heap := h', toks := tk, gens := gn }) :
    codeAny (model PR w) ⟨none, dp, some outer, gd, un⟩ (.call (.ref 112) ⟨[.ref e, .bytes b tb], []⟩) R s := by
  have hown : ∀ b ∈ [107], NoStr s.heap b := fun b hb => by rw [List.mem_singleton.mp hb]; exact T.c.nostr
  refine dec112 C hd hu he hb T.c (hbT 107 (by simp)) hGb (fun out ho h' tk gn t kb tab bare => ?_) fun hn h' tk gn e hz bare => ?_
  · exact hR out ho h' tk gn t (kpB_mono kb (by simp)) ⟨tab_keep T.a (by decide) hown fun b o vs hb _ e => kb b o hb e, tab_keep T.b (by decide) hown fun b o vs hb _ e => kb b o hb e, tab⟩ bare
  · exact hE hn h' tk gn e (rz_TT hz (by simp) C.B.frames fun B k t => ⟨tab_keep T.a (by decide) hown k, tab_keep T.b (by decide) hown k, t⟩) bare
theorem newTE {sl : Addr} {vs : List Value}
    (C : Cx w mean mg mb G ⟨none, dp, some outer, gd, un⟩ base outer d u s.heap) (hd : 40 ≤ d) (hu : 400 ≤ u) (T : Tabs s.heap) (hl : s.heap.IsList sl vs.toArray)
    (hE : ∀ h' tk e, Rz TT Tabs base s.heap outer e "TypeError" h' → R (.error (.ref e)) { s with heap := h', toks := tk }) :
    codeAny (model PR w) ⟨none, dp, some outer, gd, un⟩ (.call (.ref 262) ⟨[.ref sl], []⟩) R s :=
  new262T C hd hu hl fun h' tk e hz => hE h' tk e (rz_TT0 hz T C.B.frames)
theorem encTE {x : Value} {y : Str} {t : Tok}
    (C : Cx w mean mg mb G ⟨none, dp, some outer, gd, un⟩ base outer d u s.heap) (hd : 30 ≤ d) (hu : 300 ≤ u) (T : Tabs s.heap)
    (hE : ∀ h' tk e, Rz TT Tabs base s.heap outer e "TypeError" h' → R (.error (.ref e)) { s with heap := h', toks := tk }) :
    codeAny (model PR w) ⟨none, dp, some outer, gd, un⟩ (.call (.ref 91) ⟨[x, .str y t], []⟩) R s :=
  enc91T C hd hu fun h' tk e hz => hE h' tk e (rz_TT0 hz T C.B.frames)
theorem decTE {x : Value} {y : Str} {t : Tok}
    (C : Cx w mean mg mb G ⟨none, dp, some outer, gd, un⟩ base outer d u s.heap) (hd : 30 ≤ d) (hu : 300 ≤ u) (T : Tabs s.heap)
    (hE : ∀ h' tk e, Rz TT Tabs base s.heap outer e "TypeError" h' → R (.error (.ref e)) { s with heap := h', toks := tk }) :
    codeAny (model PR w) ⟨none, dp, some outer, gd, un⟩ (.call (.ref 112) ⟨[x, .str y t], []⟩) R s :=
  dec112T C hd hu fun h' tk e hz => hE h' tk e (rz_TT0 hz T C.B.frames)
end

end
section

/-- what a call of the wrongs wants -/
structure WrongIn (w : World) (h : Heap) (e : Addr) (bl : List UInt8) (big : Bool) (sl : Addr) (us : List Value) (sgn : List Int) (rl : Addr) (rs : List Value) (rks : List Int) (fo far : Int) : Prop where
  eng : Eng w h e bl big
  sl_ : h.IsList sl us.toArray
  si : IntsAre us sgn
  slen : sgn.length = 64
  snd : sgn.Nodup
  sbd : ∀ k ∈ sgn, 0 ≤ k ∧ k < 256
  rl_ : h.IsList rl rs.toArray
  ri : IntsAre rs rks
  rlen : rks.length ≤ 100
  rbd : ∀ k ∈ rks, 0 ≤ k ∧ k < 256
  bad : decOf bl big (byteArr rks) = none
  fo0 : 0 ≤ fo
  fo1 : fo < 256
  far0 : 0 ≤ far
theorem WrongIn.keep {w : World} {h h' : Heap} {e : Addr} {bl : List UInt8} {big : Bool} {sl : Addr} {us : List Value} {sgn : List Int} {rl : Addr} {rs : List Value} {rks : List Int} {fo far : Int} (W : WrongIn w h e bl big sl us sgn rl rs rks fo far) (k : Kp h h') : WrongIn w h' e bl big sl us sgn rl rs rks fo far :=
  { W with eng := W.eng.keep k, sl_ := W.sl_.at fun o e => k _ o e, rl_ := W.rl_.at fun o e => k _ o e }
noncomputable def wcls (kind : Nat) : String := if kind < 5 then "ValueError" else "TypeError"
theorem getD_in2 {ks : List Int} (h : ∀ k ∈ ks, 0 ≤ k ∧ k < 256) (j : Nat) : 0 ≤ ks.getD j 0 ∧ ks.getD j 0 < 256 := by
  rw [List.getD_eq_getElem?_getD]
  cases q : ks[j]? with
  | none => exact ⟨by decide, by decide⟩
  | some k => exact h k (List.mem_of_getElem? q)
theorem dup_set {l : List Int} {a b : Nat} (ha : a < l.length) (hb : b < l.length) (hab : a ≠ b) : ¬ (l.take a ++ [l.getD b 0] ++ l.drop (a + 1)).Nodup := by
  intro hn
  have e : l.take a ++ [l.getD b 0] ++ l.drop (a + 1) = l.set a (l.getD b 0) := by
    rw [List.set_eq_take_append_cons_drop, if_pos ha, List.append_assoc]; rfl
  rw [e] at hn
  have la : a < (l.set a (l.getD b 0)).length := by rw [List.length_set]; exact ha
  have lb : b < (l.set a (l.getD b 0)).length := by rw [List.length_set]; exact hb
  generalize hx : l.getD b 0 = x at hn la lb
  refine hab ((List.getElem_inj (h₀ := la) (h₁ := lb) hn).mp ?_)
  rw [List.getElem_set_self, List.getElem_set_ne hab]
  have hx2 : x = l[b]'hb := by rw [← hx, List.getD_eq_getElem?_getD, List.getElem?_eq_getElem hb]; rfl
  exact hx2
theorem dup_far {sgn : List Int} (hl : sgn.length = 64) {far : Int} (h0 : 0 ≤ far) : ¬ (List.take (far.fmod 64).toNat sgn ++ [sgn.getD ((far.fmod 64 + 1 + (far.fdiv 64).fmod 63).fmod 64).toNat 0] ++ List.drop (far.fmod 64 + 1).toNat sgn).Nodup := by
  have e1 : far.fmod 64 = far % 64 := Int.fmod_eq_emod_of_nonneg _ (by decide)
  have e2 : far.fdiv 64 = far / 64 := Int.fdiv_eq_ediv_of_nonneg _ (by decide)
  have e3 : (far / 64).fmod 63 = far / 64 % 63 := Int.fmod_eq_emod_of_nonneg _ (by decide)
  have e4 : (far % 64 + 1 + far / 64 % 63).fmod 64 = (far % 64 + 1 + far / 64 % 63) % 64 := Int.fmod_eq_emod_of_nonneg _ (by decide)
  rw [e1, e2, e3, e4, show (far % 64 + 1).toNat = (far % 64).toNat + 1 by omega]
  exact dup_set (by omega) (by omega) (by omega)


/-- an expression that raises -/
noncomputable def FR (D : FD) (env : Env) (m : Loc) (e : Expr) (cls : String) : Prop :=
  ∀ h tk (E : Value → Shared → Prop) (Q : Value → Shared → Prop), Fr D.s.heap D.L h (mp m) → (∀ h1 h' tk' gn ex, Fr D.s.heap D.L h1 (mp m) → Rz TT Tabs D.base h1 (env :: D.outer) ex cls h' → (AllBare D.s.gens → AllBare gn) → E (.ref ex) { D.s with heap := h', toks := tk', gens := gn }) → wpAny (model PR D.w) (D.A env) (eval e env) Q E (D.st h tk)
noncomputable abbrev e302 (D : FD) : Env := envX (Str.ofString "_law_wrong") (fnScope D.w 302) D.L 302 (.ref 301) []
noncomputable def l302 : List Str := [Str.ofString "kind", Str.ofString "engine", Str.ofString "signs", Str.ofString "texts", Str.ofString "foreign", Str.ofString "row", Str.ofString "far", Str.ofString "one", Str.ofString "two"]
noncomputable def lk302 (x : Str) : Bool := l302.contains x && !(x == ("__debug__" : Str))
theorem l302_all (w : World) : (l302.all fun x => (fnScope w 302).names.lookup x == some .local) = true := by kernel_rfl
theorem nm302 {w : World} {x : Str} (h : lk302 x = true) : (fnScope w 302).names.lookup x = some .local := by
  unfold lk302 at h
  rw [Bool.and_eq_true] at h
  have := List.all_eq_true.mp (l302_all w) x (by simpa using h.1)
  simpa using this
theorem nd302 {x : Str} (h : lk302 x = true) : (x == ("__debug__" : Str)) = false := by
  unfold lk302 at h
  rw [Bool.and_eq_true] at h
  simpa using h.2
theorem sk302 (w : World) : (fnScope w 302).kind = .function := by kernel_rfl
section
variable {D : FD} {m : Loc} {O : Led} {h h' : Heap} {tk : Nat} {E : Value → Shared → Prop} {Q : Flow → Shared → Prop} {p1 p2 p3 p4 p5 p6 p7 p8 p9 p10 p11 p12 : Pos} {x y : Str} {rest body : List Stmt}
theorem f_name {A : Around} {v : Value} {Q : Value → Shared → Prop} (F : Fr D.s.heap D.L h (mp m)) (hm : mp m x = some v) (hx : lk302 x = true) (hQ : Q v (D.st h tk)) : wpAny (model PR D.w) A (eval (.Name x p1) (e302 D)) Q E (D.st h tk) :=
  nameX_L (s := D.st h tk) F hm hQ (sk302 D.w) (nm302 (w := D.w) hx) (nd302 hx)
theorem fx_skip {kd j : Int} {t : Tok} {u : Nat} (F : Fr D.s.heap D.L h (mp m)) (hm : mp m (Str.ofString "kind") = some (.int kd t)) (hne : (kd == j) = false) (hQ : ∀ tk', FX D (e302 D) rest Q E h tk') :
    FX D (e302 D) (.If (.Compare (.Name (Str.ofString "kind") p1) [.Eq] [.Constant (.int j) u p2] p3) body [] p4 :: rest) Q E h tk :=
  ⟨wpAny_execs_cons (wpAny_If (wpAny_isTrue_Compare1 (f_name F hm (by rfl) (wpAny_Constant_int (eq_int (wpAny_truthy_bool (by rw [hne]; exact wpAny_execs_nil (hQ _).go)))))))⟩
theorem fx_take {kd j : Int} {t : Tok} {u : Nat} (F : Fr D.s.heap D.L h (mp m)) (hm : mp m (Str.ofString "kind") = some (.int kd t)) (hne : (kd == j) = true) (hQ : ∀ tk' Q', FX D (e302 D) body Q' E h tk') :
    FX D (e302 D) (.If (.Compare (.Name (Str.ofString "kind") p1) [.Eq] [.Constant (.int j) u p2] p3) body [] p4 :: rest) Q E h tk :=
  ⟨wpAny_execs_cons (wpAny_If (wpAny_isTrue_Compare1 (f_name F hm (by rfl) (wpAny_Constant_int (eq_int (wpAny_truthy_bool (by rw [hne]; exact (hQ _ _).go)))))))⟩
theorem fx_raise {e : Expr} {cls : String} (F : Fr D.s.heap D.L h (mp m)) (he : FR D (e302 D) m e cls) (hE : ∀ h1 h' tk' gn ex, Fr D.s.heap D.L h1 (mp m) → Rz TT Tabs D.base h1 (e302 D :: D.outer) ex cls h' → (AllBare D.s.gens → AllBare gn) → E (.ref ex) { D.s with heap := h', toks := tk', gens := gn }) :
    FX D (e302 D) (.Return (some e) p1 :: rest) Q E h tk := ⟨wpAny_execs_cons (wpAny_Return_some (he h tk E _ F hE))⟩
end
local macro_rules | `(tactic| walk_at "eval Name") => `(tactic| (k_here; refine f_name (by assumption) (by assumption) (by first | rfl | assumption) ?_))
section
variable {D : FD} {m : Loc} {O : Led} {h h' : Heap} {tk : Nat} {E : Value → Shared → Prop} {Q : Flow → Shared → Prop} {p1 p2 p3 p4 p5 p6 p7 p8 p9 p10 p11 p12 : Pos} {x y : Str} {rest body : List Stmt}
theorem ne_tt (T0 : Tabs D.s.heap) (F : Fr D.s.heap D.L h (mp m)) : D.L ∉ TT := fun hm => by
  have hz : ∀ b ∈ TT, b < D.s.heap.objs.size := by
    intro b hb
    rcases mem3 hb with rfl | rfl | rfl
    · obtain ⟨_, e, _⟩ := T0.a; exact Heap.lt_size e
    · obtain ⟨_, e, _⟩ := T0.b; exact Heap.lt_size e
    · obtain ⟨_, e, _⟩ := T0.c; exact Heap.lt_size e
  exact Nat.lt_irrefl _ (Nat.lt_of_lt_of_le (hz _ hm) F.above)
theorem fv_map {X : Expr} {KS : List Int} {txt : Bool} {tx : Tok} (K : D.K) (hd : 80 ≤ D.d) (hu : 800 ≤ D.u) (ht : mp m (Str.ofString "texts") = some (.bool txt)) (hX : FV D (e302 D) m [] X (IsL KS)) (hkb : ∀ k ∈ KS, 0 ≤ k ∧ k < 256) (hkl : KS.length ≤ 100)
    (e1 : starEach [X, .Name (Str.ofString "texts") p1] (e302 D) = (false, eval X (e302 D)) :: starEach [.Name (Str.ofString "texts") p1] (e302 D) := by rfl) :
    FV D (e302 D) m [] (.Call (.Name (Str.ofString "_law_map") p3) [X, .Name (Str.ofString "texts") p1] [] p4) fun v X => (∃ t, v = mapV txt KS t) ∧ X = [] := by
  intro h tk E Q I hQ
  obtain ⟨F, N⟩ := I
  have fill : (Mine.hd.heap_1 D.w.params).In D.s.heap → PR = PR := by
    delta PR
    k_fill
    exact fun _ => rfl
  clear fill
  have X0 := K.X
  have T := K.T
  tb_rel
  refine callWith_K X0 (by k_is) ?_ e1
  refine args_cons (?_ : wpAny _ _ (eval X (e302 D)) _ _ _) e1
  refine hX h tk E _ ⟨F, N⟩ fun v X h1 tk1 p1 I1 => ?_
  obtain ⟨l, vs, n, Y, rfl, rfl, hi⟩ := p1
  obtain ⟨F1, N1⟩ := I1
  have hls := list_at (N1 _ (.head _)).1
  clear F N N1
  tb_rel
  refine wpAny_call ?_
  refine lmap (K.push F1 rfl (sk302 D.w) (by omega) (by omega)) (by omega) (by omega) hls hi hkb hkl fun h5 tk5 t5 k5 => ?_
  exact hQ _ [] _ _ ⟨⟨t5, rfl⟩, rfl⟩ ⟨fr_kp F1 k5, .nil⟩
theorem fr_call {KS : List Int} {txt big : Bool} {t5 : Tok} {args : List Value} {kw : List (Str × Value)} {Q : Value → Shared → Prop} (K : D.K) (hd : 80 ≤ D.d) (hu : 800 ≤ D.u) (T0 : Tabs D.s.heap) (hbT : ∀ b ∈ TT, D.base.get? b = none) (hfd : ∀ env ∈ D.outer, ∀ L', env.frame = some L' → L' ∉ TT) (hkb : ∀ k ∈ KS, 0 ≤ k ∧ k < 256) (hkl : KS.length ≤ 100) (hno : ¬ (KS.length = 64 ∧ KS.Nodup)) (ha : MakeArgs txt big KS t5 ⟨args, kw⟩) (F : Fr D.s.heap D.L h (mp m))
    (hE : ∀ h1 h' tk' gn ex, Fr D.s.heap D.L h1 (mp m) → Rz TT Tabs D.base h1 (e302 D :: D.outer) ex "ValueError" h' → (AllBare D.s.gens → AllBare gn) → E (.ref ex) { D.s with heap := h', toks := tk', gens := gn }) :
    wpAny (model PR D.w) (D.A (e302 D)) (call (.ref 262) args kw) Q E (D.st h tk) := by
  refine wpAny_call ?_
  refine newT (s := D.st h tk) (ks := KS) (txt := txt) (big := big) (tv := t5) (K.push F rfl (sk302 D.w) (by omega) (by omega)) (by omega) (by omega) hkb hkl (T0.keep F.keep) hbT (fun env he L' hL => ?_) ha (fun g1 g2 => absurd ⟨g1, g2⟩ hno) (fun hn h' tk gn ex hz bare => hE _ _ _ _ _ F hz bare)
  rcases mem_c he with rfl | he
  · cases hL; exact ne_tt T0 F
  · exact hfd env he L' hL
theorem fr_new {M : Expr} {KS : List Int} {txt : Bool} (K : D.K) (hd : 80 ≤ D.d) (hu : 800 ≤ D.u) (T0 : Tabs D.s.heap) (hbT : ∀ b ∈ TT, D.base.get? b = none) (hfd : ∀ env ∈ D.outer, ∀ L', env.frame = some L' → L' ∉ TT) (hX : FV D (e302 D) m [] M fun v X => (∃ t, v = mapV txt KS t) ∧ X = []) (hkb : ∀ k ∈ KS, 0 ≤ k ∧ k < 256) (hkl : KS.length ≤ 100) (hno : ¬ (KS.length = 64 ∧ KS.Nodup))
    (e1 : starEach [M] (e302 D) = (false, eval M (e302 D)) :: starEach [] (e302 D) := by rfl) : FR D (e302 D) m (.Call (.Name (Str.ofString "Base64Engine") p2) [M] [] p5) "ValueError" := by
  intro h tk E Q F hE
  have fill : (Mine.hd.heap_1 D.w.params).In D.s.heap → PR = PR := by
    delta PR
    k_fill
    exact fun _ => rfl
  clear fill
  have X0 := K.X
  have T := K.T
  have N : News D.s.heap D.L h [] := .nil
  tb_rel
  refine callWith_K X0 (by k_is) ?_ e1
  refine args_cons (?_ : wpAny _ _ (eval M (e302 D)) _ _ _) e1
  refine hX h tk E _ ⟨F, N⟩ fun v X h1 tk1 p1 I1 => ?_
  obtain ⟨⟨t5, rfl⟩, rfl⟩ := p1
  obtain ⟨F1, N1⟩ := I1
  clear F N
  tb_rel
  exact fr_call K hd hu T0 hbT hfd hkb hkl hno (.inr (.inr ⟨rfl, rfl⟩)) F1 hE
theorem fr_newB {M : Expr} {KS : List Int} {txt : Bool} {u : Nat} {pk : Pos} (K : D.K) (hd : 80 ≤ D.d) (hu : 800 ≤ D.u) (T0 : Tabs D.s.heap) (hbT : ∀ b ∈ TT, D.base.get? b = none) (hfd : ∀ env ∈ D.outer, ∀ L', env.frame = some L' → L' ∉ TT) (hX : FV D (e302 D) m [] M fun v X => (∃ t, v = mapV txt KS t) ∧ X = []) (hkb : ∀ k ∈ KS, 0 ≤ k ∧ k < 256) (hkl : KS.length ≤ 100) (hno : ¬ (KS.length = 64 ∧ KS.Nodup))
    (e1 : starEach [M] (e302 D) = (false, eval M (e302 D)) :: starEach [] (e302 D) := by rfl) : FR D (e302 D) m (.Call (.Name (Str.ofString "Base64Engine") p2) [M] [⟨some (Str.ofString "big"), .Constant (.bool true) u p3, pk⟩] p5) "ValueError" := by
  intro h tk E Q F hE
  have fill : (Mine.hd.heap_1 D.w.params).In D.s.heap → PR = PR := by
    delta PR
    k_fill
    exact fun _ => rfl
  clear fill
  have X0 := K.X
  have T := K.T
  have N : News D.s.heap D.L h [] := .nil
  tb_rel
  refine callWith_KW X0 (by k_is) (by rfl) ?_ (by rw [e1]; rfl) e1
  refine args_cons (?_ : wpAny _ _ (eval M (e302 D)) _ _ _) e1
  refine hX h tk E _ ⟨F, N⟩ fun v X h1 tk1 p1 I1 => ?_
  obtain ⟨⟨t5, rfl⟩, rfl⟩ := p1
  obtain ⟨F1, N1⟩ := I1
  clear F N
  tb_rel
  exact fr_call K hd hu T0 hbT hfd hkb hkl hno (.inr (.inl rfl)) F1 hE

/-- lists of ints -/
theorem fv_upto {sl : Addr} {us : List Value} {sgn : List Int} {z : Int} {tz : Tok} (K : D.K) (hs : mp m x = some (.ref sl)) (hkx : lk302 x = true) (hl : D.s.heap.IsList sl us.toArray) (hi : IntsAre us sgn) (hlen : sgn.length ≤ 100) (hm : mp m y = some (.int z tz)) (hky : lk302 y = true) (h0 : 0 ≤ z) :
    FV D (e302 D) m O (.Subscript (.Name x p1) (.Slice none (some (.Name y p2)) none p3) p4) (IsL (List.take z.toNat sgn)) := by
  intro h tk E Q I hQ
  obtain ⟨F, N⟩ := I
  have fill : (Mine.hd.heap_1 D.w.params).In D.s.heap → PR = PR := by
    delta PR
    k_fill
    exact fun _ => rfl
  clear fill
  have X0 := K.X
  have T := K.T
  have hlh : h.IsList sl us.toArray := hl.at fun o e => F.keep _ o e
  have hul := hi.length
  tb_rel
  rename Fr _ _ _ _ => F1
  rename News _ _ _ _ => N1
  rename IntsAre _ (List.take _ _) => hI
  exact hQ _ [_] _ _ ⟨_, _, _, [], rfl, rfl, hI⟩ ⟨F1, N1⟩
theorem fv_idx {sl : Addr} {us : List Value} {sgn : List Int} {z : Int} {tz : Tok} (K : D.K) (hs : mp m x = some (.ref sl)) (hkx : lk302 x = true) (hl : D.s.heap.IsList sl us.toArray) (hi : IntsAre us sgn) (hlen : sgn.length = 64) (hm : mp m y = some (.int z tz)) (hky : lk302 y = true) (h0 : 0 ≤ z) (h1 : z < 64) :
    FV D (e302 D) m O (.List [.Subscript (.Name x p1) (.Name y p2) p3] p4) (IsL [sgn.getD z.toNat 0]) := by
  intro h tk E Q I hQ
  obtain ⟨F, N⟩ := I
  have fill : (Mine.hd.heap_1 D.w.params).In D.s.heap → PR = PR := by
    delta PR
    k_fill
    exact fun _ => rfl
  clear fill
  have X0 := K.X
  have T := K.T
  have hlh : h.IsList sl us.toArray := hl.at fun o e => F.keep _ o e
  have hul := hi.length
  tb_rel
  rename Fr _ _ _ _ => F1
  rename News _ _ _ _ => N1
  exact hQ _ [_] _ _ ⟨_, [_], _, [], rfl, rfl, .cons _ _ .nil⟩ ⟨F1, N1⟩
theorem fv_one {z : Int} {tz : Tok} (K : D.K) (hm : mp m y = some (.int z tz)) (hky : lk302 y = true) :
    FV D (e302 D) m O (.List [.Name y p2] p4) (IsL [z]) := by
  intro h tk E Q I hQ
  obtain ⟨F, N⟩ := I
  have fill : (Mine.hd.heap_1 D.w.params).In D.s.heap → PR = PR := by
    delta PR
    k_fill
    exact fun _ => rfl
  clear fill
  have X0 := K.X
  have T := K.T
  tb_rel
  rename Fr _ _ _ _ => F1
  rename News _ _ _ _ => N1
  exact hQ _ [_] _ _ ⟨_, [_], _, [], rfl, rfl, .cons _ _ .nil⟩ ⟨F1, N1⟩
theorem fv_from {sl : Addr} {us : List Value} {sgn : List Int} {z : Int} {tz : Tok} {u : Nat} (K : D.K) (hs : mp m x = some (.ref sl)) (hkx : lk302 x = true) (hl : D.s.heap.IsList sl us.toArray) (hi : IntsAre us sgn) (hlen : sgn.length ≤ 100) (hm : mp m y = some (.int z tz)) (hky : lk302 y = true) (h0 : 0 ≤ z) :
    FV D (e302 D) m O (.Subscript (.Name x p1) (.Slice (some (.BinOp (.Name y p2) .Add (.Constant (.int 1) u p5) p6)) none none p3) p4) (IsL (List.drop (z + 1).toNat sgn)) := by
  intro h tk E Q I hQ
  obtain ⟨F, N⟩ := I
  have fill : (Mine.hd.heap_1 D.w.params).In D.s.heap → PR = PR := by
    delta PR
    k_fill
    exact fun _ => rfl
  clear fill
  have X0 := K.X
  have T := K.T
  have hlh : h.IsList sl us.toArray := hl.at fun o e => F.keep _ o e
  have hul := hi.length
  iterate 10 tb_start
  refine kmk_slice_ints (s := D.st h _) F N hlh (.int (z + 1) _) .none hi (kmk_from hi (by omega)) rfl (fun D5 us h5 F5 N5 l5 hI5 _ _ => ?_) (by with_unfolding_all rfl) (fun _ => rfl) (by rw [sizeLine_eq, List.size_toArray]; omega)
  exact hQ _ [_] _ _ ⟨_, _, _, [], rfl, rfl, hI5⟩ ⟨F5, N5⟩
theorem fv_add {a b : Expr} {ks ms : List Int} (ha : FV D (e302 D) m O a (IsL ks)) (hb : ∀ X, FV D (e302 D) m (X ++ O) b (IsL ms)) (hz : ks.length + ms.length ≤ 1000) : FV D (e302 D) m O (.BinOp a .Add b p1) (IsL (ks ++ ms)) := by
  intro h tk E Q I hQ
  refine wpAny_BinOp (ha h tk E _ I fun va Xa h1 tk1 pa I1 => ?_)
  obtain ⟨la, va, na, Ya, rfl, rfl, hia⟩ := pa
  refine hb _ h1 tk1 E _ I1 fun vb Xb h2 tk2 pb I2 => ?_
  obtain ⟨lb, vb, nb, Yb, rfl, rfl, hib⟩ := pb
  refine kmk_add_ints (s := D.st h2 tk2) I2.fr I2.nw (list_at (I2.nw _ (List.mem_append_right _ (List.mem_append_left _ (.head _)))).1) (list_at (I2.nw _ (.head _)).1) hia hib (fun D9 us h9 F6 N6 hlt6 hIr => ?_) (by rw [sizeLine_eq]; omega)
  refine hQ _ ((D9, W.listOf us.toArray 0) :: ((lb, W.listOf vb.toArray nb) :: Yb) ++ ((la, W.listOf va.toArray na) :: Ya)) _ _ ⟨D9, us, 0, _, rfl, rfl, hIr⟩ ⟨F6, fun q hq => N6 q ?_⟩
  rw [List.append_assoc] at hq
  exact hq
theorem fv_addG {sl : Addr} {us : List Value} {b : Expr} {ks ms : List Int} (hm : mp m x = some (.ref sl)) (hx : lk302 x = true) (hl : D.s.heap.IsList sl us.toArray) (hi : IntsAre us ks) (hb : FV D (e302 D) m O b (IsL ms)) (hz : ks.length + ms.length ≤ 1000) : FV D (e302 D) m O (.BinOp (.Name x p2) .Add b p1) (IsL (ks ++ ms)) := by
  intro h tk E Q I hQ
  refine wpAny_BinOp (f_name I.fr hm hx ?_)
  refine hb _ tk E _ I fun vb Xb h2 tk2 pb I2 => ?_
  obtain ⟨lb, vb, nb, Yb, rfl, rfl, hib⟩ := pb
  refine kmk_add_ints (s := D.st h2 tk2) I2.fr I2.nw (hl.at fun o e => I2.fr.keep _ o e) (list_at (I2.nw _ (.head _)).1) hi hib (fun D9 us h9 F6 N6 hlt6 hIr => ?_) (by rw [sizeLine_eq]; omega)
  exact hQ _ ((D9, W.listOf us.toArray 0) :: ((lb, W.listOf vb.toArray nb) :: Yb)) _ _ ⟨D9, us, 0, _, rfl, rfl, hIr⟩ ⟨F6, N6⟩
end

section
variable {D : FD} {m : Loc} {O : Led} {h h' : Heap} {tk : Nat} {E : Value → Shared → Prop} {Q : Flow → Shared → Prop} {p1 p2 p3 p4 p5 p6 p7 p8 p9 p10 p11 p12 p13 p14 p15 p16 p17 p18 p19 p20 : Pos} {x y : Str} {rest body : List Stmt}
theorem fv_two {far : Int} {tf : Tok} {u1 u2 u3 u4 u5 u6 : Nat} (K : D.K) (hm : mp m (Str.ofString "far") = some (.int far tf)) :
    FV D (e302 D) m O (.Tuple [.BinOp (.Name (Str.ofString "far") p1) .Mod (.Constant (.int 64) u1 p2) p3, .BinOp (.BinOp (.BinOp (.BinOp (.Name (Str.ofString "far") p4) .Mod (.Constant (.int 64) u2 p5) p6) .Add (.Constant (.int 1) u3 p7) p8) .Add (.BinOp (.BinOp (.Name (Str.ofString "far") p9) .FloorDiv (.Constant (.int 64) u4 p10) p11) .Mod (.Constant (.int 63) u5 p12) p13) p14) .Mod (.Constant (.int 64) u6 p15) p16] 0 p17)
      fun v X => ∃ Ta n t1 t2, v = .ref Ta ∧ X = [(Ta, tupO [.int (far.fmod 64) t1, .int ((far.fmod 64 + 1 + (far.fdiv 64).fmod 63).fmod 64) t2] n)] := by
  intro h tk E Q I hQ
  obtain ⟨F, N⟩ := I
  have fill : (Mine.hd.heap_1 D.w.params).In D.s.heap → PR = PR := by
    delta PR
    k_fill
    exact fun _ => rfl
  clear fill
  have X0 := K.X
  have T := K.T
  tb_rel
  rename Fr _ _ _ _ => F1
  rename News _ _ _ _ => N1
  exact hQ _ [_] _ _ ⟨_, _, _, _, rfl, rfl⟩ ⟨F1, N1⟩
theorem fx_two {e : Expr} {v1 v2 : Int} (K : D.K) (F : Fr D.s.heap D.L h (mp m)) (he : FV D (e302 D) m [] e fun v X => ∃ Ta n t1 t2, v = .ref Ta ∧ X = [(Ta, tupO [.int v1 t1, .int v2 t2] n)])
    (hQ : ∀ t1 t2 h' tk', Fr D.s.heap D.L h' (mp (put (Str.ofString "one") (.int v1 t1) (put (Str.ofString "two") (.int v2 t2) m))) → FX D (e302 D) rest Q E h' tk')
    (hs : swapsWithSole [.Tuple [.Name (Str.ofString "one") p1, .Name (Str.ofString "two") p2] 0 p3] e p5.line (e302 D) = pure false := by rfl) (hw : swappedStores [.Tuple [.Name (Str.ofString "one") p1, .Name (Str.ofString "two") p2] 0 p3] e (e302 D) = pure (some [Str.ofString "one", Str.ofString "two"]) := by rfl) :
    FX D (e302 D) (.Assign [.Tuple [.Name (Str.ofString "one") p1, .Name (Str.ofString "two") p2] 0 p3] e p5 :: rest) Q E h tk := by
  constructor
  refine wpAny_execs_cons (Assign_Tuple_swapped (he h tk _ _ ⟨F, .nil⟩ fun v X h1 tk1 hp I1 => ?_) hs hw)
  obtain ⟨Ta, n, t1, t2, rfl, rfl⟩ := hp
  refine unpackItemsN_ (s := D.st h1 tk1) I1.fr I1.nw (items := #[.int v1 t1, .int v2 t2]) ⟨_, (I1.nw _ (.head _)).1, rfl, n, rfl⟩ rfl rfl fun h4 F4 N4 => ?_
  refine assignInOrder_cons (bindName_ (st_mp (s := D.st h4 tk1) F4 N4 (fun h5 F5 N5 => ?_) (sk302 D.w) (nm302 (w := D.w) (by rfl))))
  refine assignInOrder_cons (bindName_ (st_mp (s := D.st h5 (tk1 + 1)) F5 N5 (fun h6 F6 N6 => ?_) (sk302 D.w) (nm302 (w := D.w) (by rfl))))
  exact assignInOrder_nil (hQ t1 t2 h6 _ F6).go
structure K302 (D : FD) : Prop where
  K : D.K
  hd : 80 ≤ D.d
  hu : 800 ≤ D.u
  T0 : Tabs D.s.heap
  hbT : ∀ b ∈ TT, D.base.get? b = none
  hGb : Kp D.G D.base
  hfd : ∀ env ∈ D.outer, ∀ L', env.frame = some L' → L' ∉ TT
theorem K302.push {D : FD} (k : K302 D) {m : Loc} {h : Heap} (F : Fr D.s.heap D.L h (mp m)) : Cx D.w D.mean D.mg D.mb D.G (D.A (e302 D)) D.base (e302 D :: D.outer) 79 797 h := by
  have C := k.K.push F (env := e302 D) rfl (sk302 D.w) (Nat.le_trans (by decide) k.hd) (Nat.le_trans (by decide) k.hu)
  have hd := C.hd
  have hu := C.hu
  have h1 := k.hd
  have h2 := k.hu
  exact ⟨C.B, C.S, C.le, C.hh, by omega, by omega⟩
theorem fr4 {xe rl : Addr} {bl : List UInt8} {big : Bool} {rs : List Value} {rks : List Int} (k : K302 D) (he : mp m (Str.ofString "engine") = some (.ref xe)) (eng : Eng D.w D.s.heap xe bl big) (hr : mp m (Str.ofString "row") = some (.ref rl)) (hrl : D.s.heap.IsList rl rs.toArray) (hri : IntsAre rs rks) (hlen : rks.length ≤ 100) (hb : ∀ k ∈ rks, 0 ≤ k ∧ k < 256) (hbad : decOf bl big (byteArr rks) = none) (hp : (p2.endLine == p6.line) = true) :
    FR D (e302 D) m (.Call (.Attribute (.Name (Str.ofString "engine") p1) (Str.ofString "decode_bytes") p2) [.Call (.Name (Str.ofString "bytes") p3) [.Name (Str.ofString "row") p4] [] p5] [] p6) "ValueError" := by
  intro h tk E Q F hE
  have fill : (Mine.hd.heap_1 D.w.params).In D.s.heap → PR = PR := by
    delta PR
    k_fill
    exact fun _ => rfl
  clear fill
  have X0 := k.K.X
  have T := k.K.T
  have hlh : h.IsList rl rs.toArray := hrl.at fun o e => F.keep _ o e
  have hul := hri.length
  have N : News D.s.heap D.L h [] := .nil
  have eng0 := eng
  obtain ⟨hlen9, hnd, dx, h1, h2, h3, t1, t2, t3, tb, lk, n, f, he1, hx1, _⟩ := eng
  refine MCall hp rfl ?_
  tb_rel
  rename Fr _ _ _ _ => F5
  refine wpAny_call ?_
  refine decT (k.push F5) (by decide) (by decide) (eng0.keep F5.keep) (by rw [byteArr]; simpa using hlen) (k.T0.keep F5.keep) k.hbT k.hGb (fun out ho => by rw [hbad] at ho; cases ho) (fun hn h' tk gn ex hz bare => hE _ _ _ _ _ F5 hz bare)
theorem fr5 {sl : Addr} {us : List Value} (k : K302 D) (hs : mp m (Str.ofString "signs") = some (.ref sl)) (hl : D.s.heap.IsList sl us.toArray) : FR D (e302 D) m (.Call (.Name (Str.ofString "Base64Engine") p1) [.Name (Str.ofString "signs") p2] [] p3) "TypeError" := by
  intro h tk E Q F hE
  have fill : (Mine.hd.heap_1 D.w.params).In D.s.heap → PR = PR := by
    delta PR
    k_fill
    exact fun _ => rfl
  clear fill
  have X0 := k.K.X
  have T := k.K.T
  have N : News D.s.heap D.L h [] := .nil
  tb_rel
  refine wpAny_call ?_
  exact newTE (vs := us) (k.push F) (by decide) (by decide) (k.T0.keep F.keep) (hl.at fun o e => F.keep _ o e) fun h' tk ex hz => hE _ _ _ _ _ F hz id
/-- a method of the engine on a text -/
theorem fr_txt {xe : Addr} {bl : List UInt8} {big : Bool} {e : Expr} {name : Str} {f : Addr} (k : K302 D) (he : mp m (Str.ofString "engine") = some (.ref xe)) (eng : Eng D.w D.s.heap xe bl big) (ht : FV D (e302 D) m [] e fun v X => (∃ y t, v = .str y t) ∧ X = []) (hp : (p2.endLine == p6.line) = true)
    (M1 : plainGet (Mine.hd.heap_1 D.w.params) 262 name = true) (M2 : isFn (Mine.hd.heap_1 D.w.params) (.ref f) = true) (M3 : keepIn (Mine.hd.heap_1 D.w.params) (.ref f) = true) (M4 : findIn (Mine.hd.heap_1 D.w.params) (.ref 262) name = some (some (.ref f))) (M5 : ∀ (v1 v2 v3 : Value) (a1 a2 a3 : Int) (t1 t2 t3 : Tok), getL name [⟨a1, .str (Str.ofString "bytemap") t1, v1⟩, ⟨a2, .str (Str.ofString "_lookup") t2, v2⟩, ⟨a3, .str (Str.ofString "big") t3, v3⟩] = some none)
    (hc : ∀ (h : Heap) tk y t (R : Result → Shared → Prop), Fr D.s.heap D.L h (mp m) → (∀ h' tk ex, Rz TT Tabs D.base h (e302 D :: D.outer) ex "TypeError" h' → R (.error (.ref ex)) (D.st h' tk)) → codeAny (model PR D.w) (D.A (e302 D)) (.call (.ref f) ⟨[.ref xe, .str y t], []⟩) R (D.st h tk))
    (e1 : starEach [e] (e302 D) = (false, eval e (e302 D)) :: starEach [] (e302 D) := by rfl) (hf : methodCallForm ([e].length + 0) (backTo p6 (starEach [e] (e302 D))) (backToKw p6 (keywordEach [] (e302 D))) = true := by rfl) :
    FR D (e302 D) m (.Call (.Attribute (.Name (Str.ofString "engine") p1) name p2) [e] [] p6) "TypeError" := by
  intro h tk E Q F hE
  have X0 := k.K.X
  obtain ⟨hlen9, hnd, dx, h1, h2, h3, t1, t2, t3, tb, lk, n, ff, he1, hx1, _⟩ := eng
  refine MCall hp hf (f_name F he (by rfl) ?_)
  refine method_inst (s := D.st h tk) F X0 ⟨F.keep _ _ he1, rfl, rfl, F.keep _ _ hx1⟩ M1 M4 M2 (M5 _ _ _ _ _ _ _ _ _) ?_
  refine callWith_K X0 M3 ?_ e1
  refine args_cons (?_ : wpAny _ _ (eval e (e302 D)) _ _ _) e1
  refine ht h tk E _ ⟨F, .nil⟩ fun v X h1 tk1 p1 I1 => ?_
  obtain ⟨⟨y, t, rfl⟩, rfl⟩ := p1
  refine args_nil ?_
  exact ⟨X0.keeps I1.fr.keep, wpAny_call (hc _ _ _ _ _ I1.fr fun h' tk ex hz => hE _ _ _ _ _ I1.fr hz id)⟩
theorem fv_str {y : Str} {u : Nat} : FV D (e302 D) m O (.Constant (.str y) u p1) fun v X => (∃ y t, v = .str y t) ∧ X = [] := by
  intro h tk E Q I hQ
  obtain ⟨F, N⟩ := I
  tb_rel
  exact hQ _ [] _ _ ⟨⟨_, _, rfl⟩, rfl⟩ ⟨F, N⟩
theorem fv_cut6 {far : Int} {tf : Tok} {u u2 : Nat} (K : D.K) (hm : mp m (Str.ofString "far") = some (.int far tf)) : FV D (e302 D) m [] (.Subscript (.Constant (.str (Str.ofString "abc")) u p1) (.Slice none (some (.BinOp (.Name (Str.ofString "far") p2) .Mod (.Constant (.int 4) u2 p3) p4)) none p5) p6) fun v X => (∃ y t, v = .str y t) ∧ X = [] := by
  intro h tk E Q I hQ
  obtain ⟨F, N⟩ := I
  have fill : (Mine.hd.heap_1 D.w.params).In D.s.heap → PR = PR := by
    delta PR
    k_fill
    exact fun _ => rfl
  clear fill
  have X0 := K.X
  have T := K.T
  tb_rel
  rename Fr _ _ _ _ => F1
  rename News _ _ _ _ => N1
  exact hQ _ [] _ _ ⟨⟨_, _, rfl⟩, rfl⟩ ⟨F1, N1⟩
theorem fv_cut8 {far : Int} {tf : Tok} {u u2 u3 : Nat} (K : D.K) (hm : mp m (Str.ofString "far") = some (.int far tf)) : FV D (e302 D) m [] (.Subscript (.Constant (.str (Str.ofString "abcd")) u p1) (.Slice none (some (.BinOp (.BinOp (.Name (Str.ofString "far") p2) .Mod (.Constant (.int 3) u2 p3) p4) .Mult (.Constant (.int 2) u3 p7) p8)) none p5) p6) fun v X => (∃ y t, v = .str y t) ∧ X = [] := by
  intro h tk E Q I hQ
  obtain ⟨F, N⟩ := I
  have fill : (Mine.hd.heap_1 D.w.params).In D.s.heap → PR = PR := by
    delta PR
    k_fill
    exact fun _ => rfl
  clear fill
  have X0 := K.X
  have T := K.T
  tb_rel
  rename Fr _ _ _ _ => F1
  rename News _ _ _ _ => N1
  exact hQ _ [] _ _ ⟨⟨_, _, rfl⟩, rfl⟩ ⟨F1, N1⟩
theorem toNat_64 {z : Int} (h0 : 0 ≤ z) (h1 : z < 64) : z.toNat < 64 := by omega
theorem cut3_len {l : List Int} {z x : Int} (h0 : 0 ≤ z) (h : l.length = 64) : (List.take z.toNat l ++ [x] ++ List.drop (z + 1).toNat l).length ≤ 100 := by
  simp only [List.length_append, List.length_take, List.length_drop, List.length_singleton, h]
  omega
theorem cut3_mem {l : List Int} {n k : Nat} {x : Int} {P : Int → Prop} (h : ∀ k ∈ l, P k) (hx : P x) : ∀ y ∈ List.take n l ++ [x] ++ List.drop k l, P y := fun y hy =>
  (List.mem_append.mp hy).elim (fun z => (List.mem_append.mp z).elim (fun z => h y (List.mem_of_mem_take z)) fun z => List.mem_singleton.mp z ▸ hx) fun z => h y (List.mem_of_mem_drop z)
theorem snoc_mem {l : List Int} {x : Int} {P : Int → Prop} (h : ∀ k ∈ l, P k) (hx : P x) : ∀ y ∈ l ++ [x], P y := fun y hy =>
  (List.mem_append.mp hy).elim (h y) fun z => List.mem_singleton.mp z ▸ hx
theorem snoc_len {l : List Int} {x : Int} (h : l.length = 64) : (l ++ [x]).length = 65 := by rw [List.length_append, h]; rfl
theorem main302 {kind : Nat} (hk : kind < 9) {xe sl rl : Addr} {bl : List UInt8} {big txt : Bool} {us rs : List Value} {sgn rks : List Int} {fo far : Int} {tk0 tf tfar : Tok} (k : K302 D) (W : WrongIn D.w D.s.heap xe bl big sl us sgn rl rs rks fo far) (F : Fr D.s.heap D.L h (mp m)) (h1 : mp m (Str.ofString "kind") = some (.int (kind : Nat) tk0)) (h2 : mp m (Str.ofString "engine") = some (.ref xe)) (h3 : mp m (Str.ofString "signs") = some (.ref sl)) (h4 : mp m (Str.ofString "texts") = some (.bool txt)) (h5 : mp m (Str.ofString "foreign") = some (.int fo tf)) (h6 : mp m (Str.ofString "row") = some (.ref rl)) (h7 : mp m (Str.ofString "far") = some (.int far tfar))
    (hE : ∀ m h1 h' tk' gn ex, Fr D.s.heap D.L h1 (mp m) → Rz TT Tabs D.base h1 (e302 D :: D.outer) ex (wcls kind) h' → (AllBare D.s.gens → AllBare gn) → E (.ref ex) { D.s with heap := h', toks := tk', gens := gn }) : FX D (e302 D) (fnBody D.w 302) Q E h tk := by
  obtain ⟨l, hl0⟩ : ∃ l, l = fnBody D.w 302 := ⟨_, rfl⟩
  rw [← hl0]
  conv at hl0 => rhs; whnf
  subst hl0
  have hm0 := Int.emod_nonneg far (show (64 : Int) ≠ 0 by decide)
  have hm1 := Int.emod_lt_of_pos far (show (0 : Int) < 64 by decide)
  have hfm : far.fmod 64 = far % 64 := Int.fmod_eq_emod_of_nonneg _ (by decide)
  have hm2 := Int.emod_nonneg (far.fmod 64 + 1 + (far.fdiv 64).fmod 63) (show (64 : Int) ≠ 0 by decide)
  have hm3 := Int.emod_lt_of_pos (far.fmod 64 + 1 + (far.fdiv 64).fmod 63) (show (0 : Int) < 64 by decide)
  have hfm2 : (far.fmod 64 + 1 + (far.fdiv 64).fmod 63).fmod 64 = (far.fmod 64 + 1 + (far.fdiv 64).fmod 63) % 64 := Int.fmod_eq_emod_of_nonneg _ (by decide)
  rw [← hfm] at hm0 hm1
  rw [← hfm2] at hm2 hm3
  have hgd := fun j => getD_in2 W.sbd j
  have hlt := toNat_64 hm0 hm1
  have h100 : sgn.length ≤ 100 := by rw [W.slen]; decide
  refine fx_two (v1 := far.fmod 64) (v2 := (far.fmod 64 + 1 + (far.fdiv 64).fmod 63).fmod 64) k.K F (fv_two k.K h7) fun t1 t2 h' tk' F' => ?_
  obtain ⟨m', hm'⟩ : ∃ m', m' = put (Str.ofString "one") (.int (far.fmod 64) t1) (put (Str.ofString "two") (.int ((far.fmod 64 + 1 + (far.fdiv 64).fmod 63).fmod 64) t2) m) := ⟨_, rfl⟩
  have q : ∀ y v, y ≠ Str.ofString "one" → y ≠ Str.ofString "two" → mp m y = v → mp m' y = v := fun y v a b e => by rw [hm', mp_put, if_neg a, mp_put, if_neg b]; exact e
  have i1 : mp m' (Str.ofString "one") = some (.int (far.fmod 64) t1) := by rw [hm', mp_put, if_pos rfl]
  have i2 : mp m' (Str.ofString "two") = some (.int ((far.fmod 64 + 1 + (far.fdiv 64).fmod 63).fmod 64) t2) := by rw [hm', mp_put, if_neg (by decide), mp_put, if_pos rfl]
  replace h1 := q _ _ (by decide) (by decide) h1
  replace h2 := q _ _ (by decide) (by decide) h2
  replace h3 := q _ _ (by decide) (by decide) h3
  replace h4 := q _ _ (by decide) (by decide) h4
  replace h5 := q _ _ (by decide) (by decide) h5
  replace h6 := q _ _ (by decide) (by decide) h6
  replace h7 := q _ _ (by decide) (by decide) h7
  rw [← hm'] at F'
  clear q hm' F
  have hE := hE m'
  match kind, hk with
  | 0, _ =>
    exact fx_take F' h1 (by rfl) fun _ _ => fx_raise F' (fr_new k.K k.hd k.hu k.T0 k.hbT k.hfd (fv_map (tx := tf) k.K k.hd k.hu h4 (fv_upto k.K h3 (by rfl) W.sl_ W.si h100 i1 (by rfl) hm0) (fun k hk => W.sbd k (List.mem_of_mem_take hk)) (Nat.le_trans (List.length_take_le _ _) (Nat.le_of_lt (Nat.lt_trans hlt (by decide))))) (fun k hk => W.sbd k (List.mem_of_mem_take hk)) (Nat.le_trans (List.length_take_le _ _) (Nat.le_of_lt (Nat.lt_trans hlt (by decide)))) fun q => absurd q.1 (Nat.ne_of_lt (Nat.lt_of_le_of_lt (List.length_take_le _ _) hlt))) hE
  | 1, _ =>
    have hb := snoc_mem W.sbd (x := fo) ⟨W.fo0, W.fo1⟩
    have hl := snoc_len (x := fo) W.slen
    exact fx_skip F' h1 (by rfl) fun _ => fx_take F' h1 (by rfl) fun _ _ => fx_raise F' (fr_newB k.K k.hd k.hu k.T0 k.hbT k.hfd (fv_map (tx := tf) k.K k.hd k.hu h4 (fv_addG h3 (by rfl) W.sl_ W.si (fv_one k.K h5 (by rfl)) (by rw [W.slen, List.length_singleton]; decide)) hb (by rw [hl]; decide)) hb (by rw [hl]; decide) fun q => absurd (hl.symm.trans q.1) (by decide)) hE
  | 2, _ =>
    have hb := snoc_mem W.sbd (hgd (far.fmod 64).toNat)
    have hl := snoc_len (x := sgn.getD (far.fmod 64).toNat 0) W.slen
    exact fx_skip F' h1 (by rfl) fun _ => fx_skip F' h1 (by rfl) fun _ => fx_take F' h1 (by rfl) fun _ _ => fx_raise F' (fr_new k.K k.hd k.hu k.T0 k.hbT k.hfd (fv_map (tx := tf) k.K k.hd k.hu h4 (fv_addG h3 (by rfl) W.sl_ W.si (fv_idx k.K h3 (by rfl) W.sl_ W.si W.slen i1 (by rfl) hm0 hm1) (by rw [W.slen, List.length_singleton]; decide)) hb (by rw [hl]; decide)) hb (by rw [hl]; decide) fun q => absurd (hl.symm.trans q.1) (by decide)) hE
  | 3, _ =>
    have hb := cut3_mem (n := (far.fmod 64).toNat) (k := (far.fmod 64 + 1).toNat) W.sbd (hgd ((far.fmod 64 + 1 + (far.fdiv 64).fmod 63).fmod 64).toNat)
    have hl := cut3_len (x := sgn.getD ((far.fmod 64 + 1 + (far.fdiv 64).fmod 63).fmod 64).toNat 0) hm0 W.slen
    have hl2 : (List.take (far.fmod 64).toNat sgn).length ≤ 64 := Nat.le_trans (List.length_take_le _ _) (Nat.le_of_lt hlt)
    have hl3 : (List.drop (far.fmod 64 + 1).toNat sgn).length ≤ 64 := by rw [List.length_drop, W.slen]; exact Nat.sub_le _ _
    exact fx_skip F' h1 (by rfl) fun _ => fx_skip F' h1 (by rfl) fun _ => fx_skip F' h1 (by rfl) fun _ => fx_take F' h1 (by rfl) fun _ _ => fx_raise F' (fr_new k.K k.hd k.hu k.T0 k.hbT k.hfd (fv_map (tx := tf) k.K k.hd k.hu h4 (fv_add (fv_add (fv_upto k.K h3 (by rfl) W.sl_ W.si h100 i1 (by rfl) hm0) (fun _ => fv_idx k.K h3 (by rfl) W.sl_ W.si W.slen i2 (by rfl) hm2 hm3) (by rw [List.length_singleton]; omega)) (fun _ => fv_from k.K h3 (by rfl) W.sl_ W.si h100 i1 (by rfl) hm0) (by rw [List.length_append, List.length_singleton]; omega)) hb hl) hb hl fun z => dup_far W.slen W.far0 z.2) hE
  | 4, _ => exact fx_skip F' h1 (by rfl) fun _ => fx_skip F' h1 (by rfl) fun _ => fx_skip F' h1 (by rfl) fun _ => fx_skip F' h1 (by rfl) fun _ => fx_take F' h1 (by rfl) fun _ _ => fx_raise F' (fr4 k h2 W.eng h6 W.rl_ W.ri W.rlen W.rbd W.bad (by rfl)) hE
  | 5, _ => exact fx_skip F' h1 (by rfl) fun _ => fx_skip F' h1 (by rfl) fun _ => fx_skip F' h1 (by rfl) fun _ => fx_skip F' h1 (by rfl) fun _ => fx_skip F' h1 (by rfl) fun _ => fx_take F' h1 (by rfl) fun _ _ => fx_raise F' (fr5 k h3 W.sl_) hE
  | 6, _ => exact fx_skip F' h1 (by rfl) fun _ => fx_skip F' h1 (by rfl) fun _ => fx_skip F' h1 (by rfl) fun _ => fx_skip F' h1 (by rfl) fun _ => fx_skip F' h1 (by rfl) fun _ => fx_skip F' h1 (by rfl) fun _ => fx_take F' h1 (by rfl) fun _ _ => fx_raise F' (fr_txt (f := 91) k h2 W.eng (fv_cut6 k.K h7) (by rfl) (by kernel_rfl) (by kernel_rfl) (by kernel_rfl) (by kernel_rfl) (fun _ _ _ _ _ _ _ _ _ => rfl) fun h tk y t R F hR => encTE (k.push F) (by decide) (by decide) (k.T0.keep F.keep) hR) hE
  | 7, _ => exact fx_skip F' h1 (by rfl) fun _ => fx_skip F' h1 (by rfl) fun _ => fx_skip F' h1 (by rfl) fun _ => fx_skip F' h1 (by rfl) fun _ => fx_skip F' h1 (by rfl) fun _ => fx_skip F' h1 (by rfl) fun _ => fx_skip F' h1 (by rfl) fun _ => fx_take F' h1 (by rfl) fun _ _ => fx_raise F' (fr_txt (f := 91) k h2 W.eng fv_str (by rfl) (by kernel_rfl) (by kernel_rfl) (by kernel_rfl) (by kernel_rfl) (fun _ _ _ _ _ _ _ _ _ => rfl) fun h tk y t R F hR => encTE (k.push F) (by decide) (by decide) (k.T0.keep F.keep) hR) hE
  | 8, _ => exact fx_skip F' h1 (by rfl) fun _ => fx_skip F' h1 (by rfl) fun _ => fx_skip F' h1 (by rfl) fun _ => fx_skip F' h1 (by rfl) fun _ => fx_skip F' h1 (by rfl) fun _ => fx_skip F' h1 (by rfl) fun _ => fx_skip F' h1 (by rfl) fun _ => fx_skip F' h1 (by rfl) fun _ => fx_raise F' (fr_txt (f := 112) k h2 W.eng (fv_cut8 k.K h7) (by rfl) (by kernel_rfl) (by kernel_rfl) (by kernel_rfl) (by kernel_rfl) (fun _ _ _ _ _ _ _ _ _ => rfl) fun h tk y t R F hR => decTE (k.push F) (by decide) (by decide) (k.T0.keep F.keep) hR) hE
end
theorem wrong302 {w : World} {mean mg mb G base outer d u dp un gd} {s : Shared} {R : Result → Shared → Prop} {e : Addr} {bl : List UInt8} {big txt : Bool} {sl rl : Addr} {us rs : List Value} {sgn rks : List Int} {fo far : Int} {tk0 tf tfar : Tok} (kind : Nat) (hk : kind < 9)
    (C : Cx w mean mg mb G ⟨none, dp, some outer, gd, un⟩ base outer d u s.heap) (hd : 80 ≤ d) (hu : 800 ≤ u) (W : WrongIn w s.heap e bl big sl us sgn rl rs rks fo far) (T0 : Tabs s.heap) (hbT : ∀ b ∈ TT, base.get? b = none) (hGb : Kp G base) (hfd : ∀ env ∈ outer, ∀ L', env.frame = some L' → L' ∉ TT)
    (hE : ∀ h' tk gn ex, Rz TT Tabs base s.heap outer ex (wcls kind) h' → (AllBare s.gens → AllBare gn) → R (.error (.ref ex)) { s with heap := h', toks := tk, gens := gn }) :
    codeAny (model PR w) ⟨none, dp, some outer, gd, un⟩ (.call (.ref 302) ⟨[.int (kind : Nat) tk0, .ref e, .ref sl, .bool txt, .int fo tf, .ref rl, .int far tfar], []⟩) R s := by
  have X0 := C.X
  revert X0
  delta PR
  k_fill
  intro X0
  refine enter C (by omega) (by k_is) (by k_is) (BindsTo.of_eq rfl) (locs rfl) ?_ rfl rfl rfl (by decide)
  intro L h₁ F N B X T
  clear X0 B
  have F : Fr s.heap L h₁ (mp [(Str.ofString "far", some (.int far tfar)), (Str.ofString "row", some (.ref rl)), (Str.ofString "foreign", some (.int fo tf)), (Str.ofString "texts", some (.bool txt)), (Str.ofString "signs", some (.ref sl)), (Str.ofString "engine", some (.ref e)), (Str.ofString "kind", some (.int (kind : Nat) tk0))]) := F
  exact (main302 (D := ⟨w, mean, mg, mb, G, dp, un, gd, outer, base, d, u, L, s⟩) hk ⟨C, hd, hu, T0, hbT, hGb, hfd⟩ W F rfl rfl rfl rfl rfl rfl rfl fun m h1 h' tk' gn ex F5 hz bare => rz_on C.B F5 hz rfl (fun b o _ _ e => e) (fun b o _ e _ => ⟨o.slots, e⟩) fun h' hz => hE _ _ _ _ hz bare).go

end
section

section
variable {prog : Program} {w : World} {A₀ : Around} {E : Value → Shared → Prop} {s' : Shared} {base g G B : Heap} {outer : List Env} {L a e : Addr} {m : Str → Option Value} {name : Str} {scope : Scope} {cd a0 : Value} {cl : List (Str × Addr)}
  {b₀ : Stmt} {suite : List Stmt} {pos np : Pos} {hs rest : List ExceptHandler} {Q : Flow → Shared → Prop} {KF : Frag} {p : Program} {loose : List Str} {mean : ExcName → Option Value} {mg mb : Str → Option Value} {x : Str} {X T' : String}

/-- an exception that has been noted and landed in its own frame -/
structure Landed (KF : Frag) (p : Program) (loose : List Str) (mean : ExcName → Option Value) (mg mb : Str → Option Value) (A₀ : Around) (base B G0 : Heap) (outer : List Env) (L : Addr) (m : Str → Option Value) (env : Env) (e : Addr) (X : String) (g g' h : Heap) : Prop where
  fly : ∃ a0, Heap.FlyingW B (env :: outer) e (.type X) a0 h
  up : G0.UpToSlots h
  turn : KtsTurn (outer.filterMap (·.frame)) g g'
  fr : Fr g' L h m
  below : Below A₀ base outer g'
  x : KF.In g'
  t : Top p loose mean mg mb g'

theorem land_W (hfl : Heap.FlyingW B (envX name scope L a cd cl :: outer) e (.type X) a0 s'.heap) (hBG : ∀ b o, G.get? b = some o → b ∉ (envX name scope L a cd cl :: outer).filterMap (·.frame) → B.get? b = some o)
    (F : Fr g L G m) (K : Below A₀ base outer g) (hsm : G.UpToSlots s'.heap) (XB : KF.In base) (TB : Top p loose mean mg mb base)
    (k : ∀ h' g', Landed KF p loose mean mg mb A₀ base B s'.heap outer L m (envX name scope L a cd cl) e X g g' h' → wpAny (model prog w) (A₀.deeper (envX name scope L a cd cl)) (handleBy (.ref e) (envX name scope L a cd cl) hs) Q E { s' with heap := h' }) :
    wpAny (model prog w) (A₀.deeper (envX name scope L a cd cl)) (noteFrame (.ref e) (envX name scope L a cd cl))
      (fun _ s₂ => wpAny (model prog w) (A₀.deeper (envX name scope L a cd cl)) (setFlight (.ref e) none) (fun _ s₃ =>
        wpAny (model prog w) (A₀.deeper (envX name scope L a cd cl)) (handleBy (.ref e) (envX name scope L a cd cl) hs) Q E s₃) E s₂) E s' := by
  refine wpAny_looks_onW (Around.frames_deeper K.stack) rfl hfl fun h₄ hheld₄ hsm₄ => ?_
  refine wpAny_landsW hheld₄ fun h₅ hheld hsm₅' => ?_
  have hsm₅ := hsm₄.trans hsm₅'
  obtain ⟨g₅, T₅, F₅, K₅⟩ := kts_ground (name := name) (scope := scope) (a := a) (cd := cd) K F hBG hheld.1 (hsm.trans hsm₅)
  exact k h₅ g₅ ⟨⟨_, hheld⟩, hsm₅, T₅, F₅, K₅, XB.keeps K₅.stays, TB.keeps K₅.stays⟩

theorem skip_W {h' g' G0 : Heap} (Z : Landed KF p loose mean mg mb A₀ base B G0 outer L m (envX name scope L a cd cl) e X g g' h')
    (ex : nsIn KF mainGlobals x = some none) (hv : bootBuiltins x = some (.type T')) (hn' : x ≠ "__name__")
    (hexc : isSubtype (.type T') (.type "BaseException") = pure true) (hnt : isSubtype (.type ((Manifest.find? T').elim "type" fun y => y.metatype)) (.type "tuple") = pure false) (hsub : isSubtype (.type X) (.type T') = pure false)
    (k : wpAny (model prog w) (A₀.deeper (envX name scope L a cd cl)) (handleBy (.ref e) (envX name scope L a cd cl) rest) Q E { s' with heap := h' })
    (hk : scope.kind = .function := by rfl) (hx : (envX name scope L a cd cl).kindOf x = some .globalImplicit := by rfl) (hd : (x == ("__debug__" : Str)) = false := by decide) :
    wpAny (model prog w) (A₀.deeper (envX name scope L a cd cl)) (handleBy (.ref e) (envX name scope L a cd cl) (.ExceptHandler (some (.Name x np)) none (b₀ :: suite) pos :: rest)) Q E { s' with heap := h' } := by
  obtain ⟨a0, hfl⟩ := Z.fly
  obtain ⟨ob, hob, hobc⟩ := hfl.there
  refine wpAny_handleBy_builtin (X := X) (T := T') (b := false) hexc hnt hsub (nameX_B (s := { s' with heap := h' }) Z.fr Z.x (topRead_of Z.t) ex hv hn' ⟨rfl, ⟨ob, hob, hobc⟩, ?_⟩ hk hx hd)
  exact k

theorem take_W {h' g' G0 : Heap} (Z : Landed KF p loose mean mg mb A₀ base B G0 outer L m (envX name scope L a cd cl) e X g g' h') (hBG : ∀ b o, G.get? b = some o → b ∉ (envX name scope L a cd cl :: outer).filterMap (·.frame) → B.get? b = some o)
    (F : Fr g L G m) (K : Below A₀ base outer g) (hsm : G.UpToSlots h') (XB : KF.In base) (TB : Top p loose mean mg mb base)
    (ex : nsIn KF mainGlobals x = some none) (hv : bootBuiltins x = some (.type T')) (hn' : x ≠ "__name__")
    (hexc : isSubtype (.type T') (.type "BaseException") = pure true) (hnt : isSubtype (.type ((Manifest.find? T').elim "type" fun y => y.metatype)) (.type "tuple") = pure false) (hsub : isSubtype (.type X) (.type T') = pure true)
    (k : ∀ h2 g2, Landed KF p loose mean mg mb A₀ base B h' outer L m (envX name scope L a cd cl) e X g g2 h2 →
      wpAny (model prog w) ((A₀.deeper (envX name scope L a cd cl)).mark (some (.ref e))) (execs (b₀ :: suite) (envX name scope L a cd cl)) Q E { s' with heap := h2 })
    (hk : scope.kind = .function := by rfl) (hx : (envX name scope L a cd cl).kindOf x = some .globalImplicit := by rfl) (hd : (x == ("__debug__" : Str)) = false := by decide)
    (hE : PassesOwnAt (model prog w) ((A₀.deeper (envX name scope L a cd cl)).mark (some (.ref e))) (A₀.deeper (envX name scope L a cd cl)) (envX name scope L a cd cl) E := by passes_own) :
    wpAny (model prog w) (A₀.deeper (envX name scope L a cd cl)) (handleBy (.ref e) (envX name scope L a cd cl) (.ExceptHandler (some (.Name x np)) none (b₀ :: suite) pos :: rest)) Q E { s' with heap := h' } := by
  obtain ⟨a0, hfl⟩ := Z.fly
  obtain ⟨ob, hob, hobc⟩ := hfl.there
  refine wpAny_handleBy_builtin (X := X) (T := T') (b := true) hexc hnt hsub (nameX_B (s := { s' with heap := h' }) Z.fr Z.x (topRead_of Z.t) ex hv hn' ⟨rfl, ⟨ob, hob, hobc⟩, ?_⟩ hk hx hd)
  refine lands_againW hfl fun h₆ hfl₆ hsm₆ => ?_
  obtain ⟨g₆, T₆, F₆, K₆⟩ := kts_ground (name := name) (scope := scope) (a := a) (cd := cd) K F hBG hfl₆.1 (hsm.trans hsm₆)
  exact wpAny_passesOwnAt hE (k h₆ g₆ ⟨⟨_, hfl₆⟩, hsm₆, T₆, F₆, K₆, XB.keeps K₆.stays, TB.keeps K₆.stays⟩)
end


theorem answer309 {w : World} {mean mg mb G base outer d u dp un gd} {s : Shared} {R : Result → Shared → Prop} {e : Addr} {bl : List UInt8} {big txt : Bool} {sl rl : Addr} {us rs : List Value} {sgn rks : List Int} {fo far : Int} {tk0 tf tfar : Tok} (kind : Nat) (hkd : kind < 9)
    (C : Cx w mean mg mb G ⟨none, dp, some outer, gd, un⟩ base outer d u s.heap) (hd : 90 ≤ d) (hu : 900 ≤ u) (W : WrongIn w s.heap e bl big sl us sgn rl rs rks fo far) (T0 : Tabs s.heap) (hbT : ∀ b ∈ TT, base.get? b = none) (hGb : Kp G base) (hfd : ∀ env ∈ outer, ∀ L', env.frame = some L' → L' ∉ TT)
    (hR : ∀ h' tk gn t, (∀ b o, b ∉ TT → b ∉ outer.filterMap (·.frame) → s.heap.get? b = some o → h'.get? b = some o) → UpB TT s.heap h' → Tabs h' → (AllBare s.gens → AllBare gn) → R (.ok (.ret (.str (Str.ofString (wcls kind)) t))) { s with heap := h', toks := tk, gens := gn }) :
    codeAny (model PR w) ⟨none, dp, some outer, gd, un⟩ (.call (.ref 309) ⟨[.int (kind : Nat) tk0, .ref e, .ref sl, .bool txt, .int fo tf, .ref rl, .int far tfar], []⟩) R s := by
  have X0 := C.X
  revert X0
  delta PR
  k_fill
  intro X0
  refine enter C (by omega) (by k_is) (by k_is) (BindsTo.of_eq rfl) (locs rfl) ?_ rfl rfl rfl (by decide)
  intro L h₁ F0 N0 _ _ _
  have hz : ∀ b ∈ TT, b < s.heap.objs.size := by
    intro b hb
    rcases mem3 hb with rfl | rfl | rfl
    · obtain ⟨_, e, _⟩ := T0.a; exact Heap.lt_size e
    · obtain ⟨_, e, _⟩ := T0.b; exact Heap.lt_size e
    · obtain ⟨_, e, _⟩ := T0.c; exact Heap.lt_size e
  have hLT : L ∉ TT := fun hm => Nat.lt_irrefl _ (Nat.lt_of_lt_of_le (hz L hm) F0.above)
  have GT : ∀ b ∈ TT, G.get? b = none := by
    intro b hb
    rcases mem3 hb with rfl | rfl | rfl
    · exact C.S.n45
    · exact C.S.n88
    · exact C.S.n107
  have Cg := C.hide (own := TT) hbT hfd GT
  obtain ⟨g, hg⟩ : ∃ g, g = hideAll s.heap TT := ⟨_, rfl⟩
  have F : Fr g L h₁ (mp [(Str.ofString "far", some (.int far tfar)), (Str.ofString "row", some (.ref rl)), (Str.ofString "foreign", some (.int fo tf)), (Str.ofString "texts", some (.bool txt)), (Str.ofString "signs", some (.ref sl)), (Str.ofString "engine", some (.ref e)), (Str.ofString "kind", some (.int (kind : Nat) tk0))]) := by rw [hg]; exact fr_hide TT F0
  have N : News g L h₁ [] := .nil
  rw [← hg] at Cg
  have gk : ∀ b o, b ∉ TT → s.heap.get? b = some o → g.get? b = some o := fun b o hb e => by rw [hg]; exact hideAll_get _ e hb
  have gs : Kp g s.heap := fun b o e => of_hideAll _ (hg ▸ e)
  have gT : ∀ b ∈ TT, g.get? b = none := fun b hb => by rw [hg]; exact hideAll_none _ hb
  have X := C.S.X.keeps Cg.le
  have T := C.S.T.keeps Cg.le
  have kF0 := F0.keep
  clear X0 N0 F0
  show wpAny _ _ _ _ _ _
  k_fold
  iterate 2 tb_start
  refine wpAny_Try_except ?_
  tb_rel
  refine wpAny_call ?_
  refine wrong302 kind hkd (Cg.push F rfl rfl (by omega) (by omega)) (by omega) (by omega) (W.keep kF0) (T0.keep kF0) hbT hGb (fun env he L' hL => ?_) fun h' tk gn ex hzz bare => ?_
  · rcases mem_c he with rfl | he
    · cases hL; exact hLT
    · exact hfd env he L' hL
  dsimp only at hzz ⊢
  obtain ⟨B, a0, hB1, hB2, hB3, hfl, hup⟩ := hzz
  have F' : Fr g L (hideAll h₁ TT) _ := ⟨F.ns.at' fun o e => hideAll_get _ e hLT, fun b o q => hideAll_get _ (F.keep b o q) (fun hm => by rw [gT b hm] at q; cases q), F.above⟩
  have hBG : ∀ b o, (hideAll h₁ TT).get? b = some o → b ∉ (_ :: outer).filterMap (·.frame) → B.get? b = some o := fun b o e hn => hB2 b o (fun hm => by rw [hideAll_none _ hm] at e; cases e) (of_hideAll _ e) hn
  have hsm : (hideAll h₁ TT).UpToSlots h' := fun b o e hn => hup b o (fun hm => by rw [hideAll_none _ hm] at e; cases e) (of_hideAll _ e) hn
  refine land_W (s' := ⟨h', gn, s.drawn, tk, s.os⟩) hfl hBG F' Cg.B hsm (C.S.X.keeps hGb) (C.S.T.keeps hGb) fun h3 g3 Z3 => ?_
  rcases (show wcls kind = "ValueError" ∨ wcls kind = "TypeError" from by unfold wcls; split <;> simp) with hw | hw
  · rw [hw] at Z3 hR
    refine take_W (s' := ⟨h', gn, s.drawn, tk, s.os⟩) (T' := "ValueError") Z3 hBG F' Cg.B (hsm.trans Z3.up) (C.S.X.keeps hGb) (C.S.T.keeps hGb) (by kernel_rfl) excClass_ValueError.boot (by decide) (by rw [isSubtype_type]; kernel_rfl) (by rw [isSubtype_type]; kernel_rfl) (by rw [isSubtype_type]; kernel_rfl) ?_
    intro h4 g4 Z4
    have X4 := Z4.x
    have T4 := Z4.t
    have F4 := Z4.fr
    have N4 : News g4 L h4 [] := .nil
    obtain ⟨a4, fl4⟩ := Z4.fly
    have tabs4 := hB3.keep fl4.1
    have k4 : ∀ b o, b ∉ TT → b ∉ outer.filterMap (·.frame) → s.heap.get? b = some o → h4.get? b = some o := fun b o hb hn e => F4.keep b o (Z4.turn.other b o (gk b o hb e) hn)
    have u4 : UpB TT s.heap h4 := fun b o hb e _ => by
      obtain ⟨sl, e2⟩ := Z4.turn.up (gk b o hb e)
      exact ⟨sl, F4.keep b _ e2⟩
    clear X T F N Cg
    tb_rel
    exact hR _ _ _ _ k4 u4 tabs4 bare
  · rw [hw] at Z3 hR
    refine skip_W (s' := ⟨h', gn, s.drawn, tk, s.os⟩) (T' := "ValueError") Z3 (by kernel_rfl) excClass_ValueError.boot (by decide) (by rw [isSubtype_type]; kernel_rfl) (by rw [isSubtype_type]; kernel_rfl) (by rw [isSubtype_type]; kernel_rfl) ?_
    refine take_W (s' := ⟨h', gn, s.drawn, tk, s.os⟩) (T' := "TypeError") Z3 hBG F' Cg.B (hsm.trans Z3.up) (C.S.X.keeps hGb) (C.S.T.keeps hGb) (by kernel_rfl) excClass_TypeError.boot (by decide) (by rw [isSubtype_type]; kernel_rfl) (by rw [isSubtype_type]; kernel_rfl) (by rw [isSubtype_type]; kernel_rfl) ?_
    intro h4 g4 Z4
    have X4 := Z4.x
    have T4 := Z4.t
    have F4 := Z4.fr
    have N4 : News g4 L h4 [] := .nil
    obtain ⟨a4, fl4⟩ := Z4.fly
    have tabs4 := hB3.keep fl4.1
    have k4 : ∀ b o, b ∉ TT → b ∉ outer.filterMap (·.frame) → s.heap.get? b = some o → h4.get? b = some o := fun b o hb hn e => F4.keep b o (Z4.turn.other b o (gk b o hb e) hn)
    have u4 : UpB TT s.heap h4 := fun b o hb e _ => by
      obtain ⟨sl, e2⟩ := Z4.turn.up (gk b o hb e)
      exact ⟨sl, F4.keep b _ e2⟩
    clear X T F N Cg
    tb_rel
    exact hR _ _ _ _ k4 u4 tabs4 bare

end
section

theorem new262x {w : World} {mean mg mb G base outer d u dp un gd} {s : Shared} {R : Result → Shared → Prop} {txt big : Bool} {ks : List Int} {tv : Tok} {args : Args}
    (C : Cx w mean mg mb G ⟨none, dp, some outer, gd, un⟩ base outer d u s.heap) (hd : 40 ≤ d) (hu : 400 ≤ u) (hks : ∀ k ∈ ks, 0 ≤ k ∧ k < 256) (hlen : ks.length ≤ 100)
    (ht0 : Tab45 s.heap) (hb : base.get? 45 = none) (hfd : ∀ env ∈ outer, ∀ L', env.frame = some L' → L' ≠ 45)
    (hargs : MakeArgs txt big ks tv args)
    (hR : ks.length = 64 → ks.Nodup → ∀ h' tk gn x dx lk olk h1 h2 h3 t1 t2 t3 tb n, KpB [45] s.heap h' → Tab45 h' → (AllBare s.gens → AllBare gn) → s.heap.objs.size ≤ dx → @LT.lt Nat _ dx x → @LT.lt Nat _ x lk → h'.get? x = some (instObj 262 dx) → h'.get? dx = some (engD h1 h2 h3 t1 t2 t3 tb (byteArr ks).toList lk big n) → h'.get? lk = some olk →
      (∀ h'' : Heap, h''.get? x = some (instObj 262 dx) → h''.get? dx = some (engD h1 h2 h3 t1 t2 t3 tb (byteArr ks).toList lk big n) → h''.get? lk = some olk → Eng w h'' x (byteArr ks).toList big) → R (.ok (.ret (.ref x))) { s with heap := h', toks := tk, gens := gn })
    (hE : ¬ (ks.length = 64 ∧ ks.Nodup) → ∀ h' tk gn e, Rz [45] Tab45 base s.heap outer e "ValueError" h' → (AllBare s.gens → AllBare gn) → R (.error (.ref e)) { s with heap := h', toks := tk, gens := gn }) :
    codeAny (model PR w) ⟨none, dp, some outer, gd, un⟩ (.call (.ref 262) args) R s := by
  obtain ⟨hh, g, dd, t, os⟩ := s
  have X0 := C.X
  revert X0
  delta PR
  k_fill
  intro X0
  obtain ⟨rest, kw⟩ := args
  dsimp only at *
  refine make_core (C := 262) (init := .ref 50) (makes_of X0 (by k_is)) (looks_findIn X0 (by k_is)) (fun self => bind_fn X0 self (by k_is)) (.inl rfl) ?_
  rw [under_make]
  have up : ∀ b o, hh.get? b = some o → ((hh.push emptyDict).push (instObj 262 hh.objs.size)).get? b = some o := fun b o e => Heap.get?_push_of_some _ (Heap.get?_push_of_some _ e)
  have hx : ((hh.push emptyDict).push (instObj 262 hh.objs.size)).get? (hh.objs.size + 1) = some (instObj 262 hh.objs.size) := by heap_get
  have hdx : ((hh.push emptyDict).push (instObj 262 hh.objs.size)).get? hh.objs.size = some emptyDict := by heap_get
  have hnone : ∀ b, hh.objs.size ≤ b → hh.get? b = none := fun b hb => none_of_size hb
  have g45 : @LT.lt Nat _ 45 hh.objs.size := by obtain ⟨ps, e, _⟩ := ht0; exact Heap.lt_size e
  have old : ∀ b o, hh.get? b = some o → b ≠ hh.objs.size ∧ b ≠ hh.objs.size + 1 := fun b o e => by
    have := Heap.lt_size e
    exact ⟨Nat.ne_of_lt this, Nat.ne_of_lt (Nat.lt_succ_of_lt this)⟩
  have bnone : ∀ b, hh.objs.size ≤ b → base.get? b = none := fun b hb => by
    cases q : base.get? b with
    | none => rfl
    | some o => have := C.B.stays _ _ q; rw [hnone b hb] at this; cases this
  have gnone : ∀ b, hh.objs.size ≤ b → G.get? b = none := fun b hb => by
    cases q : G.get? b with
    | none => rfl
    | some o => have := C.le _ _ q; rw [hnone b hb] at this; cases this
  refine init50 (dx := hh.objs.size) (txt := txt) (big := big) (ks := ks) (tv := tv) (C.make up (by omega) (by omega)) (by omega) (by omega) hx hdx hks hlen (ht0.fields fun b o _ _ e => up b o e) ?hb ?hg ?hf ?ha (fun h1 h2 h' tk gn lk olk a1 a2 a3 t1 t2 t3 tb n kb tab bare e1 e2 hsz heng => ?hR) (fun hn h' tk gn e hz bare => ?hE)
  case hb =>
    intro b hm
    rcases mem3 hm with rfl | rfl | rfl
    · exact hb
    · exact bnone _ (Nat.le_refl _)
    · exact bnone _ (Nat.le_succ _)
  case hg =>
    intro b hm
    rcases mem3 hm with rfl | rfl | rfl
    · exact C.S.n45
    · exact gnone _ (Nat.le_refl _)
    · exact gnone _ (Nat.le_succ _)
  case hf =>
    intro env he L' hL hm
    have := ff_old (Nat.le_refl _) _ C.B.frames env he L' hL
    rcases mem3 hm with rfl | rfl | rfl
    · exact hfd env he _ hL rfl
    · exact Nat.lt_irrefl _ this
    · exact Nat.not_succ_lt_self this
  case ha =>
    rcases hargs with h | h | ⟨h, hb⟩
    · cases h; exact .inl rfl
    · cases h; exact .inr (.inl rfl)
    · cases h; exact .inr (.inr ⟨rfl, hb⟩)
  case hR =>
    have hx2 := kb _ _ (by simp only [List.mem_cons, List.not_mem_nil, or_false, not_or]; exact ⟨Nat.ne_of_gt (Nat.lt_succ_of_lt g45), Nat.succ_ne_self _⟩) hx
    refine ⟨rfl, hR h1 h2 h' tk gn _ _ lk olk _ _ _ _ _ _ _ _ (fun b o hb e => kb b o ?_ (up b o e)) tab bare (Nat.le_refl _) (Nat.lt_succ_self _) ?_ hx2 e1 e2 heng⟩
    rotate_left
    · have : ((hh.push emptyDict).push (instObj 262 hh.objs.size)).objs.size ≤ lk := hsz
      rw [Heap.size_push, Heap.size_push] at this
      exact this
    simp only [List.mem_cons, List.not_mem_nil, or_false, not_or]
    exact ⟨by simpa using hb, (old b o e).1⟩
  case hE =>
    refine hE hn h' tk gn e (rz_weak hz (fun b o hb e => ⟨?_, up b o e⟩) fun B _ h => h) bare
    simp only [List.mem_cons, List.not_mem_nil, or_false, not_or]
    exact ⟨by simpa using hb, (old b o e).1, (old b o e).2⟩


section
variable {w : World} {mean : ExcName → Option Value} {mg mb : Str → Option Value} {G base : Heap} {outer : List Env} {d u dp un : Nat} {gd : Option (List Code)} {s : Shared} {R : Result → Shared → Prop}
theorem newTx {txt big : Bool} {ks : List Int} {tv : Tok} {args : Args}
    (C : Cx w mean mg mb G ⟨none, dp, some outer, gd, un⟩ base outer d u s.heap) (hd : 40 ≤ d) (hu : 400 ≤ u) (hks : ∀ k ∈ ks, 0 ≤ k ∧ k < 256) (hlen : ks.length ≤ 100)
    (T : Tabs s.heap) (hb : ∀ b ∈ TT, base.get? b = none) (hfd : ∀ env ∈ outer, ∀ L', env.frame = some L' → L' ∉ TT) (hargs : MakeArgs txt big ks tv args)
    (hR : ks.length = 64 → ks.Nodup → ∀ h' tk gn x dx lk olk h1 h2 h3 t1 t2 t3 tb n, KpB TT s.heap h' → Tabs h' → (AllBare s.gens → AllBare gn) → s.heap.objs.size ≤ dx → @LT.lt Nat _ dx x → @LT.lt Nat _ x lk → h'.get? x = some (instObj 262 dx) → h'.get? dx = some (engD h1 h2 h3 t1 t2 t3 tb (byteArr ks).toList lk big n) → h'.get? lk = some olk →
      (∀ h'' : Heap, h''.get? x = some (instObj 262 dx) → h''.get? dx = some (engD h1 h2 h3 t1 t2 t3 tb (byteArr ks).toList lk big n) → h''.get? lk = some olk → Eng w h'' x (byteArr ks).toList big) → R (.ok (.ret (.ref x))) { s with heap := h', toks := tk, gens := gn })
    (hE : ¬ (ks.length = 64 ∧ ks.Nodup) → ∀ h' tk gn e, Rz TT Tabs base s.heap outer e "ValueError" h' → (AllBare s.gens → AllBare gn) → R (.error (.ref e)) { s with heap := h', toks := tk, gens := gn }) :
    codeAny (model PR w) ⟨none, dp, some outer, gd, un⟩ (.call (.ref 262) args) R s := by
  have hown : ∀ b ∈ [45], NoStr s.heap b := fun b hb => by rw [List.mem_singleton.mp hb]; exact T.a.nostr
  have sub : ∀ b ∈ [45], b ∈ TT := by simp
  refine new262x C hd hu hks hlen T.a (hb 45 (by simp)) (fun env he L' hL h => hfd env he L' hL (by rw [h]; simp)) hargs (fun g1 g2 h' tk gn x dx lk olk h1 h2 h3 t1 t2 t3 tb n kb tab bare e1 e2 e3 e4 e5 e6 e7 => ?_) fun hn h' tk gn e hz bare => ?_
  · exact hR g1 g2 h' tk gn x dx lk olk h1 h2 h3 t1 t2 t3 tb n (kpB_mono kb sub) ⟨tab, tab_keep T.b (by decide) hown fun b o vs hb _ e => kb b o hb e, tab_keep T.c (by decide) hown fun b o vs hb _ e => kb b o hb e⟩ bare e1 e2 e3 e4 e5 e6 e7
  · exact hE hn h' tk gn e (rz_TT hz sub C.B.frames fun B k t => ⟨t, tab_keep T.b (by decide) hown k, tab_keep T.c (by decide) hown k⟩) bare
end

end
section

noncomputable def FieldsO (o : Obj) : Prop := ∃ vs, o.data = .fields vs
/-- the tables and their codes, laid in the ledger -/
structure TabL (g : Heap) (TL : List (Addr × Obj)) : Prop where
  keep : ∀ h : Heap, Kp g h → (∀ q ∈ TL, h.get? q.1 = some q.2) → Tabs h
theorem tabs_led {g h : Heap} {L : Addr} {m : Str → Option Value} (T : Tabs h) (F : Fr g L h m) (gT : ∀ b ∈ TT, g.get? b = none) : ∃ p1 p2 p3 y1 y2 y3 q1 q2 q3, News g L h [(45, tabObj p1), (y1, q1), (88, tabObj p2), (y2, q2), (107, tabObj p3), (y3, q3)] ∧ FieldsO q1 ∧ FieldsO q2 ∧ FieldsO q3 ∧
    TabL g [(45, tabObj p1), (y1, q1), (88, tabObj p2), (y2, q2), (107, tabObj p3), (y3, q3)] := by
  obtain ⟨p1, y1, q1, v1, N1, e1, k1⟩ := tab_led T.a F (gT 45 (by simp))
  obtain ⟨p2, y2, q2, v2, N2, e2, k2⟩ := tab_led T.b F (gT 88 (by simp))
  obtain ⟨p3, y3, q3, v3, N3, e3, k3⟩ := tab_led T.c F (gT 107 (by simp))
  refine ⟨p1, p2, p3, y1, y2, y3, q1, q2, q3, fun q hq => ?_, ⟨_, e1⟩, ⟨_, e2⟩, ⟨_, e3⟩, ⟨fun h' kp hg => ⟨?_, ?_, ?_⟩⟩⟩
  · simp only [List.mem_cons, List.not_mem_nil, or_false] at hq
    rcases hq with rfl | rfl | rfl | rfl | rfl | rfl
    · exact N1 _ (.head _)
    · exact N1 _ (.tail _ (.head _))
    · exact N2 _ (.head _)
    · exact N2 _ (.tail _ (.head _))
    · exact N3 _ (.head _)
    · exact N3 _ (.tail _ (.head _))
  · exact k1 h' kp (hg (45, tabObj p1) (by simp)) (hg (y1, q1) (by simp))
  · exact k2 h' kp (hg (88, tabObj p2) (by simp)) (hg (y2, q2) (by simp))
  · exact k3 h' kp (hg (107, tabObj p3) (by simp)) (hg (y3, q3) (by simp))
theorem news_only {g h : Heap} {L : Addr} {news : List (Addr × Obj)} {q : Addr × Obj} (N : News g L h news) (hq : q ∈ news) : News g L h [q] := fun p hp => by rw [List.mem_singleton.mp hp]; exact N q hq

end
section

noncomputable def lawBody (w : World) : List Stmt := match (Mine.hd.heap_1 w.params).lookup 314 with
  | some ⟨_, _, .func fd, _⟩ => (match fd.body with | .stmts l => l | _ => [])
  | _ => []
noncomputable def lawScope (w : World) : Scope := match (Mine.hd.heap_1 w.params).lookup 314 with
  | some ⟨_, _, .func fd, _⟩ => fd.scope
  | _ => ⟨.function, [], false, false, []⟩
noncomputable abbrev lawEnv (w : World) (L : Addr) : Env := envOfC (Str.ofString "law") (lawScope w) L 314 (.ref 313)
noncomputable abbrev lq (R : Result → Shared → Prop) : Flow → Shared → Prop := fun fl s' => R (.ok (.ret (match fl with | .ret v => v | _ => .none))) s'
noncomputable abbrev le (w : World) (A : Around) (env : Env) (R : Result → Shared → Prop) : Value → Shared → Prop := fun e s' => wpAny (model PR w) A (leaving env e) (fun _ s'' => R (.error e) s'') (fun e' s'' => R (.error e') s'') s'

structure LawC (w : World) (mean : ExcName → Option Value) (mg mb : Str → Option Value) (G : Heap) (dp un : Nat) (gd : Option (List Code)) (base : Heap) (d u : Nat) (g : Heap) (L : Addr) : Prop where
  C : Cx w mean mg mb G ⟨none, dp, some [], gd, un⟩ base [] d u g
  hd : 200 ≤ d
  hu : 2000 ≤ u
  hbT : ∀ b ∈ TT, base.get? b = none
  hGb : Kp G base
  hLT : L ∉ TT
  gT : ∀ b ∈ TT, g.get? b = none

noncomputable def lawSigns (st od sh : Int) : List Int := (List.range 64).map fun (i : Nat) => st + (od * (i : Int) + sh).fmod 64
theorem sgn_bd {st od sh : Int} (hst : 0 ≤ st ∧ st < 193) (hsh : 0 ≤ sh ∧ sh < 64) : ∀ k ∈ lawSigns st od sh, 0 ≤ k ∧ k < 256 := fun k hk => by
  unfold lawSigns at hk
  obtain ⟨i, hi, rfl⟩ := List.mem_map.mp hk
  have e : (od * (i : Int) + sh).fmod 64 = (od * (i : Int) + sh) % 64 := Int.fmod_eq_emod_of_nonneg _ (by decide)
  rw [e]
  have h1 := Int.emod_nonneg (od * (i : Int) + sh) (show (64 : Int) ≠ 0 by decide)
  have h2 := Int.emod_lt_of_pos (od * (i : Int) + sh) (show (0 : Int) < 64 by decide)
  omega

theorem odd_inv : ∀ o : Nat, o < 32 → ∃ v : Nat, v < 64 ∧ (v * (2 * o + 1)) % 64 = 1 := by decide +kernel
theorem sgn_nd {st od sh : Int} (hod : 1 ≤ od ∧ od < 64) (hod2 : od % 2 = 1) : (lawSigns st od sh).Nodup := by
  unfold lawSigns
  refine List.pairwise_map.mpr (List.Pairwise.imp_of_mem (fun {i j} hi hj hij => ?_) (List.nodup_range (n := 64)))
  have hi := List.mem_range.mp hi
  have hj := List.mem_range.mp hj
  intro e
  have e1 : (od * (i : Int) + sh).fmod 64 = (od * (i : Int) + sh) % 64 := Int.fmod_eq_emod_of_nonneg _ (by decide)
  have e2 : (od * (j : Int) + sh).fmod 64 = (od * (j : Int) + sh) % 64 := Int.fmod_eq_emod_of_nonneg _ (by decide)
  rw [e1, e2] at e
  obtain ⟨v, hv, hv1⟩ := odd_inv ((od - 1) / 2).toNat (by omega)
  have ho : od = 2 * (((od - 1) / 2).toNat : Int) + 1 := by omega
  have hv2 : (v : Int) * od % 64 = 1 := by
    rw [ho]
    have : ((v * (2 * ((od - 1) / 2).toNat + 1) : Nat) : Int) % 64 = 1 := by omega
    push_cast at this
    exact this
  obtain ⟨q, hq⟩ : ∃ q, (v : Int) * od = 64 * q + 1 := ⟨(v : Int) * od / 64, by omega⟩
  obtain ⟨m, hm⟩ : ∃ m, od * (i : Int) - od * (j : Int) = 64 * m := ⟨(od * (i : Int) - od * (j : Int)) / 64, by omega⟩
  have h3 : (v : Int) * (od * (i : Int) - od * (j : Int)) = (64 * q + 1) * ((i : Int) - j) := by
    rw [← hq, Int.mul_assoc, ← Int.mul_sub]
  rw [hm] at h3
  have h4 : (i : Int) - j = 64 * ((v : Int) * m - q * ((i : Int) - j)) := by
    have h5 : (v : Int) * (64 * m) = 64 * (v * m) := by rw [Int.mul_left_comm]
    have h6 : (64 * q + 1) * ((i : Int) - j) = 64 * (q * ((i : Int) - j)) + ((i : Int) - j) := by rw [Int.add_mul, Int.one_mul, Int.mul_assoc]
    rw [h5, h6] at h3
    rw [Int.mul_sub]
    omega
  generalize (v : Int) * m - q * ((i : Int) - j) = z at h4
  have : i = j := by omega
  exact hij this

theorem news_newB {g h h' : Heap} {L l : Addr} {m : Str → Option Value} {news : List (Addr × Obj)} {o : Obj} (F : Fr g L h m) (N : News g L h' news) (hs : h.objs.size ≤ l) (ho : h'.get? l = some o) : News g L h' ((l, o) :: news) := fun p hp => by
  rcases mem_c hp with rfl | hp
  · refine ⟨ho, Nat.ne_of_gt (Nat.lt_of_lt_of_le F.ns.lt hs), ?_⟩
    cases q : g.get? l with
    | none => rfl
    | some o => exact absurd (Heap.lt_size (F.keep _ _ q)) (Nat.not_lt_of_le hs)
  · exact N p hp
theorem news_join {g h : Heap} {L : Addr} {a b : List (Addr × Obj)} (N1 : News g L h a) (N2 : News g L h b) : News g L h (a ++ b) := fun p hp => (List.mem_append.mp hp).elim (N1 p) (N2 p)

end
section

theorem enc_of {bl : List UInt8} {big : Bool} {ks : List Int} (hks : ∀ k ∈ ks, 0 ≤ k ∧ k < 256) : encOf bl big (byteArr ks) = (enc big ks).map (sg bl) := by
  unfold encOf
  rw [KBx_ints hks, enc_big big ks hks]
  rfl
theorem dec_of {bl : List UInt8} {big : Bool} {sx : List Int} (hl : bl.length = 64) (hnd : bl.Nodup) (hsx : ∀ k ∈ sx, 0 ≤ k ∧ k < 64) : decOf bl big (byteArr (sx.map (sg bl))) = if sx.length % 4 = 1 then none else some (dec big sx) := by
  have hb : ∀ k ∈ sx.map (sg bl), 0 ≤ k ∧ k < 256 := fun k hk => by
    obtain ⟨z, _, rfl⟩ := List.mem_map.mp hk
    exact sg_bd bl z
  have hz : (byteArr (sx.map (sg bl))).size = sx.length := by
    have := KBw.ints_length (byteArr (sx.map (sg bl)))
    rw [KBx_ints hb, List.length_map] at this
    exact this.symm
  have h1 : ∀ k ∈ sx, lookI bl (sg bl k) = some k := fun k hk => by
    unfold lookI
    rw [look_sg hl hnd (hsx k hk).1 (hsx k hk).2]
    simp only [Option.map_some]
    rw [Int.toNat_of_nonneg (hsx k hk).1]
  have h2 : (sx.map (sg bl)).map (fun k => (lookI bl k).getD 0) = sx := by
    rw [List.map_map]
    exact (List.map_congr_left fun k hk => by show (lookI bl (sg bl k)).getD 0 = k; rw [h1 k hk]; rfl).trans (List.map_id' sx)
  unfold decOf
  have h3 : (sx.map (sg bl)).all (fun k => (lookI bl k).isSome) = true := by
    rw [List.all_eq_true]
    intro k hk
    obtain ⟨z, hz, rfl⟩ := List.mem_map.mp hk
    rw [h1 z hz]; rfl
  rw [hz, KBx_ints hb, h2, dec_big big sx hsx, if_pos h3]
theorem chars_txt {ks : List Int} (hks : ∀ k ∈ ks, 0 ≤ k ∧ k < 256) : chars (byteArr ks).toList = txtOf ks := by
  have h := KBx_ints hks
  have e : txtOf (KBw.bInts (byteArr ks)) = chars (byteArr ks).toList := by
    unfold txtOf chars KBw.bInts
    refine congrArg Str.mk (Array.toList_inj.mp ?_)
    simp
  rw [← e, h]
theorem sg_fold {ks : List Int} (hks : ∀ k ∈ ks, 0 ≤ k ∧ k < 256) (hl : ks.length = 64) : (byteArr ks).toList.length = 64 := by
  have := KBw.ints_length (byteArr ks)
  rw [KBx_ints hks] at this
  rw [Array.length_toList]; omega
theorem sg_getD {ks : List Int} (hks : ∀ k ∈ ks, 0 ≤ k ∧ k < 256) {z : Int} (h0 : 0 ≤ z) (h1 : z < ks.length) : ks.getD z.toNat 0 = sg (byteArr ks).toList z := by
  have h := KBx_ints hks
  have hz := KBw.ints_length (byteArr ks)
  rw [h] at hz
  unfold sg
  conv => lhs; rw [← h]
  unfold KBw.bInts
  rw [List.getD_eq_getElem?_getD, List.getD_eq_getElem?_getD, List.getElem?_map]
  have hq : z.toNat < (byteArr ks).toList.length := by rw [Array.length_toList]; omega
  rw [List.getElem?_eq_getElem hq]
  simp
theorem not_in_sgn {st od sh c : Int} (hst : 0 ≤ st ∧ st < 193) {fo : Int} (hfo : fo = (st + 64 + (c.fdiv 128).fmod 192).fmod 256) : fo ∉ lawSigns st od sh := by
  intro hm
  unfold lawSigns at hm
  obtain ⟨i, _, e⟩ := List.mem_map.mp hm
  rw [Int.fmod_eq_emod_of_nonneg _ (by decide)] at e hfo
  rw [Int.fmod_eq_emod_of_nonneg _ (by decide)] at hfo
  have a1 := Int.emod_nonneg (od * (i : Int) + sh) (show (64 : Int) ≠ 0 by decide)
  have a2 := Int.emod_lt_of_pos (od * (i : Int) + sh) (show (0 : Int) < 64 by decide)
  have b1 := Int.emod_nonneg (c.fdiv 128) (show (192 : Int) ≠ 0 by decide)
  have b2 := Int.emod_lt_of_pos (c.fdiv 128) (show (0 : Int) < 192 by decide)
  omega
theorem look_none {bl : List UInt8} {k : Int} (h : ∀ i : Nat, i < bl.length → k ≠ sg bl i) : look bl k = none := by
  unfold look
  rw [List.findIdx?_eq_none_iff]
  intro b hb
  obtain ⟨i, hi, rfl⟩ := List.getElem_of_mem hb
  have := h i hi
  rw [decide_eq_false_iff_not]
  intro e
  apply this
  unfold sg
  rw [Int.toNat_natCast, List.getD_eq_getElem?_getD, List.getElem?_eq_getElem hi]
  exact e.symm
theorem dec_foreign {ks : List Int} {big : Bool} (hks : ∀ k ∈ ks, 0 ≤ k ∧ k < 256) {row : List Int} (hrow : ∀ k ∈ row, 0 ≤ k ∧ k < 256) {fo : Int} (hf : fo ∈ row) (hn : fo ∉ ks) : decOf (byteArr ks).toList big (byteArr row) = none := by
  unfold decOf
  split
  · rfl
  · rw [if_neg]
    rw [KBx_ints hrow]
    intro h
    have h1 := List.all_eq_true.mp h fo hf
    have h2 : look (byteArr ks).toList fo = none := look_none fun i hi e => hn (by
      have hz := KBw.ints_length (byteArr ks)
      rw [KBx_ints hks] at hz
      have hi' : i < ks.length := by rw [Array.length_toList] at hi; omega
      rw [e, ← sg_getD hks (by omega) (by omega), Int.toNat_natCast, List.getD_eq_getElem?_getD, List.getElem?_eq_getElem hi']
      exact List.getElem_mem hi')
    rw [show lookI (byteArr ks).toList fo = none from by unfold lookI; rw [h2]; rfl] at h1
    cases h1

theorem comp_KX {w : World} {A : Around} {E : Value → Shared → Prop} {s : Shared} {h₀ : Heap} {L : Addr} {m : Str → Option Value} {env : Env} {elt iter : Expr} {x : Str} {px : Pos} {scope : Scope} {cl : List (Str × Addr)} {pos : Pos} {ks : List Int} {news : List (Addr × Obj)} {Q : Value → Shared → Prop} (V : Nat → Int → Value → Prop) (P : Addr × Obj → Prop)
    (hh : A.handled = none) (_ : Fr h₀ L s.heap m) (_ : News h₀ L s.heap news) (hlen : ks.length ≤ 8000)
    (hit : ∀ Q', (∀ pv h tk q, P q → Fr h₀ L h m → News h₀ L h (q :: news) → IterN w h₀ (q :: news) h pv ks → Q' pv { s with heap := h, toks := tk }) → wpAny (model PR w) A (eval iter env) Q' E s)
    (body : ∀ q, P q → ∀ i k t I oI C oC D m₂ h tk (E' : Value → Shared → Prop) ys, ks[i]? = some k → LCg.NsObj oC m₂ → m₂ x = some (.int k t) → Fr h₀ L h m → News h₀ L h ((I, oI) :: (C, oC) :: (D, LCg.lst ys) :: q :: news) → LCg.Off3 I C D (q :: news) → ((@Ne Nat I C) ∧ (@Ne Nat I D) ∧ (@Ne Nat C D)) →
      wpAny (model PR w) A (eval elt (compEnvC scope cl C env)) (fun y s₂ => Fin (EltTo s.gens s.drawn s.os h₀ L m ((I, oI) :: (C, oC) :: (D, LCg.lst ys) :: q :: news) (V i k) y s₂)) E' { s with heap := h, toks := tk })
    (fin : ∀ q, P q → ∀ D h tk ys, ys.length = ks.length → (∀ i k, ks[i]? = some k → ∃ y, ys[i]? = some y ∧ V i k y) → Fr h₀ L h m → News h₀ L h ((D, LCg.lst ys) :: q :: news) → LCg.Off1 D (q :: news) → Q (.ref D) { s with heap := h, toks := tk })
    (hclos : closureFor scope env = pure cl := by rfl) (hcell : ∀ y ∈ scope.names, y.2 ≠ .cell := by decide) (hkind : scope.kind = .function := by rfl)
    (hnames : ∀ y ∈ scope.names, y.2 = .local → scope.names.lookup y.1 = some .local := by decide) (hx : scope.names.lookup x = some .local := by rfl)
    (hs : ∀ x, foldedSetIterable iter env x = pure x := by intro _; rfl) :
    wpAny (model PR w) A (eval (.ListComp elt [⟨.Name x px, iter, [], 0⟩] scope pos) env) Q E s := by
  rw [eval_ListComp]
  refine wpAny_comprehension_free (use := none) rfl hs hclos hkind hnames (hit _ fun pv h tk q hPq F N it => it A _ E _ hh rfl fun oI St fp hfree W hI hfp st => ?_)
  dsimp only at W hI hfp st ⊢
  have up : ∀ b o, h.get? b = some o → (h.push oI).get? b = some o := fun b o e => Heap.get?_push_of_some _ e
  have hnew : h₀.get? h.objs.size = none := next_is_new F
  have hoff : ∀ p ∈ q :: news, p.1 ≠ h.objs.size := fun p hp => Nat.ne_of_lt (Heap.lt_size (N p hp).1)
  have W' : Walks PR w A h.objs.size fp [h.objs.size] ks.length (fun i v => ∃ k t, ks[i]? = some k ∧ v = .int k t) (fun i g => St i g ∧ ∀ b ∈ fp, b ≠ h.objs.size → ∀ o, h.get? b = some o → g.get? b = some o) := by
    refine ⟨W.sub, fun i g g' st hk => ⟨W.frame i g g' st.1 hk, fun b hb hne o e => hk b hb o (st.2 b hb hne o e)⟩, fun i s Q E hi st hQ => W.item i s Q E hi st.1 fun v h' tk hP st' hk => hQ v h' tk hP ⟨st', fun b hb hne o e => hk b o (by simpa using hne) (st.2 b hb hne o e)⟩ hk,
      fun s Q E st hQ => W.done s Q E st.1 hQ, fun i s Q E st hQ => W.self i s Q E st.1 hQ⟩
  refine LCg.block_U (S := fun nw => nw = q :: news) W' (by rw [sizeLine_eq]; omega) (fun i g st => hI i g st.1) (fun i g g' o nw st e e' k N' S => ?_) hcell hkind hx ⟨st, fun b _ _ o e => up b o e⟩ (fun b hb => ?_) (F.keeps up) (N.grown up) (Nat.ne_of_lt F.ns.lt) hnew hoff rfl
    (comp_rest (s := { s with heap := h.push oI, toks := tk }) V (body q hPq) (Fn := fun ys nw => nw = q :: news ∧ LCg.FinE h₀ L m { s with heap := h.push oI, toks := tk } Q ys (q :: news)) (fun ys h1 h2 => ⟨rfl, fun D h tk F N o1 => fin q hPq D h tk ys h1 h2 F N o1⟩) ks.length 0 [] (Nat.add_zero _) rfl fun j k hj => absurd hj (Nat.not_lt_zero _)) ?_
  · subst S
    have keep : ∀ b ∈ fp, ∀ o, g.get? b = some o → g'.get? b = some o := fun b hb o e2 => by
      rcases hfp b hb with rfl | ⟨o₀, e₀⟩ | ⟨o₀, e₀⟩
      · rw [e] at e2; cases e2; exact e'
      · have hne : b ≠ h.objs.size := by rintro rfl; rw [hnew] at e₀; cases e₀
        have := st.2 b hb hne o₀ (F.keep _ _ e₀)
        rw [this] at e2; cases e2
        exact k _ _ e₀
      · have := st.2 b hb (hoff _ e₀) o₀ (N _ e₀).1
        rw [this] at e2; cases e2
        exact (N' _ e₀).1
    exact ⟨W.frame i g g' st.1 keep, fun b hb hne o e2 => keep b hb o (st.2 b hb hne o e2)⟩
  · show b < (h.push oI).objs.size
    rw [Heap.size_push]
    rcases hfp b hb with rfl | ⟨o₀, e₀⟩ | ⟨o₀, e₀⟩
    · exact Nat.lt_succ_self _
    · exact Nat.lt_succ_of_lt (Heap.lt_size (F.keep _ _ e₀))
    · exact Nat.lt_succ_of_lt (Heap.lt_size (N _ e₀).1)
  · intro D C g tk' m' ys news' F' N' o1 hn hC₀ hD₀ hCL hDL hCD offC fin'
    obtain ⟨rfl, fin'⟩ := fin'
    refine ⟨m', hn, fun h'' hs'' => fin' D h'' tk' (F'.change hs'' hCL hC₀) (fun p hp => ?_) o1⟩
    refine ⟨hs''.extBut _ _ ?_ (N' p hp).1, (N' p hp).2⟩
    rcases mem_c hp with rfl | hp
    · exact Ne.symm hCD
    · exact offC p hp

structure LawN (st od sh b : Int) (big txt : Bool) (rest sgn oct sx cod : List Int) (bl : List UInt8) : Prop where
  hst : 0 ≤ st ∧ st < 193
  hlen : rest.length ≤ 12
  hsgn : sgn = lawSigns st od sh
  hsl : sgn.length = 64
  hsnd : sgn.Nodup
  hsbd : ∀ k ∈ sgn, 0 ≤ k ∧ k < 256
  htxt : txt = ((b.fdiv 32).fmod 2 == 1)
  hbl : bl = (byteArr sgn).toList
  hsL : bl.length = 64
  hbnd : bl.Nodup
  hoct : oct = rest.map fun k => k.fmod 256
  hobd : ∀ k ∈ oct, 0 ≤ k ∧ k < 256
  hol : oct.length = rest.length
  hsx : sx = enc big oct
  hsxb : ∀ k ∈ sx, 0 ≤ k ∧ k < 64
  hsxl : sx.length ≤ 24 ∧ sx.length % 4 ≠ 1
  hcod : cod = sx.map (sg bl)
  hcbd : ∀ k ∈ cod, 0 ≤ k ∧ k < 256
  hcl : cod.length = sx.length

noncomputable def IterU (w : World) (h₀ : Heap) (news : List (Addr × Obj)) (h : Heap) (pv : Value) (ks : List Int) : Prop :=
  ∀ (A : Around) (s : Shared) (E : Value → Shared → Prop) (Q : Value → Shared → Prop), A.handled = none → s.heap = h →
    (∀ o St fp, o.isFreed = false → Walks PR w A s.heap.objs.size fp [s.heap.objs.size] ks.length (fun i v => ∃ k t, ks[i]? = some k ∧ v = .int k t) St → (∀ i h, St i h → ∃ o, h.get? s.heap.objs.size = some o) → (∀ i h, St i h → NoStr h s.heap.objs.size) →
      (∀ b ∈ fp, b = s.heap.objs.size ∨ (∃ o, h₀.get? b = some o) ∨ ∃ o, (b, o) ∈ news) → St 0 (s.heap.push o) → Q (.ref s.heap.objs.size) { s with heap := s.heap.push o }) → wpAny (model PR w) A (pyIter pv) Q E s
theorem iterU_list (w : World) {h₀ h : Heap} {L l : Addr} {vs : List Value} {ks : List Int} {n : Nat} {news : List (Addr × Obj)} (N : News h₀ L h news) (hm : (l, W.listOf vs.toArray n) ∈ news) (hi : IntsAre vs ks) : IterU w h₀ news h (.ref l) ks := by
  rintro A s E Q hh rfl hQ
  have hls : s.heap.IsList l vs.toArray := ⟨_, (N _ hm).1, rfl, _, rfl⟩
  have hne : l ≠ s.heap.objs.size := Nat.ne_of_lt (Heap.lt_size (N _ hm).1)
  refine wpAny_pyIter_list hls (hQ _ (fun i h => h.IsListIter s.heap.objs.size l i ∧ h.IsList l vs.toArray) [s.heap.objs.size, l] rfl ?_ ?_ ?_ ?_ ⟨⟨_, Heap.get?_push_size _ rfl, rfl, rfl⟩, hls.at fun o e => Heap.get?_push_of_some _ e⟩)
  · have W := Walks.list (prog := PR) (w := w) hh s.heap.objs.size l hne vs.toArray
    have e : vs.toArray.size = ks.length := by simp [hi.length]
    refine ⟨W.sub, W.frame, fun i s Q E hq st hQ => W.item i s Q E (by omega) st fun v h' tk hP => hQ v h' tk ?_, fun s Q E st hQ => W.done s Q E (by rw [e]; exact st) hQ, W.self⟩
    have hP' : vs[i]? = some v := by simpa using hP
    have hq' : i < ks.length := hq
    obtain ⟨t, ht⟩ := hi.get i (ks[i]) (by simp [hq'])
    rw [hP'] at ht
    cases ht
    exact ⟨_, t, by simp [hq'], rfl⟩
  · rintro i h ⟨⟨o, e, _⟩, _⟩; exact ⟨o, e⟩
  · rintro i h ⟨⟨o, e, e1, e2⟩, _⟩ oc vs q t h1 h2 h3
    rw [e] at h1; cases h1
    rw [e2] at h2; cases h2
    simp at h3
  · intro b hb
    rcases List.mem_cons.mp hb with e | hb
    · exact .inl e
    · exact .inr (.inr ⟨_, (List.mem_singleton.mp hb) ▸ hm⟩)
theorem iterU_range (w : World) {h₀ h : Heap} {r : Addr} {a c : Int} {n : Nat} {t u v : Tok} {b : Int} {news : List (Addr × Obj)} (hr : IsRange h r a b c t u v) (hsm : Builtin.Range.small a b c = true) (hn : Builtin.Range.rangeSize a b c = n) :
    IterU w h₀ news h (.ref r) ((List.range n).map fun (i : Nat) => a + (i : Int) * c) := by
  rintro A s E Q hh rfl h
  refine wpAny_pyIter_range hr hsm (h _ (fun i h => IsRangeIter h s.heap.objs.size (a + (i : Nat) * c) ((n : Int) - (i : Nat)) c) [s.heap.objs.size] rfl ?_ ?_ ?_ ?_ ?_)
  · have W := Walks.range (prog := PR) (w := w) hh s.heap.objs.size a c n
    refine ⟨W.sub, W.frame, fun i s Q E hq st hQ => W.item i s Q E (by simpa using hq) st fun v h' tk hP => hQ v h' tk ?_, fun s Q E st hQ => W.done s Q E (by simpa using st) hQ, W.self⟩
    obtain ⟨t, rfl⟩ := hP
    exact ⟨_, t, by rw [List.getElem?_map, List.getElem?_range (by simpa using hq)]; rfl, rfl⟩
  · rintro i h ho; exact ⟨_, ho⟩
  · intro i h ho oc vs q t h1 h2 h3
    unfold IsRangeIter at ho
    rw [ho] at h1; cases h1
    cases h2
    simp [rawInt] at h3
  · intro b hb; exact .inl (List.mem_singleton.mp hb)
  · rw [hn]
    have := Heap.get?_push_size s.heap (o := { cls := .type "range_iterator", data := .fields #[rawInt a, rawInt (n : Int), rawInt c] }) rfl
    simpa [IsRangeIter] using this
theorem Tab.part {P : Addr} {l c : Nat} {q : Str} {h h' : Heap} {ch : List Addr} (T : Tab P l c q h) (hP : P ∉ ch) (k : ∀ b o, b ∉ ch → h.get? b = some o → h'.get? b = some o) (hc : ∀ b ∈ ch, NoStr h b) : Tab P l c q h' := by
  obtain ⟨ps, e, r⟩ := T
  exact ⟨ps, k _ _ hP e, r.imp id fun ⟨cv, e1, c, oc, vs, t, e2, e3, e4, e5⟩ => ⟨cv, e1, c, oc, vs, t, e2, k _ _ (fun hm => hc c hm oc vs q t e3 e4 e5) e3, e4, e5⟩⟩
theorem tabs_part {h h' : Heap} {ch : List Addr} (T : Tabs h) (k : ∀ b o, b ∉ ch → h.get? b = some o → h'.get? b = some o) (hc : ∀ b ∈ ch, b ∉ TT ∧ NoStr h b) : Tabs h' :=
  ⟨T.a.part (fun hm => (hc _ hm).1 (by simp)) k fun b hb => (hc b hb).2, T.b.part (fun hm => (hc _ hm).1 (by simp)) k fun b hb => (hc b hb).2, T.c.part (fun hm => (hc _ hm).1 (by simp)) k fun b hb => (hc b hb).2⟩
theorem nostr_ns {h : Heap} {C : Addr} {m : Str → Option Value} (x : h.Ns C m) : NoStr h C := fun oc vs q t h1 h2 _ => by
  obtain ⟨o, es, ep, e, hd, _⟩ := x
  rw [e] at h1; cases h1
  rw [hd] at h2; cases h2
theorem nostr_lst {h : Heap} {D : Addr} {ys : List Value} (x : h.get? D = some (LCg.lst ys)) : NoStr h D := fun oc vs q t h1 h2 _ => by
  rw [x] at h1; cases h1
  cases h2
theorem tabs_lt {h : Heap} (T : Tabs h) : ∀ b ∈ TT, b < h.objs.size := by
  intro b hb
  rcases mem3 hb with rfl | rfl | rfl
  · obtain ⟨_, e, _⟩ := T.a; exact Heap.lt_size e
  · obtain ⟨_, e, _⟩ := T.b; exact Heap.lt_size e
  · obtain ⟨_, e, _⟩ := T.c; exact Heap.lt_size e

inductive EltU (s : Shared) (h₀ : Heap) (L : Addr) (m : Str → Option Value) (news : List (Addr × Obj)) (Gs : Array GenState → Prop) (V : Value → Prop) (y : Value) (s₂ : Shared) : Prop
  | mk (h' : Heap) (tk' : Nat) (gn' : Array GenState) (e : s₂ = { s with heap := h', toks := tk', gens := gn' }) (F : Fr h₀ L h' m) (N : News h₀ L h' news) (T : Tabs h') (g : Gs gn') (hV : V y) : EltU s h₀ L m news Gs V y s₂
inductive LoopU (ks : List Int) (s : Shared) (St : Nat → Heap → Prop) (V : Nat → Int → Value → Prop) (Gs : Array GenState → Prop) (h₀ : Heap) (L C D : Addr) (m : Str → Option Value) (front : List (Addr × Obj)) (k : Nat) (s' : Shared) : Prop
  | mk (h' : Heap) (tk : Nat) (gn : Array GenState) (i : Nat) (ys : List Value) (m' : Str → Option Value) (e : s' = { s with heap := h', toks := tk, gens := gn }) (hi : i ≤ ks.length) (hk : k = ks.length + 1 - i) (hy : ys.length = i) (st : St i h') (F : Fr h₀ L h' m) (n : h'.Ns C m') (N : News h₀ L h' ((D, LCg.lst ys) :: front)) (T : Tabs h') (g : Gs gn) (hV : ∀ j k, j < i → ks[j]? = some k → ∃ y, ys[j]? = some y ∧ V j k y) : LoopU ks s St V Gs h₀ L C D m front k s'
theorem comp_U {w : World} {A : Around} {E : Value → Shared → Prop} {s : Shared} {h₀ : Heap} {L : Addr} {l : List (Str × Option Value)} {env : Env} {elt iter : Expr} {x y : Str} {px py : Pos} {scope : Scope} {cl : List (Str × Addr)} {pos spos : Pos} {Q : Flow → Shared → Prop} {ks : List Int} {front : List (Addr × Obj)} (V : Nat → Int → Value → Prop) (Gs : Array GenState → Prop)
    (hh : A.handled = none) (hn : ks.length ≤ 8000) (F : Fr h₀ L s.heap (mp l)) (N : News h₀ L s.heap front) (T : Tabs s.heap) (hgs : Gs s.gens)
    (hit : ∀ Q', (∀ pv h tk, Kp s.heap h → IterU w h₀ front h pv ks → Q' pv { s with heap := h, toks := tk }) → wpAny (model PR w) A (eval iter env) Q' E s)
    (body : ∀ i k t I oI oC C D m₂ h tk gn (E' : Value → Shared → Prop) ys, ks[i]? = some k → LCg.NsObj oC m₂ → m₂ x = some (.int k t) → Fr h₀ L h (mp l) → News h₀ L h ((I, oI) :: (C, oC) :: (D, LCg.lst ys) :: front) → (∀ q ∈ front, q.1 < I) → (@LT.lt Nat _ I D ∧ @LT.lt Nat _ D C) → (∀ b ∈ TT, b < I) → Tabs h → Gs gn →
      wpAny (model PR w) A (eval elt (compEnvC scope cl C env)) (fun v s₂ => Fin (EltU s h₀ L (mp l) ((I, oI) :: (C, oC) :: (D, LCg.lst ys) :: front) Gs (V i k) v s₂)) E' { s with heap := h, toks := tk, gens := gn })
    (fin : ∀ D h tk gn ys, ys.length = ks.length → (∀ i k, ks[i]? = some k → ∃ y, ys[i]? = some y ∧ V i k y) → Fr h₀ L h (mp (put y (.ref D) l)) → News h₀ L h ((D, LCg.lst ys) :: front) → (∀ q ∈ front, q.1 < D) → (∀ b ∈ TT, b < D) → Tabs h → Gs gn → Q .next { s with heap := h, toks := tk, gens := gn })
    (hLT : L ∉ TT) (hL : env.locals = L := by rfl) (hsw : swapsWith (.ListComp elt [⟨.Name x px, iter, [], 0⟩] scope pos) (some (.Name y py)) spos.line env = pure true := by rfl) (hy : env.kindOf y = some .local := by rfl) (hp : (env.scope.kind == .class || (env.scope.kind == .module && env.locals != env.globals)) = false := by rfl)
    (hclos : closureFor scope env = pure cl := by rfl) (hcell : ∀ y ∈ scope.names, y.2 ≠ .cell := by decide) (hkind : scope.kind = .function := by rfl)
    (hnames : ∀ y ∈ scope.names, y.2 = .local → scope.names.lookup y.1 = some .local := by decide) (hx : scope.names.lookup x = some .local := by rfl)
    (hs : ∀ x, foldedSetIterable iter env x = pure x := by intro _; rfl) :
    wpAny (model PR w) A (exec (.Assign [.Name y py] (.ListComp elt [⟨.Name x px, iter, [], 0⟩] scope pos) spos) env) Q E s := by
  rw [exec_Assign_Name_used _ _ _ _ hsw]
  refine wpAny_bind (wpAny_standAt (wpAny_bind ?_))
  show wpAny _ A (do let _ ← comprehension (.ListComp elt [⟨.Name x px, iter, [], 0⟩] scope pos) scope env _ (newList []) false (eval iter env) (some (assign (.Name y py) env))) _ _ s
  refine wpAny_bind (wpAny_mono (Q := fun _ s' => Q .next s') ?_ (fun _ s' hq => wpAny_pure (wpAny_pure hq)) fun _ _ e => e)
  refine wpAny_comprehension_free (use := some (assign (.Name y py) env)) rfl hs hclos hkind hnames (hit _ fun pv h0 tk0 kp0 it => it A _ E _ hh rfl fun oI St fp hfree W hI hNS hfp st0 => ?_)
  dsimp only at W hI hNS hfp st0 ⊢
  replace F := fr_kp F kp0
  replace N := news_kp N kp0
  replace T := T.keep kp0
  obtain ⟨hI1, hhI1⟩ : ∃ z, z = h0.push oI := ⟨_, rfl⟩
  rw [← hhI1] at st0 ⊢
  have upI : ∀ b o, h0.get? b = some o → hI1.get? b = some o := fun b o e => hhI1 ▸ Heap.get?_push_of_some _ e
  have szI : hI1.objs.size = h0.objs.size + 1 := by rw [hhI1, Heap.size_push]
  refine wpAny_newObj_type (wpAny_newFunctionEnv hcell (by intro y hy; simp at hy) (fun h₁ hns₁ hsb₁ => ?_) hkind)
  dsimp only at hns₁ hsb₁ ⊢
  generalize hH2 : hI1.push { cls := .type "list", dict := none, data := .seq ([] : List Value).toArray } = H2 at hns₁ hsb₁ ⊢
  have szC : H2.objs.size = h0.objs.size + 2 := by rw [← hH2, Heap.size_push, szI]
  have lID : h0.objs.size < hI1.objs.size := by rw [szI]; exact Nat.lt_succ_self _
  have lDC : hI1.objs.size < H2.objs.size := by rw [szI, szC]; exact Nat.lt_succ_self _
  have old : ∀ b o, hI1.get? b = some o → h₁.get? b = some o := fun b o e => hsb₁.extBut b o (Nat.ne_of_lt (Nat.lt_trans (Heap.lt_size e) lDC)) (Heap.get?_push_of_some _ (hH2 ▸ Heap.get?_push_of_some _ e))
  have hacc : h₁.get? hI1.objs.size = some (LCg.lst []) := hsb₁.extBut _ _ (Nat.ne_of_lt lDC) (Heap.get?_push_of_some _ (hH2 ▸ Heap.get?_push_size _ rfl))
  have fresh₀ : ∀ b, h0.objs.size ≤ b → h₀.get? b = none := fun b hb => by
    cases e : h₀.get? b with
    | none => rfl
    | some o' => exact absurd (Heap.lt_size (F.keep b o' e)) (Nat.not_lt_of_le hb)
  have lL : L < h0.objs.size := F.ns.lt
  have hfront : ∀ q ∈ front, q.1 < h0.objs.size := fun q hq => Heap.lt_size (N q hq).1
  have hTT := tabs_lt T
  have st1 : St 0 h₁ := W.frame _ _ _ st0 fun b _ o e => old b o e
  have F1 : Fr h₀ L h₁ (mp l) := F.keeps fun b o e => old b o (upI b o e)
  have N1 : News h₀ L h₁ front := fun q hq => ⟨old _ _ (upI _ _ (N q hq).1), (N q hq).2⟩
  have T1 : Tabs h₁ := T.keep fun b o e => old b o (upI b o e)
  obtain ⟨I, hIe⟩ : ∃ I : Addr, I = h0.objs.size := ⟨_, rfl⟩
  obtain ⟨D, hDe⟩ : ∃ D : Addr, D = hI1.objs.size := ⟨_, rfl⟩
  obtain ⟨C, hCe⟩ : ∃ C : Addr, C = H2.objs.size := ⟨_, rfl⟩
  rw [← hIe] at lID lL hfront hTT hI hNS hfp W fresh₀
  rw [← hDe] at lID lDC hacc
  rw [← hCe] at lDC hns₁
  have hIL : I ≠ L := Nat.ne_of_gt lL
  have hDL : D ≠ L := Nat.ne_of_gt (Nat.lt_trans lL lID)
  have hCL : C ≠ L := Nat.ne_of_gt (Nat.lt_trans lL (Nat.lt_trans lID lDC))
  have hI₀ : h₀.get? I = none := fresh₀ _ (Nat.le_refl _)
  have hD₀ : h₀.get? D = none := fresh₀ _ (Nat.le_of_lt lID)
  have hC₀ : h₀.get? C = none := fresh₀ _ (Nat.le_of_lt (Nat.lt_trans lID lDC))
  have hID : I ≠ D := Nat.ne_of_lt lID
  have hIC : I ≠ C := Nat.ne_of_lt (Nat.lt_trans lID lDC)
  have hDC : D ≠ C := Nat.ne_of_lt lDC
  have fI : ∀ q ∈ front, q.1 ≠ I := fun q hq => Nat.ne_of_lt (hfront q hq)
  have fD : ∀ q ∈ front, q.1 ≠ D := fun q hq => Nat.ne_of_lt (Nat.lt_trans (hfront q hq) lID)
  have fC : ∀ q ∈ front, q.1 ≠ C := fun q hq => Nat.ne_of_lt (Nat.lt_trans (hfront q hq) (Nat.lt_trans lID lDC))
  have tI : I ∉ TT := fun hm => Nat.lt_irrefl _ (hTT I hm)
  have tD : D ∉ TT := fun hm => Nat.lt_irrefl _ (Nat.lt_trans lID (hTT D hm))
  have tC : C ∉ TT := fun hm => Nat.lt_irrefl _ (Nat.lt_trans (Nat.lt_trans lID lDC) (hTT C hm))
  have pC : ∀ b ∈ fp, b ≠ C := fun b hb => by
    rcases hfp b hb with rfl | ⟨o, e⟩ | ⟨o, e⟩
    · exact hIC
    · rintro rfl; rw [hC₀] at e; cases e
    · exact fC _ e
  have pD : ∀ b ∈ fp, b ≠ D := fun b hb => by
    rcases hfp b hb with rfl | ⟨o, e⟩ | ⟨o, e⟩
    · exact hID
    · rintro rfl; rw [hD₀] at e; cases e
    · exact fD _ e
  have loop : ∀ s₃ : Shared, s₃ = { s with heap := h₁, toks := tk0 + ([] : List (Str × Value)).length } →
      codeAny (model PR w) A (.compLoop (.ListComp elt [⟨.Name x px, iter, [], 0⟩] scope pos) 0 (.ref I) (.ref D) (compEnvC scope cl C env))
        (compPost (model PR w) A E (some (assign (.Name y py) env)) (fun _ s' => Q .next s') (.ref D) C) s₃ := by
    rintro s₃ rfl
    refine codeAny_compLoop_tests
      (LoopU ks s St V Gs h₀ L C D (mp l) front) ?_ (ks.length + 1)
      ⟨h₁, _, s.gens, 0, [], _, rfl, Nat.zero_le _, rfl, rfl, st1, F1, hns₁, fun q hq => ?_, T1, hgs, fun j _ hj => absurd hj (Nat.not_lt_zero _)⟩
    · rintro k s' ⟨h', tk, gn, i, ys, m', rfl, hi, rfl, hyl, st, F', hn', N', T', gs', hV⟩
      by_cases hlt : i < ks.length
      · refine W.item i _ _ _ hlt st fun v h₂ tk₂ hP st₂ hk₂ => ?_
        obtain ⟨k, t, hk, rfl⟩ := hP
        dsimp only at st₂ hk₂ ⊢
        have kI : ∀ b o, b ≠ I → h'.get? b = some o → h₂.get? b = some o := fun b o hb e => hk₂ b o (fun hm => hb (List.mem_singleton.mp hm)) e
        have F₂ : Fr h₀ L h₂ (mp l) := ⟨F'.ns.at' fun o e => kI L o (Ne.symm hIL) e, fun b o e => kI b o (fun h => by rw [h, hI₀] at e; cases e) (F'.keep b o e), F'.above⟩
        have N₂ : News h₀ L h₂ ((D, LCg.lst ys) :: front) := fun q hq => by
          refine ⟨kI _ _ ?_ (N' q hq).1, (N' q hq).2⟩
          rcases mem_c hq with rfl | hq
          · exact Ne.symm hID
          · exact fI q hq
        have T₂ : Tabs h₂ := tabs_part (ch := [I]) T' (fun b o hb e => kI b o (fun h => hb (List.mem_singleton.mpr h)) e) fun b hb => by rw [List.mem_singleton.mp hb]; exact ⟨tI, hNS i h' st⟩
        have hn₂ := hn'.at' fun o e => kI C o (Ne.symm hIC) e
        refine wpAny_assign_Name (wpAny_storeName_local (lookup_relabel_local hx) hn₂ (fun h₃ hn₃ hs₃ => ?_) (by simp [compEnvC, relabel, hkind]))
        replace hs₃ : Heap.SameBut C h₂ h₃ := hs₃
        refine wpAny_tests_nil ?_
        simp only [if_true]
        obtain ⟨oC, heC, hoC⟩ := LCg.ns_obj hn₃
        replace heC : h₃.get? C = some oC := heC
        have F₃ : Fr h₀ L h₃ (mp l) := F₂.change hs₃ hCL hC₀
        have N₃ : News h₀ L h₃ ((D, LCg.lst ys) :: front) := fun q hq => by
          refine ⟨hs₃.extBut _ _ ?_ (N₂ q hq).1, (N₂ q hq).2⟩
          rcases mem_c hq with rfl | hq
          · exact hDC
          · exact fC q hq
        have T₃ : Tabs h₃ := tabs_part (ch := [C]) T₂ (fun b o hb e => hs₃.extBut b o (fun h => hb (List.mem_singleton.mpr h)) e) fun b hb => by rw [List.mem_singleton.mp hb]; exact ⟨tC, nostr_ns hn₂⟩
        have st₃ : St (i + 1) h₃ := W.frame _ _ _ st₂ fun b hb o e => hs₃.extBut b o (pC b hb) e
        obtain ⟨oI', eI'⟩ := hI _ _ st₃
        have N₄ : News h₀ L h₃ ((I, oI') :: (C, oC) :: (D, LCg.lst ys) :: front) := fun q hq => by
          rcases mem_c hq with rfl | hq
          · exact ⟨eI', hIL, hI₀⟩
          · rcases mem_c hq with rfl | hq
            · exact ⟨heC, hCL, hC₀⟩
            · exact N₃ q hq
        refine wpAny_mono (body i k t I oI' oC C D _ h₃ _ _ _ ys hk hoC (by simp) F₃ N₄ hfront ⟨lID, lDC⟩ hTT T₃ gs') (fun v s₄ h₄ => ?_) fun _ _ e => e
        obtain ⟨g₄, tk₄, gn₄, rfl, F₄, N₅, T₄, gs₄, hVy⟩ := h₄.out
        have zD := (N₅ (D, LCg.lst ys) (.tail _ (.tail _ (.head _)))).1
        have zC := (N₅ (C, oC) (.tail _ (.head _))).1
        have zI := (N₅ (I, oI') (.head _)).1
        have st₄ : St (i + 1) g₄ := W.frame _ _ _ st₃ fun b hb o e => by
          rcases hfp b hb with rfl | ⟨o₀, e₀⟩ | ⟨o₀, e₀⟩
          · rw [eI'] at e; cases e; exact zI
          · have := F₃.keep _ _ e₀; rw [this] at e; cases e; exact F₄.keep _ _ e₀
          · have := (N₃ _ (.tail _ e₀)).1; dsimp only at this; rw [this] at e; cases e; exact (N₅ _ (.tail _ (.tail _ (.tail _ e₀)))).1
        refine append_at (hsz := by show ys.toArray.size ≤ sizeLine; rw [List.size_toArray, hyl, sizeLine_eq]; omega) zD fun h₅ hs₅ hD₅ => ?_
        refine ⟨ks.length + 1 - (i + 1), by omega, h₅, tk₄, gn₄, i + 1, ys ++ [v], _, rfl, hlt, rfl, by rw [List.length_append, List.length_singleton, hyl], W.frame _ _ _ st₄ fun b hb o e => hs₅.extBut b o (pD b hb) e, F₄.change hs₅ hDL hD₀,
          (hoC.ns zC).sameBut hs₅ (Ne.symm hDC), fun q hq => ?_, tabs_part (ch := [D]) T₄ (fun b o hb e => hs₅.extBut b o (fun h => hb (List.mem_singleton.mpr h)) e) fun b hb => by rw [List.mem_singleton.mp hb]; exact ⟨tD, nostr_lst zD⟩, gs₄, ?_⟩
        · rcases mem_c hq with rfl | hq
          · exact ⟨hD₅.trans (congrArg some (LCg.lst_snoc ys v)), hDL, hD₀⟩
          · exact ⟨hs₅.extBut _ _ (fD q hq) (N₅ q (.tail _ (.tail _ (.tail _ hq)))).1, (N₅ q (.tail _ (.tail _ (.tail _ hq)))).2⟩
        · intro j' k' hj' hk'
          rcases Nat.lt_succ_iff_lt_or_eq.mp hj' with hj' | rfl
          · obtain ⟨y', e, r⟩ := hV j' k' hj' hk'
            exact ⟨y', by rw [List.getElem?_append_left (by omega)]; exact e, r⟩
          · rw [hk] at hk'
            cases hk'
            exact ⟨v, by rw [List.getElem?_append_right (by omega), hyl, Nat.sub_self]; rfl, hVy⟩
      · obtain rfl : i = ks.length := Nat.le_antisymm hi (Nat.not_lt.mp hlt)
        refine W.done _ _ _ st fun h₂ tk₂ kb => ?_
        dsimp only at kb ⊢
        have kI : ∀ b o, b ≠ I → h'.get? b = some o → h₂.get? b = some o := fun b o hb e => kb b o (fun hm => hb (List.mem_singleton.mp hm)) e
        have F₂ : Fr h₀ L h₂ (mp l) := ⟨F'.ns.at' fun o e => kI L o (Ne.symm hIL) e, fun b o e => kI b o (fun h => by rw [h, hI₀] at e; cases e) (F'.keep b o e), F'.above⟩
        have N₂ : News h₀ L h₂ ((D, LCg.lst ys) :: front) := fun q hq => by
          refine ⟨kI _ _ ?_ (N' q hq).1, (N' q hq).2⟩
          rcases mem_c hq with rfl | hq
          · exact Ne.symm hID
          · exact fI q hq
        have T₂ : Tabs h₂ := tabs_part (ch := [I]) T' (fun b o hb e => kI b o (fun h => hb (List.mem_singleton.mpr h)) e) fun b hb => by rw [List.mem_singleton.mp hb]; exact ⟨tI, hNS _ h' st⟩
        have hn₂ := hn'.at' fun o e => kI C o (Ne.symm hIC) e
        show wpAny _ A (assign (.Name y py) env (.ref D)) _ _ _
        refine wpAny_assign_Name (wpAny_storeName_local hy (hL ▸ F₂.ns) (fun h₃ hn₃ hs₃ => ?_) hp)
        rw [hL] at hn₃ hs₃
        dsimp only at hs₃
        have hn₃C : h₃.Ns C m' := hn₂.sameBut hs₃ hCL
        refine ⟨m', hn₃C, fun h₄ hs₄ => ?_⟩
        have L0 : h₀.get? L = none := kts_self F
        have F₃ : Fr h₀ L h₃ (mp (put y (.ref D) l)) := fr_cg ⟨hn₃, fun b o e => hs₃.extBut b o (fun h => by rw [h, L0] at e; cases e) (F₂.keep b o e), F₂.above⟩ fun z => (mp_put y (.ref D) l z).symm
        have T₃ : Tabs h₃ := tabs_part (ch := [L]) T₂ (fun b o hb e => hs₃.extBut b o (fun h => hb (List.mem_singleton.mpr h)) e) fun b hb => by rw [List.mem_singleton.mp hb]; exact ⟨hLT, nostr_ns F₂.ns⟩
        have T₄ : Tabs h₄ := tabs_part (ch := [C]) T₃ (fun b o hb e => hs₄.extBut b o (fun h => hb (List.mem_singleton.mpr h)) e) fun b hb => by rw [List.mem_singleton.mp hb]; exact ⟨tC, nostr_ns hn₃C⟩
        refine fin D h₄ _ gn ys hyl (fun j k hk => hV j k (by have := (List.getElem?_eq_some_iff.mp hk).1; omega) hk) (F₃.change hs₄ hCL hC₀) (fun q hq => ⟨hs₄.extBut _ _ ?_ (hs₃.extBut _ _ (N₂ q hq).2.1 (N₂ q hq).1), (N₂ q hq).2⟩) (fun q hq => Nat.lt_trans (hfront q hq) lID) (fun b hb => Nat.lt_trans (hTT b hb) lID) T₄ gs'
        rcases mem_c hq with rfl | hq
        · exact hDC
        · exact fC q hq
    · rcases mem_c hq with rfl | hq
      · exact ⟨hacc, hDL, hD₀⟩
      · exact N1 q hq
  rw [← hIe, ← hDe, ← hCe]
  exact codeAny_compStart_list (loop _ rfl) (W.self 0 _ _ _ st1 (loop _ rfl))

end
section

theorem sg_ne {bl : List UInt8} {md six : List Int} (hl : bl.length = 64) (hnd : bl.Nodup) (hm : ∀ k ∈ md, 0 ≤ k ∧ k < 64) (hs : ∀ k ∈ six, 0 ≤ k ∧ k < 64) :
    ((byteArr (md.map (sg bl))).toList != (byteArr (six.map (sg bl))).toList) = !decide (md = six) := by
  by_cases h : md = six
  · subst h; simp
  · have hb : ∀ l : List Int, ∀ k ∈ l.map (sg bl), 0 ≤ k ∧ k < 256 := fun l k hk => by
      obtain ⟨z, _, rfl⟩ := List.mem_map.mp hk
      exact sg_bd bl z
    have hne : (byteArr (md.map (sg bl))).toList ≠ (byteArr (six.map (sg bl))).toList := fun e => h (by
      have e1 := Array.toList_inj.mp e
      have e2 : md.map (sg bl) = six.map (sg bl) := by rw [← KBx_ints (hb md), ← KBx_ints (hb six), e1]
      have inv : ∀ l : List Int, (∀ k ∈ l, 0 ≤ k ∧ k < 64) → (l.map (sg bl)).map (fun k => (lookI bl k).getD 0) = l := fun l hl' => by
        rw [List.map_map]
        refine (List.map_congr_left fun k hk => ?_).trans (List.map_id' l)
        show (lookI bl (sg bl k)).getD 0 = k
        unfold lookI
        rw [look_sg hl hnd (hl' k hk).1 (hl' k hk).2]
        simp only [Option.map_some, Option.getD_some]
        exact Int.toNat_of_nonneg (hl' k hk).1
      rw [← inv md hm, ← inv six hs, e2])
    rw [decide_eq_false h]
    exact bne_iff_ne.mpr hne
structure LawM (bl : List UInt8) (rest six src : List Int) : Prop where
  hsix : six = rest.map fun k => k.fmod 64
  hsib : ∀ k ∈ six, 0 ≤ k ∧ k < 64
  hsil : six.length = rest.length
  hsrc : src = six.map (sg bl)
  hsrb : ∀ k ∈ src, 0 ≤ k ∧ k < 256
  hsrl : src.length = six.length

structure LawE (big : Bool) (bl : List UInt8) (six pl md due : List Int) : Prop where
  hn4 : six.length % 4 ≠ 1
  hplb : ∀ k ∈ pl, 0 ≤ k ∧ k < 256
  hmd2 : md = mend big six
  hmdb : ∀ k ∈ md, 0 ≤ k ∧ k < 64
  hmdl : md.length ≤ 24
  hdue : due = md.map (sg bl)
  hdub : ∀ k ∈ due, 0 ≤ k ∧ k < 256
  hdul : due.length = md.length
noncomputable abbrev lqk (w : World) (A : Around) (env : Env) (R : Result → Shared → Prop) : Flow → Shared → Prop := fun f s' => match f with
  | .next => wpAny (model PR w) A (execs ((lawBody w).drop 18) env) (lq R) (le w A env R) s'
  | f => lq R f s'

end
section


theorem after_A {g h h' : Heap} {L : Addr} {m : Str → Option Value} {l : List (Addr × Obj)} {env : Env} (hf : env.frame = some L) (F : Fr g L h m) (N : News g L h l)
    (k : ∀ b o, b ∉ TT → b ∉ [env].filterMap (·.frame) → h.get? b = some o → h'.get? b = some o) (u : UpB TT h h') (hLT : L ∉ TT) (gT : ∀ b ∈ TT, g.get? b = none) (hA : ∀ q ∈ l, q.1 ∉ TT) : Fr g L h' m ∧ News g L h' l := by
  have e : [env].filterMap (·.frame) = [L] := by rw [List.filterMap_cons, hf]; rfl
  rw [e] at k
  obtain ⟨o, es, ep, e1, hd, r⟩ := F.ns
  obtain ⟨sl, e2⟩ := u L o hLT e1 (fun vs hh => by rw [hd] at hh; cases hh)
  refine ⟨⟨⟨_, es, ep, e2, hd, r⟩, fun b o e => k b o (fun hm => by rw [gT b hm] at e; cases e) (fun hm => ?_) (F.keep b o e), F.above⟩, fun q hq => ⟨k _ _ (hA q hq) (fun hm => (N q hq).2.1 (List.mem_singleton.mp hm)) (N q hq).1, (N q hq).2⟩⟩
  rw [List.mem_singleton.mp hm, kts_self F] at e
  cases e

theorem cl_strs : ∀ ns : List Str, ns.all PyData.strOk = true → PyData.canLayAll0 (ns.map PyData.str) = true
  | [], _ => rfl
  | a :: r, h => by
    rw [List.all_cons, Bool.and_eq_true] at h
    simp [PyData.canLayAll0, PyData.canLay0, cl_strs r h.2, h.1]
theorem dp_strs : ∀ ns : List Str, PyData.depthAll (ns.map PyData.str) = 0
  | [] => rfl
  | _ :: r => by simp [PyData.depthAll, PyData.depth, dp_strs r]
theorem sh_strs (ns : List Str) (h : ns.all PyData.strOk = true) : SeqAt.shaped (.list (ns.map PyData.str)) = true := by
  simp [SeqAt.shaped, PyData.canLay0, PyData.depth, cl_strs ns h, dp_strs]
theorem sm_strs : ∀ ns : List Str, PySem.Spec.sameAll (ns.map PyData.str) (ns.map PyData.str) = true
  | [] => by simp [PySem.Spec.sameAll]
  | a :: r => by simp only [List.map_cons, PySem.Spec.sameAll, PySem.Spec.same, sm_strs r]; simp
theorem cr_strs : ∀ {vs : List Value} {ns : List Str}, StrsAre vs ns → CarriedAll vs (ns.map PyData.str)
  | _, _, .nil => .nil
  | _, _, .cons _ t r => .cons (.str _ t) (cr_strs r)
theorem ne_strs {prog : Program} {w : World} {A : Around} {E : Value → Shared → Prop} {s : Shared} {a b : Addr} {xs ys : List Value} {ns : List Str} {Q : Value → Shared → Prop}
    (ha : s.heap.IsList a xs.toArray) (hb : s.heap.IsList b ys.toArray) (hi : StrsAre xs ns) (hj : StrsAre ys ns) (hu : A.units + 64 < cLine) (hok : ns.all PyData.strOk = true) (h : Q (.bool false) s) :
    wpAny (model prog w) A (compareOp .NotEq (.ref a) (.ref b)) Q E s :=
  ne_dataH_same (reads_newData ha (cr_strs hi)) (reads_newData hb (cr_strs hj)) (sh_strs _ hok) (sh_strs _ hok) hu (SeqAt.noMix_of_shape (.list .str) rfl _ _ (list_map_has fun _ => rfl) (list_map_has fun _ => rfl)) (by rw [show PySem.Spec.same (.list (ns.map PyData.str)) (.list (ns.map PyData.str)) = true from by simp only [PySem.Spec.same]; exact sm_strs ns]; exact h)


theorem back_fr {KF : Frag} {p : Program} {loose : List Str} {mean : ExcName → Option Value} {mg mb : Str → Option Value} {A₀ : Around} {base B G0 : Heap} {L : Addr} {m : Str → Option Value} {env : Env} {e : Addr} {X : String} {g g' h : Heap}
    (Z : Landed KF p loose mean mg mb A₀ base B G0 [] L m env e X g g' h) : Fr g L h m :=
  ⟨Z.fr.ns, fun b o q => Z.fr.keep b o (Z.turn.other b o q (by simp)), Z.turn.size ▸ Z.fr.above⟩
theorem back_news {KF : Frag} {p : Program} {loose : List Str} {mean : ExcName → Option Value} {mg mb : Str → Option Value} {A₀ : Around} {base B G0 : Heap} {L : Addr} {m : Str → Option Value} {env : Env} {e : Addr} {X : String} {g g' h h1 : Heap} {l : List (Addr × Obj)} {own : List Addr}
    (Z : Landed KF p loose mean mg mb A₀ base B G0 [] L m env e X g g' h) (N : News g L h1 l) (hf : env.frame = some L) (hB : ∀ b o, b ∉ own → h1.get? b = some o → b ∉ [env].filterMap (·.frame) → B.get? b = some o) (ho : ∀ q ∈ l, q.1 ∉ own) : News g L h l := fun q hq => by
  obtain ⟨a0, fl⟩ := Z.fly
  refine ⟨fl.1 _ _ (hB _ _ (ho q hq) (N q hq).1 ?_), (N q hq).2⟩
  rw [List.filterMap_cons, hf]
  exact fun hm => (N q hq).2.1 (List.mem_singleton.mp hm)


theorem fr_hideT {g h : Heap} {L : Addr} {m : Str → Option Value} (F : Fr g L h m) (hLT : L ∉ TT) (gT : ∀ b ∈ TT, g.get? b = none) : Fr g L (hideAll h TT) m :=
  ⟨F.ns.at' fun _ e => hideAll_get _ e hLT, fun b o q => hideAll_get _ (F.keep b o q) (fun hm => by rw [gT b hm] at q; cases q), F.above⟩
theorem hide_B {h B : Heap} {P : Addr → Prop} (hB : ∀ b o, b ∉ TT → h.get? b = some o → P b → B.get? b = some o) : ∀ b o, (hideAll h TT).get? b = some o → P b → B.get? b = some o :=
  fun b o e hn => hB b o (fun hm => by rw [hideAll_none _ hm] at e; cases e) (of_hideAll _ e) hn
theorem hide_up {h h' : Heap} (u : UpB TT h h') : (hideAll h TT).UpToSlots h' := fun b o e hn => u b o (fun hm => by rw [hideAll_none _ hm] at e; cases e) (of_hideAll _ e) hn
end
section


theorem LawC.push {w : World} {mean mg mb G dp un gd base d u} {g h : Heap} {L : Addr} {m : Str → Option Value} (K : LawC w mean mg mb G dp un gd base d u g L) (F : Fr g L h m) :
    Cx w mean mg mb G ((⟨none, dp, some [], gd, un⟩ : Around).deeper (lawEnv w L)) base [lawEnv w L] 199 1997 h :=
  let C := K.C.push F (env := lawEnv w L) rfl (by show (lawScope w).kind = .function; rfl) (Nat.le_trans (by decide) K.hd) (Nat.le_trans (by decide) K.hu)
  ⟨C.B, C.S, C.le, C.hh, by have := C.hd; have := K.hd; omega, by have := C.hu; have := K.hu; omega⟩
theorem LawC.u64 {w : World} {mean mg mb G dp un gd base d u} {g : Heap} {L : Addr} (K : LawC w mean mg mb G dp un gd base d u g L) : ((⟨none, dp, some [], gd, un⟩ : Around).deeper (lawEnv w L)).units + 64 < cLine := by
  have := K.C.hu; have := K.hu; simp only [Around.deeper] at *; omega
theorem rz_kT {P : Prop} {base h0 : Heap} {l : List Env} {e : Addr} {cls : String} {h : Heap} (z : Rz TT Tabs base h0 l e cls h)
    (k : ∀ B a0, (∀ b o, b ∉ TT → h0.get? b = some o → b ∉ l.filterMap (·.frame) → B.get? b = some o) → Tabs B → Heap.FlyingW B l e (.type cls) a0 h → UpB TT h0 h → P) : P := by
  obtain ⟨B, a0, _, h2, h3, h4, h5⟩ := z
  exact k B a0 h2 h3 h4 h5
theorem ve1 {w : World} : nsIn (Mine.hd.heap_1 w.params) mainGlobals (Str.ofString "ValueError") = some none := by kernel_rfl
theorem ve2 : (Str.ofString "ValueError") ≠ "__name__" := by decide
theorem ve3 : isSubtype (.type "ValueError") (.type "BaseException") = pure true := by rw [isSubtype_type]; kernel_rfl
theorem ve4 : isSubtype (.type ((Manifest.find? "ValueError").elim "type" fun y => y.metatype)) (.type "tuple") = pure false := by rw [isSubtype_type]; kernel_rfl
theorem ve5 : isSubtype (.type "ValueError") (.type "ValueError") = pure true := by rw [isSubtype_type]; kernel_rfl
theorem strs_ptw : ∀ {ys : List Value} {ns : List Str}, ys.length = ns.length → (∀ (i : Nat) n, ns[i]? = some n → ∃ t, ys[i]? = some (Value.str n t)) → StrsAre ys ns
  | [], [], _, _ => .nil
  | y :: ys, n :: ns, h, h2 => by
    obtain ⟨t, e⟩ := h2 0 n rfl
    cases e
    exact .cons _ t (strs_ptw (Nat.succ.inj h) fun i n hn => h2 (i + 1) n hn)
noncomputable abbrev nineS : List Str := [Str.ofString "ValueError", Str.ofString "ValueError", Str.ofString "ValueError", Str.ofString "ValueError", Str.ofString "ValueError", Str.ofString "TypeError", Str.ofString "TypeError", Str.ofString "TypeError", Str.ofString "TypeError"]
theorem nine_strs {ys : List Value} (h1 : ys.length = 9) (h2 : ∀ i k, ((List.range 9).map fun (i : Nat) => 0 + (i : Int) * 1)[i]? = some k → ∃ y, ys[i]? = some y ∧ ∃ t, y = Value.str (Str.ofString (wcls i)) t) : StrsAre ys nineS :=
  strs_ptw h1 fun i n hn => by
    have hi : i < 9 := (List.getElem?_eq_some_iff.mp hn).1
    obtain ⟨y, e, t, rfl⟩ := h2 i (0 + (i : Int) * 1) (by rw [List.getElem?_map, List.getElem?_range hi]; rfl)
    refine ⟨t, ?_⟩
    have hs : nineS = (List.range 9).map fun i => Str.ofString (wcls i) := rfl
    rw [hs, List.getElem?_map, List.getElem?_range hi] at hn
    cases hn
    exact e
theorem range_at {n i : Nat} {k : Int} (h : ((List.range n).map fun (i : Nat) => 0 + (i : Int) * 1)[i]? = some k) : k = (i : Int) ∧ i < n := by
  rw [List.getElem?_map] at h
  obtain ⟨j, hj, rfl⟩ := Option.map_eq_some_iff.mp h
  obtain ⟨h1, h2⟩ := List.getElem?_eq_some_iff.mp hj
  rw [List.getElem_range] at h2
  rw [List.length_range] at h1
  subst h2
  exact ⟨by omega, h1⟩

end
local macro_rules | `(tactic| k_mem) => `(tactic| first | exact List.Mem.head _ | assumption | (refine List.Mem.tail _ ?_; k_mem))

/-- the law at hand, one word for all its data -/
structure LD where
  w : World
  mean : ExcName → Option Value
  mg : Str → Option Value
  mb : Str → Option Value
  G : Heap
  dp : Nat
  un : Nat
  gd : Option (List Code)
  base : Heap
  d : Nat
  u : Nat
  g : Heap
  L : Addr
  s : Shared
noncomputable abbrev LD.env (D : LD) : Env := lawEnv D.w D.L
noncomputable abbrev LD.A (D : LD) : Around := (⟨none, D.dp, some [], D.gd, D.un⟩ : Around).deeper D.env
noncomputable abbrev LD.st (D : LD) (h : Heap) (tk : Nat) (gn : Array GenState) : Shared := { D.s with heap := h, toks := tk, gens := gn }
noncomputable abbrev LD.K (D : LD) : Prop := LawC D.w D.mean D.mg D.mb D.G D.dp D.un D.gd D.base D.d D.u D.g D.L
noncomputable abbrev NoC (q : Addr × Obj) : Prop := (∀ v, q.2.data ≠ .cell v) ∧ q.1 ∉ TT
noncomputable def cells : List Nat := [1, 2, 3, 4, 5, 6, 7, 8, 9, 10]
noncomputable def cl10 (L : Addr) (co : Nat → Obj) : Led := cells.map fun i => (L + i, co i)
/-- the law's frame, its cells, the objects that it needs -/
inductive LH (D : LD) (m : Loc) (C : Nat → Option Value) (O : Led) (h : Heap) : Prop
  | mk (co : Nat → Obj) (hd : ∀ i, (co i).data = .cell (C i)) (F : Fr D.g D.L h (mp m)) (N : News D.g D.L h (cl10 D.L co ++ O)) (T : Tabs h) (nc : ∀ q ∈ O, NoC q) : LH D m C O h
/-- an expression's value, and what it has made -/
noncomputable def EV (D : LD) (m : Loc) (C : Nat → Option Value) (O : Led) (e : Expr) (post : Value → Led → Prop) : Prop :=
  ∀ h tk gn (E : Value → Shared → Prop) (Q : Value → Shared → Prop), LH D m C O h → (∀ v X h' tk' gn', post v X → LH D m C (X ++ O) h' → (∀ q ∈ X, ∀ p ∈ O, p.1 ≠ q.1) → (AllBare gn → AllBare gn') → Q v (D.st h' tk' gn')) → wpAny (model PR D.w) D.A (eval e D.env) Q E (D.st h tk gn)
noncomputable def TV (D : LD) (m : Loc) (C : Nat → Option Value) (O : Led) (e : Expr) (b : Bool) : Prop :=
  ∀ h tk gn (E : Value → Shared → Prop) (Q : Bool → Shared → Prop), LH D m C O h → (∀ h' tk' gn', LH D m C O h' → (AllBare gn → AllBare gn') → Q b (D.st h' tk' gn')) → wpAny (model PR D.w) D.A (isTrue e D.env (eval e D.env)) Q E (D.st h tk gn)
/-- an expression that raises a ValueError -/
noncomputable def RV (D : LD) (m : Loc) (C : Nat → Option Value) (O : Led) (e : Expr) : Prop :=
  ∀ h tk gn (E : Value → Shared → Prop) (Q : Value → Shared → Prop), LH D m C O h → (∀ h' tk' gn' ex, Rz TT Tabs D.base h [D.env] ex "ValueError" h' → (AllBare gn → AllBare gn') → E (.ref ex) (D.st h' tk' gn')) → wpAny (model PR D.w) D.A (eval e D.env) Q E (D.st h tk gn)
/-- the statements that are left; a structure, so that nothing unfolds it -/
structure WX (D : LD) (l : List Stmt) (Q : Flow → Shared → Prop) (E : Value → Shared → Prop) (h : Heap) (tk : Nat) (gn : Array GenState) : Prop where
  go : wpAny (model PR D.w) D.A (execs l D.env) Q E (D.st h tk gn)
theorem x_nil {D : LD} {Q : Flow → Shared → Prop} {E : Value → Shared → Prop} {h : Heap} {tk : Nat} {gn : Array GenState} (hQ : Q .next (D.st h tk gn)) : WX D [] Q E h tk gn := ⟨wpAny_execs_nil hQ⟩
/-- the engine among the objects -/
inductive EO (D : LD) (xe : Addr) (bl : List UInt8) (big : Bool) (O : Led) : Prop
  | mk (dx lk : Addr) (a1 a2 a3 : Int) (t1 t2 t3 tb : Tok) (nn : Nat) (olk : Obj) (m1 : (xe, instObj 262 dx) ∈ O) (m2 : (dx, engD a1 a2 a3 t1 t2 t3 tb bl lk big nn) ∈ O) (m3 : (lk, olk) ∈ O) (he : ∀ h : Heap, h.get? xe = some (instObj 262 dx) → h.get? dx = some (engD a1 a2 a3 t1 t2 t3 tb bl lk big nn) → h.get? lk = some olk → Eng D.w h xe bl big) : EO D xe bl big O

section
variable {D : LD} {m : Loc} {C : Nat → Option Value} {O : Led} {h h' : Heap} {tk : Nat} {gn : Array GenState}
theorem LH.cell (I : LH D m C O h) {P : Prop} (k : ∀ nw, News D.g D.L h nw → (∀ q ∈ O, q ∈ nw) → (∀ q ∈ O, NoC q) → (∃ co, (∀ i, (co i : Obj).data = .cell (C i)) ∧ ∀ q ∈ cl10 D.L co, q ∈ nw) → (∀ m' h', Fr D.g D.L h' (mp m') → News D.g D.L h' nw → LH D m' C O h') → P) (K : D.K) : P := by
  obtain ⟨co, hd, F, N, T, nc⟩ := I
  obtain ⟨p1, p2, p3, y1, y2, y3, q1, q2, q3, NT, _, _, _, TL⟩ := tabs_led T F K.gT
  refine k ((cl10 D.L co ++ O) ++ [(45, tabObj p1), (y1, q1), (88, tabObj p2), (y2, q2), (107, tabObj p3), (y3, q3)]) (news_join N NT) (fun q hq => List.mem_append_left _ (List.mem_append_right _ hq)) nc ⟨co, hd, fun q hq => List.mem_append_left _ (List.mem_append_left _ hq)⟩ fun m' h' F' N' => ⟨co, hd, F', fun q hq => N' q (List.mem_append_left _ hq), TL.keep _ F'.keep fun q hq => (N' q (List.mem_append_right _ hq)).1, nc⟩
theorem LH.fr (I : LH D m C O h) : Fr D.g D.L h (mp m) := by obtain ⟨co, hd, F, N, T, nc⟩ := I; exact F
theorem LH.tabs (I : LH D m C O h) : Tabs h := by obtain ⟨co, hd, F, N, T, nc⟩ := I; exact T
theorem LH.get (I : LH D m C O h) {q : Addr × Obj} (hq : q ∈ O) : h.get? q.1 = some q.2 := by obtain ⟨co, hd, F, N, T, nc⟩ := I; exact (N q (List.mem_append_right _ hq)).1
theorem LH.sub (I : LH D m C O h) {O' : Led} (s : ∀ q ∈ O', q ∈ O) : LH D m C O' h := by
  obtain ⟨co, hd, F, N, T, nc⟩ := I
  exact ⟨co, hd, F, fun q hq => N q ((List.mem_append.mp hq).elim (List.mem_append_left _) fun z => List.mem_append_right _ (s q z)), T, fun q hq => nc q (s q hq)⟩
theorem LH.drop {X : Led} (I : LH D m C (X ++ O) h) : LH D m C O h := I.sub fun q hq => List.mem_append_right _ hq
theorem tab_fields {h : Heap} (T : Tabs h) {b : Addr} (hb : b ∈ TT) : ∃ ps, h.get? b = some (tabObj ps) := by
  rcases mem3 hb with rfl | rfl | rfl
  · obtain ⟨p, e, _⟩ := T.a; exact ⟨p, e⟩
  · obtain ⟨p, e, _⟩ := T.b; exact ⟨p, e⟩
  · obtain ⟨p, e, _⟩ := T.c; exact ⟨p, e⟩
theorem cl10_cell {L : Addr} {co : Nat → Obj} (hd : ∀ i, (co i).data = .cell (C i)) : ∀ q ∈ cl10 L co, ∃ v, q.2.data = .cell v := fun q hq => by
  obtain ⟨i, _, rfl⟩ := List.mem_map.mp hq
  exact ⟨_, hd i⟩
theorem cell_off {co : Nat → Obj} (T : Tabs h) (N : News D.g D.L h (cl10 D.L co)) (hd : ∀ i, (co i).data = .cell (C i)) : ∀ q ∈ cl10 D.L co, q.1 ∉ TT := fun q hq hm => by
  obtain ⟨ps, e⟩ := tab_fields T hm
  rw [(N q hq).1] at e
  obtain ⟨v, hv⟩ := cl10_cell hd q hq
  rw [Option.some.inj e] at hv; cases hv
theorem LH.off (I : LH D m C O h) {P : Prop} (k : ∀ co, (∀ i, (co i : Obj).data = .cell (C i)) → News D.g D.L h (cl10 D.L co ++ O) → (∀ q ∈ cl10 D.L co ++ O, q.1 ∉ TT) → (∀ q ∈ O, NoC q) → P) : P := by
  obtain ⟨co, hd, F, N, T, nc⟩ := I
  exact k co hd N (fun q hq => (List.mem_append.mp hq).elim (cell_off T (fun p hp => N p (List.mem_append_left _ hp)) hd q) fun z => (nc q z).2) nc
theorem LH.kpB (I : LH D m C O h) (K : D.K) (kp : KpB TT h h') (T' : Tabs h') : LH D m C O h' :=
  I.off fun co hd N ho nc => ⟨co, hd, fr_kpB I.fr kp K.hLT K.gT, news_kpB N kp ho, T', nc⟩
theorem LH.kp (I : LH D m C O h) (kp : Kp h h') : LH D m C O h' := by
  obtain ⟨co, hd, F, N, T, nc⟩ := I
  exact ⟨co, hd, fr_kp F kp, news_kp N kp, T.keep kp, nc⟩
theorem LH.eng (I : LH D m C O h) {xe : Addr} {bl : List UInt8} {big : Bool} (e : EO D xe bl big O) : Eng D.w h xe bl big := by
  obtain ⟨dx, lk, a1, a2, a3, t1, t2, t3, tb, nn, olk, m1, m2, m3, he⟩ := e
  exact he h (I.get m1) (I.get m2) (I.get m3)
theorem LH.push (I : LH D m C O h) (K : D.K) : Cx D.w D.mean D.mg D.mb D.G D.A D.base [D.env] 199 1997 h := LawC.push K I.fr
/-- one new object -/
theorem LH.add (I : LH D m C O h) (kp : Kp h h') {l : Addr} {o : Obj} (hn : h.get? l = none) (ho : h'.get? l = some o) (hc : ∀ v, o.data ≠ .cell v) : LH D m C ((l, o) :: O) h' := by
  have hT : l ∉ TT := fun hm => by obtain ⟨ps, e⟩ := tab_fields I.tabs hm; rw [hn] at e; cases e
  obtain ⟨co, hd, F, N, T, nc⟩ := I
  refine ⟨co, hd, fr_kp F kp, fun q hq => ?_, T.keep kp, forall_cons ⟨hc, hT⟩ nc⟩
  have NF := news_fresh F N kp hn ho
  rcases List.mem_append.mp hq with hq | hq
  · exact NF q (.tail _ (List.mem_append_left _ hq))
  · rcases mem_c hq with rfl | hq
    · exact NF _ (.head _)
    · exact NF q (.tail _ (List.mem_append_right _ hq))
/-- all but one address, no object of ours -/
theorem LH.but (I : LH D m C O h) (K : D.K) {a : Addr} (kp : ∀ b o, b ≠ a → h.get? b = some o → h'.get? b = some o) (ha : a ∉ TT) (hL : a ≠ D.L) (hg : D.g.get? a = none) (hO : ∀ q ∈ O, q.1 ≠ a) (hcl : ∀ i ∈ cells, D.L + i ≠ a) (ns : NoStr h a) : LH D m C O h' := by
  obtain ⟨co, hd, F, N, T, nc⟩ := I
  have own : ∀ b ∈ [a], NoStr h b := fun b hb => by rw [List.mem_singleton.mp hb]; exact ns
  have nT : ∀ b ∈ TT, b ∉ [a] := fun b hb hm => ha (by rw [← List.mem_singleton.mp hm]; exact hb)
  have kk : ∀ b o vs, b ∉ [a] → o.data = .fields vs → h.get? b = some o → h'.get? b = some o := fun b o _ hb _ e => kp b o (fun z => hb (by rw [z]; exact .head _)) e
  have hc2 : ∀ q ∈ cl10 D.L co, q.1 ≠ a := fun q hq => by
    obtain ⟨i, hi, rfl⟩ := List.mem_map.mp hq
    exact hcl _ hi
  refine ⟨co, hd, ⟨F.ns.at' fun o e => kp _ _ (Ne.symm hL) e, fun b o e => kp b o (fun z => by rw [z, hg] at e; cases e) (F.keep b o e), F.above⟩, fun q hq => ⟨kp _ _ ((List.mem_append.mp hq).elim (hc2 q) (hO q)) (N q hq).1, (N q hq).2⟩, ?_, nc⟩
  exact ⟨tab_keep T.a (nT _ (.head _)) own kk, tab_keep T.b (nT _ (.tail _ (.head _))) own kk, tab_keep T.c (nT _ (.tail _ (.tail _ (.head _)))) own kk⟩
theorem LH.loc (I : LH D m C O h) {x : Str} {v : Value} {tk : Nat} {gn : Array GenState} {E : Value → Shared → Prop} {Q : Unit → Shared → Prop} (hk : D.env.kindOf x = some .local) (hs : (lawScope D.w).kind = .function) (K : D.K)
    (hQ : ∀ h', LH D (put x v m) C O h' → Q () (D.st h' (tk + 1) gn)) : wpAny (model PR D.w) D.A (storeName D.env x v) Q E (D.st h tk gn) :=
  I.cell (fun nw N _ _ _ back => st_mp (s := D.st h tk gn) I.fr N (fun h' F' N' => hQ h' (back _ _ F' N')) hs hk) K
/-- a cell -/
theorem LH.set {i : Nat} {x : Str} {v : Value} {tk : Nat} {gn : Array GenState} {E : Value → Shared → Prop} {Q : Unit → Shared → Prop} (I : LH D m C O h) (hi : i ∈ cells) (hk : D.env.kindOf x = some .cell) (hc : D.env.cells.lookup x = some (D.L + i)) (hs : (lawScope D.w).kind = .function)
    (hQ : ∀ h', LH D m (fun j => if j = i then some v else C j) O h' → Q () (D.st h' tk gn)) : wpAny (model PR D.w) D.A (storeName D.env x v) Q E (D.st h tk gn) := by
  obtain ⟨co, hd, F, N, T, nc⟩ := I
  have Nc := fun q hq => N q (List.mem_append_left _ hq)
  have hm := Nc (D.L + i, co i) (List.mem_map_of_mem (f := fun i => (D.L + i, co i)) hi)
  have off := cell_off T Nc hd _ (List.mem_map_of_mem (f := fun i => (D.L + i, co i)) hi)
  refine wpAny_storeName_cell hs hk hc ⟨co i, hm.1, hd i⟩ fun h' hv hsb => hQ h' ?_
  obtain ⟨o', ho', hd'⟩ := hv
  have keep : ∀ b o, b ≠ D.L + i → h.get? b = some o → h'.get? b = some o := fun b o hb e => (hsb.2 b hb).trans e
  refine ⟨fun j => if j = i then o' else co j, fun j => ?_, ⟨F.ns.sameBut hsb (Ne.symm hm.2.1), fun b o e => keep b o (fun z => by rw [z, hm.2.2] at e; cases e) (F.keep b o e), F.above⟩, fun q hq => ?_, T.fields fun b o vs hf e => keep b o (fun z => by rw [z, hm.1] at e; cases e; rw [hd i] at hf; cases hf) e, nc⟩
  · by_cases e : j = i
    · rw [if_pos e, if_pos e]; exact hd'
    · rw [if_neg e, if_neg e]; exact hd j
  · rcases List.mem_append.mp hq with hq | hq
    · obtain ⟨j, hj, rfl⟩ := List.mem_map.mp hq
      have hj2 := Nc _ (List.mem_map_of_mem (f := fun i => (D.L + i, co i)) hj)
      dsimp only
      by_cases e : j = i
      · subst e
        rw [if_pos rfl]
        exact ⟨ho', hm.2⟩
      · rw [if_neg e]
        exact ⟨keep _ _ (fun z => e (Nat.add_left_cancel z)) hj2.1, hj2.2⟩
    · have h2 := N q (List.mem_append_right _ hq)
      exact ⟨keep _ _ (fun z => by have := h2.1; rw [z, hm.1] at this; exact (nc q hq).1 _ (by rw [← Option.some.inj this]; exact hd i)) h2.1, h2.2⟩
end


theorem MCallC {M : Model} {A : Around} {E : Value → Shared → Prop} {s : Shared} {env : Env} {cv : Const} {ck : Nat} {name : Str} {p1 apos pos : Pos} {args : List Expr} {Q : Value → Shared → Prop} (hp : (apos.endLine == pos.line) = true) (hf : methodCallForm (args.length + 0) (backTo pos (starEach args env)) (backToKw pos (keywordEach [] env)) = true)
    (h : wpAny M A (eval (.Constant cv ck p1) env) (fun ov s₁ => wpAny M A (getMethod ov name (do return (← importBound (.Constant cv ck p1) env).getD true)) (fun fx s₂ => wpAny M A (callWith pos fx.1 fx.2 (backTo pos (starEach args env)) []) Q E s₂) E s₁) E s) :
    wpAny M A (eval (.Call (.Attribute (.Constant cv ck p1) name apos) args [] pos) env) Q E s := by
  show wpAny M A (do
    let ov ← eval (.Constant cv ck p1) env
    standAt apos.atName
    methodCall (.Constant cv ck p1) name apos pos env ov (args.length + 0) (backTo pos (starEach args env)) (backToKw pos (keywordEach [] env))) Q E s
  unfold methodCall
  rw [hf]
  refine wpAny_bind (wpAny_mono h (fun ov s₁ h₁ => wpAny_bind (wpAny_standAt (wpAny_bind (wpAny_holding (wpAny_mono h₁ (fun fx s₂ h₂ => ?_) fun _ _ x => x))))) fun _ _ x => x)
  unfold methodCallPos
  rw [hp]
  exact wpAny_bind (wpAny_pure h₂)


noncomputable def lkl : List Str := [Str.ofString "a", Str.ofString "c", Str.ofString "rest", Str.ofString "big", Str.ofString "text", Str.ofString "given", Str.ofString "octets", Str.ofString "coded", Str.ofString "written", Str.ofString "read", Str.ofString "sixes", Str.ofString "source", Str.ofString "words", Str.ofString "told", Str.ofString "one", Str.ofString "plain", Str.ofString "due", Str.ofString "turned", Str.ofString "dues", Str.ofString "place", Str.ofString "front"]
noncomputable def lk (x : Str) : Bool := lkl.contains x && !(x == ("__debug__" : Str))
theorem lk_all (w : World) : (lkl.all fun x => (lawScope w).names.lookup x == some .local) = true := by kernel_rfl
theorem lk_nm {w : World} {L : Addr} {x : Str} (h : lk x = true) : (lawEnv w L).kindOf x = some .local := by
  unfold lk at h
  rw [Bool.and_eq_true] at h
  have := List.all_eq_true.mp (lk_all w) x (by simpa using h.1)
  show List.lookup x (lawScope w).names = some .local
  simpa using this
theorem lk_nd {x : Str} (h : lk x = true) : (x == ("__debug__" : Str)) = false := by
  unfold lk at h
  rw [Bool.and_eq_true] at h
  simpa using h.2
/-- the cells: their names -/
noncomputable def cno (x : Str) : Option Nat := [(Str.ofString "script", 1), (Str.ofString "b", 2), (Str.ofString "start", 3), (Str.ofString "odd", 4), (Str.ofString "shift", 5), (Str.ofString "signs", 6), (Str.ofString "texts", 7), (Str.ofString "engine", 8), (Str.ofString "row", 9), (Str.ofString "foreign", 10)].lookup x
theorem law_sk (w : World) : (lawScope w).kind = .function := by kernel_rfl

section
variable {D : LD} {m : Loc} {C : Nat → Option Value} {O : Led} {h h' : Heap} {tk : Nat} {gn : Array GenState} {E : Value → Shared → Prop} {Q : Value → Shared → Prop} {x : Str} {v : Value} {p1 p2 p3 p4 : Pos}
theorem l_name {A : Around} (F : Fr D.g D.L h (mp m)) (hm : mp m x = some v) (hx : lk x = true) (hQ : Q v (D.st h tk gn)) : wpAny (model PR D.w) A (eval (.Name x p1) D.env) Q E (D.st h tk gn) :=
  nameX_L (s := D.st h tk gn) F hm hQ (law_sk D.w) (lk_nm hx) (lk_nd hx)
theorem l_engine (K : D.K) (I : LH D m C O h) (hv : C 8 = some v) (hQ : Q v (D.st h tk gn)) : wpAny (model PR D.w) D.A (eval (.Name (Str.ofString "engine") p1) D.env) Q E (D.st h tk gn) :=
  I.cell (fun nw N _ _ ⟨co, hc, hcl⟩ _ => nameX_C (s := D.st h tk gn) N (by kernel_rfl) (hcl (D.L + 8, co 8) (List.mem_map_of_mem (f := fun i => (D.L + i, co i)) (show 8 ∈ cells by decide))) ((hc 8).trans (congrArg Data.cell hv)) hQ (law_sk D.w) (by kernel_rfl)) K
/-- a method of the engine -/
structure Meth (w : World) (name : Str) (f : Addr) : Prop where
  hp : plainGet (Mine.hd.heap_1 w.params) 262 name = true
  hi : isFn (Mine.hd.heap_1 w.params) (.ref f) = true
  hk : keepIn (Mine.hd.heap_1 w.params) (.ref f) = true
  hf : findIn (Mine.hd.heap_1 w.params) (.ref 262) name = some (some (.ref f))
  hg : ∀ (v1 v2 v3 : Value) (a1 a2 a3 : Int) (t1 t2 t3 : Tok), getL name [⟨a1, .str (Str.ofString "bytemap") t1, v1⟩, ⟨a2, .str (Str.ofString "_lookup") t2, v2⟩, ⟨a3, .str (Str.ofString "big") t3, v3⟩] = some none
theorem meth91 (w : World) : Meth w (Str.ofString "encode_bytes") 91 := ⟨by kernel_rfl, by kernel_rfl, by kernel_rfl, by kernel_rfl, fun _ _ _ _ _ _ _ _ _ => rfl⟩
theorem meth112 (w : World) : Meth w (Str.ofString "decode_bytes") 112 := ⟨by kernel_rfl, by kernel_rfl, by kernel_rfl, by kernel_rfl, fun _ _ _ _ _ _ _ _ _ => rfl⟩
theorem meth154 (w : World) : Meth w (Str.ofString "check_repair_unused") 154 := ⟨by kernel_rfl, by kernel_rfl, by kernel_rfl, by kernel_rfl, fun _ _ _ _ _ _ _ _ _ => rfl⟩
theorem meth161 (w : World) : Meth w (Str.ofString "repair_unused") 161 := ⟨by kernel_rfl, by kernel_rfl, by kernel_rfl, by kernel_rfl, fun _ _ _ _ _ _ _ _ _ => rfl⟩
/-- a method of the engine on one local -/
theorem l_meth {xe f : Addr} {bl : List UInt8} {big : Bool} {name : Str} (K : D.K) (I : LH D m C O h) (hx : C 8 = some (.ref xe)) (e : EO D xe bl big O) (hm : mp m x = some v) (hk : lk x = true) (hp : (p2.endLine == p4.line) = true)
    (M : Meth D.w name f)
    (hc : codeAny (model PR D.w) D.A (.call (.ref f) ⟨[.ref xe, v], []⟩) (fun r s' => match r with | .ok (.ret v) => Q v s' | .ok _ => False | .error e => E e s') (D.st h tk gn)) :
    wpAny (model PR D.w) D.A (eval (.Call (.Attribute (.Name (Str.ofString "engine") p1) name p2) [.Name x p3] [] p4) D.env) Q E (D.st h tk gn) := by
  have X := K.C.S.X.keeps K.C.le
  have F := I.fr
  refine MCall hp rfl (l_engine K I hx ?_)
  obtain ⟨dx, lk, a1, a2, a3, t1, t2, t3, tb, nn, olk, m1, m2, m3, he⟩ := e
  refine method_inst (s := D.st h tk gn) F X ⟨I.get m1, rfl, rfl, I.get m2⟩ M.hp M.hf M.hi (M.hg _ _ _ _ _ _ _ _ _) ?_
  refine callWith_K X M.hk ?_
  refine args_cons ?_
  refine l_name F hm hk ?_
  refine args_nil ?_
  exact ⟨X.keeps F.keep, wpAny_call hc⟩
end

local macro_rules | `(tactic| walk_at "eval Name") => `(tactic| (k_here; refine l_name (by assumption) (by assumption) (by first | rfl | assumption) ?_))

/-- a handler's heap, seen as the law's own again -/
theorem LH.back {D : LD} {m : Loc} {C : Nat → Option Value} {O : Led} {h1 h B G0 g' : Heap} {KF : Frag} {p : Program} {loose : List Str} {mean : ExcName → Option Value} {mg mb : Str → Option Value} {A₀ : Around} {e : Addr} {X : String}
    (I : LH D m C O h1) (Z : Landed KF p loose mean mg mb A₀ D.base B G0 [] D.L (mp m) D.env e X D.g g' h) (hB : ∀ b o, b ∉ TT → h1.get? b = some o → b ∉ [D.env].filterMap (·.frame) → B.get? b = some o) (tb : Tabs B) : LH D m C O h := by
  refine I.off fun co hd N ho nc => ⟨co, hd, back_fr Z, back_news Z N rfl hB ho, ?_, nc⟩
  obtain ⟨a0, fl⟩ := Z.fly
  exact tb.keep fl.1

theorem LH.led {D : LD} {m : Loc} {C : Nat → Option Value} {O : Led} {h : Heap} {tl : Addr} {o : Obj} (I : LH D m C ((tl, o) :: O) h) (K : D.K) (hne : ∀ q ∈ O, q.1 ≠ tl) (nf : ∀ vs, o.data ≠ .fields vs) {P : Prop}
    (k : ∀ rest, News D.g D.L h ((tl, o) :: rest) → (∀ q ∈ rest, q.1 ≠ tl) → (∀ m' h' o', Fr D.g D.L h' (mp m') → News D.g D.L h' ((tl, o') :: rest) → (∀ v, o'.data ≠ .cell v) → LH D m' C ((tl, o') :: O) h') → P) : P := by
  obtain ⟨co, hd, F, N, T, nc⟩ := I
  obtain ⟨p1, p2, p3, y1, y2, y3, q1, q2, q3, NT, f1, f2, f3, TL⟩ := tabs_led T F K.gT
  have nt := nc _ (.head _)
  have et := (N _ (List.mem_append_right _ (.head _))).1
  have N2 : News D.g D.L h ((cl10 D.L co ++ O) ++ [(45, tabObj p1), (y1, q1), (88, tabObj p2), (y2, q2), (107, tabObj p3), (y3, q3)]) := news_join (fun q hq => N q ((List.mem_append.mp hq).elim (List.mem_append_left _) fun z => List.mem_append_right _ (.tail _ z))) NT
  refine k ((cl10 D.L co ++ O) ++ [(45, tabObj p1), (y1, q1), (88, tabObj p2), (y2, q2), (107, tabObj p3), (y3, q3)]) (fun q hq => ?_) (fun q hq e => ?_) fun m' h' o' F' N' no' => ?_
  · rcases mem_c hq with rfl | hq
    · exact N _ (List.mem_append_right _ (.head _))
    · exact N2 q hq
  · have eq := (N2 q hq).1
    rw [e, et] at eq
    have eq := Option.some.inj eq
    rcases List.mem_append.mp hq with hq | hq
    · rcases List.mem_append.mp hq with hq | hq
      · obtain ⟨v, hv⟩ := cl10_cell hd q hq
        exact nt.1 v (by rw [show o = q.2 from eq]; exact hv)
      · exact hne q hq e
    · have : ∀ q ∈ ([(45, tabObj p1), (y1, q1), (88, tabObj p2), (y2, q2), (107, tabObj p3), (y3, q3)] : Led), FieldsO q.2 :=
        forall_cons ⟨_, rfl⟩ (forall_cons f1 (forall_cons ⟨_, rfl⟩ (forall_cons f2 (forall_cons ⟨_, rfl⟩ (forall_cons f3 (List.forall_mem_nil _))))))
      obtain ⟨vs, hv⟩ := this q hq
      exact nf vs (by rw [show o = q.2 from eq]; exact hv)
  · refine ⟨co, hd, F', fun q hq => ?_, TL.keep _ F'.keep fun q hq => (N' q (.tail _ (List.mem_append_right _ hq))).1, forall_cons ⟨no', nt.2⟩ fun q hq => nc q (.tail _ hq)⟩
    rcases List.mem_append.mp hq with hq | hq
    · exact N' q (.tail _ (List.mem_append_left _ (List.mem_append_left _ hq)))
    · rcases mem_c hq with rfl | hq
      · exact N' _ (.head _)
      · exact N' q (.tail _ (List.mem_append_left _ (List.mem_append_right _ hq)))

section
variable {D : LD} {m : Loc} {C : Nat → Option Value} {O : Led} {h h' : Heap} {tk : Nat} {gn : Array GenState} {E : Value → Shared → Prop} {Q : Flow → Shared → Prop} {p1 p2 p3 p4 p5 p6 p7 p8 p9 p10 p11 p12 : Pos} {rest : List Stmt}
theorem s_told {tl : Addr} {vs : List Value} {n : Nat} {fn : Expr} {as : List Expr} {kws : List Keyword} {pc : Pos} (K : D.K) (hm : mp m (Str.ofString "told") = some (.ref tl)) (hne : ∀ q ∈ O, q.1 ≠ tl) (hv : vs.length ≤ 1000) (hr : RV D m C ((tl, W.listOf vs.toArray n) :: O) (.Call fn as kws pc)) (h23 : (p2.endLine == p3.line) = true) (h79 : (p7.endLine == p9.line) = true)
    (I : LH D m C ((tl, W.listOf vs.toArray n) :: O) h)
    (hE : ∀ ex, PassesOwnAt (model PR D.w) (D.A.mark (some (.ref ex))) D.A D.env E)
    (hQ : ∀ h' tk' gn' t n', (AllBare gn → AllBare gn') → LH D m C ((tl, W.listOf (vs ++ [Value.str (Str.ofString "ValueError") t]).toArray n') :: O) h' → Q .next (D.st h' tk' gn')) :
    wpAny (model PR D.w) D.A (exec (.Try [.Expr (.Call (.Attribute (.Name (Str.ofString "told") p1) (Str.ofString "append") p2) [.Call fn as kws pc] [] p3) p4] [.ExceptHandler (some (.Name (Str.ofString "ValueError") p5)) none [.Expr (.Call (.Attribute (.Name (Str.ofString "told") p6) (Str.ofString "append") p7) [.Constant (.str (Str.ofString "ValueError")) 0 p8] [] p9) p10] p11] [] [] p12) D.env) Q E (D.st h tk gn) := by
  have fill : (Mine.hd.heap_1 D.w.params).In D.g → PR = PR := by
    delta PR
    k_fill
    exact fun _ => rfl
  clear fill
  have X := K.C.S.X.keeps K.C.le
  have T := K.C.S.T.keeps K.C.le
  have F := I.fr
  refine I.led K hne (by nofun) fun rest N hne2 back => ?_
  refine wpAny_Try_except ?_
  walk1
  walk1
  refine MCall h23 rfl (l_name F hm rfl ?_)
  walk1
  walk1
  walk1
  refine hr h tk gn _ _ I fun h1 tk1 gn1 ex hz bare => ?_
  refine rz_kT hz fun B a0 hB2 hB3 hfl hup => ?_
  have FH := fr_hideT F K.hLT K.gT
  have hBG := hide_B hB2
  have hsm := hide_up hup
  refine land_W (s' := D.st h1 tk1 gn1) hfl hBG FH K.C.B hsm (K.C.S.X.keeps K.hGb) (K.C.S.T.keeps K.hGb) fun h3 g3 Z3 => ?_
  refine take_W (s' := D.st h1 tk1 gn1) (T' := "ValueError") Z3 hBG FH K.C.B (hsm.trans Z3.up) (K.C.S.X.keeps K.hGb) (K.C.S.T.keeps K.hGb) ve1 excClass_ValueError.boot ve2 ve3 ve4 ve5 ?_ (law_sk D.w) (by kernel_rfl) (by decide) (hE ex)
  intro h4 g4 Z4
  have I4 := I.back Z4 hB2 hB3
  clear I F N hne2 back hfl hup hB2 hB3 hBG hsm FH Z3 Z4
  have F4 := I4.fr
  refine I4.led K hne (by nofun) fun rest N hne2 back => ?_
  walk1
  walk1
  refine MCall h79 rfl (l_name F4 hm rfl ?_)
  tb_rel
  rename Fr _ _ _ _ => F5
  rename News _ _ _ _ => N5
  exact hQ _ _ _ _ _ bare (back m _ _ F5 (by simpa only [List.push_toArray] using N5) (by nofun))
theorem x_told {tl : Addr} {vs : List Value} {n : Nat} {fn : Expr} {as : List Expr} {kws : List Keyword} {pc : Pos} (K : D.K) (hm : mp m (Str.ofString "told") = some (.ref tl)) (hne : ∀ q ∈ O, q.1 ≠ tl) (hv : vs.length ≤ 1000) (hr : RV D m C ((tl, W.listOf vs.toArray n) :: O) (.Call fn as kws pc)) (h23 : (p2.endLine == p3.line) = true) (h79 : (p7.endLine == p9.line) = true)
    (I : LH D m C ((tl, W.listOf vs.toArray n) :: O) h)
    (hE : ∀ ex, PassesOwnAt (model PR D.w) (D.A.mark (some (.ref ex))) D.A D.env E)
    (hQ : ∀ h' tk' gn' t n', (AllBare gn → AllBare gn') → LH D m C ((tl, W.listOf (vs ++ [Value.str (Str.ofString "ValueError") t]).toArray n') :: O) h' → WX D rest Q E h' tk' gn') :
    WX D (.Try [.Expr (.Call (.Attribute (.Name (Str.ofString "told") p1) (Str.ofString "append") p2) [.Call fn as kws pc] [] p3) p4] [.ExceptHandler (some (.Name (Str.ofString "ValueError") p5)) none [.Expr (.Call (.Attribute (.Name (Str.ofString "told") p6) (Str.ofString "append") p7) [.Constant (.str (Str.ofString "ValueError")) 0 p8] [] p9) p10] p11] [] [] p12 :: rest) Q E h tk gn :=
  by with_reducible exact ⟨wpAny_execs_cons (s_told K hm hne hv hr h23 h79 I hE fun h' tk' gn' t n' b I' => (hQ h' tk' gn' t n' b I').go)⟩
end


section
variable {D : LD} {m : Loc} {C : Nat → Option Value} {O : Led} {h h' : Heap} {tk : Nat} {gn : Array GenState} {E : Value → Shared → Prop} {Q : Flow → Shared → Prop} {p1 p2 p3 p4 p5 p6 p7 p8 p9 p10 p11 p12 : Pos} {x : Str}
theorem rv_chk {xe : Addr} {bl : List UInt8} {big txt : Bool} {six : List Int} {tv : Tok} (K : D.K) (hx : C 8 = some (.ref xe)) (e : EO D xe bl big O) (hm : mp m x = some (mapV txt (six.map (sg bl)) tv)) (hk : lk x = true) (hp : (p2.endLine == p4.line) = true) (hs : ∀ k ∈ six, 0 ≤ k ∧ k < 64) (hl : six.length ≤ 100) (h4 : six.length % 4 = 1) :
    RV D m C O (.Call (.Attribute (.Name (Str.ofString "engine") p1) (Str.ofString "check_repair_unused") p2) [.Name x p3] [] p4) := fun h tk gn E Q I hE =>
  l_meth K I hx e hm hk hp (meth154 _) (chk154 (I.push K) (by decide) (by decide) (I.eng e) hs hl (fun hno => absurd h4 hno) fun _ h' tk' ex hz => hE _ _ _ _ (rz_TT0 hz I.tabs (I.push K).B.frames) id)
theorem rv_rep {xe : Addr} {bl : List UInt8} {big txt : Bool} {six : List Int} {tv : Tok} (K : D.K) (hx : C 8 = some (.ref xe)) (e : EO D xe bl big O) (hm : mp m x = some (mapV txt (six.map (sg bl)) tv)) (hk : lk x = true) (hp : (p2.endLine == p4.line) = true) (hs : ∀ k ∈ six, 0 ≤ k ∧ k < 64) (hl : six.length ≤ 100) (h4 : six.length % 4 = 1) :
    RV D m C O (.Call (.Attribute (.Name (Str.ofString "engine") p1) (Str.ofString "repair_unused") p2) [.Name x p3] [] p4) := fun h tk gn E Q I hE =>
  l_meth K I hx e hm hk hp (meth161 _) (rep161 (I.push K) (by decide) (by decide) (I.eng e) hs hl (fun hno => absurd h4 hno) fun _ h' tk' ex hz => hE _ _ _ _ (rz_TT0 hz I.tabs (I.push K).B.frames) id)
theorem rv_dec {xe : Addr} {bl : List UInt8} {big : Bool} {b : Array UInt8} {tv : Tok} (K : D.K) (hx : C 8 = some (.ref xe)) (e : EO D xe bl big O) (hm : mp m x = some (.bytes b tv)) (hk : lk x = true) (hp : (p2.endLine == p4.line) = true) (hb : b.size ≤ 100) (hd : decOf bl big b = none) :
    RV D m C O (.Call (.Attribute (.Name (Str.ofString "engine") p1) (Str.ofString "decode_bytes") p2) [.Name x p3] [] p4) := fun h tk gn E Q I hE =>
  l_meth K I hx e hm hk hp (meth112 _) (decT (I.push K) (by decide) (by decide) (I.eng e) hb I.tabs K.hbT K.hGb (fun out ho => nomatch hd.symm.trans ho) fun _ h' tk' gn' ex hz bare => hE _ _ _ _ hz bare)
theorem ev_dec {xe : Addr} {bl : List UInt8} {big : Bool} {b : Array UInt8} {tv : Tok} {out : List Int} (K : D.K) (hx : C 8 = some (.ref xe)) (e : EO D xe bl big O) (hm : mp m x = some (.bytes b tv)) (hk : lk x = true) (hp : (p2.endLine == p4.line) = true) (hb : b.size ≤ 100) (hd : decOf bl big b = some out) :
    EV D m C O (.Call (.Attribute (.Name (Str.ofString "engine") p1) (Str.ofString "decode_bytes") p2) [.Name x p3] [] p4) fun v X => (∃ t, v = .bytes (byteArr out) t) ∧ X = [] := fun h tk gn E Q I hQ =>
  l_meth K I hx e hm hk hp (meth112 _) (decT (I.push K) (by decide) (by decide) (I.eng e) hb I.tabs K.hbT K.hGb (fun out' ho h' tk' gn' t kp tb bare => hQ _ [] _ _ _ ⟨⟨t, by rw [Option.some.inj (hd.symm.trans ho)]⟩, rfl⟩ (I.kpB K kp tb) (List.forall_mem_nil _) bare) fun hn => nomatch hd.symm.trans hn)
theorem ev_enc {xe : Addr} {bl : List UInt8} {big : Bool} {b : Array UInt8} {tv : Tok} (K : D.K) (hx : C 8 = some (.ref xe)) (e : EO D xe bl big O) (hm : mp m x = some (.bytes b tv)) (hk : lk x = true) (hp : (p2.endLine == p4.line) = true) (hb : b.size ≤ 100) :
    EV D m C O (.Call (.Attribute (.Name (Str.ofString "engine") p1) (Str.ofString "encode_bytes") p2) [.Name x p3] [] p4) fun v X => (∃ t, v = .bytes (byteArr (encOf bl big b)) t) ∧ X = [] := fun h tk gn E Q I hQ =>
  l_meth K I hx e hm hk hp (meth91 _) (encT (I.push K) (by decide) (by decide) (I.eng e) hb I.tabs K.hbT fun h' tk' gn' t kp tb bare => hQ _ [] _ _ _ ⟨⟨t, rfl⟩, rfl⟩ (I.kpB K kp tb) (List.forall_mem_nil _) bare)
theorem ev_rep {xe : Addr} {bl : List UInt8} {big txt : Bool} {six : List Int} {tv : Tok} (K : D.K) (hx : C 8 = some (.ref xe)) (e : EO D xe bl big O) (hm : mp m x = some (mapV txt (six.map (sg bl)) tv)) (hk : lk x = true) (hp : (p2.endLine == p4.line) = true) (hs : ∀ k ∈ six, 0 ≤ k ∧ k < 64) (hl : six.length ≤ 100) (h4 : six.length % 4 ≠ 1) :
    EV D m C O (.Call (.Attribute (.Name (Str.ofString "engine") p1) (Str.ofString "repair_unused") p2) [.Name x p3] [] p4) fun v X => (∃ t, v = mapV txt ((mend big six).map (sg bl)) t) ∧ X = [] := fun h tk gn E Q I hQ =>
  l_meth K I hx e hm hk hp (meth161 _) (rep161 (I.push K) (by decide) (by decide) (I.eng e) hs hl (fun _ h' tk' t kp => hQ _ [] _ _ _ ⟨⟨t, rfl⟩, rfl⟩ (I.kp kp) (List.forall_mem_nil _) id) fun hno => absurd hno h4)

theorem LH.ins {a : Addr} {o : Obj} (I : LH D m C O h) (ho : h.get? a = some o) (hL : a ≠ D.L) (hg : D.g.get? a = none) (hc : ∀ v, o.data ≠ .cell v) (hT : a ∉ TT) : LH D m C (O ++ [(a, o)]) h := by
  obtain ⟨co, hd, F, N, T, nc⟩ := I
  refine ⟨co, hd, F, fun q hq => ?_, T, fun q hq => ?_⟩
  · rw [← List.append_assoc] at hq
    rcases List.mem_append.mp hq with hq | hq
    · exact N q hq
    · rw [List.mem_singleton.mp hq]; exact ⟨ho, hL, hg⟩
  · rcases List.mem_append.mp hq with hq | hq
    · exact nc q hq
    · rw [List.mem_singleton.mp hq]; exact ⟨hc, hT⟩
theorem LH.nL (I : LH D m C O h) {q : Addr × Obj} (hq : q ∈ O) : q.1 ≠ D.L ∧ D.g.get? q.1 = none := by obtain ⟨co, hd, F, N, T, nc⟩ := I; exact (N q (List.mem_append_right _ hq)).2
theorem LH.cn (I : LH D m C O h) : ∀ i ∈ cells, ∃ o, h.get? (D.L + i) = some o := fun i hi => by
  obtain ⟨co, hd, F, N, T, nc⟩ := I
  exact ⟨_, (N (D.L + i, co i) (List.mem_append_left _ (List.mem_map_of_mem (f := fun i => (D.L + i, co i)) hi))).1⟩

inductive ForI (D : LD) (C : Nat → Option Value) (O : Led) (gn : Array GenState) (J : Nat → Loc → Led → Prop) (vs : List Value) (Ia Ta : Addr) (tt : Obj) (k : Nat) (s : Shared) : Prop
  | mk (i : Nat) (h : Heap) (tk : Nat) (gn' : Array GenState) (m' : Loc) (O' : Led) (ek : k = vs.length - i) (hi : i ≤ vs.length) (es : s = D.st h tk gn') (hb : AllBare gn → AllBare gn') (hj : J i m' O') (hm : O'.map (·.1) = O.map (·.1)) (I : LH D m' C (O' ++ [(Ta, tt)]) h) (it : h.IsTupleIter Ia Ta i) : ForI D C O gn J vs Ia Ta tt k s
theorem s_for {x : Str} {vs : List Value} {iter : Expr} {bd : List Stmt} (K : D.K) (J : Nat → Loc → Led → Prop) (hx : lk x = true) (I : LH D m C O h) (j0 : J 0 m O)
    (hit : EV D m C O iter fun v X => ∃ Ta n, v = .ref Ta ∧ X = [(Ta, tupO vs n)])
    (turn : ∀ i v m' O' X h tk gn0, vs[i]? = some v → J i m' O' → (∀ q ∈ X, ∀ p ∈ O', p.1 ≠ q.1) → LH D (put x v m') C (O' ++ X) h → ∀ (Q' : Flow → Shared → Prop),
      (∀ m'' O'' h' tk' gn', J (i + 1) m'' O'' → O''.map (·.1) = O'.map (·.1) → LH D m'' C (O'' ++ X) h' → (AllBare gn0 → AllBare gn') → Q' .next (D.st h' tk' gn')) → wpAny (model PR D.w) D.A (execs bd D.env) Q' (fun _ _ => False) (D.st h tk gn0))
    (done : ∀ m' O' h' tk' gn', J vs.length m' O' → LH D m' C O' h' → (AllBare gn → AllBare gn') → Q .next (D.st h' tk' gn'))
    (hs : ∀ x, foldedSetIterable iter D.env x = pure x := by intro _; rfl) :
    wpAny (model PR D.w) D.A (exec (.For (.Name x p1) iter bd [] p5) D.env) Q E (D.st h tk gn) := by
  refine wpAny_For (hit h tk gn E _ I fun pv X h1 tk1 gn1 hpv I1 hX hb1 => ?_) hs
  obtain ⟨Ta, n, rfl, rfl⟩ := hpv
  have hh : D.A.handled = none := K.C.hh
  have hTa := I1.get (.head _)
  have htup : h1.IsTuple Ta vs.toArray := ⟨_, hTa, rfl, n, rfl⟩
  refine wpAny_pyIter_tuple (s := D.st h1 tk1 gn1) htup ?_
  have hlt : Ta < h1.objs.size := Heap.lt_size hTa
  have hne : Ta ≠ h1.objs.size := Nat.ne_of_lt hlt
  have W := Walks.tuple (prog := PR) (w := D.w) (A := D.A) hh h1.objs.size Ta hne vs.toArray
  have hIL : h1.objs.size ≠ D.L := Nat.ne_of_gt I1.fr.ns.lt
  have hIg : D.g.get? h1.objs.size = none := next_is_new I1.fr
  have hfresh : h1.get? h1.objs.size = none := by
    cases q : h1.get? h1.objs.size with
    | none => rfl
    | some o => exact absurd (Heap.lt_size q) (Nat.lt_irrefl _)
  have hIT : h1.objs.size ∉ TT := fun hm => by obtain ⟨ps, e⟩ := tab_fields I1.tabs hm; rw [hfresh] at e; cases e
  have hIc : ∀ i ∈ cells, D.L + i ≠ h1.objs.size := fun i hi e => by obtain ⟨o, ho⟩ := I1.cn i hi; rw [e, hfresh] at ho; cases ho
  have hOne : ∀ p ∈ O.map (·.1), p ≠ h1.objs.size ∧ p ≠ Ta := fun p hp => by
    obtain ⟨q, hq, rfl⟩ := List.mem_map.mp hp
    exact ⟨Nat.ne_of_lt (Heap.lt_size (I1.get (.tail _ hq))), hX _ (.head _) q hq⟩
  have perm : ∀ q ∈ O ++ [(Ta, tupO vs n)], q ∈ [(Ta, tupO vs n)] ++ O := fun q hq => (List.mem_append.mp hq).elim (.tail _) fun z => by rw [List.mem_singleton.mp z]; exact .head _
  have off : ∀ O' : Led, O'.map (·.1) = O.map (·.1) → ∀ q ∈ O', q.1 ≠ h1.objs.size ∧ q.1 ≠ Ta := fun O' e q hq => hOne _ (e ▸ List.mem_map_of_mem hq)
  refine codeAny_forLoop_any (ForI D C O gn J vs h1.objs.size Ta (tupO vs n)) (fun k s₁ hI' => ?_) vs.length ⟨0, _, _, gn1, m, O, rfl, Nat.zero_le _, rfl, hb1, j0, rfl, (I1.sub perm).kp fun b o e => Heap.get?_push_of_some _ e, ⟨_, Heap.get?_push_size _ rfl, rfl, rfl⟩⟩
  obtain ⟨i, h2, tk2, gn2, m', O', rfl, hi, rfl, hb2, hj, hm, I2, it⟩ := hI'
  have htup2 : h2.IsTuple Ta vs.toArray := ⟨_, I2.get (List.mem_append_right _ (.head _)), rfl, n, rfl⟩
  have ns : NoStr h2 h1.objs.size := fun oc ws q t e1 e2 e3 => by
    obtain ⟨o, ho, _, hd⟩ := it
    rw [ho] at e1; cases e1
    rw [hd] at e2; cases e2
    cases e3
  have stay : ∀ h', (∀ b o, b ∉ [h1.objs.size] → h2.get? b = some o → h'.get? b = some o) → LH D m' C (O' ++ [(Ta, tupO vs n)]) h' := fun h' hk =>
    I2.but K (fun b o hb e => hk b o (fun z => hb (List.mem_singleton.mp z)) e) hIT hIL hIg (fun q hq => (List.mem_append.mp hq).elim (fun z => (off O' hm q z).1) fun z => by rw [List.mem_singleton.mp z]; exact hne) hIc ns
  by_cases hlt : i < vs.length
  · refine W.item i (D.st h2 tk2 gn2) _ _ (by simpa using hlt) ⟨it, htup2⟩ fun v h' tk' hv st' hk => ?_
    have I3 := stay h' hk
    obtain ⟨oI, hoI, hcI, hdI⟩ := st'.1
    have I4 := I3.ins hoI hIL hIg (fun v e => by rw [hdI] at e; cases e) hIT
    rw [List.append_assoc] at I4
    dsimp only
    refine wpAny_pure (assign_Name (I4.loc (lk_nm hx) (law_sk D.w) K fun h5 I5 => ?_))
    refine wpAny_mono (turn i v m' O' ([(Ta, tupO vs n)] ++ [(h1.objs.size, oI)]) h5 _ gn2 (by simpa using hv) hj (forall_cons (fun p hp => (off O' hm p hp).2) (forall_cons (fun p hp => (off O' hm p hp).1) (List.forall_mem_nil _))) I5 (fun f s₃ => f = .next ∧ ForI D C O gn J vs h1.objs.size Ta (tupO vs n) (vs.length - (i + 1)) s₃) fun m'' O'' h6 tk6 gn6 hj6 hm6 I6 hb6 => ⟨rfl, i + 1, h6, tk6, gn6, m'', O'', rfl, hlt, rfl, fun z => hb6 (hb2 z), hj6, hm6.trans hm, I6.sub fun q hq => (List.mem_append.mp hq).elim (List.mem_append_left _) fun z => List.mem_append_right _ (by rw [List.mem_singleton.mp z]; exact .head _), ⟨oI, I6.get (List.mem_append_right _ (.tail _ (.head _))), hcI, hdI⟩⟩) (fun f s₃ h₃ => ?_) fun _ _ f => f.elim
    obtain ⟨rfl, hI⟩ := h₃
    exact ⟨_, by omega, hI⟩
  · obtain rfl : i = vs.length := by omega
    refine W.done (D.st h2 tk2 gn2) _ _ (by simpa using ⟨it, htup2⟩) fun h' tk' hk => ?_
    dsimp only
    exact wpAny_execs_nil (done _ _ _ _ _ hj ((stay h' hk).sub fun q hq => List.mem_append_left _ hq) hb2)
theorem x_for {rest : List Stmt} {x : Str} {vs : List Value} {iter : Expr} {bd : List Stmt} (K : D.K) (J : Nat → Loc → Led → Prop) (hx : lk x = true) (I : LH D m C O h) (j0 : J 0 m O)
    (hit : EV D m C O iter fun v X => ∃ Ta n, v = .ref Ta ∧ X = [(Ta, tupO vs n)])
    (turn : ∀ i v m' O' X h tk gn0, vs[i]? = some v → J i m' O' → (∀ q ∈ X, ∀ p ∈ O', p.1 ≠ q.1) → LH D (put x v m') C (O' ++ X) h → ∀ (Q' : Flow → Shared → Prop),
      (∀ m'' O'' h' tk' gn', J (i + 1) m'' O'' → O''.map (·.1) = O'.map (·.1) → LH D m'' C (O'' ++ X) h' → (AllBare gn0 → AllBare gn') → Q' .next (D.st h' tk' gn')) → WX D bd Q' (fun _ _ => False) h tk gn0)
    (done : ∀ m' O' h' tk' gn', J vs.length m' O' → LH D m' C O' h' → (AllBare gn → AllBare gn') → WX D rest Q E h' tk' gn')
    (hs : ∀ x, foldedSetIterable iter D.env x = pure x := by intro _; rfl) : WX D (.For (.Name x p1) iter bd [] p5 :: rest) Q E h tk gn :=
  ⟨wpAny_execs_cons (s_for K J hx I j0 hit (fun i v m' O' X h tk gn0 a b c d Q' e => (turn i v m' O' X h tk gn0 a b c d Q' e).go) (fun m' O' h' tk' gn' a b c => (done m' O' h' tk' gn' a b c).go) hs)⟩
end


section
variable {D : LD} {m : Loc} {C : Nat → Option Value} {O : Led} {h h' : Heap} {tk : Nat} {gn : Array GenState} {E : Value → Shared → Prop} {Q : Flow → Shared → Prop} {p1 p2 p3 p4 p5 p6 p7 p8 p9 p10 p11 p12 : Pos} {x y : Str}
theorem put_ne {v : Value} {w : Option Value} (hy : y ≠ x) (hm : mp m y = w) : mp (put x v m) y = w := by rw [mp_put, if_neg hy]; exact hm
theorem put_eq {v : Value} : mp (put x v m) x = some v := by rw [mp_put, if_pos rfl]
theorem ev_name {v : Value} (hm : mp m x = some v) (hx : lk x = true) : EV D m C O (.Name x p1) fun v' X => v' = v ∧ X = [] := fun h tk gn E Q I hQ =>
  l_name I.fr hm hx (hQ _ [] _ _ _ ⟨rfl, rfl⟩ I (List.forall_mem_nil _) id)
theorem LH.madeO {P : Prop} (I : LH D m C O h) (K : D.K) (k : ∀ nw, News D.g D.L h nw → (∀ q ∈ O, q ∈ nw) → (∃ co, (∀ i, (co i : Obj).data = .cell (C i)) ∧ ∀ q ∈ cl10 D.L co, q ∈ nw) → (∀ h' l o, Fr D.g D.L h' (mp m) → News D.g D.L h' ((l, o) :: nw) → (∀ p ∈ nw, p.1 < l) → (∀ v, o.data ≠ .cell v) → LH D m C ((l, o) :: O) h' ∧ ∀ q ∈ [(l, o)], ∀ p ∈ O, p.1 ≠ q.1) → P) : P := by
  obtain ⟨co, hd, F, N, T, nc⟩ := I
  obtain ⟨p1, p2, p3, y1, y2, y3, q1, q2, q3, NT, _, _, _, TL⟩ := tabs_led T F K.gT
  refine k ((cl10 D.L co ++ O) ++ [(45, tabObj p1), (y1, q1), (88, tabObj p2), (y2, q2), (107, tabObj p3), (y3, q3)]) (news_join N NT) (fun q hq => List.mem_append_left _ (List.mem_append_right _ hq)) ⟨co, hd, fun q hq => List.mem_append_left _ (List.mem_append_left _ hq)⟩ fun h' l o F' N' hl hc => ?_
  have hT : l ∉ TT := fun hm => by
    have h1 := hl _ (List.mem_append_right _ (.head _))
    have h2 := hl _ (List.mem_append_right _ (.tail _ (.tail _ (.head _))))
    have h3 := hl _ (List.mem_append_right _ (.tail _ (.tail _ (.tail _ (.tail _ (.head _))))))
    rcases mem3 hm with rfl | rfl | rfl
    · exact Nat.lt_irrefl _ h1
    · exact Nat.lt_irrefl _ h2
    · exact Nat.lt_irrefl _ h3
  refine ⟨⟨co, hd, F', fun q hq => ?_, TL.keep _ F'.keep fun q hq => (N' q (.tail _ (List.mem_append_right _ hq))).1, forall_cons ⟨hc, hT⟩ nc⟩, forall_cons (fun p hp => Nat.ne_of_lt (hl p (List.mem_append_left _ (List.mem_append_right _ hp)))) (List.forall_mem_nil _)⟩
  rcases List.mem_append.mp hq with hq | hq
  · exact N' q (.tail _ (List.mem_append_left _ (List.mem_append_left _ hq)))
  · rcases mem_c hq with rfl | hq
    · exact N' _ (.head _)
    · exact N' q (.tail _ (List.mem_append_left _ (List.mem_append_right _ hq)))
theorem LH.made {P : Prop} (I : LH D m C O h) (K : D.K) (k : ∀ nw, News D.g D.L h nw → (∀ h' l o, Fr D.g D.L h' (mp m) → News D.g D.L h' ((l, o) :: nw) → (∀ p ∈ nw, p.1 < l) → (∀ v, o.data ≠ .cell v) → LH D m C ((l, o) :: O) h' ∧ ∀ q ∈ [(l, o)], ∀ p ∈ O, p.1 ≠ q.1) → P) : P :=
  I.madeO K fun nw N _ _ b => k nw N b
theorem s_assign {e : Expr} {post : Value → Led → Prop} (K : D.K) (hx : lk x = true) (I : LH D m C O h) (he : EV D m C O e post) (hQ : ∀ v X h' tk' gn', post v X → LH D (put x v m) C (X ++ O) h' → (∀ q ∈ X, ∀ p ∈ O, p.1 ≠ q.1) → (AllBare gn → AllBare gn') → Q .next (D.st h' tk' gn'))
    (hs : swapsWith e (some (.Name x p1)) p2.line D.env = pure false := by rfl) : wpAny (model PR D.w) D.A (exec (.Assign [.Name x p1] e p2) D.env) Q E (D.st h tk gn) :=
  wpAny_Assign_Name (he h tk gn E _ I fun v X h' tk' gn' hp I' hX hb => I'.loc (lk_nm hx) (law_sk D.w) K fun h5 I5 => hQ v X h5 _ gn' hp I5 hX hb) hs
theorem s_if {test : Expr} {b : Bool} {body orelse : List Stmt} (I : LH D m C O h) (ht : TV D m C O test b) (hQ : ∀ h' tk' gn', LH D m C O h' → (AllBare gn → AllBare gn') → wpAny (model PR D.w) D.A (execs (if b = true then body else orelse) D.env) Q E (D.st h' tk' gn')) :
    wpAny (model PR D.w) D.A (exec (.If test body orelse p1) D.env) Q E (D.st h tk gn) := by
  refine wpAny_If (ht h tk gn E _ I fun h' tk' gn' I' hb => ?_)
  have := hQ h' tk' gn' I' hb
  cases b
  · exact this
  · exact this
theorem ev_tuple2 {a b : Str} {v1 v2 : Value} (K : D.K) (ha : mp m a = some v1) (hb : mp m b = some v2) (hka : lk a = true) (hkb : lk b = true) : EV D m C O (.Tuple [.Name a p1, .Name b p2] 0 p3) fun v X => ∃ Ta n, v = .ref Ta ∧ X = [(Ta, tupO [v1, v2] n)] := by
  intro h tk gn E Q I hQ
  have fill : (Mine.hd.heap_1 D.w.params).In D.g → PR = PR := by
    delta PR
    k_fill
    exact fun _ => rfl
  clear fill
  have X := K.C.S.X.keeps K.C.le
  have T := K.C.S.T.keeps K.C.le
  have F := I.fr
  refine I.made K fun nw N back => ?_
  tb_rel
  rename Fr _ _ _ _ => F1
  rename News _ _ _ _ => N1
  obtain ⟨I1, f1⟩ := back _ _ _ F1 N1 (by assumption) (by nofun)
  exact hQ _ [_] _ _ _ ⟨_, _, rfl, rfl⟩ I1 f1 id
theorem ev_list0 (K : D.K) : EV D m C O (.List [] p3) fun v X => ∃ l n, v = .ref l ∧ X = [(l, W.listOf #[] n)] := by
  intro h tk gn E Q I hQ
  have fill : (Mine.hd.heap_1 D.w.params).In D.g → PR = PR := by
    delta PR
    k_fill
    exact fun _ => rfl
  clear fill
  have X := K.C.S.X.keeps K.C.le
  have T := K.C.S.T.keeps K.C.le
  have F := I.fr
  refine I.made K fun nw N back => ?_
  tb_rel
  rename Fr _ _ _ _ => F1
  rename News _ _ _ _ => N1
  obtain ⟨I1, f1⟩ := back _ _ _ F1 N1 (by assumption) (by nofun)
  exact hQ _ [_] _ _ _ ⟨_, _, rfl, rfl⟩ I1 f1 id
theorem x_assign {rest : List Stmt} {e : Expr} {post : Value → Led → Prop} (K : D.K) (hx : lk x = true) (I : LH D m C O h) (he : EV D m C O e post) (hQ : ∀ v X h' tk' gn', post v X → LH D (put x v m) C (X ++ O) h' → (∀ q ∈ X, ∀ p ∈ O, p.1 ≠ q.1) → (AllBare gn → AllBare gn') → WX D rest Q E h' tk' gn')
    (hs : swapsWith e (some (.Name x p1)) p2.line D.env = pure false := by rfl) : WX D (.Assign [.Name x p1] e p2 :: rest) Q E h tk gn :=
  ⟨wpAny_execs_cons (s_assign K hx I he (fun v X h' tk' gn' a b c d => (hQ v X h' tk' gn' a b c d).go) hs)⟩
theorem x_if {rest : List Stmt} {test : Expr} {b : Bool} {body orelse : List Stmt} (I : LH D m C O h) (ht : TV D m C O test b) (hQ : ∀ h' tk' gn', LH D m C O h' → (AllBare gn → AllBare gn') → WX D (if b = true then body else orelse) (fun f s' => match f with | .next => wpAny (model PR D.w) D.A (execs rest D.env) Q E s' | f => Q f s') E h' tk' gn') :
    WX D (.If test body orelse p1 :: rest) Q E h tk gn := ⟨wpAny_execs_cons (s_if I ht fun h' tk' gn' a b => (hQ h' tk' gn' a b).go)⟩
/-- a test that is false, with nothing to do then -/
theorem x_not {rest : List Stmt} {test : Expr} {body : List Stmt} (I : LH D m C O h) (ht : TV D m C O test false) (hQ : ∀ h' tk' gn', LH D m C O h' → (AllBare gn → AllBare gn') → WX D rest Q E h' tk' gn') :
    WX D (.If test body [] p1 :: rest) Q E h tk gn := x_if I ht fun h' tk' gn' a b => x_nil (hQ h' tk' gn' a b).go
end


section
variable {D : LD} {m : Loc} {C : Nat → Option Value} {O : Led} {h h' : Heap} {tk : Nat} {gn : Array GenState} {E : Value → Shared → Prop} {Q : Flow → Shared → Prop} {p1 p2 p3 p4 p5 p6 p7 p8 p9 p10 p11 p12 : Pos} {x y : Str}
noncomputable abbrev fiveS : List Str := [Str.ofString "ValueError", Str.ofString "ValueError", Str.ofString "ValueError", Str.ofString "ValueError", Str.ofString "ValueError"]
theorem tv_told5 {tl : Addr} {vs : List Value} {n : Nat} (K : D.K) (hm : mp m (Str.ofString "told") = some (.ref tl)) (hO : (tl, W.listOf vs.toArray n) ∈ O) (hv : StrsAre vs fiveS) :
    TV D m C O (.Compare (.Name (Str.ofString "told") p1) [.NotEq] [.BinOp (.List [.Constant (.str (Str.ofString "ValueError")) 0 p2] p3) .Mult (.Constant (.int 5) 0 p4) p5] p6) false := by
  intro h tk gn E Q I hQ
  have fill : (Mine.hd.heap_1 D.w.params).In D.g → PR = PR := by
    delta PR
    k_fill
    exact fun _ => rfl
  clear fill
  have X := K.C.S.X.keeps K.C.le
  have T := K.C.S.T.keeps K.C.le
  have F := I.fr
  refine I.cell (fun nw N hO2 _ _ back => ?_) K
  have hN := hO2 _ hO
  tb_rel
  rename Fr _ _ _ _ => F1
  rename News _ _ _ _ => N1
  dsimp only
  refine KMa.mul F1 N1 (list_at (N1 _ (.head _)).1) (by decide) (by decide) (by show 1 * 5 ≤ 256; decide) rfl fun D' h2 F2 N2 l2 => ?_
  refine ne_strs (ns := fiveS) (list_at (N2 _ (.tail _ (.tail _ hN))).1) (list_at (N2 _ (.head _)).1) hv (by repeat (first | exact .nil | refine .cons _ _ ?_)) K.u64 (by decide +kernel) ?_
  exact wpAny_truthy_bool (hQ _ _ _ (back _ _ F2 fun q hq => N2 q (.tail _ (.tail _ hq))) id)
end


theorem le_passes {w : World} {A : Around} {env : Env} {R : Result → Shared → Prop} (ex : Addr) : PassesOwnAt (model PR w) (A.mark (some (.ref ex))) A env (le w A env R) := by passes_own
theorem strs_snoc {x : Str} {t : Tok} : ∀ {vs : List Value} {a : List Str}, StrsAre vs a → StrsAre (vs ++ [.str x t]) (a ++ [x])
  | _, _, .nil => .cons _ _ .nil
  | _, _, .cons _ _ r => .cons _ _ (strs_snoc r)
theorem strs_len : ∀ {vs : List Value} {a : List Str}, StrsAre vs a → vs.length = a.length
  | _, _, .nil => rfl
  | _, _, .cons _ _ r => congrArg Nat.succ (strs_len r)
theorem EO.mono {D : LD} {xe : Addr} {bl : List UInt8} {big : Bool} {O O' : Led} (e : EO D xe bl big O) (s : ∀ q ∈ O, q ∈ O') : EO D xe bl big O' := by
  obtain ⟨dx, lk, a1, a2, a3, t1, t2, t3, tb, nn, olk, m1, m2, m3, he⟩ := e
  exact ⟨dx, lk, a1, a2, a3, t1, t2, t3, tb, nn, olk, s _ m1, s _ m2, s _ m3, he⟩
noncomputable abbrev VE : Str := Str.ofString "ValueError"
section
variable {D : LD} {m : Loc} {C : Nat → Option Value} {O : Led} {h h' : Heap} {tk : Nat} {gn : Array GenState} {E : Value → Shared → Prop} {Q : Flow → Shared → Prop} {p1 p2 p3 p4 p5 p6 p7 p8 p9 p10 p11 p12 : Pos} {x y : Str}
noncomputable def then17 (w : World) : List Stmt := match (lawBody w).drop 17 with | .If _ t _ _ :: _ => t | _ => []
theorem s_then {xe : Addr} {bl : List UInt8} {big : Bool} {six : List Int} {ts tv : Tok} (K : D.K) (I : LH D m C O h) (hx : C 8 = some (.ref xe)) (e : EO D xe bl big O) (hs : mp m (Str.ofString "source") = some (.bytes (byteArr (six.map (sg bl))) ts)) (hw : mp m (Str.ofString "words") = some (.str (txtOf (six.map (sg bl))) tv))
    (hsix : ∀ k ∈ six, 0 ≤ k ∧ k < 64) (hl : six.length ≤ 100) (h4 : six.length % 4 = 1) (hd : decOf bl big (byteArr (six.map (sg bl))) = none) (hsz : (byteArr (six.map (sg bl))).size ≤ 100) (hE : ∀ ex, PassesOwnAt (model PR D.w) (D.A.mark (some (.ref ex))) D.A D.env E)
    (hQ : ∀ m' h' tk' gn', (∀ y, y ∉ [Str.ofString "told", Str.ofString "one"] → mp m' y = mp m y) → LH D m' C O h' → (AllBare gn → AllBare gn') → Q .next (D.st h' tk' gn')) : WX D (then17 D.w) Q E h tk gn := by
  obtain ⟨l, hl17⟩ : ∃ l, l = then17 D.w := ⟨_, rfl⟩
  rw [← hl17]
  conv at hl17 => rhs; whnf
  subst hl17
  refine (x_assign K (by rfl) I (ev_list0 K) fun v X h1 tk1 gn1 hp I1 f1 b1 => ?_)
  obtain ⟨tl, n, rfl, rfl⟩ := hp
  refine (x_for K (fun i m' O' => ∃ vs n', StrsAre vs (List.replicate (2 * i) VE) ∧ O' = (tl, W.listOf vs.toArray n') :: O ∧ ∀ y, y ≠ Str.ofString "one" → mp m' y = mp (put (Str.ofString "told") (.ref tl) m) y) (by rfl) I1 ⟨[], n, .nil, rfl, fun _ _ => rfl⟩ (ev_tuple2 K (put_ne (by decide) hs) (put_ne (by decide) hw) (by rfl) (by rfl)) (fun i v m' O' X h2 tk2 gn2 hv hj hX I2 Q' hQ' => ?_) fun m' O' h2 tk2 gn2 hj I2 b2 => ?_)
  · obtain ⟨vs, n', hvs, rfl, hm'⟩ := hj
    obtain ⟨hi, txt, tt, rfl⟩ : i < 2 ∧ ∃ txt tt, v = mapV txt (six.map (sg bl)) tt := by
      match i, hv with
      | 0, hv => cases hv; exact ⟨by decide, false, _, rfl⟩
      | 1, hv => cases hv; exact ⟨by decide, true, _, rfl⟩
    have hne : ∀ q ∈ O ++ X, q.1 ≠ tl := fun q hq => (List.mem_append.mp hq).elim (fun z => f1 _ (.head _) q z) fun z z2 => hX q z _ (.head _) z2.symm
    have hvl : vs.length ≤ 10 := by rw [strs_len hvs, List.length_replicate]; omega
    have hm2 : ∀ y, y ≠ Str.ofString "one" → mp (put (Str.ofString "one") (mapV txt (six.map (sg bl)) tt) m') y = mp (put (Str.ofString "told") (.ref tl) m) y := fun y hy => put_ne hy (hm' y hy)
    have ht : mp (put (Str.ofString "one") (mapV txt (six.map (sg bl)) tt) m') (Str.ofString "told") = some (.ref tl) := (hm2 _ (by decide)).trans put_eq
    have eo : ∀ o, EO D xe bl big ((tl, o) :: (O ++ X)) := fun o => e.mono fun q hq => .tail _ (List.mem_append_left _ hq)
    refine (x_told K ht hne (Nat.le_trans hvl (by decide)) (rv_chk K hx (eo _) put_eq (by rfl) (by rfl) hsix hl h4) (by rfl) (by rfl) I2 (fun _ => .never) fun h3 tk3 gn3 t3 n3 b3 I3 => ?_)
    refine (x_told K ht hne (by simp only [List.length_append, List.length_singleton]; omega) (rv_rep K hx (eo _) put_eq (by rfl) (by rfl) hsix hl h4) (by rfl) (by rfl) I3 (fun _ => .never) fun h4 tk4 gn4 t4 n4 b4 I4 => ?_)
    refine x_nil (hQ' _ _ _ _ _ ⟨_, n4, ?_, rfl, hm2⟩ rfl I4 fun z => b4 (b3 z))
    rw [show 2 * (i + 1) = 2 * i + 2 from rfl, ← List.replicate_append_replicate, show List.replicate 2 VE = [VE] ++ [VE] from rfl, ← List.append_assoc]
    exact strs_snoc (strs_snoc hvs)
  · obtain ⟨vs, n', hvs, rfl, hm'⟩ := hj
    have hvl : vs.length = 4 := strs_len hvs
    have ht : mp m' (Str.ofString "told") = some (.ref tl) := (hm' _ (by decide)).trans put_eq
    refine (x_told K ht (f1 _ (.head _)) (by omega) (rv_dec K hx (e.mono fun q hq => .tail _ hq) ((hm' _ (by decide)).trans (put_ne (by decide) hs)) (by rfl) (by rfl) hsz hd) (by rfl) (by rfl) I2 hE fun h3 tk3 gn3 t3 n3 b3 I3 => ?_)
    refine x_not I3 (tv_told5 K ht (.head _) (strs_snoc hvs)) fun h4 tk4 gn4 I4 b4 => x_nil ?_
    refine hQ m' _ _ _ (fun y hy => (hm' y fun z => hy (z ▸ .tail _ (.head _))).trans (put_ne (fun z => hy (z ▸ .head _)) rfl)) (I4.sub fun q hq => .tail _ hq) fun z => b4 (b3 (b2 (b1 z)))
end


section
variable {D : LD} {m : Loc} {C : Nat → Option Value} {O : Led} {h h' : Heap} {tk : Nat} {gn : Array GenState} {E : Value → Shared → Prop} {Q : Flow → Shared → Prop} {p1 p2 p3 p4 p5 p6 p7 p8 p9 p10 p11 p12 : Pos} {x y : Str} {rest : List Stmt}
theorem EV.mono {e : Expr} {p q : Value → Led → Prop} (H : EV D m C O e p) (i : ∀ v X, p v X → q v X) : EV D m C O e q := fun h tk gn E Q I hQ => H h tk gn E Q I fun v X h' tk' gn' hp => hQ v X h' tk' gn' (i v X hp)
theorem l_cell {i : Nat} {v : Value} {Q : Value → Shared → Prop} {A : Around} (I : LH D m C O h) (hv : C i = some v) (hi : i ∈ cells) (hk : D.env.kindOf x = some .cell) (hc : D.env.cells.lookup x = some (D.L + i)) (hb : (x == ("__debug__" : Str)) = false) (hQ : Q v (D.st h tk gn)) : wpAny (model PR D.w) A (eval (.Name x p1) D.env) Q E (D.st h tk gn) := by
  obtain ⟨co, hd, F, N, T, nc⟩ := I
  exact nameX_C (s := D.st h tk gn) N hc (List.mem_append_left _ (List.mem_map_of_mem (f := fun i => (D.L + i, co i)) hi)) ((hd i).trans (congrArg Data.cell hv)) hQ (law_sk D.w) hk hb
/-- a name of a cell -/
structure CN (D : LD) (x : Str) (i : Nat) : Prop where
  hi : i ∈ cells
  hk : D.env.kindOf x = some .cell
  hc : D.env.cells.lookup x = some (D.L + i)
  hb : (x == ("__debug__" : Str)) = false
theorem cn_row : CN D (Str.ofString "row") 9 := ⟨by decide, by kernel_rfl, by kernel_rfl, by decide⟩
theorem cn_signs : CN D (Str.ofString "signs") 6 := ⟨by decide, by kernel_rfl, by kernel_rfl, by decide⟩
theorem cn_foreign : CN D (Str.ofString "foreign") 10 := ⟨by decide, by kernel_rfl, by kernel_rfl, by decide⟩
theorem cn_start : CN D (Str.ofString "start") 3 := ⟨by decide, by kernel_rfl, by kernel_rfl, by decide⟩
theorem cn_b : CN D (Str.ofString "b") 2 := ⟨by decide, by kernel_rfl, by kernel_rfl, by decide⟩
theorem cn_texts : CN D (Str.ofString "texts") 7 := ⟨by decide, by kernel_rfl, by kernel_rfl, by decide⟩
theorem cn_engine : CN D (Str.ofString "engine") 8 := ⟨by decide, by kernel_rfl, by kernel_rfl, by decide⟩
theorem ev_cell {i : Nat} {v : Value} (c : CN D x i) (hv : C i = some v) : EV D m C O (.Name x p1) fun v' X => v' = v ∧ X = [] := fun h tk gn E Q I hQ =>
  l_cell I hv c.hi c.hk c.hc c.hb (hQ _ [] _ _ _ ⟨rfl, rfl⟩ I (List.forall_mem_nil _) id)
noncomputable abbrev IsV (txt : Bool) (l : List Int) (v : Value) (X : Led) : Prop := (∃ t, v = mapV txt l t) ∧ X = []
theorem ev_loc {txt : Bool} {l : List Int} {t : Tok} (hm : mp m x = some (mapV txt l t)) (hx : lk x = true) : EV D m C O (.Name x p1) (IsV txt l) := (ev_name hm hx).mono fun _ _ p => ⟨⟨t, p.1⟩, p.2⟩
theorem ev_cellV {txt : Bool} {l : List Int} {t : Tok} {i : Nat} (c : CN D x i) (hv : C i = some (mapV txt l t)) : EV D m C O (.Name x p1) (IsV txt l) := (ev_cell c hv).mono fun _ _ p => ⟨⟨t, p.1⟩, p.2⟩
theorem tv_or {a : Expr} {l : List Expr} (ha : TV D m C O a false) (hl : TV D m C O (.BoolOp .Or l p1) false) : TV D m C O (.BoolOp .Or (a :: l) p1) false := fun h tk gn E Q I hQ =>
  isTrue_or (ha h tk gn E _ I fun h1 tk1 gn1 I1 b1 => hl h1 tk1 gn1 E _ I1 fun h2 tk2 gn2 I2 b2 => hQ _ _ _ I2 fun z => b2 (b1 z))
theorem tv_or0 : TV D m C O (.BoolOp .Or [] p1) false := fun h tk gn E Q I hQ => isTrue_or_nil (hQ _ _ _ I id)
theorem ne_V {txt : Bool} {l : List Int} {t u : Tok} {A : Around} {s : Shared} {Q : Value → Shared → Prop} (hQ : Q (.bool false) s) : wpAny (model PR D.w) A (compareOp .NotEq (mapV txt l t) (mapV txt l u)) Q E s := by
  cases txt
  · exact ne_bytes (by simpa using hQ)
  · exact ne_str (by simpa using hQ)
theorem tv_ne {txt : Bool} {l : List Int} {a b : Expr} (ha : EV D m C O a (IsV txt l)) (hb : EV D m C O b (IsV txt l)) (hm : behindInMarks .NotEq b = false := by rfl) : TV D m C O (.Compare a [.NotEq] [b] p1) false := fun h tk gn E Q I hQ =>
  wpAny_isTrue_Compare1 (ha h tk gn E _ I fun va Xa h1 tk1 gn1 pa I1 _ b1 => by
    obtain ⟨⟨ta, rfl⟩, rfl⟩ := pa
    refine hb h1 tk1 gn1 E _ I1 fun vb Xb h2 tk2 gn2 pb I2 _ b2 => ?_
    obtain ⟨⟨tb, rfl⟩, rfl⟩ := pb
    exact ne_V (wpAny_truthy_bool (hQ _ _ _ I2 fun z => b2 (b1 z)))) hm
theorem x_assignV {txt : Bool} {l : List Int} {e : Expr} (K : D.K) (hx : lk x = true) (I : LH D m C O h) (he : EV D m C O e (IsV txt l)) (hQ : ∀ t h' tk' gn', LH D (put x (mapV txt l t) m) C O h' → (AllBare gn → AllBare gn') → WX D rest Q E h' tk' gn')
    (hs : swapsWith e (some (.Name x p1)) p2.line D.env = pure false := by rfl) : WX D (.Assign [.Name x p1] e p2 :: rest) Q E h tk gn :=
  x_assign K hx I he (fun v X h' tk' gn' a b _ d => by obtain ⟨⟨t, rfl⟩, rfl⟩ := a; exact hQ t h' tk' gn' b d) hs
theorem LH.ceq {C' : Nat → Option Value} (I : LH D m C O h) (e : ∀ j, C j = C' j) : LH D m C' O h := (funext e : C = C') ▸ I
end


section
theorem lookup_mem {β : Type} : ∀ {l : List (Str × β)} {x : Str} {y : β}, l.lookup x = some y → (x, y) ∈ l
  | [], _, _, h => nomatch h
  | (a, b) :: r, x, y, h => by
    rw [List.lookup_cons] at h
    split at h
    · next e => cases h; rw [eq_of_beq e]; exact .head _
    · exact .tail _ (lookup_mem h)
theorem cn_of {D : LD} {x : Str} {i : Nat} (h : cno x = some i) : CN D x i := by
  have h := lookup_mem h
  simp only [List.mem_cons, List.not_mem_nil, or_false, Prod.mk.injEq] at h
  rcases h with ⟨rfl, rfl⟩ | ⟨rfl, rfl⟩ | ⟨rfl, rfl⟩ | ⟨rfl, rfl⟩ | ⟨rfl, rfl⟩ | ⟨rfl, rfl⟩ | ⟨rfl, rfl⟩ | ⟨rfl, rfl⟩ | ⟨rfl, rfl⟩ | ⟨rfl, rfl⟩ <;> exact ⟨by decide, by kernel_rfl, by kernel_rfl, by decide⟩
variable {D : LD} {m m0 : Loc} {C : Nat → Option Value} {O : Led} {h h' : Heap} {tk : Nat} {gn : Array GenState} {p1 p2 p3 p4 p5 p6 p7 : Pos} {x y : Str}
/-- a cell's value, by its name -/
inductive CV (C : Nat → Option Value) (x : Str) (v : Value) : Prop
  | mk (i : Nat) (hi : cno x = some i) (hv : C i = some v) : CV C x v
theorem l_any {v : Value} {Q : Value → Shared → Prop} {E : Value → Shared → Prop} (c : CV C x v) (I : LH D m C O h) (hQ : Q v (D.st h tk gn)) : wpAny (model PR D.w) D.A (eval (.Name x p1) D.env) Q E (D.st h tk gn) := by
  obtain ⟨i, hi, hv⟩ := c
  exact l_cell I hv (cn_of (D := D) hi).hi (cn_of (D := D) hi).hk (cn_of (D := D) hi).hc (cn_of (D := D) hi).hb hQ
end

local macro_rules | `(tactic| walk_at "eval Name") => `(tactic| (k_here; first | refine l_name (by assumption) (by assumption) (by first | rfl | assumption) ?_ | refine l_any (by assumption) (by assumption) ?_))


section
variable {D : LD} {m : Loc} {C : Nat → Option Value} {O : Led} {h h' : Heap} {tk : Nat} {gn : Array GenState} {E : Value → Shared → Prop} {Q : Flow → Shared → Prop} {p1 p2 p3 p4 p5 p6 p7 p8 p9 p10 p11 p12 : Pos} {x y : Str} {rest : List Stmt}
theorem tv_bool {b : Bool} (K : D.K) (hm : mp m x = some (.bool b)) (hx : lk x = true) : TV D m C O (.UnaryOp .Not (.Call (.Name (Str.ofString "isinstance") p1) [.Name x p2, .Name (Str.ofString "bool") p3] [] p4) p5) false := by
  intro h tk gn E Q I hQ
  have fill : (Mine.hd.heap_1 D.w.params).In D.g → PR = PR := by
    delta PR
    k_fill
    exact fun _ => rfl
  clear fill
  have X := K.C.S.X.keeps K.C.le
  have T := K.C.S.T.keeps K.C.le
  have F := I.fr
  tb_rel
  exact hQ _ _ _ I id
theorem x_unpack {fn : Expr} {as : List Expr} {kws : List Keyword} {pc : Pos} {v1 : Value} {x : Str} {post : Value → Prop} (K : D.K) (hx : lk x = true) (I : LH D m C O h) (he : EV D m C O (.Call fn as kws pc) fun v X => ∃ Ta n v2, v = .ref Ta ∧ X = [(Ta, tupO [v1, v2] n)] ∧ post v2)
    (hQ : ∀ v2 h' tk' gn', post v2 → LH D (put x v1 m) (fun j => if j = 9 then some v2 else C j) O h' → (AllBare gn → AllBare gn') → WX D rest Q E h' tk' gn') : WX D (.Assign [.Tuple [.Name x p1, .Name (Str.ofString "row") p2] 0 p3] (.Call fn as kws pc) p4 :: rest) Q E h tk gn := by
  constructor
  refine wpAny_execs_cons (Assign_Tuple (he h tk gn _ _ I fun v X h1 tk1 gn1 hp I1 f1 b1 => ?_))
  obtain ⟨Ta, n, v2, rfl, rfl, hp2⟩ := hp
  have hh : D.A.handled = none := K.C.hh
  refine I1.cell (fun nw N hO _ _ back => ?_) K
  refine unpackN_ (s := D.st h1 tk1 gn1) I1.fr N (t := Ta) (items := #[v1, v2]) ⟨_, I1.get (.head _), rfl, n, rfl⟩ hh rfl rfl fun h2 F2 N2 => ?_
  have I2 := back _ _ F2 N2
  refine assignInOrder_cons (assign_Name (I2.loc (lk_nm hx) (law_sk D.w) K fun h3 I3 => ?_))
  refine assignInOrder_cons (assign_Name (I3.set (cn_row (D := D)).hi (cn_row (D := D)).hk (cn_row (D := D)).hc (law_sk D.w) fun h4 I4 => ?_))
  exact assignInOrder_nil (hQ v2 h4 _ gn1 hp2 (I4.sub fun q hq => .tail _ hq) b1).go
/-- two bools -/
theorem tv_turn {bl : List UInt8} {md six : List Int} {u v : Tok} (hm : mp m (Str.ofString "turned") = some (.bool (!(decide (md = six))))) (hd : mp m (Str.ofString "due") = some (.bytes (byteArr (md.map (sg bl))) u)) (hs : mp m (Str.ofString "source") = some (.bytes (byteArr (six.map (sg bl))) v))
    (hl : bl.length = 64) (hnd : bl.Nodup) (hmb : ∀ k ∈ md, 0 ≤ k ∧ k < 64) (hsb : ∀ k ∈ six, 0 ≤ k ∧ k < 64) :
    TV D m C O (.Compare (.Name (Str.ofString "turned") p1) [.NotEq] [.Compare (.Name (Str.ofString "due") p2) [.NotEq] [.Name (Str.ofString "source") p3] p4] p5) false := by
  intro h tk gn E Q I hQ
  have F := I.fr
  refine wpAny_isTrue_Compare1 (l_name F hm rfl ?_)
  refine wpAny_Compare1 (l_name F hd rfl (l_name F hs rfl (ne_bytes ?_)))
  rw [sg_ne hl hnd hmb hsb]
  refine ne_bool (wpAny_truthy_bool ?_)
  rw [bne_self_eq_false]
  exact hQ _ _ _ I id
end


/-- a list of ints, the heap only grown -/
noncomputable def EL (D : LD) (m : Loc) (C : Nat → Option Value) (O : Led) (e : Expr) (ks : List Int) : Prop :=
  ∀ h tk gn (E : Value → Shared → Prop) (Q : Value → Shared → Prop), LH D m C O h → (∀ l vs n h' tk', IntsAre vs ks → Kp h h' → News D.g D.L h' [(l, W.listOf vs.toArray n)] → Q (.ref l) (D.st h' tk' gn)) → wpAny (model PR D.w) D.A (eval e D.env) Q E (D.st h tk gn)
section
variable {D : LD} {m : Loc} {C : Nat → Option Value} {O : Led} {h h' : Heap} {tk : Nat} {gn : Array GenState} {E : Value → Shared → Prop} {Q : Flow → Shared → Prop} {p1 p2 p3 p4 p5 p6 p7 p8 p9 p10 p11 p12 : Pos} {x y : Str} {rest : List Stmt}
theorem el_list {l : Addr} {vs : List Value} {n : Nat} {ks : List Int} (hm : mp m x = some (.ref l)) (hx : lk x = true) (hi : IntsAre vs ks) (hO : (l, W.listOf vs.toArray n) ∈ O) : EL D m C O (.Name x p1) ks := fun h tk gn E Q I hQ =>
  l_name I.fr hm hx (hQ l vs n h tk hi (fun _ _ e => e) (forall_cons ⟨I.get hO, I.nL hO⟩ (List.forall_mem_nil _)))
theorem ev_chk {xe : Addr} {bl : List UInt8} {big txt : Bool} {six : List Int} {tv : Tok} (K : D.K) (hx : C 8 = some (.ref xe)) (e : EO D xe bl big O) (hm : mp m x = some (mapV txt (six.map (sg bl)) tv)) (hk : lk x = true) (hp : (p2.endLine == p4.line) = true) (hs : ∀ k ∈ six, 0 ≤ k ∧ k < 64) (hl : six.length ≤ 100) (h4 : six.length % 4 ≠ 1) :
    EV D m C O (.Call (.Attribute (.Name (Str.ofString "engine") p1) (Str.ofString "check_repair_unused") p2) [.Name x p3] [] p4) fun v X => ∃ Ta n v2, v = .ref Ta ∧ X = [(Ta, tupO [.bool (!(decide (mend big six = six))), v2] n)] ∧ ∃ t, v2 = mapV txt ((mend big six).map (sg bl)) t := fun h tk gn E Q I hQ =>
  l_meth K I hx e hm hk hp (meth154 _) (chk154 (I.push K) (by decide) (by decide) (I.eng e) hs hl (fun _ h' tk' T n t' kp hn ho => hQ _ [_] _ _ _ ⟨T, n, _, rfl, rfl, t', rfl⟩ (I.add kp hn ho (by nofun)) (forall_cons (fun p hp e => by have := I.get hp; dsimp only at e; rw [e, hn] at this; cases this) (List.forall_mem_nil _)) id) fun hno => absurd hno h4)
theorem ev_octets {xl : Addr} {zs : List Value} {n : Nat} {six : List Int} {big : Bool} (K : D.K) (hm : mp m (Str.ofString "sixes") = some (.ref xl)) (hb : mp m (Str.ofString "big") = some (.bool big)) (hO : (xl, W.listOf zs.toArray n) ∈ O) (hz : IntsAre zs six) (hs : ∀ k ∈ six, 0 ≤ k ∧ k < 64) (hl : six.length ≤ 100) :
    EV D m C O (.Call (.Name (Str.ofString "_law_octets") p1) [.Name (Str.ofString "sixes") p2, .Name (Str.ofString "big") p3] [] p4) (IsV false (dec big six)) := by
  intro h tk gn E Q I hQ
  have fill : (Mine.hd.heap_1 D.w.params).In D.g → PR = PR := by
    delta PR
    k_fill
    exact fun _ => rfl
  clear fill
  have X := K.C.S.X.keeps K.C.le
  have T := K.C.S.T.keeps K.C.le
  have F := I.fr
  tb_rel
  refine wpAny_call ?_
  refine loctets (ks := six) (I.push K) (by decide) (by decide) (list_at (I.get hO)) hz (fun k hk => ⟨(hs k hk).1, by have := (hs k hk).2; omega⟩) (by omega) fun h1 tk1 t1 kp1 => ?_
  rw [octets_eq big six hs]
  exact hQ _ [] _ _ _ ⟨⟨t1, rfl⟩, rfl⟩ (I.kp kp1) (List.forall_mem_nil _) id
theorem el_sixes {pl : List Int} {tp : Tok} {big : Bool} (K : D.K) (hm : mp m x = some (.bytes (byteArr pl) tp)) (hx : lk x = true) (hb : mp m (Str.ofString "big") = some (.bool big)) (hs : ∀ k ∈ pl, 0 ≤ k ∧ k < 256) (hl : pl.length ≤ 100) :
    EL D m C O (.Call (.Name (Str.ofString "_law_sixes") p1) [.Name x p2, .Name (Str.ofString "big") p3] [] p4) (enc big pl) := by
  intro h tk gn E Q I hQ
  have fill : (Mine.hd.heap_1 D.w.params).In D.g → PR = PR := by
    delta PR
    k_fill
    exact fun _ => rfl
  clear fill
  have X := K.C.S.X.keeps K.C.le
  have T := K.C.S.T.keeps K.C.le
  have F := I.fr
  tb_rel
  refine wpAny_call ?_
  refine lsixes (I.push K) (by decide) (by decide) (by have := KBw.ints_length (byteArr pl); rw [KBx_ints hs] at this; omega) fun h' tk' l vs n hk hn ho hi => ?_
  rw [KBx_ints hs, sixes_eq big pl hs] at hi
  exact hQ l vs _ h' tk' hi hk (fun q hq => news_newB I.fr (news := []) (List.forall_mem_nil _) hn ho q hq)
end


section
variable {D : LD} {m : Loc} {C : Nat → Option Value} {O : Led} {h h' : Heap} {tk : Nat} {gn : Array GenState} {E : Value → Shared → Prop} {Q : Flow → Shared → Prop} {p1 p2 p3 p4 p5 p6 p7 p8 p9 p10 p11 p12 : Pos} {x y : Str} {rest : List Stmt}
noncomputable abbrev sixSc : Scope := { kind := ScopeKind.function, names := [(Str.ofString ".0", NameKind.local), (Str.ofString "six", NameKind.local), (Str.ofString "signs", NameKind.free)], isGenerator := false, isCoroutine := false, more := [] }
/-- the map's signs of a row of sixes -/
theorem ev_signs {sl : Addr} {us : List Value} {sgn : List Int} {bl : List UInt8} {md : List Int} {iter : Expr} (K : D.K) (hsg : C 6 = some (.ref sl)) (hO : (sl, W.listOf us.toArray us.length) ∈ O) (hsi : IntsAre us sgn) (hsl : sgn.length = 64) (hsbd : ∀ k ∈ sgn, 0 ≤ k ∧ k < 256) (hbl : bl = (byteArr sgn).toList)
    (hmdb : ∀ k ∈ md, 0 ≤ k ∧ k < 64) (hml : md.length ≤ 100) (hit : EL D m C O iter md) (hs : ∀ x, foldedSetIterable iter D.env x = pure x := by intro _; rfl) :
    EV D m C O (.Call (.Name (Str.ofString "bytes") p1) [.ListComp (.Subscript (.Name (Str.ofString "signs") p2) (.Name (Str.ofString "six") p3) p4) [⟨.Name (Str.ofString "six") p5, iter, [], 0⟩] sixSc p6] [] p7) (IsV false (md.map (sg bl))) := by
  intro h tk gn E Q I hQ
  have fill : (Mine.hd.heap_1 D.w.params).In D.g → PR = PR := by
    delta PR
    k_fill
    exact fun _ => rfl
  clear fill
  have X := K.C.S.X.keeps K.C.le
  have T := K.C.S.T.keeps K.C.le
  have F := I.fr
  refine I.cell (fun nw N hO2 _ ⟨co, hc, hcl⟩ back => ?_) K
  have hsO := hO2 _ hO
  have d6 := hc 6
  rw [hsg] at d6
  have c6 : (D.L + 1 + 1 + 1 + 1 + 1 + 1, co 6) ∈ nw := hcl (D.L + 6, co 6) (List.mem_map_of_mem (f := fun i => (D.L + i, co i)) (show 6 ∈ cells by decide))
  tb_rel
  refine comp_KX (cl := [(Str.ofString "signs", D.L + 1 + 1 + 1 + 1 + 1 + 1)]) (ks := md) (fun _ k y => ∃ t, y = Value.int (sg bl k) t) (fun q => ∃ vs n, q.2 = W.listOf vs.toArray n ∧ IntsAre vs md) K.C.hh F N (by omega) (fun Q' hQ' => ?_) (fun q _ i k t I oI C' oC D' m₂ h tk E' ys hk hC hx F N off ne => ?_) (fun q _ D' h tk ys h1 h2 F N off1 => ?_) (by kernel_rfl) (by decide) rfl (by decide) rfl hs
  · refine hit h _ gn E _ I fun l vs n h1 tk1 hi kp Nl => ?_
    have N2 := news_join Nl (news_kp N kp)
    exact hQ' _ h1 _ (l, W.listOf vs.toArray n) ⟨vs, n, rfl, hi⟩ (fr_kp F kp) N2 (iterN_list D.w (o := co 6) N2 (.head _) hi)
  · obtain ⟨hk0, hk1⟩ := hmdb k (List.mem_of_getElem? hk)
    have hgd := sg_getD hsbd hk0 (by omega)
    rw [← hbl] at hgd
    have hul := hsi.length
    tb_rel
    exact .mk ⟨_, _, rfl, F, N, _, by rw [hgd]⟩
  · obtain ⟨due, hdue⟩ : ∃ due : List Int, due = md.map (sg bl) := ⟨_, rfl⟩
    have hdub : ∀ k ∈ due, 0 ≤ k ∧ k < 256 := fun k hk => by
      rw [hdue] at hk
      obtain ⟨z, _, rfl⟩ := List.mem_map.mp hk
      exact sg_bd bl z
    have hdul : due.length = md.length := by rw [hdue, List.length_map]
    have hIc : IntsAre ys due := by
      refine ints_ptw (by rw [h1, hdul]) fun i k hk => ?_
      rw [hdue, List.getElem?_map] at hk
      obtain ⟨j, hj, rfl⟩ := Option.map_eq_some_iff.mp hk
      obtain ⟨y, ey, t, rfl⟩ := h2 i j hj
      exact ⟨t, ey⟩
    have hycl : ys.length = due.length := by rw [h1, hdul]
    clear h1 h2 off1
    tb_rel
    rename Fr _ _ _ _ => F3
    rename News _ _ _ _ => N3
    subst hdue
    exact hQ _ [] _ _ _ ⟨⟨_, rfl⟩, rfl⟩ (back _ _ F3 fun q hq => N3 q (.tail _ (.tail _ hq))) (List.forall_mem_nil _) id
end


section
variable {D : LD} {m : Loc} {C : Nat → Option Value} {O : Led} {h h' : Heap} {tk : Nat} {gn : Array GenState} {E : Value → Shared → Prop} {Q : Flow → Shared → Prop} {p1 p2 p3 p4 p5 p6 p7 p8 p9 p10 p11 p12 : Pos} {x y : Str} {rest : List Stmt}
noncomputable abbrev chrSc : Scope := { kind := ScopeKind.function, names := [(Str.ofString ".0", NameKind.local), (Str.ofString "sign", NameKind.local), (Str.ofString "chr", NameKind.globalImplicit)], isGenerator := false, isCoroutine := false, more := [] }
/-- the text of a row of octets -/
theorem ev_words {src : List Int} {ts : Tok} (K : D.K) (hm : mp m x = some (.bytes (byteArr src) ts)) (hx : lk x = true) (hsb : ∀ k ∈ src, 0 ≤ k ∧ k < 256) (hl : src.length ≤ 100) (h25 : (p2.endLine == p7.line) = true) :
    EV D m C O (.Call (.Attribute (.Constant (.str (Str.ofString "")) 0 p1) (Str.ofString "join") p2) [.ListComp (.Call (.Name (Str.ofString "chr") p3) [.Name (Str.ofString "sign") p4] [] p5) [⟨.Name (Str.ofString "sign") p6, .Name x p8, [], 0⟩] chrSc p9] [] p7) (IsV true src) := by
  intro h tk gn E Q I hQ
  have fill : (Mine.hd.heap_1 D.w.params).In D.g → PR = PR := by
    delta PR
    k_fill
    exact fun _ => rfl
  clear fill
  have X := K.C.S.X.keeps K.C.le
  have T := K.C.S.T.keeps K.C.le
  have F := I.fr
  refine I.cell (fun nw N hO2 _ hcc back => ?_) K
  refine MCallC h25 rfl ?_
  tb_rel
  refine comp_K (cl := []) (ks := src) (fun _ k y => ∃ t, y = Value.str ⟨#[k.toNat]⟩ t) K.C.hh F N (by omega) (fun Q' hQ' => ?_) (fun i k t I oI C' oC D' m₂ h tk E' ys hk hC hx F N off ne => ?_) (fun D3 h tk ys3 g1 g2 F N off2 => ?_) (by kernel_rfl) (by decide) rfl (by decide) rfl
  · refine l_name F hm hx (hQ' _ _ _ F N ?_)
    have it := fun t => iters_bytes D.w D.g (byteArr src) t
    rw [KBx_ints hsb] at it
    exact ((it _).f F.keep).n
  · obtain ⟨hk0, hk1⟩ := hsb k (List.mem_of_getElem? hk)
    tb_rel
    exact .mk ⟨_, _, rfl, F, N, _, rfl⟩
  · clear off2
    tb_rel
    refine join_listW (list_at (N _ (.head _)).1) (SignsAre.strs ⟨g1, g2⟩) (by decide) ?_ ?_
    · rw [ones_sum, List.length_map]; omega
    intro t' k
    rw [show Txt.join (Str.ofString "") (src.map fun k => (⟨#[k.toNat]⟩ : Str)) = txtOf src from by rw [txt_join, join_txt]]
    exact hQ _ [] _ _ _ ⟨⟨_, rfl⟩, rfl⟩ (back _ _ F fun q hq => N q (.tail _ hq)) (List.forall_mem_nil _) id
end


/-- the names that later statements read -/
noncomputable def lkeep : List Str := [Str.ofString "a", Str.ofString "c", Str.ofString "big", Str.ofString "given", Str.ofString "octets", Str.ofString "coded", Str.ofString "sixes", Str.ofString "source", Str.ofString "words"]
noncomputable def Keep (m m0 : Loc) : Prop := ∀ y, y ∈ lkeep → mp m y = mp m0 y
theorem Keep.put {m m0 : Loc} {x : Str} {v : Value} (V : Keep m m0) (hx : x ∉ lkeep) : Keep (put x v m) m0 := fun y hy => put_ne (fun e => hx (e ▸ hy)) (V y hy)
theorem Keep.refl {m : Loc} : Keep m m := fun _ _ => rfl
/-- what the map's list, the engine, the sixes are -/
structure LK (D : LD) (C : Nat → Option Value) (O : Led) (bl : List UInt8) (big : Bool) (sgn : List Int) (xe : Addr) : Prop where
  hx : C 8 = some (.ref xe)
  e : EO D xe bl big O
  hs : ∃ sl us, C 6 = some (.ref sl) ∧ (sl, W.listOf us.toArray us.length) ∈ O ∧ IntsAre us sgn
  hsl : sgn.length = 64
  hsbd : ∀ k ∈ sgn, 0 ≤ k ∧ k < 256
  hbl : bl = (byteArr sgn).toList
  hL : bl.length = 64
  hnd : bl.Nodup
theorem LK.upd {D : LD} {C : Nat → Option Value} {O : Led} {bl : List UInt8} {big : Bool} {sgn : List Int} {xe : Addr} (k : LK D C O bl big sgn xe) {i : Nat} {v : Option Value} (h6 : 6 ≠ i) (h8 : 8 ≠ i) : LK D (fun j => if j = i then v else C j) O bl big sgn xe :=
  ⟨(if_neg h8).trans k.hx, k.e, let ⟨sl, us, h, r⟩ := k.hs; ⟨sl, us, (if_neg h6).trans h, r⟩, k.hsl, k.hsbd, k.hbl, k.hL, k.hnd⟩
section
variable {D : LD} {m m0 : Loc} {C : Nat → Option Value} {O : Led} {h h' : Heap} {tk : Nat} {gn : Array GenState} {E : Value → Shared → Prop} {Q : Flow → Shared → Prop}
noncomputable def else17 (w : World) : List Stmt := match (lawBody w).drop 17 with | .If _ _ t _ :: _ => t | _ => []
theorem s_else {xe xl : Addr} {bl : List UInt8} {big : Bool} {sgn six : List Int} {zs : List Value} {zn : Nat} {ts tv : Tok} (K : D.K) (I : LH D m C O h) (k : LK D C O bl big sgn xe) (hs : mp m (Str.ofString "source") = some (.bytes (byteArr (six.map (sg bl))) ts)) (hw : mp m (Str.ofString "words") = some (.str (txtOf (six.map (sg bl))) tv))
    (hxl : mp m (Str.ofString "sixes") = some (.ref xl)) (hb : mp m (Str.ofString "big") = some (.bool big)) (hO : (xl, W.listOf zs.toArray zn) ∈ O) (hz : IntsAre zs six) (hsix : ∀ k ∈ six, 0 ≤ k ∧ k < 64) (hl : six.length ≤ 12) (h4 : six.length % 4 ≠ 1)
    (hd : decOf bl big (byteArr (six.map (sg bl))) = some (dec big six)) (hsz : (byteArr (six.map (sg bl))).size ≤ 100)
    (hQ : ∀ m' h' tk' gn' v, Keep m' m → LH D m' (fun j => if j = 9 then v else C j) O h' → (AllBare gn → AllBare gn') → Q .next (D.st h' tk' gn')) : WX D (else17 D.w) Q E h tk gn := by
  obtain ⟨l, hl17⟩ : ∃ l, l = else17 D.w := ⟨_, rfl⟩
  rw [← hl17]
  conv at hl17 => rhs; whnf
  subst hl17
  have hl100 : six.length ≤ 100 := by omega
  have hplb : ∀ k ∈ dec big six, 0 ≤ k ∧ k < 256 := dec_bd big six hsix
  have hpll : (dec big six).length ≤ 100 := by have := dec_len big six; omega
  have hmd : enc big (dec big six) = mend big six := enc_dec big six hsix h4
  have hmdb : ∀ k ∈ mend big six, 0 ≤ k ∧ k < 64 := by rw [← hmd]; exact enc_bd big _ hplb
  have hmdl : (mend big six).length ≤ 100 := by have := enc_len big (dec big six); rw [hmd] at this; have := dec_len big six; omega
  have hdub : ∀ k ∈ (mend big six).map (sg bl), 0 ≤ k ∧ k < 256 := fun k hk => by obtain ⟨z, _, rfl⟩ := List.mem_map.mp hk; exact sg_bd bl z
  obtain ⟨sl, us, h6, hOs, hus⟩ := k.hs
  refine x_assignV K (by rfl) I (ev_octets K hxl hb hO hz hsix hl100) fun t1 h1 tk1 gn1 I1 b1 => ?_
  have V1 : Keep (put (Str.ofString "plain") (mapV false (dec big six) t1) m) m := Keep.refl.put (by decide)
  refine x_assignV K (by rfl) I1 (ev_signs K h6 hOs hus k.hsl k.hsbd k.hbl hmdb hmdl (hmd ▸ el_sixes K put_eq (by rfl) ((V1 _ (by decide)).trans hb) hplb hpll)) fun t2 h2 tk2 gn2 I2 b2 => ?_
  have V2 := V1.put (x := Str.ofString "due") (v := mapV false ((mend big six).map (sg bl)) t2) (by decide)
  refine x_not I2 (tv_ne (txt := false) (l := dec big six) (ev_dec K k.hx k.e ((V2 _ (by decide)).trans hs) (by rfl) (by rfl) hsz hd) (ev_loc (t := t1) (put_ne (by decide) put_eq) (by rfl))) fun h3 tk3 gn3 I3 b3 => ?_
  refine x_unpack K (by rfl) I3 (ev_chk (txt := false) K k.hx k.e ((V2 _ (by decide)).trans hs) (by rfl) (by rfl) hsix hl100 h4) fun v2 h4' tk4 gn4 hp I4 b4 => ?_
  obtain ⟨t4, rfl⟩ := hp
  have V3 := V2.put (x := Str.ofString "turned") (v := .bool (!(decide (mend big six = six)))) (by decide)
  have hdue := fun v => put_ne (m := put (Str.ofString "due") (mapV false ((mend big six).map (sg bl)) t2) (put (Str.ofString "plain") (mapV false (dec big six) t1) m)) (x := Str.ofString "turned") (y := Str.ofString "due") (v := v) (by decide) put_eq
  refine x_not I4 (tv_or (tv_bool K put_eq (by rfl)) (tv_or (tv_turn put_eq (hdue _) ((V3 _ (by decide)).trans hs) k.hL k.hnd hmdb hsix) (tv_or (tv_ne (ev_cellV (t := t4) cn_row (if_pos rfl)) (ev_loc (hdue _) (by rfl))) tv_or0))) fun h5 tk5 gn5 I5 b5 => ?_
  refine x_assignV K (by rfl) I5 (ev_words K (hdue _) (by rfl) hdub (by rw [List.length_map]; exact hmdl) (by rfl)) fun t6 h6' tk6 gn6 I6 b6 => ?_
  have V4 := V3.put (x := Str.ofString "dues") (v := mapV true ((mend big six).map (sg bl)) t6) (by decide)
  have k4 := k.upd (i := 9) (v := some (mapV false ((mend big six).map (sg bl)) t4)) (by decide) (by decide)
  refine x_unpack K (by rfl) I6 (ev_chk (txt := true) K k4.hx k4.e ((V4 _ (by decide)).trans hw) (by rfl) (by rfl) hsix hl100 h4) fun v2 h7 tk7 gn7 hp I7 b7 => ?_
  obtain ⟨t7, rfl⟩ := hp
  have V5 := V4.put (x := Str.ofString "turned") (v := .bool (!(decide (mend big six = six)))) (by decide)
  have k5 := k4.upd (i := 9) (v := some (mapV true ((mend big six).map (sg bl)) t7)) (by decide) (by decide)
  have hdu5 := fun v => put_ne (x := Str.ofString "turned") (y := Str.ofString "due") (v := v) (by decide) (put_ne (x := Str.ofString "dues") (v := mapV true ((mend big six).map (sg bl)) t6) (by decide) (hdue (.bool (!(decide (mend big six = six))))))
  have hds5 := fun v => put_ne (m := put (Str.ofString "dues") (mapV true ((mend big six).map (sg bl)) t6) (put (Str.ofString "turned") (.bool (!(decide (mend big six = six)))) (put (Str.ofString "due") (mapV false ((mend big six).map (sg bl)) t2) (put (Str.ofString "plain") (mapV false (dec big six) t1) m)))) (x := Str.ofString "turned") (y := Str.ofString "dues") (v := v) (by decide) put_eq
  refine x_not I7 (tv_or (tv_bool K put_eq (by rfl)) (tv_or (tv_turn put_eq (hdu5 _) ((V5 _ (by decide)).trans hs) k.hL k.hnd hmdb hsix) (tv_or (tv_ne (ev_cellV (t := t7) cn_row (if_pos rfl)) (ev_loc (hds5 _) (by rfl))) tv_or0))) fun h8 tk8 gn8 I8 b8 => ?_
  refine x_not I8 (tv_or (tv_ne (ev_rep (txt := false) K k5.hx k5.e ((V5 _ (by decide)).trans hs) (by rfl) (by rfl) hsix hl100 h4) (ev_loc (hdu5 _) (by rfl))) (tv_or (tv_ne (ev_rep (txt := true) K k5.hx k5.e ((V5 _ (by decide)).trans hw) (by rfl) (by rfl) hsix hl100 h4) (ev_loc (hds5 _) (by rfl))) tv_or0)) fun h9 tk9 gn9 I9 b9 => x_nil ?_
  refine hQ _ _ _ _ (some (mapV true ((mend big six).map (sg bl)) t7)) V5 (I9.ceq fun j => ?_) fun z => b9 (b8 (b7 (b6 (b5 (b4 (b3 (b2 (b1 z))))))))
  by_cases e : j = 9
  · rw [if_pos e, if_pos e]
  · rw [if_neg e, if_neg e, if_neg e]
end


section
variable {D : LD} {m m0 : Loc} {C : Nat → Option Value} {O : Led} {h h' : Heap} {tk : Nat} {gn : Array GenState} {E : Value → Shared → Prop} {Q : Flow → Shared → Prop} {p1 p2 p3 p4 p5 p6 p7 p8 p9 p10 p11 p12 p13 p14 : Pos} {x y : Str} {rest : List Stmt}
noncomputable abbrev IsI (n : Int) (v : Value) (X : Led) : Prop := (∃ t, v = .int n t) ∧ X = []
theorem x_cell {i : Nat} {e : Expr} {post : Value → Led → Prop} (K : D.K) (c : CN D x i) (I : LH D m C O h) (he : EV D m C O e post) (hQ : ∀ v X h' tk' gn', post v X → LH D m (fun j => if j = i then some v else C j) (X ++ O) h' → (∀ q ∈ X, ∀ p ∈ O, p.1 ≠ q.1) → (AllBare gn → AllBare gn') → WX D rest Q E h' tk' gn')
    (hs : swapsWith e (some (.Name x p1)) p2.line D.env = pure false := by rfl) : WX D (.Assign [.Name x p1] e p2 :: rest) Q E h tk gn :=
  ⟨wpAny_execs_cons (wpAny_Assign_Name (he h tk gn E _ I fun v X h' tk' gn' hp I' hX hb => I'.set c.hi c.hk c.hc (law_sk D.w) fun h5 I5 => (hQ v X h5 _ gn' hp I5 hX hb).go) hs)⟩
theorem ev_foreign {st c : Int} {t1 tc : Tok} (K : D.K) (hst : C 3 = some (.int st t1)) (hc : mp m (Str.ofString "c") = some (.int c tc)) :
    EV D m C O (.BinOp (.BinOp (.BinOp (.Name (Str.ofString "start") p1) .Add (.Constant (.int 64) 0 p2) p3) .Add (.BinOp (.BinOp (.Name (Str.ofString "c") p4) .FloorDiv (.Constant (.int 128) 0 p5) p6) .Mod (.Constant (.int 192) 0 p7) p8) p9) .Mod (.Constant (.int 256) 0 p10) p11) (IsI ((st + 64 + (c.fdiv 128).fmod 192).fmod 256)) := by
  intro h tk gn E Q I hQ
  have fill : (Mine.hd.heap_1 D.w.params).In D.g → PR = PR := by
    delta PR
    k_fill
    exact fun _ => rfl
  clear fill
  have X := K.C.S.X.keeps K.C.le
  have T := K.C.S.T.keeps K.C.le
  have F := I.fr
  refine wpAny_BinOp (wpAny_BinOp (wpAny_BinOp (l_cell I hst (cn_start (D := D)).hi (cn_start (D := D)).hk (cn_start (D := D)).hc (cn_start (D := D)).hb ?_)))
  tb_rel
  exact hQ _ [] _ _ _ ⟨⟨_, rfl⟩, rfl⟩ I (List.forall_mem_nil _) id
theorem ev_place {a : Int} {ta ts : Tok} {src : List Int} (K : D.K) (ha : mp m (Str.ofString "a") = some (.int a ta)) (hs : mp m (Str.ofString "source") = some (.bytes (byteArr src) ts)) (hsz : (byteArr src).size = src.length) (hl : src.length ≤ 100) :
    EV D m C O (.BinOp (.BinOp (.Name (Str.ofString "a") p1) .FloorDiv (.Constant (.int 193) 0 p2) p3) .Mod (.BinOp (.Call (.Name (Str.ofString "len") p4) [.Name (Str.ofString "source") p5] [] p6) .Add (.Constant (.int 1) 0 p7) p8) p9) (IsI ((a.fdiv 193).fmod ((src.length : Int) + 1))) := by
  intro h tk gn E Q I hQ
  have fill : (Mine.hd.heap_1 D.w.params).In D.g → PR = PR := by
    delta PR
    k_fill
    exact fun _ => rfl
  clear fill
  have X := K.C.S.X.keeps K.C.le
  have T := K.C.S.T.keeps K.C.le
  have F := I.fr
  have hlI : (src.length : Int) + 1 ≠ 0 := by omega
  tb_rel
  rw [hsz]
  exact hQ _ [] _ _ _ ⟨⟨_, rfl⟩, rfl⟩ I (List.forall_mem_nil _) id
end
section
variable {D : LD} {m m0 : Loc} {C : Nat → Option Value} {O : Led} {h h' : Heap} {tk : Nat} {gn : Array GenState} {E : Value → Shared → Prop} {Q : Flow → Shared → Prop} {p1 p2 p3 p4 p5 p6 p7 p8 p9 p10 p11 p12 p13 p14 : Pos} {x y : Str} {rest : List Stmt}
/-- a new list of ints -/
noncomputable abbrev IsN (ks : List Int) (v : Value) (X : Led) : Prop := ∃ l vs n, v = .ref l ∧ X = [(l, W.listOf vs.toArray n)] ∧ IntsAre vs ks
theorem ev_front {sl : Addr} {us : List Value} {sgn src : List Int} {ts : Tok} (K : D.K) (hsg : C 6 = some (.ref sl)) (hO : (sl, W.listOf us.toArray us.length) ∈ O) (hsi : IntsAre us sgn) (hsl : sgn.length = 64) (hs : mp m (Str.ofString "source") = some (.bytes (byteArr src) ts)) (hsz : (byteArr src).size = src.length) (hl : src.length ≤ 100) :
    EV D m C O (.IfExp (.Compare (.BinOp (.Call (.Name (Str.ofString "len") p1) [.Name (Str.ofString "source") p2] [] p3) .Mod (.Constant (.int 4) 0 p4) p5) [.Eq] [.Constant (.int 0) 0 p6] p7) (.List [.Subscript (.Name (Str.ofString "signs") p8) (.Constant (.int 0) 0 p9) p10] p11) (.List [] p12) p13) (IsN (if src.length % 4 = 0 then [sgn.getD 0 0] else [])) := by
  intro h tk gn E Q I hQ
  have fill : (Mine.hd.heap_1 D.w.params).In D.g → PR = PR := by
    delta PR
    k_fill
    exact fun _ => rfl
  clear fill
  have X := K.C.S.X.keeps K.C.le
  have T := K.C.S.T.keeps K.C.le
  have F := I.fr
  have c6 : CV C (Str.ofString "signs") _ := ⟨6, by rfl, hsg⟩
  refine I.made K fun nw N back => ?_
  have hul : us.length = 64 := by rw [hsi.length, hsl]
  have hls := list_at (I.get hO)
  tb_rel
  · rename (Int.fmod _ 4 = 0) => hm4
    rename Fr _ _ _ _ => F1
    rename News _ _ _ _ => N1
    obtain ⟨I1, f1⟩ := back _ _ _ F1 N1 (by assumption) (by nofun)
    refine hQ _ [_] _ _ _ ⟨_, [_], _, rfl, rfl, ?_⟩ I1 f1 id
    rw [if_pos (by rw [hsz, Int.fmod_eq_emod_of_nonneg _ (by decide)] at hm4; omega)]
    exact .cons _ _ .nil
  · tb_rel
    rename (Int.fmod _ 4 ≠ 0) => hm4
    rename Fr _ _ _ _ => F1
    rename News _ _ _ _ => N1
    obtain ⟨I1, f1⟩ := back _ _ _ F1 N1 (by assumption) (by nofun)
    refine hQ _ [_] _ _ _ ⟨_, [], _, rfl, rfl, ?_⟩ I1 f1 id
    rw [if_neg (by rw [hsz, Int.fmod_eq_emod_of_nonneg _ (by decide)] at hm4; omega)]
    exact .nil
end


section
variable {D : LD} {m m0 : Loc} {C : Nat → Option Value} {O : Led} {h h' : Heap} {tk : Nat} {gn : Array GenState} {p1 p2 p3 p4 p5 p6 p7 : Pos} {x y : Str}
/-- a list of ints, among what was made -/
noncomputable abbrev IsM (ks : List Int) (v : Value) (X : Led) : Prop := ∃ l vs n Y, v = .ref l ∧ X = (l, W.listOf vs.toArray n) :: Y ∧ IntsAre vs ks
theorem ev_add {a b : Expr} {ks ms : List Int} (K : D.K) (ha : EV D m C O a (IsM ks)) (hb : ∀ X, EV D m C (X ++ O) b (IsM ms)) (hz : ks.length + ms.length ≤ 1000) : EV D m C O (.BinOp a .Add b p1) (IsM (ks ++ ms)) := by
  intro h tk gn E Q I hQ
  refine wpAny_BinOp (ha h tk gn E _ I fun va Xa h1 tk1 gn1 pa I1 f1 b1 => ?_)
  obtain ⟨la, va, na, Ya, rfl, rfl, hia⟩ := pa
  refine hb _ h1 tk1 gn1 E _ I1 fun vb Xb h2 tk2 gn2 pb I2 f2 b2 => ?_
  obtain ⟨lb, vb, nb, Yb, rfl, rfl, hib⟩ := pb
  refine I2.madeO K fun nw N hO _ back => ?_
  refine kmk_add_ints (s := D.st h2 tk2 gn2) I2.fr N (list_at (I2.get (List.mem_append_right _ (List.mem_append_left _ (.head _))))) (list_at (I2.get (.head _))) hia hib (fun D9 us h9 F6 N6 hlt6 hIr => ?_) (by rw [sizeLine_eq]; omega)
  obtain ⟨I3, f3⟩ := back _ _ _ F6 N6 hlt6 (by nofun)
  refine hQ _ ((D9, W.listOf us.toArray 0) :: ((lb, W.listOf vb.toArray nb) :: Yb) ++ ((la, W.listOf va.toArray na) :: Ya)) _ _ _ ⟨D9, us, 0, _, rfl, rfl, hIr⟩ (I3.sub fun q hq => ?_) (fun q hq p hp => ?_) fun z => b2 (b1 z)
  · rw [List.append_assoc] at hq; exact hq
  · rcases List.mem_append.mp hq with hq | hq
    · rcases mem_c hq with rfl | hq
      · exact f3 _ (.head _) p (List.mem_append_right _ (List.mem_append_right _ hp))
      · exact f2 q hq p (List.mem_append_right _ hp)
    · exact f1 q hq p hp
end


section
variable {D : LD} {m m0 : Loc} {C : Nat → Option Value} {O : Led} {h h' : Heap} {tk : Nat} {gn : Array GenState} {p1 p2 p3 p4 p5 p6 p7 : Pos} {x y : Str}
theorem ev_take {src : List Int} {pc : Int} {ts tp : Tok} (K : D.K) (hs : mp m (Str.ofString "source") = some (.bytes (byteArr src) ts)) (hsb : ∀ k ∈ src, 0 ≤ k ∧ k < 256) (hl : src.length ≤ 100) (hp : mp m (Str.ofString "place") = some (.int pc tp)) (hpc : 0 ≤ pc ∧ pc ≤ src.length) :
    EV D m C O (.Call (.Name (Str.ofString "list") p2) [.Subscript (.Name (Str.ofString "source") p3) (.Slice none (some (.Name (Str.ofString "place") p4)) none p5) p6] [] p7) (IsM (List.take pc.toNat src)) := by
  intro h tk gn E Q I hQ
  have fill : (Mine.hd.heap_1 D.w.params).In D.g → PR = PR := by
    delta PR
    k_fill
    exact fun _ => rfl
  clear fill
  have X := K.C.S.X.keeps K.C.le
  have T := K.C.S.T.keeps K.C.le
  have F := I.fr
  refine I.cell (fun nw N hO _ _ back => ?_) K
  have hbI := KBx_ints hsb
  have hcl1 : clipAt src.length pc = pc.toNat := by have := clipAt_cast src.length pc; rw [if_neg (by omega)] at this; omega
  tb_rel
  rename (KBw.bInts (KBy.picked _ none _) = _) => hkk1
  rename Fr _ _ _ _ => F3
  rename News _ _ _ _ => N3
  rw [hcl1] at hkk1
  have I3 := back _ _ F3 N3
  refine call_list_bytes rfl _ _ ?_ fun l1 h1 tk1 vs1 n1 hs1 kp1 ho1 hi1 => ?_
  · have := KBw.ints_length (KBy.picked (byteArr src) none (some pc))
    rw [hkk1, List.length_take] at this
    omega
  rw [hkk1] at hi1
  dsimp only at kp1 hs1 ho1 ⊢
  have hn0 := none_of_size hs1
  exact hQ _ [_] _ _ _ ⟨_, _, _, _, rfl, rfl, hi1⟩ (I3.add kp1 hn0 ho1 (by nofun)) (forall_cons (fun p hp e => by have := I3.get hp; dsimp only at e; rw [e, hn0] at this; cases this) (List.forall_mem_nil _)) id
theorem ev_drop {src : List Int} {pc : Int} {ts tp : Tok} (K : D.K) (hs : mp m (Str.ofString "source") = some (.bytes (byteArr src) ts)) (hsb : ∀ k ∈ src, 0 ≤ k ∧ k < 256) (hl : src.length ≤ 100) (hp : mp m (Str.ofString "place") = some (.int pc tp)) (hpc : 0 ≤ pc ∧ pc ≤ src.length) :
    EV D m C O (.Call (.Name (Str.ofString "list") p2) [.Subscript (.Name (Str.ofString "source") p3) (.Slice (some (.Name (Str.ofString "place") p4)) none none p5) p6] [] p7) (IsM (List.drop pc.toNat src)) := by
  intro h tk gn E Q I hQ
  have fill : (Mine.hd.heap_1 D.w.params).In D.g → PR = PR := by
    delta PR
    k_fill
    exact fun _ => rfl
  clear fill
  have X := K.C.S.X.keeps K.C.le
  have T := K.C.S.T.keeps K.C.le
  have F := I.fr
  refine I.cell (fun nw N hO _ _ back => ?_) K
  have hbI := KBx_ints hsb
  have hcl1 : clipAt src.length pc = pc.toNat := by have := clipAt_cast src.length pc; rw [if_neg (by omega)] at this; omega
  tb_rel
  rename (KBw.bInts (KBy.picked _ (some _) _) = _) => hkk1
  rename Fr _ _ _ _ => F3
  rename News _ _ _ _ => N3
  rw [hcl1, List.take_of_length_le (by rw [List.length_drop]; exact Nat.le_refl _)] at hkk1
  have I3 := back _ _ F3 N3
  refine call_list_bytes rfl _ _ ?_ fun l1 h1 tk1 vs1 n1 hs1 kp1 ho1 hi1 => ?_
  · have := KBw.ints_length (KBy.picked (byteArr src) (some pc) none)
    rw [hkk1, List.length_drop] at this
    omega
  rw [hkk1] at hi1
  dsimp only at kp1 hs1 ho1 ⊢
  have hn0 := none_of_size hs1
  exact hQ _ [_] _ _ _ ⟨_, _, _, _, rfl, rfl, hi1⟩ (I3.add kp1 hn0 ho1 (by nofun)) (forall_cons (fun p hp e => by have := I3.get hp; dsimp only at e; rw [e, hn0] at this; cases this) (List.forall_mem_nil _)) id
end


section
variable {D : LD} {m m0 : Loc} {C : Nat → Option Value} {O : Led} {h h' : Heap} {tk : Nat} {gn : Array GenState} {p1 p2 p3 p4 p5 p6 p7 : Pos} {x y : Str}
theorem ev_fo {fo : Int} {tf : Tok} (K : D.K) (hfo : C 10 = some (.int fo tf)) : EV D m C O (.List [.Name (Str.ofString "foreign") p1] p2) (IsM [fo]) := by
  intro h tk gn E Q I hQ
  have fill : (Mine.hd.heap_1 D.w.params).In D.g → PR = PR := by
    delta PR
    k_fill
    exact fun _ => rfl
  clear fill
  have X := K.C.S.X.keeps K.C.le
  have T := K.C.S.T.keeps K.C.le
  have F := I.fr
  have c10 : CV C (Str.ofString "foreign") _ := ⟨10, by rfl, hfo⟩
  refine I.made K fun nw N back => ?_
  tb_rel
  rename Fr _ _ _ _ => F1
  rename News _ _ _ _ => N1
  obtain ⟨I1, f1⟩ := back _ _ _ F1 N1 (by assumption) (by nofun)
  exact hQ _ [_] _ _ _ ⟨_, [_], _, _, rfl, rfl, .cons _ _ .nil⟩ I1 f1 id
end


section
variable {D : LD} {m m0 : Loc} {C : Nat → Option Value} {O : Led} {h h' : Heap} {tk : Nat} {gn : Array GenState} {p1 p2 p3 p4 p5 p6 p7 p8 p9 p10 p11 p12 p13 p14 p15 p16 p17 p18 : Pos} {x y : Str}
theorem ev_addL {ff : Addr} {fs : List Value} {nf : Nat} {b : Expr} {ks ms : List Int} (K : D.K) (hm : mp m x = some (.ref ff)) (hx : lk x = true) (hO : (ff, W.listOf fs.toArray nf) ∈ O) (hfs : IntsAre fs ks) (hb : EV D m C O b (IsM ms)) (hz : ks.length + ms.length ≤ 1000) : EV D m C O (.BinOp (.Name x p2) .Add b p1) (IsM (ks ++ ms)) := by
  intro h tk gn E Q I hQ
  refine wpAny_BinOp (l_name I.fr hm hx ?_)
  refine hb _ tk gn E _ I fun vb Xb h2 tk2 gn2 pb I2 f2 b2 => ?_
  obtain ⟨lb, vb, nb, Yb, rfl, rfl, hib⟩ := pb
  refine I2.madeO K fun nw N hN _ back => ?_
  refine kmk_add_ints (s := D.st h2 tk2 gn2) I2.fr N (list_at (I2.get (List.mem_append_right _ hO))) (list_at (I2.get (.head _))) hfs hib (fun D9 us h9 F6 N6 hlt6 hIr => ?_) (by rw [sizeLine_eq]; omega)
  obtain ⟨I3, f3⟩ := back _ _ _ F6 N6 hlt6 (by nofun)
  refine hQ _ ((D9, W.listOf us.toArray 0) :: ((lb, W.listOf vb.toArray nb) :: Yb)) _ _ _ ⟨D9, us, 0, _, rfl, rfl, hIr⟩ I3 (fun q hq p hp => ?_) b2
  rcases mem_c hq with rfl | hq
  · exact f3 _ (.head _) p (List.mem_append_right _ hp)
  · exact f2 q hq p hp
theorem ev_row {ff : Addr} {fs : List Value} {nf : Nat} {fks src : List Int} {pc fo : Int} {ts tf tp : Tok} (K : D.K) (hff : mp m (Str.ofString "front") = some (.ref ff)) (hO : (ff, W.listOf fs.toArray nf) ∈ O) (hfs : IntsAre fs fks) (hfl : fks.length ≤ 1)
    (hs : mp m (Str.ofString "source") = some (.bytes (byteArr src) ts)) (hsb : ∀ k ∈ src, 0 ≤ k ∧ k < 256) (hl : src.length ≤ 100) (hp : mp m (Str.ofString "place") = some (.int pc tp)) (hpc : 0 ≤ pc ∧ pc ≤ src.length) (hfo : C 10 = some (.int fo tf)) :
    EV D m C O (.BinOp (.BinOp (.BinOp (.Name (Str.ofString "front") p1) .Add (.Call (.Name (Str.ofString "list") p2) [.Subscript (.Name (Str.ofString "source") p3) (.Slice none (some (.Name (Str.ofString "place") p4)) none p5) p6] [] p7) p8) .Add (.List [.Name (Str.ofString "foreign") p9] p10) p11) .Add
      (.Call (.Name (Str.ofString "list") p12) [.Subscript (.Name (Str.ofString "source") p13) (.Slice (some (.Name (Str.ofString "place") p14)) none none p15) p16] [] p17) p18) (IsM (fks ++ List.take pc.toNat src ++ [fo] ++ List.drop pc.toNat src)) :=
  ev_add K (ev_add K (ev_addL K hff (by rfl) hO hfs (ev_take K hs hsb hl hp hpc) (by rw [List.length_take]; omega)) (fun _ => ev_fo K hfo) (by simp only [List.length_append, List.length_take, List.length_singleton]; omega)) (fun _ => ev_drop K hs hsb hl hp hpc) (by simp only [List.length_append, List.length_take, List.length_drop, List.length_singleton]; omega)
end


section
variable {D : LD} {m m0 : Loc} {C : Nat → Option Value} {O : Led} {h h' : Heap} {tk : Nat} {gn : Array GenState} {p1 p2 p3 p4 p5 p6 p7 : Pos} {x y : Str}
/-- what a call of _law_answer needs -/
structure LW (D : LD) (C : Nat → Option Value) (O : Led) (xe : Addr) (txt : Bool) (sl rw : Addr) (fo : Int) (tf : Tok) : Prop where
  c6 : C 6 = some (.ref sl)
  c7 : C 7 = some (.bool txt)
  c8 : C 8 = some (.ref xe)
  c9 : C 9 = some (.ref rw)
  c10 : C 10 = some (.int fo tf)
  w : ∀ (h : Heap), (∀ q ∈ O, h.get? q.1 = some q.2) → ∃ bl big us sgn rs rks, ∀ far, 0 ≤ far → WrongIn D.w h xe bl big sl us sgn rw rs rks fo far
theorem LW.mono {O' : Led} {xe : Addr} {txt : Bool} {sl rw : Addr} {fo : Int} {tf : Tok} (W : LW D C O xe txt sl rw fo tf) (s : ∀ q ∈ O, q ∈ O') : LW D C O' xe txt sl rw fo tf :=
  { W with w := fun h hO => W.w h fun q hq => hO q (s q hq) }
/-- what holds behind such a call -/
theorem LH.ans (I : LH D m C O h) (K : D.K) (k : ∀ b o, b ∉ TT → b ∉ [D.env].filterMap (·.frame) → h.get? b = some o → h'.get? b = some o) (u : UpB TT h h') (T' : Tabs h') : LH D m C O h' :=
  I.off fun co hd N ho nc => by
    obtain ⟨F', N'⟩ := after_A (env := D.env) rfl I.fr N k u K.hLT K.gT ho
    exact ⟨co, hd, F', N', T', nc⟩
theorem la_fd (K : D.K) : ∀ env ∈ [D.env], ∀ L', env.frame = some L' → L' ∉ TT := fun env he L' hL => by
  rcases mem_c he with rfl | he
  · cases hL; exact K.hLT
  · cases he
theorem la_call {E : Value → Shared → Prop} {Q : Value → Shared → Prop} {xe sl rw : Addr} {txt : Bool} {fo far : Int} {tf tk0 tfar : Tok} (kind : Nat) (hk : kind < 9) (K : D.K) (I : LH D m C O h) (W : LW D C O xe txt sl rw fo tf) (hfar : 0 ≤ far)
    (hQ : ∀ h' tk' gn' t, LH D m C O h' → (∀ b o, b ∉ TT → b ∉ [D.env].filterMap (·.frame) → h.get? b = some o → h'.get? b = some o) → UpB TT h h' → (AllBare gn → AllBare gn') → Q (.str (Str.ofString (wcls kind)) t) (D.st h' tk' gn')) :
    wpAny (model PR D.w) D.A (call (.ref 309) [.int (kind : Nat) tk0, .ref xe, .ref sl, .bool txt, .int fo tf, .ref rw, .int far tfar] []) Q E (D.st h tk gn) := by
  obtain ⟨bl, big, us, sgn, rs, rks, hw⟩ := W.w h fun q hq => I.get hq
  refine wpAny_call ?_
  exact answer309 kind hk (I.push K) (by decide) (by decide) (hw far hfar) I.tabs K.hbT K.hGb (la_fd K) fun h' tk' gn' t k' u' tab' bare' => hQ h' tk' gn' t (I.ans K k' u' tab') k' u' bare'
end
section
variable {D : LD} {m m0 : Loc} {C : Nat → Option Value} {O : Led} {h h' : Heap} {tk : Nat} {gn : Array GenState} {p1 p2 p3 p4 p5 p6 p7 : Pos} {x y : Str}
theorem tv_len1 {xl : Addr} {zs : List Value} {n : Nat} {six : List Int} (K : D.K) (hm : mp m (Str.ofString "sixes") = some (.ref xl)) (hO : (xl, W.listOf zs.toArray n) ∈ O) (hz : IntsAre zs six) (hl : six.length ≤ 100) :
    TV D m C O (.Compare (.BinOp (.Call (.Name (Str.ofString "len") p1) [.Name (Str.ofString "sixes") p2] [] p3) .Mod (.Constant (.int 4) 0 p4) p5) [.Eq] [.Constant (.int 1) 0 p6] p7) (decide (six.length % 4 = 1)) := by
  intro h tk gn E Q I hQ
  have fill : (Mine.hd.heap_1 D.w.params).In D.g → PR = PR := by
    delta PR
    k_fill
    exact fun _ => rfl
  clear fill
  have X := K.C.S.X.keeps K.C.le
  have T := K.C.S.T.keeps K.C.le
  have F := I.fr
  have hls := list_at (I.get hO)
  have hzl := hz.length
  refine I.cell (fun nw N hO2 _ _ back => ?_) K
  have hsO := hO2 _ hO
  clear hO2 hO
  tb_rel
  have e : ((six.length : Int).fmod 4 == 1) = decide (six.length % 4 = 1) := by
    rw [Int.fmod_eq_emod_of_nonneg _ (by decide)]
    exact Bool.eq_iff_iff.mpr (by simp only [beq_iff_eq, decide_eq_true_eq]; omega)
  rw [e]
  exact hQ _ _ _ I id
end


section
variable {D : LD} {m m0 : Loc} {C : Nat → Option Value} {O : Led} {h h' : Heap} {tk : Nat} {gn : Array GenState} {E : Value → Shared → Prop} {Q : Flow → Shared → Prop} {p1 p2 p3 p4 p5 p6 p7 p8 p9 p10 p11 p12 p13 p14 p15 p16 p17 p18 : Pos} {x y : Str} {rest : List Stmt}
noncomputable abbrev toldSc : Scope := { kind := ScopeKind.function, names := [(Str.ofString ".0", NameKind.local), (Str.ofString "kind", NameKind.local), (Str.ofString "_law_answer", NameKind.globalImplicit), (Str.ofString "abs", NameKind.globalImplicit), (Str.ofString "b", NameKind.free), (Str.ofString "engine", NameKind.free), (Str.ofString "foreign", NameKind.free), (Str.ofString "row", NameKind.free), (Str.ofString "signs", NameKind.free), (Str.ofString "texts", NameKind.free)], isGenerator := false, isCoroutine := false, more := [] }
theorem x_told9 {xe sl rw : Addr} {txt : Bool} {fo b : Int} {tf tb : Tok} (K : D.K) (I : LH D m C O h) (W : LW D C O xe txt sl rw fo tf) (hb : C 2 = some (.int b tb))
    (hQ : ∀ tl ys h' tk' gn', StrsAre ys nineS → LH D (put (Str.ofString "told") (.ref tl) m) C ((tl, LCg.lst ys) :: O) h' → (AllBare gn → AllBare gn') → WX D rest Q E h' tk' gn')
    (hsw : swapsWith (.ListComp (.Call (.Name (Str.ofString "_law_answer") p2) [.Name (Str.ofString "kind") p3, .Name (Str.ofString "engine") p4, .Name (Str.ofString "signs") p5, .Name (Str.ofString "texts") p6, .Name (Str.ofString "foreign") p7, .Name (Str.ofString "row") p8, .Call (.Name (Str.ofString "abs") p9) [.Name (Str.ofString "b") p10] [] p11] [] p12) [⟨.Name (Str.ofString "kind") p13, .Call (.Name (Str.ofString "range") p14) [.Constant (.int 9) 0 p15] [] p16, [], 0⟩] toldSc p17) (some (.Name (Str.ofString "told") p1)) p18.line D.env = pure true := by rfl) :
    WX D (.Assign [.Name (Str.ofString "told") p1] (.ListComp (.Call (.Name (Str.ofString "_law_answer") p2) [.Name (Str.ofString "kind") p3, .Name (Str.ofString "engine") p4, .Name (Str.ofString "signs") p5, .Name (Str.ofString "texts") p6, .Name (Str.ofString "foreign") p7, .Name (Str.ofString "row") p8, .Call (.Name (Str.ofString "abs") p9) [.Name (Str.ofString "b") p10] [] p11] [] p12) [⟨.Name (Str.ofString "kind") p13, .Call (.Name (Str.ofString "range") p14) [.Constant (.int 9) 0 p15] [] p16, [], 0⟩] toldSc p17) p18 :: rest) Q E h tk gn := by
  refine ⟨wpAny_execs_cons ?_⟩
  have fill : (Mine.hd.heap_1 D.w.params).In D.g → PR = PR := by
    delta PR
    k_fill
    exact fun _ => rfl
  clear fill
  have X := K.C.S.X.keeps K.C.le
  have T := K.C.S.T.keeps K.C.le
  have hTb := I.tabs
  have F := I.fr
  refine I.off fun co hd N ho nc => ?_
  obtain ⟨front, hfr⟩ : ∃ f, f = cl10 D.L co ++ O := ⟨_, rfl⟩
  have hm : ∀ i ∈ cells, (D.L + i, co i) ∈ front := fun i hi => by rw [hfr]; exact List.mem_append_left _ (List.mem_map_of_mem (f := fun i => (D.L + i, co i)) hi)
  have hO : ∀ q ∈ O, q ∈ front := fun q hq => by rw [hfr]; exact List.mem_append_right _ hq
  rw [← hfr] at N ho
  have c2 : (D.L + 1 + 1, co 2) ∈ front := hm 2 (by decide)
  have c6 : (D.L + 1 + 1 + 1 + 1 + 1 + 1, co 6) ∈ front := hm 6 (by decide)
  have c7 : (D.L + 1 + 1 + 1 + 1 + 1 + 1 + 1, co 7) ∈ front := hm 7 (by decide)
  have c8 : (D.L + 1 + 1 + 1 + 1 + 1 + 1 + 1 + 1, co 8) ∈ front := hm 8 (by decide)
  have c9 : (D.L + 1 + 1 + 1 + 1 + 1 + 1 + 1 + 1 + 1, co 9) ∈ front := hm 9 (by decide)
  have c10 : (D.L + 1 + 1 + 1 + 1 + 1 + 1 + 1 + 1 + 1 + 1, co 10) ∈ front := hm 10 (by decide)
  have d2 := (hd 2).trans (congrArg Data.cell hb)
  have d6 := (hd 6).trans (congrArg Data.cell W.c6)
  have d7 := (hd 7).trans (congrArg Data.cell W.c7)
  have d8 := (hd 8).trans (congrArg Data.cell W.c8)
  have d9 := (hd 9).trans (congrArg Data.cell W.c9)
  have d10 := (hd 10).trans (congrArg Data.cell W.c10)
  clear hb
  refine comp_U (s := D.st h tk gn) (ks := (List.range 9).map fun (i : Nat) => 0 + (i : Int) * 1) (fun i _ y => ∃ t, y = Value.str (Str.ofString (wcls i)) t) (fun gn' => AllBare gn → AllBare gn') K.C.hh (by simp) F N hTb (fun a => a) (fun Q' hQ' => ?_) (fun i k t I oI oC C' D' m₂ h1 tk1 gn1 E' ys hk hC hx F1 N1 off ne hlt T' hg' => ?_) (fun D' h1 tk1 gn1 ys h1 h2 F1 N1 hlt hlt2 T' hg' => ?_) K.hLT rfl hsw (by kernel_rfl) (by kernel_rfl)
  · k_steps
    rename IsRange _ _ _ _ _ _ _ _ => hr
    rename Kp _ _ => kp
    exact hQ' _ _ _ kp (iterU_range D.w hr (by decide) (by decide))
  · obtain ⟨rfl, hi3⟩ := range_at hk
    obtain ⟨bl, big, us, sgn, rs, rks, hw⟩ := W.w h1 fun q hq => (N1 q (.tail _ (.tail _ (.tail _ (hO q hq))))).1
    clear hQ hm hk hO nc
    tb_rel
    refine wpAny_call ?_
    refine answer309 i hi3 (K.push F1) (by decide) (by decide) (hw _ (by split <;> omega)) T' K.hbT K.hGb (la_fd K) fun h' tk' gn' t' k' u' tab' bare' => ?_
    obtain ⟨F2, N2⟩ := after_A (env := D.env) rfl F1 N1 k' u' K.hLT K.gT (forall_cons (fun hm => Nat.lt_irrefl _ (hlt _ hm)) (forall_cons (fun hm => Nat.lt_irrefl _ (Nat.lt_trans (hlt _ hm) (Nat.lt_trans ne.1 ne.2))) (forall_cons (fun hm => Nat.lt_irrefl _ (Nat.lt_trans (hlt _ hm) ne.1)) ho)))
    exact .mk ⟨_, _, _, rfl, F2, N2, tab', fun a => bare' (hg' a), _, rfl⟩
  · have hy9 := nine_strs h1 h2
    refine (hQ D' ys _ _ gn1 hy9 ⟨co, hd, F1, fun q hq => ?_, T', forall_cons ⟨by nofun, fun hm => Nat.lt_irrefl _ (hlt2 _ hm)⟩ nc⟩ hg').go
    subst hfr
    rcases List.mem_append.mp hq with hq | hq
    · exact N1 q (.tail _ (List.mem_append_left _ hq))
    · rcases mem_c hq with rfl | hq
      · exact N1 _ (.head _)
      · exact N1 q (.tail _ (List.mem_append_right _ hq))
end


section
variable {D : LD} {m m0 : Loc} {C : Nat → Option Value} {O : Led} {h h' : Heap} {tk : Nat} {gn : Array GenState} {E : Value → Shared → Prop} {Q : Flow → Shared → Prop} {p1 p2 p3 p4 p5 p6 p7 p8 p9 p10 p11 p12 p13 p14 p15 p16 p17 p18 : Pos} {x y : Str} {rest : List Stmt}
theorem tv_told9 {tl : Addr} {vs : List Value} (K : D.K) (hm : mp m (Str.ofString "told") = some (.ref tl)) (hO : (tl, LCg.lst vs) ∈ O) (hv : StrsAre vs nineS) :
    TV D m C O (.Compare (.Name (Str.ofString "told") p1) [.NotEq] [.BinOp (.BinOp (.List [.Constant (.str (Str.ofString "ValueError")) 0 p2] p3) .Mult (.Constant (.int 5) 0 p4) p5) .Add (.BinOp (.List [.Constant (.str (Str.ofString "TypeError")) 0 p7] p8) .Mult (.Constant (.int 4) 0 p9) p10) p11] p6) false := by
  intro h tk gn E Q I hQ
  have fill : (Mine.hd.heap_1 D.w.params).In D.g → PR = PR := by
    delta PR
    k_fill
    exact fun _ => rfl
  clear fill
  have X := K.C.S.X.keeps K.C.le
  have T := K.C.S.T.keeps K.C.le
  have F := I.fr
  refine I.cell (fun nw N hO2 _ _ back => ?_) K
  have hN := hO2 _ hO
  clear hO hO2
  tb_rel
  rename Fr _ _ _ _ => F1
  rename News _ _ _ _ => N1
  refine KMa.mul F1 N1 (list_at (N1 _ (.head _)).1) (by decide) (by decide) (by show 1 * 5 ≤ 256; decide) rfl fun D' h2 F2 N2 l2 => ?_
  clear F1 N1
  tb_rel
  rename Fr _ _ _ _ => F3
  rename News _ _ _ _ => N3
  refine KMa.mul F3 N3 (list_at (N3 _ (.head _)).1) (by decide) (by decide) (by show 1 * 4 ≤ 256; decide) rfl fun D4 h4 F4 N4 l4 => ?_
  clear F3 N3
  tb_rel
  rename Fr _ _ _ _ => F5
  rename News _ _ _ _ => N5
  refine ne_strs (ns := nineS) (list_at (N5 _ (.tail _ (.tail _ (.tail _ (.tail _ (.tail _ hN)))))).1) (list_at (N5 _ (.head _)).1) hv (by repeat (first | exact .nil | refine .cons _ _ ?_)) K.u64 (by decide +kernel) ?_
  exact wpAny_truthy_bool (hQ _ _ _ (back _ _ F5 fun q hq => N5 q (.tail _ (.tail _ (.tail _ (.tail _ (.tail _ hq)))))) id)
end


section
variable {D : LD} {m m0 : Loc} {C : Nat → Option Value} {O : Led} {h h' : Heap} {tk : Nat} {gn : Array GenState} {E : Value → Shared → Prop} {Q : Flow → Shared → Prop} {p1 p2 p3 p4 p5 p6 p7 p8 p9 p10 p11 p12 p13 p14 p15 p16 p17 p18 : Pos} {x y : Str} {rest : List Stmt}
theorem tv_ans4 {xe sl rw : Addr} {txt : Bool} {fo : Int} {tf : Tok} (K : D.K) (W : LW D C O xe txt sl rw fo tf) :
    TV D m C O (.Compare (.Call (.Name (Str.ofString "_law_answer") p1) [.Constant (.int 4) 0 p2, .Name (Str.ofString "engine") p3, .Name (Str.ofString "signs") p4, .Name (Str.ofString "texts") p5, .Name (Str.ofString "foreign") p6, .Name (Str.ofString "row") p7, .Constant (.int 0) 0 p8] [] p9) [.NotEq] [.Constant (.str (Str.ofString "ValueError")) 0 p10] p11) false := by
  intro h tk gn E Q I hQ
  have fill : (Mine.hd.heap_1 D.w.params).In D.g → PR = PR := by
    delta PR
    k_fill
    exact fun _ => rfl
  clear fill
  have X := K.C.S.X.keeps K.C.le
  have T := K.C.S.T.keeps K.C.le
  have F := I.fr
  have c6 : CV C (Str.ofString "signs") _ := ⟨6, by rfl, W.c6⟩
  have c7 : CV C (Str.ofString "texts") _ := ⟨7, by rfl, W.c7⟩
  have c8 : CV C (Str.ofString "engine") _ := ⟨8, by rfl, W.c8⟩
  have c9 : CV C (Str.ofString "row") _ := ⟨9, by rfl, W.c9⟩
  have c10 : CV C (Str.ofString "foreign") _ := ⟨10, by rfl, W.c10⟩
  tb_rel
  refine la_call (kind := 4) (by decide) K I W (Int.le_refl 0) fun h' tk' gn' t I' _ _ b => ?_
  tb_rel
  exact hQ _ _ _ I' b
end


section
variable {D : LD} {m m0 : Loc} {C : Nat → Option Value} {O : Led} {h h' : Heap} {tk : Nat} {gn : Array GenState} {E : Value → Shared → Prop} {Q : Flow → Shared → Prop} {R : Result → Shared → Prop} {p1 p2 p3 p4 p5 p6 p7 p8 p9 p10 p11 p12 p13 p14 p15 p16 p17 p18 : Pos} {x y : Str} {rest : List Stmt}
theorem x_ret {e : Expr} {post : Value → Led → Prop} (I : LH D m C O h) (he : EV D m C O e post) (hQ : ∀ v X h' tk' gn', post v X → LH D m C (X ++ O) h' → (AllBare gn → AllBare gn') → Q (.ret v) (D.st h' tk' gn')) : WX D (.Return (some e) p1 :: rest) Q E h tk gn :=
  ⟨wpAny_execs_cons (wpAny_Return_some (he h tk gn E _ I fun v X h' tk' gn' a b _ d => hQ v X h' tk' gn' a b d))⟩
/-- new objects -/
theorem LH.addN (I : LH D m C O h) {X : Led} (N : News D.g D.L h X) (nc : ∀ q ∈ X, NoC q) : LH D m C (X ++ O) h := by
  obtain ⟨co, hd, F, N0, T, nc0⟩ := I
  refine ⟨co, hd, F, fun q hq => ?_, T, fun q hq => (List.mem_append.mp hq).elim (nc q) (nc0 q)⟩
  rcases List.mem_append.mp hq with hq | hq
  · exact N0 q (List.mem_append_left _ hq)
  · exact (List.mem_append.mp hq).elim (N q) fun z => N0 q (List.mem_append_right _ z)
theorem LH.ttlt (I : LH D m C O h) : ∀ b ∈ TT, b < h.objs.size := tabs_lt I.tabs
/-- a new engine -/
theorem new_eng {E : Value → Shared → Prop} {Q : Value → Shared → Prop} {sgn : List Int} {big txt : Bool} {tv : Tok} {pos : List Value} {kw : List (Str × Value)} (K : D.K) (I : LH D m C O h) (hsbd : ∀ k ∈ sgn, 0 ≤ k ∧ k < 256) (hsl : sgn.length = 64) (hsnd : sgn.Nodup) (ha : MakeArgs txt big sgn tv ⟨pos, kw⟩)
    (hQ : ∀ xe X h' tk' gn', (∀ O', (∀ q ∈ X, q ∈ O') → EO D xe (byteArr sgn).toList big O') → LH D m C (X ++ O) h' → (∀ q ∈ X, ∀ p ∈ O, p.1 ≠ q.1) → (AllBare gn → AllBare gn') → Q (.ref xe) (D.st h' tk' gn')) :
    wpAny (model PR D.w) D.A (call (.ref 262) pos kw) Q E (D.st h tk gn) := by
  refine wpAny_call ?_
  refine newTx (s := D.st h tk gn) (ks := sgn) (txt := txt) (big := big) (tv := tv) (args := ⟨pos, kw⟩) (I.push K) (by decide) (by decide) hsbd (by omega) I.tabs K.hbT (la_fd K) ha (fun g1 g2 h5 tk5 gn5 x dx lk olk a1 a2 a3 u1 u2 u3 ub nn kb5 tab5 bare5 hsz hdx hlk ex edx elk heng => ?_) (fun hn => absurd ⟨hsl, hsnd⟩ hn)
  have hx := Nat.le_trans hsz (Nat.le_of_lt hdx)
  have hl := Nat.le_trans hx (Nat.le_of_lt hlk)
  have NX : News D.g D.L h5 [(lk, olk), (x, instObj 262 dx), (dx, engD a1 a2 a3 u1 u2 u3 ub (byteArr sgn).toList lk big nn)] :=
    news_newB I.fr (news_newB I.fr (news_newB I.fr (List.forall_mem_nil _) hsz edx) hx ex) hl elk
  have nt : ∀ z : Nat, h.objs.size ≤ z → z ∉ TT := fun z hz hm => Nat.lt_irrefl _ (Nat.lt_of_lt_of_le (I.ttlt z hm) hz)
  have ne : ∀ z : Nat, h.objs.size ≤ z → ∀ p ∈ O, p.1 ≠ z := fun z hz p hp e => Nat.lt_irrefl _ (Nat.lt_of_lt_of_le (e ▸ Heap.lt_size (I.get hp)) hz)
  have I5 := I.kpB K kb5 tab5
  refine hQ x _ h5 tk5 gn5 (fun O' hO' => ⟨dx, lk, a1, a2, a3, u1, u2, u3, ub, nn, olk, hO' _ (.tail _ (.head _)), hO' _ (.tail _ (.tail _ (.head _))), hO' _ (.head _), heng⟩) (I5.addN NX (forall_cons ⟨?_, nt _ hl⟩ (forall_cons ⟨by nofun, nt _ hx⟩ (forall_cons ⟨by nofun, nt _ hsz⟩ (List.forall_mem_nil _)))))
    (forall_cons (ne _ hl) (forall_cons (ne _ hx) (forall_cons (ne _ hsz) (List.forall_mem_nil _)))) bare5
  obtain ⟨_, _, a⟩ := heng h5 ex edx elk
  obtain ⟨dx', k1, k2, k3, w1, w2, w3, w4, lk', n', f, e1, e2, e3, e4, e5, e6⟩ := a
  rw [ex] at e1
  cases e1
  rw [edx] at e2
  cases e2
  obtain ⟨o, es, ep, ho, _, hdt, _⟩ := e4
  rw [elk] at ho
  cases ho
  intro v e
  rw [show olk.data = _ from hdt] at e
  cases e
theorem MCallE {M : Model} {A : Around} {E : Value → Shared → Prop} {s : Shared} {env : Env} {n name : Str} {p1 q1 apos pos : Pos} {args : List Expr} {a1 a2 : Expr} {Q : Value → Shared → Prop} (hp : (apos.endLine == pos.line) = true) (hf : methodCallForm (args.length + 0) (backTo pos (starEach args env)) (backToKw pos (keywordEach [] env)) = true)
    (hn : n = Str.ofString "Base64Engine")
    (h : wpAny M A (eval (.Call (.Name n p1) [a1, a2] [] q1) env) (fun ov s₁ => wpAny M A (getMethod ov name (do return (← importBound (.Call (.Name n p1) [a1, a2] [] q1) env).getD true)) (fun fx s₂ => wpAny M A (callWith pos fx.1 fx.2 (backTo pos (starEach args env)) []) Q E s₂) E s₁) E s) :
    wpAny M A (eval (.Call (.Attribute (.Call (.Name n p1) [a1, a2] [] q1) name apos) args [] pos) env) Q E s := by
  subst hn
  show wpAny M A (do
    let ov ← eval (.Call (.Name _ p1) [a1, a2] [] q1) env
    standAt apos.atName
    methodCall (.Call (.Name _ p1) [a1, a2] [] q1) name apos pos env ov (args.length + 0) (backTo pos (starEach args env)) (backToKw pos (keywordEach [] env))) Q E s
  unfold methodCall
  rw [hf]
  refine wpAny_bind (wpAny_mono h (fun ov s₁ h₁ => wpAny_bind (wpAny_standAt (wpAny_bind (wpAny_holding (wpAny_mono h₁ (fun fx s₂ h₂ => ?_) fun _ _ x => x))))) fun _ _ x => x)
  unfold methodCallPos
  rw [hp]
  exact wpAny_bind (wpAny_pure h₂)
/-- a method of an engine, on one local -/
theorem l_methV {xe f : Addr} {bl : List UInt8} {big : Bool} {name : Str} {v : Value} {b : Expr} {Q : Value → Shared → Prop} {P : Prop} (K : D.K) (I : LH D m C O h) (e : EO D xe bl big O) (hm : mp m x = some v) (hk : lk x = true)
    (M : Meth D.w name f) {bnd : Sem Bool} {pos : Pos}
    (hc : codeAny (model PR D.w) D.A (.call (.ref f) ⟨[.ref xe, v], []⟩) (fun r s' => match r with | .ok (.ret v) => Q v s' | .ok _ => False | .error e => E e s') (D.st h tk gn)) :
    wpAny (model PR D.w) D.A (getMethod (.ref xe) name bnd) (fun fx s₂ => wpAny (model PR D.w) D.A (callWith pos fx.1 fx.2 (backTo pos (starEach [.Name x p3] D.env)) []) Q E s₂) E (D.st h tk gn) := by
  have X := K.C.S.X.keeps K.C.le
  have F := I.fr
  obtain ⟨dx, lk, a1, a2, a3, t1, t2, t3, tb, nn, olk, m1, m2, m3, he⟩ := e
  refine method_inst (s := D.st h tk gn) F X ⟨I.get m1, rfl, rfl, I.get m2⟩ M.hp M.hf M.hi (M.hg _ _ _ _ _ _ _ _ _) ?_
  refine callWith_K X M.hk ?_
  refine args_cons ?_
  refine l_name F hm hk ?_
  refine args_nil ?_
  exact ⟨X.keeps F.keep, wpAny_call hc⟩
theorem ev_eq {txt : Bool} {l : List Int} {a b : Expr} (ha : EV D m C O a (IsV txt l)) (hb : EV D m C O b fun v _ => ∃ t, v = mapV txt l t) (hm : behindInMarks .Eq b = false := by rfl) : EV D m C O (.Compare a [.Eq] [b] p1) fun v _ => v = .bool true := fun h tk gn E Q I hQ =>
  wpAny_Compare1 (ha h tk gn E _ I fun va Xa h1 tk1 gn1 pa I1 _ b1 => by
    obtain ⟨⟨ta, rfl⟩, rfl⟩ := pa
    refine hb h1 tk1 gn1 E _ I1 fun vb Xb h2 tk2 gn2 pb I2 f2 b2 => ?_
    obtain ⟨tb, rfl⟩ := pb
    have z := hQ (.bool true) Xb h2 tk2 gn2 rfl I2 f2 fun z => b2 (b1 z)
    cases txt
    · exact eq_bytes (by simpa using z)
    · exact eq_str (by simpa using z)) hm
end

section
variable {D : LD} {m m0 : Loc} {C : Nat → Option Value} {O : Led} {h h' : Heap} {tk : Nat} {gn : Array GenState} {p1 p2 p3 p4 p5 p6 p7 p8 p9 p10 p11 p12 p13 p14 p15 p16 p17 p18 : Pos} {x y : Str} {rest : List Stmt}
theorem ev_enc2 {sgn : List Int} {big txt : Bool} {b : Array UInt8} {tg to : Tok} (K : D.K) (hsbd : ∀ k ∈ sgn, 0 ≤ k ∧ k < 256) (hsl : sgn.length = 64) (hsnd : sgn.Nodup) (hg : mp m (Str.ofString "given") = some (mapV txt sgn tg)) (hbg : mp m (Str.ofString "big") = some (.bool big)) (ho : mp m (Str.ofString "octets") = some (.bytes b to)) (hb : b.size ≤ 100) (hp : (p5.endLine == p7.line) = true) :
    EV D m C O (.Call (.Attribute (.Call (.Name (Str.ofString "Base64Engine") p1) [.Name (Str.ofString "given") p2, .Name (Str.ofString "big") p3] [] p4) (Str.ofString "encode_bytes") p5) [.Name (Str.ofString "octets") p6] [] p7) fun v _ => ∃ t, v = mapV false (encOf (byteArr sgn).toList big b) t := by
  intro h tk gn E Q I hQ
  have fill : (Mine.hd.heap_1 D.w.params).In D.g → PR = PR := by
    delta PR
    k_fill
    exact fun _ => rfl
  clear fill
  have X := K.C.S.X.keeps K.C.le
  have T := K.C.S.T.keeps K.C.le
  have F := I.fr
  refine MCallE hp rfl rfl ?_
  tb_rel
  refine new_eng K I hsbd hsl hsnd (.inl rfl) fun xe X h1 tk1 gn1 eo I1 f1 b1 => ?_
  refine l_methV (P := True) (b := .Name (Str.ofString "octets") p6) K I1 (eo _ fun q hq => List.mem_append_left _ hq) ho (by rfl) (meth91 _) ?_
  exact encT (I1.push K) (by decide) (by decide) (I1.eng (eo _ fun q hq => List.mem_append_left _ hq)) hb I1.tabs K.hbT fun h' tk' gn' t kp tb bare => hQ _ X _ _ _ ⟨t, rfl⟩ (I1.kpB K kp tb) f1 fun z => bare (b1 z)
end


section
variable {D : LD} {m m0 : Loc} {C : Nat → Option Value} {O : Led} {h h' : Heap} {tk : Nat} {gn : Array GenState} {R : Result → Shared → Prop}
theorem LK.mono {O' : Led} {bl : List UInt8} {big : Bool} {sgn : List Int} {xe : Addr} (k : LK D C O bl big sgn xe) (s : ∀ q ∈ O, q ∈ O') : LK D C O' bl big sgn xe :=
  ⟨k.hx, k.e.mono s, let ⟨sl, us, h, r, z⟩ := k.hs; ⟨sl, us, h, s _ r, z⟩, k.hsl, k.hsbd, k.hbl, k.hL, k.hnd⟩
theorem EO.at {xe : Addr} {bl : List UInt8} {big : Bool} {O : Led} (e : EO D xe bl big O) {h : Heap} (hh : ∀ q ∈ O, h.get? q.1 = some q.2) : Eng D.w h xe bl big := by
  obtain ⟨dx, lk, a1, a2, a3, t1, t2, t3, tb, nn, olk, m1, m2, m3, he⟩ := e
  exact he h (hh _ m1) (hh _ m2) (hh _ m3)
theorem row_ok {sgn src fks rks : List Int} {pc fo st od sh c : Int} {bl : List UInt8} {big : Bool} (hst : 0 ≤ st ∧ st < 193) (hsgn : sgn = lawSigns st od sh) (hsbd : ∀ k ∈ sgn, 0 ≤ k ∧ k < 256) (hbl : bl = (byteArr sgn).toList) (hsrb : ∀ k ∈ src, 0 ≤ k ∧ k < 256) (hsl : src.length ≤ 12)
    (hfo : fo = (st + 64 + (c.fdiv 128).fmod 192).fmod 256) (hfks : fks = if src.length % 4 = 0 then [sgn.getD 0 0] else []) (hrks : rks = fks ++ List.take pc.toNat src ++ [fo] ++ List.drop pc.toNat src) :
    (0 ≤ fo ∧ fo < 256) ∧ (∀ k ∈ rks, 0 ≤ k ∧ k < 256) ∧ rks.length ≤ 100 ∧ decOf bl big (byteArr rks) = none := by
  have hfo0 : 0 ≤ fo ∧ fo < 256 := by
    rw [hfo, Int.fmod_eq_emod_of_nonneg _ (by decide)]
    omega
  have hfon : fo ∉ sgn := by rw [hsgn]; exact not_in_sgn hst hfo
  have hfk1 : fks.length ≤ 1 := by rw [hfks]; split <;> simp
  have hrkb : ∀ k ∈ rks, 0 ≤ k ∧ k < 256 := fun k hk => by
    rw [hrks] at hk
    simp only [List.mem_append, List.mem_singleton] at hk
    rcases hk with ((hk | hk) | hk) | hk
    · rw [hfks] at hk
      split at hk
      · rw [List.mem_singleton.mp hk]; exact getD_in2 hsbd 0
      · cases hk
    · exact hsrb k (List.mem_of_mem_take hk)
    · rw [hk]; exact hfo0
    · exact hsrb k (List.mem_of_mem_drop hk)
  refine ⟨hfo0, hrkb, ?_, ?_⟩
  · rw [hrks]
    simp only [List.length_append, List.length_take, List.length_drop, List.length_singleton]
    omega
  · rw [hbl]
    exact dec_foreign hsbd hrkb (fo := fo) (by rw [hrks]; simp) hfon
theorem seg18 {xe xl : Addr} {st od sh b a c : Int} {big txt : Bool} {rest sgn oct sx cod six src : List Int} {bl : List UInt8} {ta tc tb t1 tg to td ts : Tok}
    (K : D.K) (I : LH D m C O h) (k : LK D C O bl big sgn xe) (W : LawN st od sh b big txt rest sgn oct sx cod bl) (M : LawM bl rest six src)
    (ha : mp m (Str.ofString "a") = some (.int a ta)) (hc : mp m (Str.ofString "c") = some (.int c tc)) (hbg : mp m (Str.ofString "big") = some (.bool big)) (hg : mp m (Str.ofString "given") = some (mapV txt sgn tg)) (ho : mp m (Str.ofString "octets") = some (.bytes (byteArr oct) to)) (hcd : mp m (Str.ofString "coded") = some (.bytes (byteArr cod) td)) (hs : mp m (Str.ofString "source") = some (.bytes (byteArr src) ts))
    (c2 : C 2 = some (.int b tb)) (c3 : C 3 = some (.int st t1)) (c7 : C 7 = some (.bool txt))
    (hR : ∀ h' tk' gn', Kp D.g h' → Tabs h' → (AllBare gn → AllBare gn') → R (.ok (.ret (.bool true))) (D.st h' tk' gn')) : WX D ((lawBody D.w).drop 18) (lq R) (le D.w D.A D.env R) h tk gn := by
  obtain ⟨l, hl18⟩ : ∃ l, l = (lawBody D.w).drop 18 := ⟨_, rfl⟩
  rw [← hl18]
  conv at hl18 => rhs; whnf
  subst hl18
  have hsz : ∀ l : List Int, (∀ k ∈ l, 0 ≤ k ∧ k < 256) → (byteArr l).size = l.length := fun l hl => by have := KBw.ints_length (byteArr l); rw [KBx_ints hl] at this; omega
  have hrl : src.length ≤ 12 := by rw [M.hsrl, M.hsil]; exact W.hlen
  have hol : (byteArr oct).size ≤ 100 := by rw [hsz _ W.hobd, W.hol]; have := W.hlen; omega
  have hcl : (byteArr cod).size ≤ 100 := by rw [hsz _ W.hcbd, W.hcl]; have := W.hsxl.1; omega
  have hdo : decOf bl big (byteArr cod) = some oct := by rw [W.hcod, dec_of W.hsL W.hbnd W.hsxb, if_neg W.hsxl.2, W.hsx, dec_enc big oct W.hobd]
  have hme : mend big sx = sx := by rw [← enc_dec big sx W.hsxb W.hsxl.2, W.hsx, dec_enc big oct W.hobd]
  have hen : encOf bl big (byteArr oct) = cod := by rw [enc_of W.hobd, ← W.hsx, ← W.hcod]
  obtain ⟨fo, hfo⟩ : ∃ fo : Int, fo = (st + 64 + (c.fdiv 128).fmod 192).fmod 256 := ⟨_, rfl⟩
  obtain ⟨pc, hpc⟩ : ∃ pc : Int, pc = (a.fdiv 193).fmod ((src.length : Int) + 1) := ⟨_, rfl⟩
  have hpc1 : 0 ≤ pc ∧ pc ≤ src.length := by
    rw [hpc, Int.fmod_eq_emod_of_nonneg _ (by omega)]
    have h1 := Int.emod_nonneg (a.fdiv 193) (show ((src.length : Int) + 1) ≠ 0 by omega)
    have h2 := Int.emod_lt_of_pos (a.fdiv 193) (show (0 : Int) < (src.length : Int) + 1 by omega)
    omega
  obtain ⟨sl, us, h6, hOs, hus⟩ := k.hs
  refine x_cell K (cn_of (by rfl)) I (ev_foreign K c3 hc) fun v X h1 tk1 gn1 p1 I1 f1 b1 => ?_
  obtain ⟨⟨tf, rfl⟩, rfl⟩ := p1
  rw [← hfo] at I1
  refine x_assign K (by rfl) I1 (ev_place K ha hs (hsz _ M.hsrb) (by omega)) fun v X h2 tk2 gn2 p2 I2 f2 b2 => ?_
  obtain ⟨⟨tp, rfl⟩, rfl⟩ := p2
  rw [← hpc] at I2
  refine x_assign K (by rfl) I2 (ev_front K ((if_neg (by decide)).trans h6) hOs hus W.hsl (put_ne (by decide) hs) (hsz _ M.hsrb) (by omega)) fun v X h3 tk3 gn3 p3 I3 f3 b3 => ?_
  obtain ⟨ff, fs, nf, rfl, rfl, hfs⟩ := p3
  obtain ⟨fks, hfks⟩ : ∃ fks : List Int, fks = if src.length % 4 = 0 then [sgn.getD 0 0] else [] := ⟨_, rfl⟩
  rw [← hfks] at hfs
  have hfk1 : fks.length ≤ 1 := by rw [hfks]; split <;> simp
  obtain ⟨m3, hm3⟩ : ∃ m3, m3 = put (Str.ofString "front") (.ref ff) (put (Str.ofString "place") (.int pc tp) m) := ⟨_, rfl⟩
  rw [← hm3] at I3
  have V3 : Keep m3 m := by rw [hm3]; exact (Keep.refl.put (by decide)).put (by decide)
  refine x_cell K (cn_of (by rfl)) I3 (ev_row (pc := pc) (tp := tp) (tf := tf) (fo := fo) K (by rw [hm3]; exact put_eq) (.head _) hfs hfk1 ((V3 _ (by decide)).trans hs) M.hsrb (by omega) (by rw [hm3]; exact put_ne (by decide) put_eq) hpc1 (if_pos rfl)) fun v X h4 tk4 gn4 p4 I4 f4 b4 => ?_
  obtain ⟨rw_, rs, nr, Y, rfl, rfl, hrs⟩ := p4
  obtain ⟨rks, hrks⟩ : ∃ rks : List Int, rks = fks ++ List.take pc.toNat src ++ [fo] ++ List.drop pc.toNat src := ⟨_, rfl⟩
  rw [← hrks] at hrs
  obtain ⟨hfo0, hrkb, hrkl, hdn⟩ := row_ok (big := big) W.hst W.hsgn W.hsbd W.hbl M.hsrb hrl hfo hfks hrks
  obtain ⟨O4, hO4⟩ : ∃ O4, O4 = ((rw_, PySem.W.listOf rs.toArray nr) :: Y) ++ ([(ff, PySem.W.listOf fs.toArray nf)] ++ ([] ++ ([] ++ O))) := ⟨_, rfl⟩
  rw [← hO4] at I4
  have s4 : ∀ q ∈ O, q ∈ O4 := fun q hq => by rw [hO4]; exact List.mem_append_right _ (.tail _ hq)
  have r4 : (rw_, PySem.W.listOf rs.toArray nr) ∈ O4 := by rw [hO4]; exact .head _
  obtain ⟨C4, hC4⟩ : ∃ C4 : Nat → Option Value, C4 = fun j => if j = 9 then some (.ref rw_) else if j = 10 then some (.int fo tf) else C j := ⟨_, rfl⟩
  rw [← hC4] at I4
  have k4 : LK D C4 O4 bl big sgn xe := by rw [hC4]; exact ((k.upd (by decide) (by decide)).upd (by decide) (by decide)).mono s4
  have LW4 : LW D C4 O4 xe txt sl rw_ fo tf := by
    rw [hC4]
    exact ⟨h6, c7, k.hx, rfl, rfl, fun h hh => ⟨bl, big, us, sgn, rs, rks, fun far hf => ⟨k4.e.at hh, list_at (hh _ (s4 _ hOs)), hus, W.hsl, W.hsnd, W.hsbd, list_at (hh _ r4), hrs, hrkl, hrkb, hdn, hfo0.1, hfo0.2, hf⟩⟩⟩
  have c24 : C4 2 = some (.int b tb) := by rw [hC4]; exact c2
  clear hC4 hO4 I I1 I2 I3 f1 f2 f3 f4 hm3
  refine x_told9 K I4 LW4 c24 fun tl ys h5 tk5 gn5 hys I5 b5 => ?_
  have s5 : ∀ q ∈ O4, q ∈ (tl, LCg.lst ys) :: O4 := fun q hq => .tail _ hq
  have V5 := V3.put (x := Str.ofString "told") (v := .ref tl) (by decide)
  refine x_not I5 (tv_told9 K put_eq (.head _) hys) fun h6 tk6 gn6 I6 b6 => ?_
  have k6 := k4.mono s5
  have hcd6 := (V5 _ (by decide)).trans hcd
  refine x_not I6 (tv_or (tv_ne (txt := false) (l := oct) (ev_dec K k6.hx k6.e hcd6 (by rfl) (by rfl) hcl hdo) (ev_loc (t := to) ((V5 _ (by decide)).trans ho) (by rfl))) (tv_or (tv_ne (txt := false) (l := cod) ((ev_rep (txt := false) (six := sx) (tv := td) K k6.hx k6.e (by rw [hcd6, W.hcod]; rfl) (by rfl) (by rfl) W.hsxb (by have := W.hsxl.1; omega) W.hsxl.2).mono fun v X p => by rw [hme, ← W.hcod] at p; exact p) (ev_loc (t := td) hcd6 (by rfl))) tv_or0)) fun h7 tk7 gn7 I7 b7 => ?_
  refine x_not I7 (tv_ans4 K (LW4.mono s5)) fun h8 tk8 gn8 I8 b8 => ?_
  refine x_ret I8 (ev_eq (txt := false) (l := cod) ((ev_enc K k6.hx k6.e ((V5 _ (by decide)).trans ho) (by rfl) (by rfl) hol).mono fun v X p => by rw [hen] at p; exact p) ((ev_enc2 K W.hsbd W.hsl W.hsnd ((V5 _ (by decide)).trans hg) ((V5 _ (by decide)).trans hbg) ((V5 _ (by decide)).trans ho) hol (by rfl)).mono fun v X p => by rw [← W.hbl, hen] at p; exact p)) fun v X h9 tk9 gn9 p9 I9 b9 => ?_
  subst p9
  exact hR _ _ _ I9.fr.keep I9.tabs fun z => b9 (b8 (b7 (b6 (b5 (b4 (b3 (b2 (b1 z))))))))
theorem seg17 {xe xl : Addr} {st od sh b a c : Int} {big txt : Bool} {rest sgn oct sx cod six src : List Int} {bl : List UInt8} {zs : List Value} {ta tc tb t1 tg to td ts tv : Tok}
    (K : D.K) (I : LH D m C O h) (k : LK D C O bl big sgn xe) (W : LawN st od sh b big txt rest sgn oct sx cod bl) (M : LawM bl rest six src)
    (ha : mp m (Str.ofString "a") = some (.int a ta)) (hc : mp m (Str.ofString "c") = some (.int c tc)) (hbg : mp m (Str.ofString "big") = some (.bool big)) (hg : mp m (Str.ofString "given") = some (mapV txt sgn tg)) (ho : mp m (Str.ofString "octets") = some (.bytes (byteArr oct) to)) (hcd : mp m (Str.ofString "coded") = some (.bytes (byteArr cod) td)) (hs : mp m (Str.ofString "source") = some (.bytes (byteArr src) ts)) (hw : mp m (Str.ofString "words") = some (.str (txtOf src) tv)) (hx : mp m (Str.ofString "sixes") = some (.ref xl))
    (c2 : C 2 = some (.int b tb)) (c3 : C 3 = some (.int st t1)) (c7 : C 7 = some (.bool txt)) (hO : (xl, LCg.lst zs) ∈ O) (hz : IntsAre zs six)
    (hR : ∀ h' tk' gn', Kp D.g h' → Tabs h' → (AllBare gn → AllBare gn') → R (.ok (.ret (.bool true))) (D.st h' tk' gn')) : WX D ((lawBody D.w).drop 17) (lq R) (le D.w D.A D.env R) h tk gn := by
  obtain ⟨l, hl17⟩ : ∃ l, l = (lawBody D.w).drop 17 := ⟨_, rfl⟩
  rw [← hl17]
  conv at hl17 => rhs; whnf
  subst hl17
  have hs' : src = six.map (sg bl) := M.hsrc
  have hl : six.length ≤ 12 := by rw [M.hsil]; exact W.hlen
  have hsz : (byteArr src).size ≤ 100 := by have := KBw.ints_length (byteArr src); rw [KBx_ints M.hsrb, M.hsrl] at this; omega
  have hde : decOf bl big (byteArr src) = if six.length % 4 = 1 then none else some (dec big six) := by rw [hs']; exact dec_of W.hsL W.hbnd M.hsib
  have go : ∀ m' h' tk' gn' v, Keep m' m → LH D m' (fun j => if j = 9 then v else C j) O h' → (AllBare gn → AllBare gn') → WX D ((lawBody D.w).drop 18) (lq R) (le D.w D.A D.env R) h' tk' gn' := fun m' h' tk' gn' v V I' b' =>
    seg18 (xl := xl) K I' (k.upd (by decide) (by decide)) W M ((V _ (by decide)).trans ha) ((V _ (by decide)).trans hc) ((V _ (by decide)).trans hbg) ((V _ (by decide)).trans hg) ((V _ (by decide)).trans ho) ((V _ (by decide)).trans hcd) ((V _ (by decide)).trans hs) ((if_neg (by decide)).trans c2) ((if_neg (by decide)).trans c3) ((if_neg (by decide)).trans c7) fun h2 tk2 gn2 kp tb bare => hR h2 tk2 gn2 kp tb fun z => bare (b' z)
  refine x_if I (tv_len1 K hx hO hz (by omega)) fun h1 tk1 gn1 I1 b1 => ?_
  subst hs'
  by_cases h4 : six.length % 4 = 1
  · rw [if_pos (decide_eq_true h4)]
    refine s_then K I1 k.hx k.e hs hw M.hsib (by omega) h4 (hde.trans (if_pos h4)) hsz (fun ex => le_passes ex) fun m' h' tk' gn' hm' I' b' => (go m' h' tk' gn' (C 9) (fun y hy => hm' y fun hm => ?_) (I'.ceq fun j => ?_) fun z => b' (b1 z)).go
    · rcases mem_c hm with rfl | hm
      · exact absurd hy (by decide)
      · rw [List.mem_singleton.mp hm] at hy; exact absurd hy (by decide)
    · by_cases e : j = 9
      · rw [if_pos e, e]
      · rw [if_neg e]
  · rw [if_neg (by rw [decide_eq_false h4]; decide)]
    exact s_else K I1 k hs hw hx hbg hO hz M.hsib hl h4 (hde.trans (if_neg h4)) hsz fun m' h' tk' gn' v V I' b' => (go m' h' tk' gn' v V I' fun z => b' (b1 z)).go
end

section
variable {D : LD} {m m0 : Loc} {C : Nat → Option Value} {O : Led} {h h' : Heap} {tk : Nat} {gn : Array GenState} {p1 p2 p3 p4 p5 p6 p7 p8 p9 p10 p11 p12 p13 p14 p15 p16 p17 p18 : Pos} {x y : Str} {rest : List Stmt}
theorem ev_bytemap {xe : Addr} {bl : List UInt8} {big : Bool} {sgn : List Int} (K : D.K) (hx : C 8 = some (.ref xe)) (e : EO D xe bl big O) (hbl : bl = (byteArr sgn).toList) : EV D m C O (.Attribute (.Name (Str.ofString "engine") p1) (Str.ofString "bytemap") p2) (IsV false sgn) := by
  intro h tk gn E Q I hQ
  have fill : (Mine.hd.heap_1 D.w.params).In D.g → PR = PR := by
    delta PR
    k_fill
    exact fun _ => rfl
  clear fill
  have X := K.C.S.X.keeps K.C.le
  have T := K.C.S.T.keeps K.C.le
  have F := I.fr
  obtain ⟨dx, lk, a1, a2, a3, t1, t2, t3, tb, nn, olk, m1, m2, m3, he⟩ := e
  refine I.cell (fun nw N hO _ _ back => ?_) K
  have c8 : CV C (Str.ofString "engine") _ := ⟨8, by rfl, hx⟩
  have n1 := hO _ m1
  have n2 := hO _ m2
  clear he m3
  tb_rel
  refine hQ _ [] _ _ _ ⟨⟨tb, ?_⟩, rfl⟩ I (List.forall_mem_nil _) id
  rw [hbl]; rfl
theorem tv_big {xe : Addr} {bl : List UInt8} {big : Bool} (K : D.K) (hx : C 8 = some (.ref xe)) (e : EO D xe bl big O) (hb : mp m (Str.ofString "big") = some (.bool big)) : TV D m C O (.Compare (.Attribute (.Name (Str.ofString "engine") p1) (Str.ofString "big") p2) [.NotEq] [.Name (Str.ofString "big") p3] p4) false := by
  intro h tk gn E Q I hQ
  have fill : (Mine.hd.heap_1 D.w.params).In D.g → PR = PR := by
    delta PR
    k_fill
    exact fun _ => rfl
  clear fill
  have X := K.C.S.X.keeps K.C.le
  have T := K.C.S.T.keeps K.C.le
  have F := I.fr
  obtain ⟨dx, lk, a1, a2, a3, t1, t2, t3, tb, nn, olk, m1, m2, m3, he⟩ := e
  refine I.cell (fun nw N hO _ _ back => ?_) K
  have c8 : CV C (Str.ofString "engine") _ := ⟨8, by rfl, hx⟩
  have n1 := hO _ m1
  have n2 := hO _ m2
  clear he m3
  refine wpAny_isTrue_Compare1 ?_
  tb_rel
  rw [bne_self_eq_false]
  exact hQ _ _ _ I id
theorem ev_bsigns {sl : Addr} {us : List Value} {sgn : List Int} {n : Nat} (K : D.K) (hsg : C 6 = some (.ref sl)) (hO : (sl, W.listOf us.toArray n) ∈ O) (hsi : IntsAre us sgn) (hsl : sgn.length = 64) (hsbd : ∀ k ∈ sgn, 0 ≤ k ∧ k < 256) : EV D m C O (.Call (.Name (Str.ofString "bytes") p1) [.Name (Str.ofString "signs") p2] [] p3) (IsV false sgn) := by
  intro h tk gn E Q I hQ
  have fill : (Mine.hd.heap_1 D.w.params).In D.g → PR = PR := by
    delta PR
    k_fill
    exact fun _ => rfl
  clear fill
  have X := K.C.S.X.keeps K.C.le
  have T := K.C.S.T.keeps K.C.le
  have F := I.fr
  refine I.cell (fun nw N hO2 _ _ back => ?_) K
  have c6 : CV C (Str.ofString "signs") _ := ⟨6, by rfl, hsg⟩
  have n1 := hO2 _ hO
  have hul := hsi.length
  tb_rel
  rename Fr _ _ _ _ => F2
  rename News _ _ _ _ => N2
  exact hQ _ [] _ _ _ ⟨⟨_, rfl⟩, rfl⟩ (back _ _ F2 N2) (List.forall_mem_nil _) id
theorem ev_charmap {xe : Addr} {bl : List UInt8} {big : Bool} {sgn : List Int} (K : D.K) (hx : C 8 = some (.ref xe)) (e : EO D xe bl big O) (hbl : bl = (byteArr sgn).toList) (hsbd : ∀ k ∈ sgn, 0 ≤ k ∧ k < 256) : EV D m C O (.Attribute (.Name (Str.ofString "engine") p1) (Str.ofString "charmap") p2) (IsV true sgn) := by
  intro h tk gn E Q I hQ
  have fill : (Mine.hd.heap_1 D.w.params).In D.g → PR = PR := by
    delta PR
    k_fill
    exact fun _ => rfl
  clear fill
  have X := K.C.S.X.keeps K.C.le
  have T := K.C.S.T.keeps K.C.le
  have F := I.fr
  have he2 := I.eng e
  obtain ⟨dx, lk, a1, a2, a3, t1, t2, t3, tb, nn, olk, m1, m2, m3, he⟩ := e
  refine I.cell (fun nw N hO _ _ back => ?_) K
  have c8 : CV C (Str.ofString "engine") _ := ⟨8, by rfl, hx⟩
  have n1 := hO _ m1
  have n2 := hO _ m2
  clear he m3
  tb_rel
  refine' get_prop ?k1 ?k2 ?k3 ?k4 ?k5 ?k6 ?k7 ?k8 ?k9 ?_
  (case k1 => k_asm)
  (case k2 => k_asm)
  (case k3 => first | k_inst | fail "inst")
  (case k4 => k_is)
  (case k5 => k_is)
  (case k6 => k_is)
  (case k7 => k_is)
  (case k8 => k_is)
  (case k9 => k_is)
  refine charmap85 ((I.push K).in1 (by decide)) (by decide) he2 fun h' tk' t' k' => ?_
  dsimp only
  refine handed_on rfl ?_
  rw [hbl, chars_txt hsbd]
  exact hQ _ [] _ _ _ ⟨⟨_, rfl⟩, rfl⟩ (I.kp k') (List.forall_mem_nil _) id
theorem tv_isb {b : Array UInt8} {t : Tok} (K : D.K) (hm : mp m x = some (.bytes b t)) (hx : lk x = true) : TV D m C O (.UnaryOp .Not (.Call (.Name (Str.ofString "isinstance") p1) [.Name x p2, .Name (Str.ofString "bytes") p3] [] p4) p5) false := by
  intro h tk gn E Q I hQ
  have fill : (Mine.hd.heap_1 D.w.params).In D.g → PR = PR := by
    delta PR
    k_fill
    exact fun _ => rfl
  clear fill
  have X := K.C.S.X.keeps K.C.le
  have T := K.C.S.T.keeps K.C.le
  have F := I.fr
  tb_rel
  exact hQ _ _ _ I id
end

section
variable {D : LD} {m m0 : Loc} {C : Nat → Option Value} {O : Led} {h h' : Heap} {tk : Nat} {gn : Array GenState} {E : Value → Shared → Prop} {Q : Flow → Shared → Prop} {p1 p2 p3 p4 p5 p6 p7 p8 p9 p10 p11 p12 p13 p14 p15 p16 p17 p18 : Pos} {x y : Str} {rest : List Stmt}
noncomputable abbrev numSc : Scope := { kind := ScopeKind.function, names := [(Str.ofString ".0", NameKind.local), (Str.ofString "number", NameKind.local)], isGenerator := false, isCoroutine := false, more := [] }
theorem mod_bd (rest : List Int) {d : Int} (hd : 0 < d) : ∀ k ∈ rest.map (fun (k : Int) => k.fmod d), 0 ≤ k ∧ k < d := fun k hk => by
  obtain ⟨z, _, rfl⟩ := List.mem_map.mp hk
  rw [Int.fmod_eq_emod_of_nonneg _ (Int.le_of_lt hd)]
  exact ⟨Int.emod_nonneg _ (Int.ne_of_gt hd), Int.emod_lt_of_pos _ hd⟩
theorem ints_map {f : Int → Int} {ks : List Int} {ys : List Value} (h1 : ys.length = ks.length) (h2 : ∀ (i : Nat) (k : Int), ks[i]? = some k → ∃ y, ys[i]? = some y ∧ ∃ t, y = Value.int (f k) t) : IntsAre ys (ks.map f) := by
  refine ints_ptw (by rw [h1, List.length_map]) fun i k hk => ?_
  rw [List.getElem?_map] at hk
  obtain ⟨j, hj, rfl⟩ := Option.map_eq_some_iff.mp hk
  obtain ⟨y, ey, t, rfl⟩ := h2 i j hj
  exact ⟨t, ey⟩
theorem ev_octs {rl : Addr} {ws : List Value} {n : Nat} {ks : List Int} (K : D.K) (hr : mp m (Str.ofString "rest") = some (.ref rl)) (hO : (rl, W.listOf ws.toArray n) ∈ O) (hi : IntsAre ws ks) (hl : ks.length ≤ 12) :
    EV D m C O (.Call (.Name (Str.ofString "bytes") p1) [.ListComp (.BinOp (.Name (Str.ofString "number") p2) .Mod (.Constant (.int 256) 0 p3) p4) [⟨.Name (Str.ofString "number") p5, .Name (Str.ofString "rest") p8, [], 0⟩] numSc p6] [] p7) (IsV false (ks.map fun k => k.fmod 256)) := by
  intro h tk gn E Q I hQ
  have fill : (Mine.hd.heap_1 D.w.params).In D.g → PR = PR := by
    delta PR
    k_fill
    exact fun _ => rfl
  clear fill
  have X := K.C.S.X.keeps K.C.le
  have T := K.C.S.T.keeps K.C.le
  have F := I.fr
  refine I.cell (fun nw N hO2 _ ⟨co, _, hcl⟩ back => ?_) K
  have hsO := hO2 _ hO
  have c1 := hcl (D.L + 1, co 1) (.head _)
  tb_rel
  refine comp_K (cl := []) (ks := ks) (fun _ k y => ∃ t, y = Value.int (k.fmod 256) t) K.C.hh F N (by omega) (fun Q' hQ' => ?_) (fun i k t I oI C' oC D' m₂ h tk E' ys hk hC hx F N off ne => ?_) (fun D3 h tk ys3 g1 g2 F N off2 => ?_) (by kernel_rfl) (by decide) rfl (by decide) rfl
  · exact l_name F hr (by rfl) (hQ' _ _ _ F N (iterN_list D.w (o := co 1) N hsO hi))
  · tb_rel
    exact .mk ⟨_, _, rfl, F, N, _, rfl⟩
  · have hI := ints_map (f := fun (k : Int) => k.fmod 256) g1 g2
    have hb := mod_bd ks (d := 256) (by decide)
    obtain ⟨oct, hoct⟩ : ∃ oct : List Int, oct = ks.map fun k => k.fmod 256 := ⟨_, rfl⟩
    have hol : oct.length = ks.length := by rw [hoct, List.length_map]
    rw [← hoct] at hI hb hQ
    have hyl := hI.length
    clear off2 g1 g2
    tb_rel
    rename Fr _ _ _ _ => F3
    rename News _ _ _ _ => N3
    exact hQ _ [] _ _ _ ⟨⟨_, rfl⟩, rfl⟩ (back _ _ F3 fun q hq => N3 q (.tail _ hq)) (List.forall_mem_nil _) id
theorem x_sixes {rl : Addr} {ws : List Value} {n : Nat} {ks : List Int} (K : D.K) (I : LH D m C O h) (hr : mp m (Str.ofString "rest") = some (.ref rl)) (hO : (rl, W.listOf ws.toArray n) ∈ O) (hi : IntsAre ws ks) (hl : ks.length ≤ 12)
    (hQ : ∀ xl zs h' tk' gn', IntsAre zs (ks.map fun k => k.fmod 64) → LH D (put (Str.ofString "sixes") (.ref xl) m) C ((xl, LCg.lst zs) :: O) h' → (AllBare gn → AllBare gn') → WX D rest Q E h' tk' gn')
    (hsw : swapsWith (.ListComp (.BinOp (.Name (Str.ofString "number") p2) .Mod (.Constant (.int 64) 0 p3) p4) [⟨.Name (Str.ofString "number") p5, .Name (Str.ofString "rest") p8, [], 0⟩] numSc p6) (some (.Name (Str.ofString "sixes") p1)) p7.line D.env = pure true := by rfl) :
    WX D (.Assign [.Name (Str.ofString "sixes") p1] (.ListComp (.BinOp (.Name (Str.ofString "number") p2) .Mod (.Constant (.int 64) 0 p3) p4) [⟨.Name (Str.ofString "number") p5, .Name (Str.ofString "rest") p8, [], 0⟩] numSc p6) p7 :: rest) Q E h tk gn := by
  refine ⟨wpAny_execs_cons ?_⟩
  have fill : (Mine.hd.heap_1 D.w.params).In D.g → PR = PR := by
    delta PR
    k_fill
    exact fun _ => rfl
  clear fill
  have X := K.C.S.X.keeps K.C.le
  have T := K.C.S.T.keeps K.C.le
  have hTb := I.tabs
  have F := I.fr
  refine I.off fun co hd N ho nc => ?_
  obtain ⟨front, hfr⟩ : ∃ f, f = cl10 D.L co ++ O := ⟨_, rfl⟩
  have hsO : (rl, W.listOf ws.toArray n) ∈ front := by rw [hfr]; exact List.mem_append_right _ hO
  rw [← hfr] at N ho
  refine comp_U (s := D.st h tk gn) (ks := ks) (cl := []) (fun _ k y => ∃ t, y = Value.int (k.fmod 64) t) (fun gn' => AllBare gn → AllBare gn') K.C.hh (by omega) F N hTb (fun a => a) (fun Q' hQ' => ?_) (fun i k t I oI oC C' D' m₂ h1 tk1 gn1 E' ys hk hC hx F1 N1 off ne hlt T' hg' => ?_) (fun D' h1 tk1 gn1 ys h1 h2 F1 N1 hlt hlt2 T' hg' => ?_) K.hLT rfl hsw (by kernel_rfl) (by kernel_rfl) (by kernel_rfl)
  · exact l_name F hr (by rfl) (hQ' _ _ _ (fun _ _ e => e) (iterU_list D.w N hsO hi))
  · tb_rel
    exact .mk ⟨_, _, _, rfl, F1, N1, T', hg', _, rfl⟩
  · refine (hQ D' ys _ _ gn1 (ints_map (f := fun (k : Int) => k.fmod 64) h1 h2) ⟨co, hd, F1, fun q hq => ?_, T', forall_cons ⟨by nofun, fun hm => Nat.lt_irrefl _ (hlt2 _ hm)⟩ nc⟩ hg').go
    subst hfr
    rcases List.mem_append.mp hq with hq | hq
    · exact N1 q (.tail _ (List.mem_append_left _ hq))
    · rcases mem_c hq with rfl | hq
      · exact N1 _ (.head _)
      · exact N1 q (.tail _ (List.mem_append_right _ hq))
theorem x_pair {a b : Expr} {la lb : List Int} (K : D.K) (I : LH D m C O h) (ha : EV D m C O a (IsV false la)) (hb : EV D m C O b (IsV false lb))
    (hQ : ∀ t u h' tk' gn', LH D (put (Str.ofString "written") (mapV false la t) (put (Str.ofString "read") (mapV false lb u) m)) C O h' → (AllBare gn → AllBare gn') → WX D rest Q E h' tk' gn')
    (e1 : starEach [a, b] D.env = (false, eval a D.env) :: starEach [b] D.env := by rfl) (e2 : starEach [b] D.env = (false, eval b D.env) :: starEach [] D.env := by rfl)
    (hs : swapsWithSole [.Tuple [.Name (Str.ofString "written") p1, .Name (Str.ofString "read") p2] 0 p3] (.Tuple [a, b] 0 p4) p5.line D.env = pure false := by rfl) (hw : swappedStores [.Tuple [.Name (Str.ofString "written") p1, .Name (Str.ofString "read") p2] 0 p3] (.Tuple [a, b] 0 p4) D.env = pure (some [Str.ofString "written", Str.ofString "read"]) := by rfl) :
    WX D (.Assign [.Tuple [.Name (Str.ofString "written") p1, .Name (Str.ofString "read") p2] 0 p3] (.Tuple [a, b] 0 p4) p5 :: rest) Q E h tk gn := by
  constructor
  refine wpAny_execs_cons (Assign_Tuple_swapped (Tuple_ (args_cons (ha h tk gn _ _ I fun v X h1 tk1 gn1 hp I1 f1 b1 => args_cons (?_ : wpAny _ _ (eval b D.env) _ _ _) e2) e1)) hs hw)
  obtain ⟨⟨t, rfl⟩, rfl⟩ := hp
  refine hb h1 tk1 gn1 _ _ I1 fun v X h2 tk2 gn2 hp I2 f2 b2 => ?_
  obtain ⟨⟨u, rfl⟩, rfl⟩ := hp
  refine args_nil ?_
  refine LH.made I2 K fun nw N back => ?_
  refine newTuple_N (s := D.st h2 tk2 gn2) I2.fr N (fun h3 F3 N3 => ?_) (by show 2 ≤ sizeLine; rw [sizeLine_eq]; decide)
  refine unpackItemsN_ (s := D.st h3 tk2 gn2) F3 N3 (items := #[mapV false la t, mapV false lb u]) ⟨_, (N3 _ (.head _)).1, rfl, _, rfl⟩ K.C.hh rfl fun h4 F4 N4 => ?_
  obtain ⟨I4, _⟩ := back _ _ _ F4 N4 (fun p hp => Heap.lt_size (N p hp).1) (by nofun)
  replace I4 : LH D m C O h4 := I4.sub fun q hq => .tail _ hq
  refine assignInOrder_cons (bindName_ (LH.loc I4 (lk_nm (by rfl)) (law_sk D.w) K fun h5 I5 => ?_))
  refine assignInOrder_cons (bindName_ (LH.loc I5 (lk_nm (by rfl)) (law_sk D.w) K fun h6 I6 => ?_))
  exact assignInOrder_nil (hQ t u h6 _ gn2 I6 fun z => b2 (b1 z)).go
end

section
variable {D : LD} {m m0 : Loc} {C : Nat → Option Value} {O : Led} {h h' : Heap} {tk : Nat} {gn : Array GenState} {R : Result → Shared → Prop}
theorem seg9 {xe rl : Addr} {st od sh b a c : Int} {big txt : Bool} {rest sgn : List Int} {bl : List UInt8} {ws : List Value} {nr : Nat} {ta tc tb t1 tg tx : Tok}
    (K : D.K) (I : LH D m C O h) (k : LK D C O bl big sgn xe) (hst : 0 ≤ st ∧ st < 193) (hlen : rest.length ≤ 12) (hsgn : sgn = lawSigns st od sh) (hsnd : sgn.Nodup) (htxt : txt = ((b.fdiv 32).fmod 2 == 1))
    (ha : mp m (Str.ofString "a") = some (.int a ta)) (hc : mp m (Str.ofString "c") = some (.int c tc)) (hbg : mp m (Str.ofString "big") = some (.bool big)) (hg : mp m (Str.ofString "given") = some (mapV txt sgn tg)) (hx : mp m (Str.ofString "text") = some (.str (txtOf sgn) tx)) (hr : mp m (Str.ofString "rest") = some (.ref rl))
    (c2 : C 2 = some (.int b tb)) (c3 : C 3 = some (.int st t1)) (c7 : C 7 = some (.bool txt)) (hO : (rl, W.listOf ws.toArray nr) ∈ O) (hi : IntsAre ws rest)
    (hR : ∀ h' tk' gn', Kp D.g h' → Tabs h' → (AllBare gn → AllBare gn') → R (.ok (.ret (.bool true))) (D.st h' tk' gn')) : WX D ((lawBody D.w).drop 9) (lq R) (le D.w D.A D.env R) h tk gn := by
  obtain ⟨l, hl9⟩ : ∃ l, l = (lawBody D.w).drop 9 := ⟨_, rfl⟩
  rw [← hl9]
  conv at hl9 => rhs; whnf
  subst hl9
  obtain ⟨sl, us, h6, hOs, hus⟩ := k.hs
  obtain ⟨oct, hoct⟩ : ∃ oct : List Int, oct = rest.map fun k => k.fmod 256 := ⟨_, rfl⟩
  have hobd : ∀ k ∈ oct, 0 ≤ k ∧ k < 256 := by rw [hoct]; exact mod_bd rest (by decide)
  have hol : oct.length = rest.length := by rw [hoct, List.length_map]
  obtain ⟨sx, hsx⟩ : ∃ sx : List Int, sx = enc big oct := ⟨_, rfl⟩
  have hsxb : ∀ k ∈ sx, 0 ≤ k ∧ k < 64 := by rw [hsx]; exact enc_bd big oct hobd
  have hsxl : sx.length ≤ 24 ∧ sx.length % 4 ≠ 1 := by have := enc_len big oct; rw [← hsx] at this; omega
  obtain ⟨cod, hcod⟩ : ∃ cod : List Int, cod = sx.map (sg bl) := ⟨_, rfl⟩
  have hcbd : ∀ k ∈ cod, 0 ≤ k ∧ k < 256 := fun k hk => by
    rw [hcod] at hk
    obtain ⟨z, _, rfl⟩ := List.mem_map.mp hk
    exact sg_bd bl z
  have hcl : cod.length = sx.length := by rw [hcod, List.length_map]
  have hW : LawN st od sh b big txt rest sgn oct sx cod bl := ⟨hst, hlen, hsgn, k.hsl, hsnd, k.hsbd, htxt, k.hbl, k.hL, k.hnd, hoct, hobd, hol, hsx, hsxb, hsxl, hcod, hcbd, hcl⟩
  obtain ⟨six, hsix⟩ : ∃ six : List Int, six = rest.map fun k => k.fmod 64 := ⟨_, rfl⟩
  have hsib : ∀ k ∈ six, 0 ≤ k ∧ k < 64 := by rw [hsix]; exact mod_bd rest (by decide)
  have hsil : six.length = rest.length := by rw [hsix, List.length_map]
  obtain ⟨src, hsrc⟩ : ∃ src : List Int, src = six.map (sg bl) := ⟨_, rfl⟩
  have hsrb : ∀ k ∈ src, 0 ≤ k ∧ k < 256 := fun k hk => by
    rw [hsrc] at hk
    obtain ⟨z, _, rfl⟩ := List.mem_map.mp hk
    exact sg_bd bl z
  have hsrl : src.length = six.length := by rw [hsrc, List.length_map]
  have hM : LawM bl rest six src := ⟨hsix, hsib, hsil, hsrc, hsrb, hsrl⟩
  have hsz : ∀ l : List Int, (∀ k ∈ l, 0 ≤ k ∧ k < 256) → (byteArr l).size = l.length := fun l hl => by have := KBw.ints_length (byteArr l); rw [KBx_ints hl] at this; omega
  have hol2 : (byteArr oct).size ≤ 100 := by rw [hsz _ hobd, hol]; omega
  have hcl2 : (byteArr cod).size ≤ 100 := by rw [hsz _ hcbd, hcl]; omega
  have hdo : decOf bl big (byteArr cod) = some oct := by rw [hcod, dec_of k.hL k.hnd hsxb, if_neg hsxl.2, hsx, dec_enc big oct hobd]
  have hen : encOf bl big (byteArr oct) = cod := by rw [enc_of hobd, ← hsx, ← hcod]
  refine x_not I (tv_or (tv_ne (txt := false) (l := sgn) (ev_bytemap K k.hx k.e k.hbl) (ev_bsigns K h6 hOs hus k.hsl k.hsbd)) (tv_or (tv_ne (txt := true) (l := sgn) (ev_charmap K k.hx k.e k.hbl k.hsbd) (ev_loc (t := tx) hx (by rfl))) (tv_or (tv_big K k.hx k.e hbg) tv_or0))) fun h1 tk1 gn1 I1 b1 => ?_
  refine x_assignV (txt := false) (l := oct) K (by rfl) I1 (by rw [hoct]; exact ev_octs K hr hO hi hlen) fun to h2 tk2 gn2 I2 b2 => ?_
  refine x_assignV (txt := false) (l := cod) K (by rfl) I2 (by rw [hcod]; exact ev_signs K h6 hOs hus k.hsl k.hsbd k.hbl hsxb (by omega) (by rw [hsx]; exact el_sixes K put_eq (by rfl) (put_ne (by decide) hbg) hobd (by omega))) fun td h3 tk3 gn3 I3 b3 => ?_
  refine x_pair (la := cod) (lb := oct) K I3 ((ev_enc (b := byteArr oct) (tv := to) K k.hx k.e (put_ne (by decide) put_eq) (by rfl) (by rfl) hol2).mono fun v X p => by rw [hen] at p; exact p) (ev_dec (b := byteArr cod) (tv := td) K k.hx k.e put_eq (by rfl) (by rfl) hcl2 hdo) fun tw tr h4 tk4 gn4 I4 b4 => ?_
  obtain ⟨m4, hm4⟩ : ∃ m4, m4 = put (Str.ofString "written") (mapV false cod tw) (put (Str.ofString "read") (mapV false oct tr) (put (Str.ofString "coded") (mapV false cod td) (put (Str.ofString "octets") (mapV false oct to) m))) := ⟨_, rfl⟩
  rw [← hm4] at I4
  have e1 : mp m4 (Str.ofString "written") = some (mapV false cod tw) := by rw [hm4]; exact put_eq
  have e2 : mp m4 (Str.ofString "read") = some (mapV false oct tr) := by rw [hm4]; exact put_ne (by decide) put_eq
  have e3 : mp m4 (Str.ofString "coded") = some (mapV false cod td) := by rw [hm4]; exact put_ne (by decide) (put_ne (by decide) put_eq)
  have e4 : mp m4 (Str.ofString "octets") = some (mapV false oct to) := by rw [hm4]; exact put_ne (by decide) (put_ne (by decide) (put_ne (by decide) put_eq))
  have e5 : ∀ y v, y ∉ [Str.ofString "written", Str.ofString "read", Str.ofString "coded", Str.ofString "octets"] → mp m y = v → mp m4 y = v := fun y v hy e => by
    rw [hm4]
    exact put_ne (fun z => hy (z ▸ .head _)) (put_ne (fun z => hy (z ▸ .tail _ (.head _))) (put_ne (fun z => hy (z ▸ .tail _ (.tail _ (.head _)))) (put_ne (fun z => hy (z ▸ .tail _ (.tail _ (.tail _ (.head _))))) e)))
  clear hm4 I I1 I2 I3
  refine x_not I4 (tv_or (tv_ne (txt := false) (l := cod) (ev_loc (t := tw) e1 (by rfl)) (ev_loc (t := td) e3 (by rfl))) (tv_or (tv_ne (txt := false) (l := oct) (ev_loc (t := tr) e2 (by rfl)) (ev_loc (t := to) e4 (by rfl))) (tv_or (tv_isb (b := byteArr cod) (t := tw) K e1 (by rfl)) (tv_or (tv_isb (b := byteArr oct) (t := tr) K e2 (by rfl)) tv_or0)))) fun h5 tk5 gn5 I5 b5 => ?_
  refine x_sixes K I5 (e5 _ _ (by decide) hr) hO hi hlen fun xl zs h6' tk6 gn6 hzs I6 b6 => ?_
  rw [← hsix] at hzs
  have s6 : ∀ q ∈ O, q ∈ (xl, LCg.lst zs) :: O := fun q hq => .tail _ hq
  refine x_assignV (txt := false) (l := src) K (by rfl) I6 (by rw [hsrc]; exact ev_signs K h6 (s6 _ hOs) hus k.hsl k.hsbd k.hbl hsib (by omega) (el_list (n := zs.length) put_eq (by rfl) hzs (.head _))) fun ts h7 tk7 gn7 I7 b7 => ?_
  refine x_assignV (txt := true) (l := src) K (by rfl) I7 (ev_words K put_eq (by rfl) hsrb (by omega) (by rfl)) fun tv h8 tk8 gn8 I8 b8 => ?_
  have e6 : ∀ y v, y ∉ [Str.ofString "words", Str.ofString "source", Str.ofString "sixes"] → mp m4 y = v → mp (put (Str.ofString "words") (mapV true src tv) (put (Str.ofString "source") (mapV false src ts) (put (Str.ofString "sixes") (.ref xl) m4))) y = v := fun y v hy e =>
    put_ne (fun z => hy (z ▸ .head _)) (put_ne (fun z => hy (z ▸ .tail _ (.head _))) (put_ne (fun z => hy (z ▸ .tail _ (.tail _ (.head _)))) e))
  exact seg17 (b := b) K I8 (k.mono s6) hW hM (e6 _ _ (by decide) (e5 _ _ (by decide) ha)) (e6 _ _ (by decide) (e5 _ _ (by decide) hc)) (e6 _ _ (by decide) (e5 _ _ (by decide) hbg)) (e6 _ _ (by decide) (e5 _ _ (by decide) hg)) (e6 _ _ (by decide) e4) (e6 _ _ (by decide) e3) (put_ne (by decide) put_eq) put_eq (put_ne (by decide) (put_ne (by decide) put_eq)) c2 c3 c7 (.head _) hzs fun h9 tk9 gn9 kp tb bare => hR h9 tk9 gn9 kp tb fun z => bare (b8 (b7 (b6 (b5 (b4 (b3 (b2 (b1 z))))))))
end

section
theorem off1_all {l : Addr} : ∀ {nw : Led}, LCg.Off1 l nw → ∀ p ∈ nw, p.1 ≠ l
  | [], _, _, h => nomatch h
  | _ :: _, o, p, h => by
    rcases mem_c h with rfl | h
    · exact o.1
    · exact off1_all o.2 p h
variable {D : LD} {m : Loc} {C : Nat → Option Value} {O : Led} {h h' : Heap} {tk : Nat} {gn : Array GenState} {p1 p2 p3 p4 p5 p6 p7 p8 p9 p10 p11 p12 : Pos} {x y : Str}
theorem LH.madeN {P : Prop} (I : LH D m C O h) (K : D.K) (k : ∀ nw, News D.g D.L h nw → (∀ q ∈ O, q ∈ nw) → (∃ co, (∀ i, (co i : Obj).data = .cell (C i)) ∧ ∀ q ∈ cl10 D.L co, q ∈ nw) → (∀ h' l o, Fr D.g D.L h' (mp m) → News D.g D.L h' ((l, o) :: nw) → LCg.Off1 l nw → (∀ v, o.data ≠ .cell v) → LH D m C ((l, o) :: O) h' ∧ ∀ q ∈ [(l, o)], ∀ p ∈ O, p.1 ≠ q.1) → P) : P := by
  obtain ⟨co, hd, F, N, T, nc⟩ := I
  obtain ⟨p1, p2, p3, y1, y2, y3, q1, q2, q3, NT, _, _, _, TL⟩ := tabs_led T F K.gT
  refine k ((cl10 D.L co ++ O) ++ [(45, tabObj p1), (y1, q1), (88, tabObj p2), (y2, q2), (107, tabObj p3), (y3, q3)]) (news_join N NT) (fun q hq => List.mem_append_left _ (List.mem_append_right _ hq)) ⟨co, hd, fun q hq => List.mem_append_left _ (List.mem_append_left _ hq)⟩ fun h' l o F' N' hl hc => ?_
  replace hl := off1_all hl
  have hT : l ∉ TT := fun hm => by
    rcases mem3 hm with rfl | rfl | rfl
    · exact hl _ (List.mem_append_right _ (.head _)) rfl
    · exact hl _ (List.mem_append_right _ (.tail _ (.tail _ (.head _)))) rfl
    · exact hl _ (List.mem_append_right _ (.tail _ (.tail _ (.tail _ (.tail _ (.head _)))))) rfl
  refine ⟨⟨co, hd, F', fun q hq => ?_, TL.keep _ F'.keep fun q hq => (N' q (.tail _ (List.mem_append_right _ hq))).1, forall_cons ⟨hc, hT⟩ nc⟩, forall_cons (fun p hp => hl p (List.mem_append_left _ (List.mem_append_right _ hp))) (List.forall_mem_nil _)⟩
  rcases List.mem_append.mp hq with hq | hq
  · exact N' q (.tail _ (List.mem_append_left _ (List.mem_append_left _ hq)))
  · rcases mem_c hq with rfl | hq
    · exact N' _ (.head _)
    · exact N' q (.tail _ (List.mem_append_left _ (List.mem_append_right _ hq)))
end
section
variable {D : LD} {m : Loc} {C : Nat → Option Value} {O : Led} {h h' : Heap} {tk : Nat} {gn : Array GenState} {p1 p2 p3 p4 p5 p6 p7 p8 p9 p10 p11 p12 p13 p14 p15 p16 : Pos} {x y : Str}
theorem len3v {l : List Value} (h : l.length = 3) : ∃ a b c, l = [a, b, c] := by
  cases l with
  | nil => cases h
  | cons a l =>
    cases l with
    | nil => cases h
    | cons b l =>
      obtain ⟨c, rfl⟩ := List.length_eq_one_iff.mp (Nat.succ.inj (Nat.succ.inj h))
      exact ⟨a, b, c, rfl⟩
theorem three_vals {f : Nat → Int} {ys : List Value} (h1 : ys.length = ((List.range 3).map fun (i : Nat) => 0 + (i : Int) * 1).length) (h2 : ∀ (i : Nat) (k : Int), ((List.range 3).map fun (i : Nat) => 0 + (i : Int) * 1)[i]? = some k → ∃ y, ys[i]? = some y ∧ ∃ t, y = Value.int (f i) t) : ∃ ta tb tc, ys = [.int (f 0) ta, .int (f 1) tb, .int (f 2) tc] := by
  obtain ⟨x, y, z, rfl⟩ := len3v (h1.trans rfl)
  obtain ⟨y0, e0, ta, rfl⟩ := h2 0 0 rfl
  obtain ⟨y1, e1, tb, rfl⟩ := h2 1 1 rfl
  obtain ⟨y2, e2, tc, rfl⟩ := h2 2 2 rfl
  exact ⟨ta, tb, tc, congr (congrArg _ (Option.some.inj e0)) (congr (congrArg _ (Option.some.inj e1)) (congrArg (fun q => [q]) (Option.some.inj e2)))⟩
noncomputable abbrev abcSc : Scope := { kind := ScopeKind.function, names := [(Str.ofString ".0", NameKind.local), (Str.ofString "k", NameKind.local), (Str.ofString "len", NameKind.globalImplicit), (Str.ofString "script", NameKind.free)], isGenerator := false, isCoroutine := false, more := [] }
theorem ev_abc {sc : Addr} {vs : List Value} {ns : List Int} (K : D.K) (h1 : C 1 = some (.ref sc)) (hl : D.g.IsList sc vs.toArray) (hi : IntsAre vs ns) (hn : ns.length ≤ 63) :
    EV D m C O (.ListComp (.IfExp (.Compare (.Name (Str.ofString "k") p1) [.Lt] [.Call (.Name (Str.ofString "len") p2) [.Name (Str.ofString "script") p3] [] p4] p5) (.Subscript (.Name (Str.ofString "script") p6) (.Name (Str.ofString "k") p7) p8) (.Constant (.int 0) 0 p9) p10) [⟨.Name (Str.ofString "k") p11, .Call (.Name (Str.ofString "range") p12) [.Constant (.int 3) 0 p13] [] p14, [], 0⟩] abcSc p15)
      fun v X => ∃ l ta tb tc, v = .ref l ∧ X = [(l, LCg.lst [.int (ns.getD 0 0) ta, .int (ns.getD 1 0) tb, .int (ns.getD 2 0) tc])] := by
  intro h tk gn E Q I hQ
  have fill : (Mine.hd.heap_1 D.w.params).In D.g → PR = PR := by
    delta PR
    k_fill
    exact fun _ => rfl
  clear fill
  have X := K.C.S.X.keeps K.C.le
  have T := K.C.S.T.keeps K.C.le
  have F := I.fr
  have hvl : vs.length = ns.length := hi.length
  refine I.madeN K fun nw N _ ⟨co, hd, hcl⟩ back => ?_
  have c1 : (D.L + 1, co 1) ∈ nw := hcl (D.L + 1, co 1) (.head _)
  have d1 := (hd 1).trans (congrArg Data.cell h1)
  clear h1
  refine comp_K (s := D.st h tk gn) (cl := [(Str.ofString "script", D.L + 1)]) (ks := (List.range 3).map fun (i : Nat) => 0 + (i : Int) * 1) (fun i _ y => ∃ t, y = Value.int (ns.getD i 0) t) K.C.hh F N (by simp) (fun Q' hQ' => ?_) (fun i k t I oI C' oC D' m₂ h tk E' ys hk hC hx F N off ne => ?_) (fun D' h tk ys h1 h2 F N off1 => ?_) (by kernel_rfl) (by decide) rfl (by decide) rfl
  · k_steps
    rename IsRange _ _ _ _ _ _ _ _ => hr
    rename Fr _ _ _ _ => F'
    rename News _ _ _ _ => N'
    exact hQ' _ _ _ F' N' (iter_range D.w hr (by decide) (by decide)).n
  · obtain ⟨rfl, hi3⟩ := range_at hk
    tb_rel
    · exact .mk ⟨_, _, rfl, F, N, _, by rw [Int.toNat_natCast]⟩
    · rename (¬ _ < _) => hge
      tb_rel
      have this : ns.getD i 0 = 0 := by rw [List.getD_eq_getElem?_getD, List.getElem?_eq_none (by omega)]; rfl
      exact .mk ⟨_, _, rfl, F, N, _, by rw [this]⟩
  · obtain ⟨ta, tb, tc, rfl⟩ := three_vals (f := fun i => ns.getD i 0) h1 h2
    obtain ⟨I1, f1⟩ := back _ _ _ F N off1 (by nofun)
    exact hQ _ [_] _ _ _ ⟨_, _, _, _, rfl, rfl⟩ I1 f1 id
noncomputable abbrev sgnSc : Scope := { kind := ScopeKind.function, names := [(Str.ofString ".0", NameKind.local), (Str.ofString "k", NameKind.local), (Str.ofString "odd", NameKind.free), (Str.ofString "shift", NameKind.free), (Str.ofString "start", NameKind.free)], isGenerator := false, isCoroutine := false, more := [] }
theorem ev_sgn {st od sh : Int} {t1 t2 t3 : Tok} (K : D.K) (h3 : C 3 = some (.int st t1)) (h4 : C 4 = some (.int od t2)) (h5 : C 5 = some (.int sh t3)) :
    EV D m C O (.ListComp (.BinOp (.Name (Str.ofString "start") p1) .Add (.BinOp (.BinOp (.BinOp (.Name (Str.ofString "odd") p2) .Mult (.Name (Str.ofString "k") p3) p4) .Add (.Name (Str.ofString "shift") p5) p6) .Mod (.Constant (.int 64) 0 p7) p8) p9) [⟨.Name (Str.ofString "k") p10, .Call (.Name (Str.ofString "range") p11) [.Constant (.int 64) 0 p12] [] p13, [], 0⟩] sgnSc p14)
      fun v X => ∃ l us, v = .ref l ∧ X = [(l, LCg.lst us)] ∧ IntsAre us (lawSigns st od sh) := by
  intro h tk gn E Q I hQ
  have fill : (Mine.hd.heap_1 D.w.params).In D.g → PR = PR := by
    delta PR
    k_fill
    exact fun _ => rfl
  clear fill
  have X := K.C.S.X.keeps K.C.le
  have T := K.C.S.T.keeps K.C.le
  have F := I.fr
  refine I.madeN K fun nw N _ ⟨co, hd, hcl⟩ back => ?_
  have c3 : (D.L + 1 + 1 + 1, co 3) ∈ nw := hcl (D.L + 3, co 3) (List.mem_map_of_mem (f := fun i => (D.L + i, co i)) (show 3 ∈ cells by decide))
  have c4 : (D.L + 1 + 1 + 1 + 1, co 4) ∈ nw := hcl (D.L + 4, co 4) (List.mem_map_of_mem (f := fun i => (D.L + i, co i)) (show 4 ∈ cells by decide))
  have c5 : (D.L + 1 + 1 + 1 + 1 + 1, co 5) ∈ nw := hcl (D.L + 5, co 5) (List.mem_map_of_mem (f := fun i => (D.L + i, co i)) (show 5 ∈ cells by decide))
  have d3 := (hd 3).trans (congrArg Data.cell h3)
  have d4 := (hd 4).trans (congrArg Data.cell h4)
  have d5 := (hd 5).trans (congrArg Data.cell h5)
  clear h3 h4 h5
  refine comp_K (s := D.st h tk gn) (ks := (List.range 64).map fun (i : Nat) => 0 + (i : Int) * 1) (fun i _ y => ∃ t, y = Value.int (st + (od * (i : Int) + sh).fmod 64) t) K.C.hh F N (by simp) (fun Q' hQ' => ?_) (fun i k t I oI C' oC D' m₂ h tk E' ys hk hC hx F N off ne => ?_) (fun D' h tk ys h1 h2 F N off1 => ?_) (by rfl) (by decide) rfl (by decide) rfl
  · k_steps
    rename IsRange _ _ _ _ _ _ _ _ => hr
    rename Fr _ _ _ _ => F'
    rename News _ _ _ _ => N'
    exact hQ' _ _ _ F' N' (iter_range D.w hr (by decide) (by decide)).n
  · obtain ⟨rfl, hi3⟩ := range_at hk
    tb_rel
    exact .mk ⟨_, _, rfl, F, N, _, rfl⟩
  · obtain ⟨I1, f1⟩ := back _ _ _ F N off1 (by nofun)
    refine hQ _ [_] _ _ _ ⟨_, _, rfl, rfl, ?_⟩ I1 f1 id
    refine ints_ptw (by rw [h1]; simp [lawSigns]) fun i k hk => ?_
    rw [lawSigns, List.getElem?_map] at hk
    obtain ⟨j, hj, rfl⟩ := Option.map_eq_some_iff.mp hk
    obtain ⟨g1, g2⟩ := List.getElem?_eq_some_iff.mp hj
    rw [List.getElem_range] at g2
    rw [List.length_range] at g1
    subst g2
    obtain ⟨y, ey, t, rfl⟩ := h2 i (0 + (i : Int) * 1) (by rw [List.getElem?_map, List.getElem?_range g1]; rfl)
    exact ⟨t, ey⟩
end

section
variable {D : LD} {m : Loc} {C : Nat → Option Value} {O : Led} {h h' : Heap} {tk : Nat} {gn : Array GenState} {E : Value → Shared → Prop} {Q : Flow → Shared → Prop} {p1 p2 p3 p4 p5 p6 p7 p8 p9 p10 p11 p12 p13 p14 p15 p16 : Pos} {x y : Str} {rest : List Stmt}
theorem ev_rest {sc : Addr} {vs : List Value} {ns : List Int} (K : D.K) (h1 : C 1 = some (.ref sc)) (hl : D.g.IsList sc vs.toArray) (hi : IntsAre vs ns) (hn : ns.length ≤ 63) :
    EV D m C O (.Subscript (.Name (Str.ofString "script") p1) (.Slice (some (.Constant (.int 3) 0 p2)) (some (.Constant (.int 15) 0 p3)) none p4) p5) (IsN (List.take (min 15 ns.length - 3) (List.drop 3 ns))) := by
  intro h tk gn E Q I hQ
  have fill : (Mine.hd.heap_1 D.w.params).In D.g → PR = PR := by
    delta PR
    k_fill
    exact fun _ => rfl
  clear fill
  have X := K.C.S.X.keeps K.C.le
  have T := K.C.S.T.keeps K.C.le
  have F := I.fr
  have hvl : vs.length = ns.length := hi.length
  have c1 : CV C (Str.ofString "script") _ := ⟨1, by rfl, h1⟩
  refine I.made K fun nw N back => ?_
  have hlh : h.IsList sc vs.toArray := hl.at fun o e => F.keep _ o e
  iterate 8 tb_start
  refine kmk_slice_ints (s := D.st h _ gn) F N hlh (.int 3 _) (.int 15 _) hi (kmk_run (x := 3) (y := 15) hi (by decide) (by decide)) rfl (fun D5 us h5 F5 N5 l5 hI5 _ _ => ?_) (by with_unfolding_all rfl) (fun _ => rfl) (by rw [sizeLine_eq, List.size_toArray]; omega)
  obtain ⟨I1, f1⟩ := back _ _ _ F5 N5 l5 (by nofun)
  exact hQ _ [_] _ _ _ ⟨_, _, _, rfl, rfl, hI5⟩ I1 f1 id
theorem ev_sos {a b c : Int} {ta tb tc : Tok} (K : D.K) (ha : mp m (Str.ofString "a") = some (.int a ta)) (h2 : C 2 = some (.int b tb)) (hc : mp m (Str.ofString "c") = some (.int c tc)) :
    EV D m C O (.Tuple [.BinOp (.Name (Str.ofString "a") p1) .Mod (.Constant (.int 193) 0 p2) p3, .BinOp (.BinOp (.Constant (.int 2) 0 p4) .Mult (.BinOp (.Name (Str.ofString "b") p5) .Mod (.Constant (.int 32) 0 p6) p7) p8) .Add (.Constant (.int 1) 0 p9) p10, .BinOp (.Name (Str.ofString "c") p11) .Mod (.Constant (.int 64) 0 p12) p13] 0 p14)
      fun v X => ∃ Ta n t1 t2 t3, v = .ref Ta ∧ X = [(Ta, tupO [.int (a.fmod 193) t1, .int (2 * b.fmod 32 + 1) t2, .int (c.fmod 64) t3] n)] := by
  intro h tk gn E Q I hQ
  have fill : (Mine.hd.heap_1 D.w.params).In D.g → PR = PR := by
    delta PR
    k_fill
    exact fun _ => rfl
  clear fill
  have X := K.C.S.X.keeps K.C.le
  have T := K.C.S.T.keeps K.C.le
  have F := I.fr
  have c2 : CV C (Str.ofString "b") _ := ⟨2, by rfl, h2⟩
  refine I.made K fun nw N back => ?_
  tb_rel
  rename Fr _ _ _ _ => F1
  rename News _ _ _ _ => N1
  obtain ⟨I1, f1⟩ := back _ _ _ F1 N1 (by assumption) (by nofun)
  exact hQ _ [_] _ _ _ ⟨_, _, _, _, _, rfl, rfl⟩ I1 f1 id
theorem ev_big {c : Int} {tc : Tok} (K : D.K) (hc : mp m (Str.ofString "c") = some (.int c tc)) :
    EV D m C O (.Compare (.BinOp (.BinOp (.Name (Str.ofString "c") p1) .FloorDiv (.Constant (.int 64) 0 p2) p3) .Mod (.Constant (.int 2) 0 p4) p5) [.Eq] [.Constant (.int 1) 0 p6] p7) fun v X => v = .bool ((c.fdiv 64).fmod 2 == 1) ∧ X = [] := by
  intro h tk gn E Q I hQ
  have fill : (Mine.hd.heap_1 D.w.params).In D.g → PR = PR := by
    delta PR
    k_fill
    exact fun _ => rfl
  clear fill
  have X := K.C.S.X.keeps K.C.le
  have T := K.C.S.T.keeps K.C.le
  have F := I.fr
  tb_rel
  exact hQ _ [] _ _ _ ⟨rfl, rfl⟩ I (List.forall_mem_nil _) id
theorem ev_texts {b : Int} {tb : Tok} (K : D.K) (h2 : C 2 = some (.int b tb)) :
    EV D m C O (.Compare (.BinOp (.BinOp (.Name (Str.ofString "b") p1) .FloorDiv (.Constant (.int 32) 0 p2) p3) .Mod (.Constant (.int 2) 0 p4) p5) [.Eq] [.Constant (.int 1) 0 p6] p7) fun v X => v = .bool ((b.fdiv 32).fmod 2 == 1) ∧ X = [] := by
  intro h tk gn E Q I hQ
  have fill : (Mine.hd.heap_1 D.w.params).In D.g → PR = PR := by
    delta PR
    k_fill
    exact fun _ => rfl
  clear fill
  have X := K.C.S.X.keeps K.C.le
  have T := K.C.S.T.keeps K.C.le
  have F := I.fr
  have c2 : CV C (Str.ofString "b") _ := ⟨2, by rfl, h2⟩
  tb_rel
  exact hQ _ [] _ _ _ ⟨rfl, rfl⟩ I (List.forall_mem_nil _) id
theorem ev_given {sl : Addr} {us : List Value} {sgn : List Int} {n : Nat} {txt : Bool} {tx : Tok} (K : D.K) (h7 : C 7 = some (.bool txt)) (hx : mp m (Str.ofString "text") = some (.str (txtOf sgn) tx)) (hsg : C 6 = some (.ref sl)) (hO : (sl, W.listOf us.toArray n) ∈ O) (hsi : IntsAre us sgn) (hsl : sgn.length = 64) (hsbd : ∀ k ∈ sgn, 0 ≤ k ∧ k < 256) :
    EV D m C O (.IfExp (.Name (Str.ofString "texts") p1) (.Name (Str.ofString "text") p2) (.Call (.Name (Str.ofString "bytes") p3) [.Name (Str.ofString "signs") p4] [] p5) p6) (IsV txt sgn) := by
  intro h tk gn E Q I hQ
  have c7 : CV C (Str.ofString "texts") _ := ⟨7, by rfl, h7⟩
  refine wpAny_IfExp (isTrue_plain (l_any c7 I (wpAny_truthy_bool ?_)))
  cases txt
  · exact ev_bsigns K hsg hO hsi hsl hsbd h tk gn E Q I hQ
  · exact ev_loc hx (by rfl) h tk gn E Q I hQ
theorem ev_new {sgn : List Int} {big txt : Bool} {tg : Tok} (K : D.K) (hsbd : ∀ k ∈ sgn, 0 ≤ k ∧ k < 256) (hsl : sgn.length = 64) (hsnd : sgn.Nodup) (hg : mp m (Str.ofString "given") = some (mapV txt sgn tg)) (hbg : mp m (Str.ofString "big") = some (.bool big)) :
    EV D m C O (.Call (.Name (Str.ofString "Base64Engine") p1) [.Name (Str.ofString "given") p2] [⟨some (Str.ofString "big"), .Name (Str.ofString "big") p3, p5⟩] p4) fun v X => ∃ xe, v = .ref xe ∧ ∀ O', (∀ q ∈ X, q ∈ O') → EO D xe (byteArr sgn).toList big O' := by
  intro h tk gn E Q I hQ
  have fill : (Mine.hd.heap_1 D.w.params).In D.g → PR = PR := by
    delta PR
    k_fill
    exact fun _ => rfl
  clear fill
  have X := K.C.S.X.keeps K.C.le
  have T := K.C.S.T.keeps K.C.le
  have F := I.fr
  tb_rel
  exact new_eng K I hsbd hsl hsnd (.inr (.inl rfl)) fun xe X h1 tk1 gn1 eo I1 f1 b1 => hQ _ X _ _ _ ⟨xe, rfl, eo⟩ I1 f1 b1
/-- the text of a list of signs -/
theorem el_cell {l : Addr} {vs : List Value} {n i : Nat} {ks : List Int} (c : CN D x i) (hm : C i = some (.ref l)) (hi : IntsAre vs ks) (hO : (l, W.listOf vs.toArray n) ∈ O) : EL D m C O (.Name x p1) ks := fun h tk gn E Q I hQ =>
  l_cell I hm c.hi c.hk c.hc c.hb (hQ l vs n h tk hi (fun _ _ e => e) (forall_cons ⟨I.get hO, I.nL hO⟩ (List.forall_mem_nil _)))
theorem ev_wordsE {src : List Int} {iter : Expr} (K : D.K) (hit : EL D m C O iter src) (hsb : ∀ k ∈ src, 0 ≤ k ∧ k < 256) (hl : src.length ≤ 100) (h25 : (p2.endLine == p7.line) = true) (hs : ∀ x, foldedSetIterable iter D.env x = pure x := by intro _; rfl) :
    EV D m C O (.Call (.Attribute (.Constant (.str (Str.ofString "")) 0 p1) (Str.ofString "join") p2) [.ListComp (.Call (.Name (Str.ofString "chr") p3) [.Name (Str.ofString "sign") p4] [] p5) [⟨.Name (Str.ofString "sign") p6, iter, [], 0⟩] chrSc p9] [] p7) (IsV true src) := by
  intro h tk gn E Q I hQ
  have fill : (Mine.hd.heap_1 D.w.params).In D.g → PR = PR := by
    delta PR
    k_fill
    exact fun _ => rfl
  clear fill
  have X := K.C.S.X.keeps K.C.le
  have T := K.C.S.T.keeps K.C.le
  have F := I.fr
  refine I.cell (fun nw N hO2 _ ⟨co, _, hcl⟩ back => ?_) K
  refine MCallC h25 rfl ?_
  tb_rel
  refine comp_KX (cl := []) (ks := src) (fun _ k y => ∃ t, y = Value.str ⟨#[k.toNat]⟩ t) (fun q => ∃ vs n, q.2 = W.listOf vs.toArray n ∧ IntsAre vs src) K.C.hh F N (by omega) (fun Q' hQ' => ?_) (fun q _ i k t I oI C' oC D' m₂ h tk E' ys hk hC hx F N off ne => ?_) (fun q _ D3 h tk ys3 g1 g2 F N off2 => ?_) (by kernel_rfl) (by decide) rfl (by decide) rfl hs
  · refine hit h _ gn E _ I fun l vs n h1 tk1 hi kp Nl => ?_
    have N2 := news_join Nl (news_kp N kp)
    exact hQ' _ h1 _ (l, W.listOf vs.toArray n) ⟨vs, n, rfl, hi⟩ (fr_kp F kp) N2 (iterN_list D.w (o := co 1) N2 (.head _) hi)
  · obtain ⟨hk0, hk1⟩ := hsb k (List.mem_of_getElem? hk)
    tb_rel
    exact .mk ⟨_, _, rfl, F, N, _, rfl⟩
  · clear off2
    tb_rel
    refine join_listW (list_at (N _ (.head _)).1) (SignsAre.strs ⟨g1, g2⟩) (by decide) ?_ ?_
    · rw [ones_sum, List.length_map]; omega
    intro t' k
    rw [show Txt.join (Str.ofString "") (src.map fun k => (⟨#[k.toNat]⟩ : Str)) = txtOf src from by rw [txt_join, join_txt]]
    exact hQ _ [] _ _ _ ⟨⟨_, rfl⟩, rfl⟩ (back _ _ F fun q hq => N q (.tail _ (.tail _ hq))) (List.forall_mem_nil _) id
theorem x_abc {e : Expr} {P : Value → Value → Value → Prop} (K : D.K) (I : LH D m C O h) (he : EV D m C O e fun v X => ∃ l ta tb tc, v = .ref l ∧ X = [(l, LCg.lst [ta, tb, tc])] ∧ P ta tb tc)
    (hQ : ∀ ta tb tc h' tk' gn', P ta tb tc → LH D (put (Str.ofString "c") tc (put (Str.ofString "a") ta m)) (fun j => if j = 2 then some tb else C j) O h' → (AllBare gn → AllBare gn') → WX D rest Q E h' tk' gn')
    (hs : swapsWithSole [.Tuple [.Name (Str.ofString "a") p1, .Name (Str.ofString "b") p2, .Name (Str.ofString "c") p3] 0 p4] e p5.line D.env = pure false := by rfl) (hw : swappedStores [.Tuple [.Name (Str.ofString "a") p1, .Name (Str.ofString "b") p2, .Name (Str.ofString "c") p3] 0 p4] e D.env = pure none := by rfl) :
    WX D (.Assign [.Tuple [.Name (Str.ofString "a") p1, .Name (Str.ofString "b") p2, .Name (Str.ofString "c") p3] 0 p4] e p5 :: rest) Q E h tk gn := by
  constructor
  refine wpAny_execs_cons (Assign_Tuple (he h tk gn _ _ I fun v X h1 tk1 gn1 hp I1 f1 b1 => ?_) hs hw)
  obtain ⟨l, ta, tb, tc, rfl, rfl, hp⟩ := hp
  refine I1.cell (fun nw N hO _ _ back => ?_) K
  refine kun_list (s := D.st h1 tk1 gn1) I1.fr N (items := #[ta, tb, tc]) ⟨_, I1.get (.head _), rfl, _, rfl⟩ K.C.hh rfl rfl fun h2 F2 N2 => ?_
  have I2 := (back _ _ F2 N2).sub (O' := O) fun q hq => .tail _ hq
  refine assignInOrder_cons (assign_Name (I2.loc (lk_nm (by rfl)) (law_sk D.w) K fun h3 I3 => ?_))
  refine assignInOrder_cons (assign_Name (I3.set (cn_b (D := D)).hi (cn_b (D := D)).hk (cn_b (D := D)).hc (law_sk D.w) fun h4 I4 => ?_))
  refine assignInOrder_cons (assign_Name (I4.loc (lk_nm (by rfl)) (law_sk D.w) K fun h5 I5 => ?_))
  exact assignInOrder_nil (hQ ta tb tc h5 _ gn1 hp I5 b1).go
theorem x_sos {e : Expr} {P : Value → Value → Value → Prop} (K : D.K) (I : LH D m C O h) (he : EV D m C O e fun v X => ∃ Ta n ta tb tc, v = .ref Ta ∧ X = [(Ta, tupO [ta, tb, tc] n)] ∧ P ta tb tc)
    (hQ : ∀ ta tb tc h' tk' gn', P ta tb tc → LH D m (fun j => if j = 5 then some tc else if j = 4 then some tb else if j = 3 then some ta else C j) O h' → (AllBare gn → AllBare gn') → WX D rest Q E h' tk' gn')
    (hs : swapsWithSole [.Tuple [.Name (Str.ofString "start") p1, .Name (Str.ofString "odd") p2, .Name (Str.ofString "shift") p3] 0 p4] e p5.line D.env = pure false := by rfl) (hw : swappedStores [.Tuple [.Name (Str.ofString "start") p1, .Name (Str.ofString "odd") p2, .Name (Str.ofString "shift") p3] 0 p4] e D.env = pure none := by rfl) :
    WX D (.Assign [.Tuple [.Name (Str.ofString "start") p1, .Name (Str.ofString "odd") p2, .Name (Str.ofString "shift") p3] 0 p4] e p5 :: rest) Q E h tk gn := by
  constructor
  refine wpAny_execs_cons (Assign_Tuple (he h tk gn _ _ I fun v X h1 tk1 gn1 hp I1 f1 b1 => ?_) hs hw)
  obtain ⟨Ta, n, ta, tb, tc, rfl, rfl, hp⟩ := hp
  refine I1.cell (fun nw N hO _ _ back => ?_) K
  refine unpackN_ (s := D.st h1 tk1 gn1) I1.fr N (t := Ta) (items := #[ta, tb, tc]) ⟨_, I1.get (.head _), rfl, n, rfl⟩ K.C.hh rfl rfl fun h2 F2 N2 => ?_
  have I2 := (back _ _ F2 N2).sub (O' := O) fun q hq => .tail _ hq
  have k3 : CN D (Str.ofString "start") 3 := cn_start
  have k4 : CN D (Str.ofString "odd") 4 := cn_of (by rfl)
  have k5 : CN D (Str.ofString "shift") 5 := cn_of (by rfl)
  refine assignInOrder_cons (assign_Name (I2.set k3.hi k3.hk k3.hc (law_sk D.w) fun h3 I3 => ?_))
  refine assignInOrder_cons (assign_Name (I3.set k4.hi k4.hk k4.hc (law_sk D.w) fun h4 I4 => ?_))
  refine assignInOrder_cons (assign_Name (I4.set k5.hi k5.hk k5.hc (law_sk D.w) fun h5 I5 => ?_))
  exact assignInOrder_nil (hQ ta tb tc h5 _ gn1 hp I5 b1).go
end

section
variable {D : LD} {m : Loc} {C : Nat → Option Value} {O : Led} {h h' : Heap} {tk : Nat} {gn : Array GenState} {R : Result → Shared → Prop}
theorem seg0_rest (ns : List Int) : ∃ rest, rest = List.take (min 15 ns.length - 3) (List.drop 3 ns) ∧ rest.length ≤ 12 :=
  ⟨_, rfl, Nat.le_trans (List.length_take_le _ _) (Nat.sub_le_sub_right (Nat.min_le_left 15 ns.length) 3)⟩
theorem seg0_facts (a b c : Int) : ∃ (st od sh : Int) (sgn : List Int), st = a.fmod 193 ∧ od = 2 * b.fmod 32 + 1 ∧ sh = c.fmod 64 ∧ (0 ≤ st ∧ st < 193) ∧ sgn = lawSigns st od sh ∧ sgn.length = 64 ∧ (∀ k ∈ sgn, 0 ≤ k ∧ k < 256) ∧ sgn.Nodup := by
  have e1 : a.fmod 193 = a % 193 := Int.fmod_eq_emod_of_nonneg _ (by decide)
  have e2 : b.fmod 32 = b % 32 := Int.fmod_eq_emod_of_nonneg _ (by decide)
  have e3 : c.fmod 64 = c % 64 := Int.fmod_eq_emod_of_nonneg _ (by decide)
  have h1 : 0 ≤ a.fmod 193 ∧ a.fmod 193 < 193 := by rw [e1]; omega
  have h2 : 0 ≤ c.fmod 64 ∧ c.fmod 64 < 64 := by rw [e3]; omega
  clear e1 e3
  exact ⟨_, _, _, _, rfl, rfl, rfl, h1, rfl, by simp [lawSigns], sgn_bd h1 h2, sgn_nd (by rw [e2]; omega) (by omega)⟩
theorem seg0 {sc : Addr} {vs : List Value} {ns : List Int} (K : D.K) (I : LH D [] C [] h) (c1 : C 1 = some (.ref sc)) (hl : D.g.IsList sc vs.toArray) (hi : IntsAre vs ns) (hn : ns.length ≤ 63)
    (hR : ∀ h' tk' gn', Kp D.g h' → Tabs h' → (AllBare gn → AllBare gn') → R (.ok (.ret (.bool true))) (D.st h' tk' gn')) : WX D (lawBody D.w) (lq R) (le D.w D.A D.env R) h tk gn := by
  obtain ⟨l, hl0⟩ : ∃ l, l = lawBody D.w := ⟨_, rfl⟩
  rw [← hl0]
  conv at hl0 => rhs; whnf
  subst hl0
  obtain ⟨a, ha⟩ : ∃ a, a = ns.getD 0 0 := ⟨_, rfl⟩
  obtain ⟨b, hb⟩ : ∃ b, b = ns.getD 1 0 := ⟨_, rfl⟩
  obtain ⟨c, hc⟩ : ∃ c, c = ns.getD 2 0 := ⟨_, rfl⟩
  obtain ⟨big, hbig⟩ : ∃ big, big = ((c.fdiv 64).fmod 2 == 1) := ⟨_, rfl⟩
  obtain ⟨txt, htxt⟩ : ∃ txt, txt = ((b.fdiv 32).fmod 2 == 1) := ⟨_, rfl⟩
  obtain ⟨rest, hrest, hlen⟩ := seg0_rest ns
  obtain ⟨st, od, sh, sgn, hst, hod, hsh, hst1, hsgn, hsl, hsbd, hsnd⟩ := seg0_facts a b c
  refine x_abc (P := fun x y z => ∃ ta tb tc, x = .int a ta ∧ y = .int b tb ∧ z = .int c tc) K I ((ev_abc K c1 hl hi hn).mono fun v X p => by
    obtain ⟨l, ta, tb, tc, p1, p2⟩ := p
    exact ⟨l, _, _, _, p1, p2, ta, tb, tc, by rw [ha], by rw [hb], by rw [hc]⟩) fun xa xb xc h1 tk1 gn1 p1 I1 b1 => ?_
  obtain ⟨ta, tb, tc, rfl, rfl, rfl⟩ := p1
  refine x_assign K (by rfl) I1 (ev_rest K ((if_neg (by decide)).trans c1) hl hi hn) fun v X h2 tk2 gn2 p2 I2 f2 b2 => ?_
  obtain ⟨rl, ws, nr, rfl, rfl, hws⟩ := p2
  rw [← hrest] at hws
  refine x_sos (P := fun x y z => ∃ t1 t2 t3, x = .int st t1 ∧ y = .int od t2 ∧ z = .int sh t3) K I2 ((ev_sos (a := a) (b := b) (c := c) (ta := ta) (tb := tb) (tc := tc) K (by rfl) (by rfl) (by rfl)).mono fun v X p => by
    obtain ⟨Ta, n, t1, t2, t3, p1, p2⟩ := p
    exact ⟨Ta, n, _, _, _, p1, p2, t1, t2, t3, by rw [hst], by rw [hod], by rw [hsh]⟩) fun x1 x2 x3 h3 tk3 gn3 p3 I3 b3 => ?_
  obtain ⟨t1, t2, t3, rfl, rfl, rfl⟩ := p3
  refine x_assign K (by rfl) I3 (ev_big (c := c) (tc := tc) K (by rfl)) fun v X h4 tk4 gn4 p4 I4 f4 b4 => ?_
  obtain ⟨rfl, rfl⟩ := p4
  rw [← hbig] at I4
  obtain ⟨C4, hC4⟩ : ∃ C4 : Nat → Option Value, C4 = fun j => if j = 5 then some (.int sh t3) else if j = 4 then some (.int od t2) else if j = 3 then some (.int st t1) else if j = 2 then some (.int b tb) else C j := ⟨_, rfl⟩
  rw [← hC4] at I4
  obtain ⟨m4, hm4⟩ : ∃ m4, m4 = put (Str.ofString "big") (.bool big) (put (Str.ofString "rest") (.ref rl) (put (Str.ofString "c") (.int c tc) (put (Str.ofString "a") (.int a ta) []))) := ⟨_, rfl⟩
  rw [← hm4] at I4
  have c2 : C4 2 = some (.int b tb) := by rw [hC4]; rfl
  have c3 : C4 3 = some (.int st t1) := by rw [hC4]; rfl
  have c4 : C4 4 = some (.int od t2) := by rw [hC4]; rfl
  have c5 : C4 5 = some (.int sh t3) := by rw [hC4]; rfl
  have ma : mp m4 (Str.ofString "a") = some (.int a ta) := by rw [hm4]; rfl
  have mc : mp m4 (Str.ofString "c") = some (.int c tc) := by rw [hm4]; rfl
  have mr : mp m4 (Str.ofString "rest") = some (.ref rl) := by rw [hm4]; rfl
  have mb : mp m4 (Str.ofString "big") = some (.bool big) := by rw [hm4]; rfl
  clear I I1 I2 I3 hC4 hm4
  refine x_cell K (cn_of (by rfl)) I4 (ev_sgn K c3 c4 c5) fun v X h5 tk5 gn5 p5 I5 f5 b5 => ?_
  obtain ⟨sl, us, rfl, rfl, hus⟩ := p5
  rw [← hsgn] at hus
  refine x_assignV (txt := true) (l := sgn) K (by rfl) I5 (ev_wordsE K (el_cell (n := us.length) (cn_of (by rfl)) (if_pos rfl) hus (.head _)) hsbd (by omega) (by rfl)) fun tx h6 tk6 gn6 I6 b6 => ?_
  refine x_cell K (cn_of (by rfl)) I6 (ev_texts K ((if_neg (by decide)).trans c2)) fun v X h7 tk7 gn7 p7 I7 f7 b7 => ?_
  obtain ⟨rfl, rfl⟩ := p7
  rw [← htxt] at I7
  refine x_assignV (txt := txt) (l := sgn) K (by rfl) I7 (ev_given (n := us.length) K (if_pos rfl) put_eq ((if_neg (by decide)).trans (if_pos rfl)) (.head _) hus hsl hsbd) fun tg h8 tk8 gn8 I8 b8 => ?_
  refine x_cell K (cn_of (by rfl)) I8 (ev_new K hsbd hsl hsnd put_eq (put_ne (by decide) (put_ne (by decide) mb))) fun v X h9 tk9 gn9 p9 I9 f9 b9 => ?_
  obtain ⟨xe, rfl, eo⟩ := p9
  have hbl : (byteArr sgn).toList.length = 64 := sg_fold hsbd hsl
  have eo9 := eo (X ++ ([] ++ ([(sl, LCg.lst us)] ++ ([] ++ ([(rl, W.listOf ws.toArray nr)] ++ []))))) fun q hq => List.mem_append_left _ hq
  refine seg9 (b := b) (od := od) (sh := sh) K I9 ⟨if_pos rfl, eo9, ⟨sl, us, (if_neg (by decide)).trans ((if_neg (by decide)).trans (if_pos rfl)), List.mem_append_right _ (.head _), hus⟩, hsl, hsbd, rfl, hbl, (I9.eng eo9).nd⟩ hst1 hlen hsgn hsnd htxt (put_ne (by decide) (put_ne (by decide) ma)) (put_ne (by decide) (put_ne (by decide) mc)) (put_ne (by decide) (put_ne (by decide) mb)) put_eq (put_ne (by decide) put_eq) (put_ne (by decide) (put_ne (by decide) mr))
    ((if_neg (by decide)).trans ((if_neg (by decide)).trans ((if_neg (by decide)).trans c2))) ((if_neg (by decide)).trans ((if_neg (by decide)).trans ((if_neg (by decide)).trans c3))) ((if_neg (by decide)).trans (if_pos rfl)) (List.mem_append_right _ (.tail _ (.head _))) hws fun h' tk' gn' kp tb bare => hR h' tk' gn' kp tb fun z => bare (b9 (b8 (b7 (b6 (b5 (b4 (b3 (b2 (b1 z))))))))) 
end


theorem cells_co {cm : Str → Option Value} {l : List (Str × Addr)} {cells : Led} (x : CellsAre cm l cells) : ∃ os : Nat → Obj, (∀ i, (os i).data = .cell ((l[i]?.map fun p => cm p.1).getD none)) ∧ ∀ i p, l[i]? = some p → (p.2, os i) ∈ cells := by
  induction x with
  | nil => exact ⟨fun _ => ⟨.none, none, .cell none, #[]⟩, fun _ => rfl, fun i p h => nomatch h⟩
  | @cons n c o cs cells h r ih =>
    obtain ⟨os, h1, h2⟩ := ih
    refine ⟨fun | 0 => o | i + 1 => os i, fun | 0 => h | i + 1 => h1 i, fun i p e => ?_⟩
    match i, e with
    | 0, e => cases e; exact .head _
    | i + 1, e => exact .tail _ (h2 i p e)
theorem list_off {h : Heap} {sc : Addr} {items : Array Value} (T0 : Tabs h) (hl : h.IsList sc items) : sc ∉ TT := fun hm => by
  obtain ⟨ol, e1, e2, n1, e3⟩ := hl
  obtain ⟨ps, e⟩ := tab_fields T0 hm
  rw [e1] at e; cases e; cases e3
theorem law314 {w : World} {mean mg mb G base d u dp un gd} {s : Shared} {R : Result → Shared → Prop} {sc : Addr} {vs : List Value} {ns : List Int}
    (C : Cx w mean mg mb G ⟨none, dp, some [], gd, un⟩ base [] d u s.heap) (hd : 200 ≤ d) (hu : 2000 ≤ u) (T0 : Tabs s.heap) (hbT : ∀ b ∈ TT, base.get? b = none) (hGb : Kp G base)
    (hl : s.heap.IsList sc vs.toArray) (hi : IntsAre vs ns) (hn : ns.length ≤ 63)
    (hR : ∀ h' tk gn, KpB TT s.heap h' → Tabs h' → (AllBare s.gens → AllBare gn) → R (.ok (.ret (.bool true))) { s with heap := h', toks := tk, gens := gn }) :
    codeAny (model PR w) ⟨none, dp, some [], gd, un⟩ (.call (.ref 314) ⟨[.ref sc], []⟩) R s := by
  have X0 := C.X
  revert X0
  delta PR
  k_fill
  intro X0
  refine enterC C (by omega) (by k_is) (by k_is) (BindsTo.of_eq rfl) rfl (by decide +kernel) ?_ rfl rfl rfl
  intro L h₁ tk cells F0 N0 Y _ _ _
  have hz := tabs_lt T0
  have hLT : L ∉ TT := fun hm => Nat.lt_irrefl _ (Nat.lt_of_lt_of_le (hz L hm) F0.above)
  have GT : ∀ b ∈ TT, G.get? b = none := fun b hb => by
    rcases mem3 hb with rfl | rfl | rfl
    · exact C.S.n45
    · exact C.S.n88
    · exact C.S.n107
  have Cg := C.hide (own := TT) hbT (fun env he => nomatch he) GT
  obtain ⟨os, hd1, hd2⟩ := cells_co Y
  have hlT := list_off T0 hl
  have gk : ∀ b o, b ∉ TT → s.heap.get? b = some o → (hideAll s.heap TT).get? b = some o := fun b o hb e => hideAll_get _ e hb
  have hi10 : ∀ i ∈ Mine.cells, ∃ n, (cellsFrom (L + 1) (lawScope w).names [])[10 - i]? = some (n, L + i) := forall_cons ⟨_, rfl⟩ (forall_cons ⟨_, rfl⟩ (forall_cons ⟨_, rfl⟩ (forall_cons ⟨_, rfl⟩ (forall_cons ⟨_, rfl⟩ (forall_cons ⟨_, rfl⟩ (forall_cons ⟨_, rfl⟩ (forall_cons ⟨_, rfl⟩ (forall_cons ⟨_, rfl⟩ (forall_cons ⟨_, rfl⟩ (List.forall_mem_nil _))))))))))
  have I : LH ⟨w, mean, mg, mb, G, dp, un, gd, base, d, u, hideAll s.heap TT, L, s⟩ [] _ [] h₁ := ⟨fun i => os (10 - i), fun i => hd1 (10 - i), fr_hide TT F0, fun q hq => news_hide2 TT N0 q (by
    rw [List.append_nil] at hq
    obtain ⟨i, hi, rfl⟩ := List.mem_map.mp hq
    obtain ⟨n, hn⟩ := hi10 i hi
    exact hd2 _ _ hn), T0.keep F0.keep, List.forall_mem_nil _⟩
  exact (seg0 (D := ⟨w, mean, mg, mb, G, dp, un, gd, base, d, u, hideAll s.heap TT, L, s⟩) ⟨Cg, hd, hu, hbT, hGb, hLT, fun b hb => hideAll_none _ hb⟩ I rfl (hl.at fun o e => gk _ o hlT e) hi hn fun h' tk' gn' kp tb bare => hR h' tk' gn' (fun b o hb e => kp b o (gk b o hb e)) tb bare).go

theorem good_law {cw : ClaimW} {cl : Str → Option Addr} {mean : ExcName → Option Value} {args : List WData} {s₁ : Shared} {h' : Heap} {tk : Nat} {gn : Array GenState} (hT : TabsAt tabs s₁.heap) (hr : ∀ a x, cw.raises a x = false)
    (hp : cw.post args (.bool true) args = true) (kp : KpB TT s₁.heap h') (tb : Tabs h') (gb : AllBare gn) : GoodWG cw cl mean args s₁ (.ok (.ret (.bool true))) { s₁ with heap := h', toks := tk, gens := gn } := by
  have grown : ∀ b, b ∈ TT → ∃ ps, h'.get? b = some (tabObj ps) := fun b hb => by
    simp only [List.mem_cons, List.not_mem_nil, or_false] at hb
    rcases hb with rfl | rfl | rfl
    · obtain ⟨p, e, _⟩ := tb.a; exact ⟨p, e⟩
    · obtain ⟨p, e, _⟩ := tb.b; exact ⟨p, e⟩
    · obtain ⟨p, e, _⟩ := tb.c; exact ⟨p, e⟩
  refine ⟨.inl ⟨_, _, [], rfl, hr _, .bool true, hp, fun _ => ⟨List.nodup_nil, fun a ha => nomatch ha⟩⟩, ⟨fun b o e => ?_, fun b o e => ?_⟩, rfl, gb⟩
  · by_cases hb : b ∈ TT
    · obtain ⟨ps, hP⟩ := grown b hb
      have hb' : b ∈ tabs.map (·.2) := hb
      obtain ⟨q, hq, rfl⟩ := List.mem_map.mp hb'
      have e2 := (hT q hq).2
      rw [e] at e2
      cases e2
      exact .inr (.inl ⟨((hT q hq).1.tab (hT q hq).2).isCodeTable, rfl, #[], ps, rfl, by rw [Array.empty_append]; exact hP⟩)
    · exact .inl (kp b o hb e)
  · by_cases hb : b ∈ TT
    · obtain ⟨ps, hP⟩ := grown b hb
      exact ⟨_, hP⟩
    · exact ⟨o, kp b o hb e⟩

theorem top : PySem.Challenge.rw_iw0007_01.Holds := by
  refine Mine.hd ?_
  k_fill
  intro w s₀ s₁ mg mb G Y fa o pm cd doc dV kV ho hd hcd hD hmg hg args vals as hpre hlay hrd hwl hlo
  have KX := km_in_of Y
  km_tabs Y
  clear Y
  refine Ground.open G ?_
  intro T B D TE TW
  clear B D TE TW
  have e1 := mg_of (n := Str.ofString "law") (v := Value.ref 314) KX (Top.g T) (by kernel_rfl)
  rw [show mg (Str.ofString "law") = some (.ref fa) from hmg] at e1
  cases e1
  clear hmg ho hd hcd hD
  wrow_args hpre hlay hrd hwl hlo
  first | refine callC_kw (enter_call ?_) | refine enter_call ?_
  w_top on
  have hT9 : TabsAt tabs s₁.heap := List.forall_mem_cons.mpr ⟨⟨codeHd_of_K KX (by kernel_rfl), hT8 45 (by simp)⟩, List.forall_mem_cons.mpr ⟨⟨codeHd_of_K KX (by kernel_rfl), hT8 88 (by simp)⟩, List.forall_mem_cons.mpr ⟨⟨codeHd_of_K KX (by kernel_rfl), hT8 107 (by simp)⟩, fun _ h => nomatch h⟩⟩⟩
  have S : St w (ExcName.means s₀.heap) mg mb (ghostOf s₁.heap tabs) := ⟨ghost_K hT9 KX (by kernel_rfl), ghost_top hT9 T, ghost_code hT9, hideAll_none _ (by simp), hideAll_none _ (by simp), hideAll_none _ (by simp)⟩
  have kH : Kp (ghostOf s₁.heap tabs) s₁.heap := fun b o e => of_hideAll _ e
  have T0 : Tabs s₁.heap := ⟨⟨#[], hT8 45 (by simp), .inl rfl⟩, ⟨#[], hT8 88 (by simp), .inl rfl⟩, ⟨#[], hT8 107 (by simp), .inl rfl⟩⟩
  rename s₁.heap.IsList _ _ => hL
  rename IntsAre _ _ => hI
  rename ¬ _ < _ => hn
  show codeAny _ ⟨none, 1 + claimMargin, some [], some [], 4⟩ _ _ _
  refine law314 (d := 300) (u := 3000) (G := ghostOf s₁.heap tabs) (base := ghostOf s₁.heap tabs) ⟨⟨rfl, kH, trivial⟩, S, kH, rfl, by decide, by decide⟩ (by decide) (by decide) T0 (fun b hb => hideAll_none _ hb) (fun _ _ e => e) hL hI (by omega) fun h' tk gn kp tb bare => ?_
  exact good_law hT9 (fun _ _ => rfl) (by wrow_post) kp tb (bare (.of_eq hg))

end Mine
set_option maxRecDepth 100000 in
theorem PySem.Challenge.cw_iw0007_01_holds : PySem.Challenge.rw_iw0007_01.Holds :=
  Mine.top
