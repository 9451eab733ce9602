import PyProof.Rows.All
import Wide.All
import OpenK.AllK
import Wide.FinOn
import PyProof.AttrMissHeap
import KE.KDictOf
import KE.KLcTest
import PyProof.Rows.GenRowsF
import PyProof.Rows.SumGenB
import KE.KDictSum
import PyProof.Rows.SortShell
import PyProof.Rows.SetFrom
import Lean
import PySem.Challenge.RW_jk0048_02
set_option Elab.async false
set_option compiler.extract_closed false
set_option linter.unusedVariables false
set_option maxRecDepth 100000
set_option maxHeartbeats 8000000
set_option pp.deepTerms false
section -- Tb
open PySem PySem.W PySem.Spec PySem.Calls PyProof.Rows PyProof.V
set_option Elab.async false
set_option maxRecDepth 100000
set_option linter.unusedVariables false
namespace Mine

/-- the frames' addresses -/
abbrev frs (outer : List Env) : List Addr := outer.filterMap (·.frame)
/-- what holds of addresses: a heap's objects that are no frame's (`At`), a heap's (`Now`), a ledger's (`Led`) -/
abbrev At (fs : List Addr) (h : Heap) : Addr → Obj → Prop := fun a o => h.get? a = some o ∧ a ∉ fs
abbrev Now (h : Heap) : Addr → Obj → Prop := fun a o => h.get? a = some o
abbrev Led (l : List (Addr × Obj)) : Addr → Obj → Prop := fun a o => (a, o) ∈ l

def Sub (H H' : Addr → Obj → Prop) : Prop := ∀ a o, H a o → H' a o
theorem Sub.refl {H : Addr → Obj → Prop} : Sub H H := fun _ _ h => h
theorem Sub.trans {H H' H'' : Addr → Obj → Prop} (a : Sub H H') (b : Sub H' H'') : Sub H H'' := fun x o e => b _ _ (a x o e)
theorem Sub.now {fs : List Addr} {h : Heap} : Sub (At fs h) (Now h) := fun _ _ e => e.1
theorem Sub.base {fs : List Addr} {g h : Heap} {L : Addr} {m : Str → Option Value} (F : Fr g L h m) : Sub (At fs g) (Now h) := fun a o e => F.keep a o e.1
theorem Sub.base2 {fs : List Addr} {g g' h : Heap} {L L' : Addr} {m m' : Str → Option Value} (F' : Fr g' L' h m') (F : Fr g L g' m) : Sub (At fs g) (Now h) := fun a o e => F'.keep _ _ (F.keep a o e.1)
theorem Sub.led {g h : Heap} {L : Addr} {l news : List (Addr × Obj)} (N : News g L h news) (hs : ∀ p ∈ l, p ∈ news) : Sub (Led l) (Now h) := fun a o e => (N (a, o) (hs _ e)).1
theorem Sub.mem {l l' : List (Addr × Obj)} (hs : ∀ p ∈ l, p ∈ l') : Sub (Led l) (Led l') := fun _ _ e => hs _ e
theorem Sub.turn {fs : List Addr} {g g' : Heap} (T : KtsTurn fs g g') : Sub (At fs g) (At fs g') := fun a o e => ⟨T.other a o e.1 e.2, e.2⟩
/-- to a callee: the frame's own ground, and the ledger -/
theorem Sub.call {fs : List Addr} {g h : Heap} {L : Addr} {m : Str → Option Value} (F : Fr g L h m) : Sub (At fs g) (At (L :: fs) h) := fun a o e =>
  ⟨F.keep a o e.1, fun q => (List.mem_cons.mp q).elim (fun q => by have := kts_self F; rw [← q, e.1] at this; cases this) e.2⟩
theorem Sub.callLed {fs : List Addr} {g h : Heap} {L : Addr} {l news : List (Addr × Obj)} (D : KtsDicts fs g) (N : News g L h news) (hs : ∀ p ∈ l, p ∈ news) : Sub (Led l) (At (L :: fs) h) := fun a o e => by
  have ⟨e1, e2, e3⟩ := N (a, o) (hs _ e)
  refine ⟨e1, fun q => (List.mem_cons.mp q).elim e2 fun q => ?_⟩
  obtain ⟨o', _, _, h1, _⟩ := D a q
  rw [e3] at h1; cases h1

/-- an instance of an own class with these fields -/
inductive Inst (H : Addr → Obj → Prop) (x C : Addr) (l : List (Str × Value)) : Prop
  | mk (dx : _) (es : _) (n : _)
    (i1 : H x ⟨.ref C, some dx, .plain, #[]⟩)
    (i2 : H dx (dictOf es n))
    (i3 : ∀ name, getL name es = some (l.lookup name)) : Inst H x C l
theorem Inst.mono {H H' : Addr → Obj → Prop} {x C : Addr} {l : List (Str × Value)} (h : Inst H x C l) (s : Sub H H') : Inst H' x C l :=
  let ⟨dx, es, n, a, b, c⟩ := h; ⟨dx, es, n, s _ _ a, s _ _ b, c⟩

def fieldsAre : List DictEntry → List (Str × Value) → Prop
  | [], [] => True
  | e :: es, (k, v) :: l => (∃ t, e.key = .str k t) ∧ e.val = v ∧ fieldsAre es l
  | _, _ => False
theorem fieldsAre.get : ∀ {es : List DictEntry} {l : List (Str × Value)}, fieldsAre es l → ∀ name, getL name es = some (l.lookup name)
  | [], [], _, name => rfl
  | e :: es, (k, v) :: l, ⟨⟨t, hk⟩, hv, hr⟩, name => by
    have ih := fieldsAre.get hr name
    unfold getL at ih ⊢
    rw [List.find?_cons, List.any_cons, List.lookup_cons]
    have e1 : e.key.isStr name = (k == name) := by rw [hk]; rfl
    have e2 : e.refKey = false := by unfold DictEntry.refKey; rw [hk]
    rw [e1, e2, Bool.false_or]
    by_cases q : k = name
    · subst q
      simp only [beq_self_eq_true, hv]
    · have q1 : (k == name) = false := beq_eq_false_iff_ne.mpr q
      have q2 : (name == k) = false := beq_eq_false_iff_ne.mpr (Ne.symm q)
      simp only [q1, q2]
      exact ih
theorem inst_of {H : Addr → Obj → Prop} {x C dx : Addr} {es : List DictEntry} {n : Nat} {l : List (Str × Value)} (a : H x ⟨.ref C, some dx, .plain, #[]⟩) (b : H dx (dictOf es n)) (c : fieldsAre es l) : Inst H x C l := ⟨dx, es, n, a, b, c.get⟩

/-- a dict with texts as keys -/
def SDict (prog : Program) (w : World) (H : Addr → Obj → Prop) (d : Addr) (kvs : List (Str × Value)) : Prop := (d == sysModules) = false ∧ ∃ o, H d o ∧ o.IsDictOf (PySem.strKind prog w) kvs
theorem SDict.mono {prog : Program} {w : World} {H H' : Addr → Obj → Prop} {d : Addr} {kvs : List (Str × Value)} (h : SDict prog w H d kvs) (s : Sub H H') : SDict prog w H' d kvs := let ⟨l, o, a, b⟩ := h; ⟨l, o, s _ _ a, b⟩
theorem SDict.at {prog : Program} {w : World} {h : Heap} {d : Addr} {kvs : List (Str × Value)} (x : SDict prog w (Now h) d kvs) : h.DictOf (PySem.strKind prog w) d kvs := Heap.dictOf_iff.mpr x.2
theorem SDict.nodup {prog : Program} {w : World} {H : Addr → Obj → Prop} {d : Addr} {kvs : List (Str × Value)} (x : SDict prog w H d kvs) : (kvs.map (·.1)).Nodup := let ⟨_, _, _, _, _, _, _, _, _, n⟩ := x; n

/-- a list with these items -/
inductive LstOf (H : Addr → Obj → Prop) (l : Addr) (vs : List Value) : Prop
  | mk (o : _) (n : _)
    (i1 : H l o)
    (i2 : o.cls = .type "list")
    (i3 : o.data = .seq vs.toArray n) : LstOf H l vs
theorem LstOf.mono {H H' : Addr → Obj → Prop} {l : Addr} {vs : List Value} (h : LstOf H l vs) (s : Sub H H') : LstOf H' l vs := let ⟨o, n, a, b, c⟩ := h; ⟨o, n, s _ _ a, b, c⟩
theorem LstOf.at {h : Heap} {l : Addr} {vs : List Value} (x : LstOf (Now h) l vs) : h.IsList l vs.toArray := let ⟨o, n, a, b, c⟩ := x; ⟨o, a, b, n, c⟩

/-- a heap that goes on: all that stood stands, but for `mods`; of the frames `fs` the slots may turn -/
structure Ext (fs mods : List Addr) (h h' : Heap) : Prop where
  size : h.objs.size ≤ h'.objs.size
  keep : ∀ b o, h.get? b = some o → b ∉ fs → b ∉ mods → h'.get? b = some o
  slots : ∀ b o, h.get? b = some o → b ∈ fs → ∃ sl, h'.get? b = some { o with slots := sl }
def Made (h h' : Heap) (tl : List (Addr × Obj)) : Prop := ∀ p ∈ tl, h'.get? p.1 = some p.2 ∧ h.get? p.1 = none
theorem Made.nil {h h' : Heap} : Made h h' [] := fun _ hp => nomatch hp
theorem News.app {h₀ h : Heap} {L : Addr} {a b : List (Addr × Obj)} (A : News h₀ L h a) (B : News h₀ L h b) : News h₀ L h (a ++ b) := fun p hp => (List.mem_append.mp hp).elim (A p) (B p)
theorem News.sub {h₀ h : Heap} {L : Addr} {a b : List (Addr × Obj)} (A : News h₀ L h a) (hs : ∀ p ∈ b, p ∈ a) : News h₀ L h b := fun p hp => A p (hs p hp)

/-- what a call stands on -/
structure Cx (K : Frag) (p : Program) (loose : List Str) (mean : ExcName → Option Value) (mg mb : Str → Option Value) (A₀ : Around) (base : Heap) (outer : List Env) (h₀ : Heap) (L : Addr) (h : Heap) (m : Str → Option Value) : Prop where
  B : Below A₀ base outer h₀
  F : Fr h₀ L h m
  X : K.In h₀
  T : Top p loose mean mg mb h₀
  XB : K.In base
  TB : Top p loose mean mg mb base
  D : KtsDicts (frs outer) h₀

section
variable {K : Frag} {p : Program} {loose : List Str} {mean : ExcName → Option Value} {mg mb : Str → Option Value} {A₀ : Around} {base h₀ h h' : Heap} {outer : List Env} {L : Addr} {m : Str → Option Value} {news tl : List (Addr × Obj)} {mods : List Addr}
theorem below_turn {g : Heap} (B : Below A₀ base outer h₀) (T : KtsTurn (frs outer) h₀ g) : Below A₀ base outer g := by
  refine ⟨B.stack, fun b o e => ?_, B.frames.of_keeps fun b o e _ => ?_⟩
  · refine T.other b o (B.stays b o e) fun q => ?_
    have := (B.frames.mem q).1
    rw [e] at this; cases this
  · obtain ⟨sl, e'⟩ := T.up e
    exact ⟨_, e', rfl⟩
theorem Cx.after (C : Cx K p loose mean mg mb A₀ base outer h₀ L h m) (E : Ext (L :: frs outer) mods h h') (hm : ∀ a ∈ mods, h₀.get? a = none) :
    ∃ g, KtsTurn (frs outer) h₀ g ∧ Cx K p loose mean mg mb A₀ base outer g L h' m ∧
      (∀ news, News h₀ L h news → (∀ p ∈ news, p.1 ∉ mods) → News g L h' news) ∧ (∀ tl, Made h h' tl → News g L h' tl) := by
  obtain ⟨B, F, X, T, XB, TB, D⟩ := C
  have nL := kts_self F
  obtain ⟨tn, ke⟩ := kts_turn_at (fs := frs outer) (g := h₀) (h := h') (fun b hb => let ⟨o, _, _, e, _⟩ := D b hb; ⟨o, e⟩)
    (fun b o e n => E.keep b o (F.keep b o e) (fun q => (List.mem_cons.mp q).elim (fun q => by rw [q, nL] at e; cases e) n) fun q => by rw [hm b q] at e; cases e)
    (fun b o e n => E.slots b o (F.keep b o e) (.tail _ n))
  obtain ⟨oL, es, ep, e1, r1, r2⟩ := F.ns
  obtain ⟨sl, e2⟩ := E.slots L oL e1 (.head _)
  have hB := below_turn B tn
  refine ⟨_, tn, ⟨hB, ⟨⟨_, es, ep, e2, r1, r2⟩, ke, by rw [tn.size]; exact F.above⟩, XB.keeps hB.stays, TB.keeps hB.stays, XB, TB, D.turn tn⟩, fun news N hn p hp => ?_, fun tl M p hp => ?_⟩
  · have ⟨a, b, c⟩ := N p hp
    refine ⟨E.keep _ _ a (fun q => (List.mem_cons.mp q).elim b fun q => ?_) (hn p hp), b, tn.none_ _ c⟩
    obtain ⟨o', _, _, h1, _⟩ := D p.1 q
    rw [c] at h1; cases h1
  · have ⟨a, b⟩ := M p hp
    refine ⟨a, (fun q => by rw [q, e1] at b; cases b), ?_⟩
    refine tn.none_ _ ?_
    cases q : h₀.get? p.1 with
    | none => rfl
    | some o => rw [F.keep _ _ q] at b; cases b
theorem OwnOff.made (N : News h₀ L h news) (M : Made h h' tl) : OwnOff tl (news.map (·.1)) := fun p hp b hb e => by
  obtain ⟨q, hq, rfl⟩ := List.mem_map.mp hb
  have h1 := (M p hp).2
  rw [e, (N q hq).1] at h1; cases h1
end

/-- the ground of a def that is entered: all that stood, but for the ledger's addresses; the frame lies above -/
structure Grd (h g : Heap) (L' : Addr) (mods : List Addr) : Prop where
  size : h.objs.size ≤ L'
  keep : ∀ b o, h.get? b = some o → b ∉ mods → g.get? b = some o
theorem Grd.sub {fs : List Addr} {h g : Heap} {L' : Addr} (G : Grd h g L' []) : Sub (At fs h) (At fs g) := fun a o e => ⟨G.keep a o e.1 (by simp), e.2⟩
theorem Grd.subs {fs : List Addr} {h g : Heap} {L' : Addr} {mods : List Addr} (G : Grd h g L' mods) : Sub (fun a o => At fs h a o ∧ a ∉ mods) (At fs g) := fun a o e => ⟨G.keep a o e.1.1 e.2, e.1.2⟩
/-- the way out: the ground may have turned -/
theorem Grd.ext {fs : List Addr} {h g g' h' : Heap} {L' : Addr} {mods : List Addr} {m : Str → Option Value} (G : Grd h g L' mods) (T : KtsTurn fs g g') (F : Fr g' L' h' m) (hf : ∀ b ∈ fs, b ∉ mods) : Ext fs mods h h' :=
  ⟨Nat.le_of_lt (Nat.lt_of_le_of_lt G.size F.ns.lt), fun b o e n q => F.keep b o (T.other b o (G.keep b o e q) n), fun b o e n => let ⟨sl, e'⟩ := T.frame b o (G.keep b o e (hf b n)) n; ⟨sl, F.keep b _ e'⟩⟩
theorem Grd.ext0 {fs : List Addr} {h g h' : Heap} {L' : Addr} {m : Str → Option Value} (G : Grd h g L' []) (F : Fr g L' h' m) : Ext fs [] h h' := G.ext KtsTurn.refl F (by simp)
theorem Grd.extT {fs : List Addr} {h g g' h' : Heap} {L' : Addr} {m : Str → Option Value} (G : Grd h g L' []) (T : KtsTurn fs g g') (F : Fr g' L' h' m) : Ext fs [] h h' := G.ext T F (by simp)
theorem Grd.made {fs : List Addr} {h g g' h' : Heap} {L' L₂ : Addr} {mods : List Addr} {l tl : List (Addr × Obj)} (G : Grd h g L' mods) (T : KtsTurn fs g g') (N : News g' L₂ h' l) (hs : ∀ p ∈ tl, p ∈ l) (hm : ∀ p ∈ tl, p.1 ∉ mods) : Made h h' tl := fun p hp => by
  have a := N p (hs p hp)
  refine ⟨a.1, ?_⟩
  cases q : h.get? p.1 with
  | none => rfl
  | some o => obtain ⟨sl, e⟩ := T.up (G.keep _ _ q (hm p hp)); have := a.2.2; rw [e] at this; cases this
theorem Grd.madeT {fs : List Addr} {h g g' h' : Heap} {L' L₂ : Addr} {l tl : List (Addr × Obj)} (G : Grd h g L' []) (T : KtsTurn fs g g') (N : News g' L₂ h' l) (hs : ∀ p ∈ tl, p ∈ l) : Made h h' tl := G.made T N hs (by simp)

section
variable {prog : Program} {w : World} {A₀ A : Around} {s : Shared} {base h₀ : Heap} {outer : List Env} {L : Addr} {m : Str → Option Value} {env : Env} {news : List (Addr × Obj)}
/-- what a scope must be for a plain call: no coroutine, no generator, a def, no cells; the parameters are locals -/
def enterOk (scope : Scope) (binds : List (Str × Value)) : Bool := decide (∀ x ∈ scope.names, x.2 ≠ .cell) && (binds.all fun x => decide (scope.names.lookup x.1 = some .local)) && !scope.isCoroutine && !scope.isGenerator && decide (scope.kind = .function)
theorem eOk {scope : Scope} {binds : List (Str × Value)} (h : enterOk scope binds = true) : (∀ x ∈ scope.names, x.2 ≠ .cell) ∧ (∀ y ∈ binds, scope.names.lookup y.1 = some .local) ∧ scope.isCoroutine = false ∧ scope.isGenerator = false ∧ scope.kind = .function := by
  unfold enterOk at h
  simp only [Bool.and_eq_true, Bool.not_eq_true', decide_eq_true_eq] at h
  exact ⟨h.1.1.1.1, locs h.1.1.1.2, h.1.1.2, h.1.2, h.2⟩
theorem enterC {K : Frag} {p : Program} {loose : List Str} {mean : ExcName → Option Value} {mg mb : Str → Option Value} {R : Result → Shared → Prop} {name qual : Str} {params : Arguments} {body : List Stmt} {scope : Scope} {dV kV doc pm cdv ct oc : Value} {an od : Option Addr} {osl : Array (Option Value)} {f : Addr} {args : Args} {binds : List (Str × Value)}
    (hA : A.frames = some (env :: outer)) (hf : env.frame = some L) (hke : env.scope.kind = .function) (F : Fr h₀ L s.heap m) (B : Below A₀ base outer h₀) (X : K.In h₀) (N : News h₀ L s.heap news) (T : Top p loose mean mg mb h₀) (D : KtsDicts (frs outer) h₀)
    (ho : K.lookup f = some ⟨oc, od, .func (fnOf name qual params body scope dV kV doc pm an cdv ct), osl⟩) (hcd : codeIn K cdv qual = true) (hroom : A.depth < recursionLimit)
    (hbind : BindsTo s (fnOf name qual params body scope dV kV doc pm an cdv ct) args binds) (hsc : enterOk scope binds = true)
    (h : ∀ g L' h₁ (tk' : Nat), let m' : Str → Option Value := fun y => binds.reverse.lookup y; let eK := envOf qual scope L' f cdv; let aK := A.deeper eK; let gK := s.gens; let dK := s.drawn; let oK := s.os;
      Fr g L' h₁ m' → News g L' h₁ news → Below A base (env :: outer) g → K.In g → Top p loose mean mg mb g → KtsDicts (frs (env :: outer)) g → Grd s.heap g L' (news.map (·.1)) →
      wpAny (model prog w) aK (execs body eK)
        (fun fl s' => R (.ok (.ret (match fl with | .ret v => v | _ => .none))) s')
        (fun e s' => wpAny (model prog w) aK (leaving eK e) (fun _ s'' => R (.error e) s'') (fun e' s'' => R (.error e') s'') s')
        ⟨h₁, gK, dK, tk', oK⟩)
     : codeAny (model prog w) A (.call (.ref f) args) R s := by
  obtain ⟨FG, BG, st, _⟩ := groundX (R := R) B F N hA hf hke
  have XS := X.keeps F.keep
  refine codeAny_call_def (fd := fnX name qual params body scope [] dV kV doc pm an cdv ct) hroom (XS _ _ ho) rfl (T.nolimit.keeps F.keep) (codeRec_of XS hcd) rfl hbind (eOk hsc).1 (eOk hsc).2.1 (fun h₁ ns kp => ?_) (eOk hsc).2.2.1 (eOk hsc).2.2.2.1 (eOk hsc).2.2.2.2
  refine h _ _ h₁ _ ⟨ns, fun b o e => kp b o (of_hideAll _ e), Nat.le_of_eq (hideAll_size _ _)⟩ (fun p hp => ?_) BG (X.keeps st) (T.keeps st) (fun b hb => ?_) ⟨Nat.le_refl _, fun b o e n => hideAll_get _ e n⟩
  · exact ⟨kp _ _ (N p hp).1, Nat.ne_of_lt (Heap.lt_size (N p hp).1), hideAll_none _ (List.mem_map_of_mem hp)⟩
  · rw [show frs (env :: outer) = L :: frs outer by simp [frs, hf]] at hb
    rcases List.mem_cons.mp hb with rfl | hb
    · obtain ⟨oL, es, ep, e1, e2, _⟩ := FG.ns
      exact ⟨oL, es, ep, e1, e2⟩
    · obtain ⟨o, es, ep, e1, e2⟩ := D b hb
      exact ⟨o, es, ep, st _ _ e1, e2⟩
theorem code_defZ {K : Frag} {p : Program} {loose : List Str} {mean : ExcName → Option Value} {mg mb : Str → Option Value} {R : Result → Shared → Prop} {name qual : Str} {params : Arguments} {body : List Stmt} {scope : Scope} {dV kV doc pm cdv ct oc : Value} {an od : Option Addr} {osl : Array (Option Value)} {f : Addr} {args : Args} {binds : List (Str × Value)}
    (hA : A.frames = some (env :: outer)) (hf : env.frame = some L) (hke : env.scope.kind = .function) (F : Fr h₀ L s.heap m) (B : Below A₀ base outer h₀) (X : K.In h₀) (N : News h₀ L s.heap news) (T : Top p loose mean mg mb h₀)
    (ho : K.lookup f = some ⟨oc, od, .func (fnOf name qual params body scope dV kV doc pm an cdv ct), osl⟩) (hcd : codeIn K cdv qual = true) (hroom : A.depth < recursionLimit)
    (hbind : BindsTo s (fnOf name qual params body scope dV kV doc pm an cdv ct) args binds) (hsc : enterOk scope binds = true)
    (h : ∀ g L' h₁ (tk' : Nat), let m' : Str → Option Value := fun y => binds.reverse.lookup y; let eK := envOf qual scope L' f cdv; let aK := A.deeper eK; let gK := s.gens; let dK := s.drawn; let oK := s.os;
      Fr h₀ L g m → Fr g L' h₁ m' → News g L' h₁ news → Below A base (env :: outer) g → K.In g → Top p loose mean mg mb g → 
      wpAny (model prog w) aK (execs body eK)
        (fun fl s' => LeaveK h₀ L m g R (match fl with | .ret v => v | _ => .none) s')
        (fun e s' => wpAny (model prog w) aK (leaving eK e) (fun _ s'' => R (.error e) s'') (fun e' s'' => R (.error e') s'') s')
        ⟨h₁, gK, dK, tk', oK⟩)
     : codeAny (model prog w) A (.call (.ref f) args) R s :=
  code_def B F X N T hA hf hke ho hcd hroom hbind (eOk hsc).2.1 (fun g L' h₁ FG F' N' B' X' T' => h g L' h₁ _ FG F' N' B' X' T') (eOk hsc).2.2.1 (eOk hsc).2.2.2.1 (eOk hsc).2.2.2.2 (eOk hsc).1
theorem code_defZS {cn : Str} {cs : Scope} {a : Addr} {ccd : Value} {g₀ : Heap} {K : Frag} {p : Program} {loose : List Str} {mean : ExcName → Option Value} {mg mb : Str → Option Value} {R : Result → Shared → Prop} {name qual : Str} {params : Arguments} {body : List Stmt} {scope : Scope} {dV kV doc pm cdv ct oc : Value} {an od : Option Addr} {osl : Array (Option Value)} {f : Addr} {args : Args} {binds : List (Str × Value)}
    (hA : A.frames = some (envOf cn cs L a ccd :: outer)) (hck : cs.kind = .function) (F : Fr h₀ L s.heap m) (B : Below A₀ base outer h₀) (X : K.In h₀) (N : News h₀ L s.heap news) (T : Top p loose mean mg mb h₀) (XB : K.In base) (TB : Top p loose mean mg mb base) (D : KtsDicts (outer.filterMap (·.frame)) h₀)
    (T0 : KtsTurn (outer.filterMap (·.frame)) g₀ h₀)
    (ho : K.lookup f = some ⟨oc, od, .func (fnOf name qual params body scope dV kV doc pm an cdv ct), osl⟩) (hcd : codeIn K cdv qual = true) (hroom : A.depth < recursionLimit)
    (hbind : BindsTo s (fnOf name qual params body scope dV kV doc pm an cdv ct) args binds) (hsc : enterOk scope binds = true)
    (h : ∀ g L' h₁ (tk' : Nat), let m' : Str → Option Value := fun y => binds.reverse.lookup y; let eK := envOf qual scope L' f cdv; let aK := A.deeper eK; let gK := s.gens; let dK := s.drawn; let oK := s.os;
      Fr h₀ L g m → Fr g L' h₁ m' → News g L' h₁ news → Below A base (envOf cn cs L a ccd :: outer) g → K.In g → Top p loose mean mg mb g → KtsDicts ((envOf cn cs L a ccd :: outer).filterMap (·.frame)) g →
      wpAny (model prog w) aK (execs body eK)
        (fun fl s' => LeaveS ((envOf cn cs L a ccd :: outer).filterMap (·.frame)) A₀ base outer K p loose mean mg mb g₀ h₀ L m g R (match fl with | .ret v => v | _ => .none) s')
        (fun e s' => wpAny (model prog w) aK (leaving eK e) (fun _ s'' => R (.error e) s'') (fun e' s'' => R (.error e') s'') s')
        ⟨h₁, gK, dK, tk', oK⟩)
     : codeAny (model prog w) A (.call (.ref f) args) R s :=
  code_defS B F X N T XB TB D T0 hA ho hcd hroom hbind (eOk hsc).2.1 (fun g L' h₁ FG F' N' B' X' T' D' => h g L' h₁ _ FG F' N' B' X' T' D') hck (eOk hsc).2.2.1 (eOk hsc).2.2.2.1 (eOk hsc).2.2.2.2 (eOk hsc).1
end

section
variable {prog : Program} {w : World} {A : Around} {E : Value → Shared → Prop} {s : Shared} {K : Frag} {x C f L d : Addr} {g : Heap} {m : Str → Option Value} {l : List (Str × Value)} {name k : Str} {v : Value} {kvs : List (Str × Value)} {tk : Tok}
theorem Inst.inst {h : Heap} (I : Inst (Now h) x C l) : ∃ ox es n, InstAt h x ox C (some (dictOf es n)) ∧ ∀ name, getL name es = some (l.lookup name) :=
  let ⟨dx, es, n, a, b, c⟩ := I; ⟨⟨.ref C, some dx, .plain, #[]⟩, es, n, ⟨a, rfl, rfl, b⟩, c⟩
theorem getI {hh9 : Heap} {gg : Array GenState} {dd : Drawn} {tk9 : Nat} {oo : OsState} {expr : Bool} {Q : Value → Shared → Prop} {attr : Option Value} (F : Fr g L hh9 m) (X : K.In g) (I : Inst (Now hh9) x C l) (hg : plainGet K C name = true) (hh : hasDictIn K C = true)
    (ha : findIn K (.ref C) name = some attr) (hn : noGet K attr = true) (hl : l.lookup name = some v) (hv : handedIn v = true) (h : Q v ⟨hh9, gg, dd, tk9 + 1, oo⟩) : wpAny (model prog w) A (getAttr (.ref x) name expr) Q E ⟨hh9, gg, dd, tk9, oo⟩ := by
  obtain ⟨ox, es, n, I, c⟩ := I.inst
  exact get_own F X I hg hh ha hn ((c name).trans (by rw [hl])) hv h
theorem methI {pl : Sem Bool} {Q : Value × List Value → Shared → Prop} (F : Fr g L s.heap m) (X : K.In g) (I : Inst (Now s.heap) x C l) (hg : plainGet K C name = true)
    (hf : findIn K (.ref C) name = some (some (.ref f))) (ht : isFn K (.ref f) = true) (hl : l.lookup name = none) (h : Q (.ref f, [.ref x]) s) : wpAny (model prog w) A (getMethod (.ref x) name pl) Q E s := by
  obtain ⟨ox, es, n, I, c⟩ := I.inst
  exact method_inst F X I hg hf ht ((c name).trans (by rw [hl])) h
theorem propI {hh9 : Heap} {gg : Array GenState} {dd : Drawn} {tk9 : Nat} {oo : OsState} {expr : Bool} {Q : Value → Shared → Prop} {p fget : Addr} {rest : List Value} (F : Fr g L hh9 m) (X : K.In g) (I : Inst (Now hh9) x C l) (hg : plainGet K C name = true) (hh : hasDictIn K C = true)
    (ha : findIn K (.ref C) name = some (some (.ref p))) (hn : specialIn K (.ref p) "__get__" = some (some (.builtin "property.__get__"))) (ht : takesIn K (.ref p) = some true) (hp : recIn K p "property" = some (.ref fget :: rest))
    (h : codeAny (model prog w) A.in1 (.call (.ref fget) ⟨[.ref x], []⟩) (fun r s' => match r with | .ok (.ret v) => wpAny (model prog w) A (handedOut v) Q E s' | .ok _ => False | .error e => wpAny (model prog w) A (noteIf true (.ref x) (.str name tk9) e) (fun _ s'' => E e s'') E s') ⟨hh9, gg, dd, tk9 + 1, oo⟩) :
    wpAny (model prog w) A (getAttr (.ref x) name expr) Q E ⟨hh9, gg, dd, tk9, oo⟩ := by
  obtain ⟨ox, es, n, I, c⟩ := I.inst
  exact get_prop F X I hg hh ha hn ht hp h
theorem inI {hh9 : Heap} {gg : Array GenState} {dd : Drawn} {tk9 : Nat} {oo : OsState} {b : Bool} {Q : Value → Shared → Prop} (D : SDict prog w (Now hh9) d kvs) (hv : (valueAt kvs k).isSome = b) (h : Q (.bool b) ⟨hh9, gg, dd, tk9 + 1, oo⟩) : wpAny (model prog w) A (compareOp .In (.str k tk) (.ref d)) Q E ⟨hh9, gg, dd, tk9, oo⟩ :=
  wpAny_in_of (strKind_is prog w k tk) D.1 D.at.mapOf (by rw [hv]; exact h)
theorem notinI {hh9 : Heap} {gg : Array GenState} {dd : Drawn} {tk9 : Nat} {oo : OsState} {b : Bool} {Q : Value → Shared → Prop} (D : SDict prog w (Now hh9) d kvs) (hv : (valueAt kvs k).isSome = b) (h : Q (.bool (!b)) ⟨hh9, gg, dd, tk9 + 1, oo⟩) : wpAny (model prog w) A (compareOp .NotIn (.str k tk) (.ref d)) Q E ⟨hh9, gg, dd, tk9, oo⟩ :=
  wpAny_notIn_of (strKind_is prog w k tk) D.1 D.at.mapOf (by rw [hv]; exact h)
theorem itemI {hh9 : Heap} {gg : Array GenState} {dd : Drawn} {tk9 : Nat} {oo : OsState} {value slice : PySem.Expr} {Q : Value → Shared → Prop} (D : SDict prog w (Now hh9) d kvs) (hv : valueAt kvs k = some v) (h : Q v ⟨hh9, gg, dd, tk9 + 1, oo⟩)
    (hs : subscripted slice false (.ref d) (.str k tk) = operate [.ref d, .str k tk] (getItem (.ref d) (.str k tk)) := by with_unfolding_all rfl) (hg : ∀ r, letTemporaryGo value (.ref d) r = pure () := by intro _; with_unfolding_all rfl) :
    wpAny (model prog w) A (subscriptTail value slice (.ref d) (.str k tk)) Q E ⟨hh9, gg, dd, tk9, oo⟩ :=
  subscriptTail_builtin D.at.typeIs slot_dict_getitem.lookup (wpAny_getItem_of (strKind_is prog w k tk) D.at.mapOf hv h) hs hg
theorem lenI {hh9 : Heap} {gg : Array GenState} {dd : Drawn} {tk9 : Nat} {oo : OsState} {Q : Value → Shared → Prop} (D : SDict prog w (Now hh9) d kvs) (hfit : kvs.length ≤ 16777216) (h : Q (.int kvs.length (tk9 + 1)) ⟨hh9, gg, dd, tk9 + 1 + 1, oo⟩) : wpAny (model prog w) A (call (.builtin "len") [.ref d]) Q E ⟨hh9, gg, dd, tk9, oo⟩ :=
  call_len_dict D.1 D.at (by omega) h
theorem has_some (hv : valueAt kvs k = some v) : (valueAt kvs k).isSome = true := by rw [hv]; rfl
theorem has_none (hv : valueAt kvs k = none) : (valueAt kvs k).isSome = false := by rw [hv]; rfl
end

/-- a mark that no line of the walk knows: the walk stops there -/
def Halt (P : Prop) : Prop := P
theorem Halt.intro {P : Prop} (h : Halt P) : P := h
theorem Halt.elim {P : Prop} (h : P) : Halt P := h

section
variable {prog : Program} {w : World} {A : Around} {E : Value → Shared → Prop} {s : Shared} {env : Env} {h₀ : Heap} {x : Str} {body : List Stmt} {Q : Flow → Shared → Prop}
def Apart (a b : List (Addr × Obj)) : Prop := ∀ p ∈ a, ∀ q ∈ b, p.1 ≠ q.1
/-- the end of a turn: the ground may have turned -/
inductive TurnIn (fs : List Addr) (g₀ : Heap) (L : Addr) (own : List (Addr × Obj)) (J : (Str → Option Value) → List (Addr × Obj) → Prop) (s₁ s₂ : Shared) : Prop
  | mk (g h' : Heap) (tk : Nat) (m' : Str → Option Value) (news' : List (Addr × Obj)) (i1 : s₂ = { s₁ with heap := h', toks := tk }) (i2 : KtsTurn fs g₀ g) (i3 : Fr g L h' m') (i4 : News g L h' (news' ++ own)) (i5 : Apart news' own) (i6 : J m' news') : TurnIn fs g₀ L own J s₁ s₂
def TurnEnd (fs : List Addr) (g₀ : Heap) (L : Addr) (own : List (Addr × Obj)) (J : (Str → Option Value) → List (Addr × Obj) → Prop) (s₁ : Shared) (Q : Flow → Shared → Prop) (f : Flow) (s₂ : Shared) : Prop :=
  match f with
  | .ret v => Q (.ret v) s₂
  | .brk => Q .next s₂
  | _ => TurnIn fs g₀ L own J s₁ s₂
/-- a loop over what `Walks` walks, its ground turning -/
inductive LoopK (prog : Program) (w : World) (A : Around) (fs : List Addr) (g₀ : Heap) (env : Env) (x : Str) (body : List Stmt) (Q : Flow → Shared → Prop) (E : Value → Shared → Prop) (it : Value) (s₂ : Shared) : Prop
  | mk (I : Addr) (fp wr : List Addr) (n : Nat) (P : Nat → Value → Prop) (St : Nat → Heap → Prop) (m : Str → Option Value) (news : List (Addr × Obj)) (J : Nat → (Str → Option Value) → List (Addr × Obj) → Prop)
    (i1 : it = .ref I)
    (i2 : Walks prog w A I fp wr n P St)
    (i3 : env.locals ∉ fp)
    (i4 : (∀ b ∈ fs, b ∉ fp))
    (i5 : (∀ b ∈ wr, g₀.get? b = none))
    (i6 : (∀ b ∈ fp, ∀ i h, St i h → ∃ o, h.get? b = some o))
    (i7 : (∀ p ∈ news, p.1 ∉ fp))
    (i8 : St 0 s₂.heap)
    (i9 : Fr g₀ env.locals s₂.heap m)
    (i10 : News g₀ env.locals s₂.heap news)
    (i11 : J 0 m news)
    (i12 : (∀ i v m₁ news₁ own g h tk, KtsTurn fs g₀ g → i < n → P i v → J i m₁ news₁ → Apart news₁ own → Fr g env.locals h (fun y => if y = x then some v else m₁ y) → News g env.locals h (news₁ ++ own) → wpAny (model prog w) A (execs body env) (TurnEnd fs g₀ env.locals own (J (i + 1)) { s₂ with heap := h, toks := tk } Q) E { s₂ with heap := h, toks := tk }))
    (i13 : ∀ g h' tk m' news', KtsTurn fs g₀ g → Fr g env.locals h' m' → News g env.locals h' news' → J n m' news' → Q .next { s₂ with heap := h', toks := tk }) : LoopK prog w A fs g₀ env x body Q E it s₂
inductive ForKP (fs : List Addr) (g₀ : Heap) (L : Addr) (fp : List Addr) (n : Nat) (St : Nat → Heap → Prop) (J : Nat → (Str → Option Value) → List (Addr × Obj) → Prop) (s₂ : Shared) (k : Nat) (s' : Shared) : Prop
  | mk (g h' : Heap) (tk : Nat) (m' : Str → Option Value) (news' : List (Addr × Obj)) (i : Nat) (q1 : s' = { s₂ with heap := h', toks := tk }) (q2 : KtsTurn fs g₀ g) (q3 : St i h') (q4 : Fr g L h' m') (q5 : News g L h' news') (q6 : ∀ p ∈ news', p.1 ∉ fp) (q7 : J i m' news') (q8 : i ≤ n) (q9 : k = n + 1 - i) : ForKP fs g₀ L fp n St J s₂ k s'
theorem foldQ9 {M : Model} {A : Around} {α : Type} {t : Sem α} {Q : α → Shared → Prop} {E : Value → Shared → Prop} {s : Shared} (h : let q := Q; let e := E; wpAny M A t q e s) : wpAny M A t Q E s := h
theorem forK {px pos : Pos} {iter : Expr} (fs : List Addr) (g₀ : Heap) (hx : env.kindOf x = some .local)
    (hp : (env.scope.kind == .class || (env.scope.kind == .module && env.locals != env.globals)) = false)
    (h : wpAny (model prog w) A (eval iter env) (fun xv s₁ => wpAny (model prog w) A (pyIter xv) (fun it s₂ => LoopK prog w A fs g₀ env x body Q E it s₂) E s₁) E s)
    (hs : ∀ x, foldedSetIterable iter env x = pure x := by intro _; rfl)
    (hE : PassesOwn (model prog w) A env E := by passes_own) :
    wpAny (model prog w) A (exec (.For (.Name x px) iter body [] pos) env) Q E s := by
  refine wpAny_For (wpAny_mono h (fun xv s₁ h₁ => wpAny_mono h₁ (fun it s₂ h₂ => ?_) fun _ _ e => e) fun _ _ e => e) hs
  obtain ⟨I, fp, wr, n, P, St, m, news, J, rfl, W, hLf, hfs, hwr, hlive, hnw, hst, F, N, h0, step, hR⟩ := h₂
  have hLw : env.locals ∉ wr := fun q => hLf (W.sub _ q)
  refine codeAny_forLoop (ForKP fs g₀ env.locals fp n St J s₂) ?_ (n + 1) ⟨g₀, s₂.heap, s₂.toks, m, news, 0, rfl, .refl, hst, F, N, hnw, h0, Nat.zero_le _, rfl⟩
  intro k s' hk
  refine foldQ9 ?_
  intro Q9 E9
  obtain ⟨g, h', tk, m', news', i, rfl, TN, hst', F', N', hnw', hJ, hi, rfl⟩ := hk
  have old : ∀ b o, g.get? b = some o → b ∉ wr := fun b o e hb => by rw [TN.none_ b (hwr b hb)] at e; cases e
  have next : ∀ h₁ : Heap, (∀ b o, b ∉ wr → h'.get? b = some o → h₁.get? b = some o) → Fr g env.locals h₁ m' ∧ News g env.locals h₁ news' := fun h₁ hk₁ =>
    ⟨⟨F'.ns.at' fun o e => hk₁ _ o hLw e, fun b o e => hk₁ b o (old b o e) (F'.keep b o e), F'.above⟩, fun p hp => ⟨hk₁ _ _ (fun q => hnw' p hp (W.sub _ q)) (N' p hp).1, (N' p hp).2⟩⟩
  by_cases hlt : i < n
  · refine W.item i _ _ _ hlt hst' fun v h₁ tk₁ hP hst₁ hk₁ => ?_
    obtain ⟨F₁, N₁⟩ := next h₁ hk₁
    refine wpAny_assign_Name (wpAny_storeName_local hx F₁.ns (fun h₂ hn₂ hs₂ => ?_) hp)
    have F₂ := F₁.set hn₂ hs₂
    have Nown : News g env.locals h₂ (ownOf g fp h₂) := news_ownOf hLf
    have hst₂ : St (i + 1) h₂ := W.frame _ _ _ hst₁ fun b hb o e => (hs₂.2 b fun q => hLf (q ▸ hb)).trans e
    have hap : Apart news' (ownOf g fp h₂) := fun p hp q hq e => hnw' p hp (e ▸ ownOf_sub q hq)
    refine wpAny_passesOwn hE ?_
    refine wpAny_mono (step i v m' news' (ownOf g fp h₂) g h₂ _ TN hlt hP hJ hap F₂ (News.app (N₁.set hs₂) Nown)) (fun f s₃ h₃ => ?_) fun _ _ e => e
    have fin : (TurnIn fs g₀ env.locals (ownOf g fp h₂) (J (i + 1)) ({ s₂ with heap := h₂, toks := tk₁ + 1 } : Shared) s₃) →
        ∃ k, k < n + 1 - i ∧ ForKP fs g₀ env.locals fp n St J s₂ k s₃ := by
      rintro ⟨g', h₃', tk₃, m₂, news₂, rfl, TN', F₃, N₃, ha₃, hJ₃⟩
      have kp : ∀ b ∈ fp, ∀ o, h₂.get? b = some o → h₃'.get? b = some o := fun b hb o e₂ => by
        cases hn : g.get? b with
        | some o₀ =>
          have e3 : o₀ = o := by have := F₂.keep b o₀ hn; rw [e₂] at this; exact (Option.some.inj this).symm
          have e4 : g₀.get? b = some o₀ := by
            cases q : g₀.get? b with
            | none => rw [TN.none_ b q] at hn; cases hn
            | some o' => rw [TN.other b o' q (fun z => hfs b z hb)] at hn; exact hn
          exact e3 ▸ F₃.keep b o₀ (TN'.other b o₀ e4 fun z => hfs b z hb)
        | none => exact (N₃ _ (List.mem_append_right _ (mem_ownOf hb hn e₂))).1
      refine ⟨n + 1 - (i + 1), by omega, ⟨g', h₃', tk₃, m₂, news₂, i + 1, rfl, TN', ?_, F₃, fun p hp => N₃ p (List.mem_append_left _ hp), fun p hp hq => ?_, hJ₃, hlt, rfl⟩⟩
      · exact W.frame _ _ _ hst₂ kp
      · cases hn : g.get? p.1 with
        | some o₀ =>
          have e4 : g₀.get? p.1 = some o₀ := by
            cases q : g₀.get? p.1 with
            | none => rw [TN.none_ _ q] at hn; cases hn
            | some o' => rw [TN.other _ o' q (fun z => hfs _ z hq)] at hn; exact hn
          have := (N₃ p (List.mem_append_left _ hp)).2.2
          rw [TN'.other _ o₀ e4 fun z => hfs _ z hq] at this; cases this
        | none =>
          cases e5 : h₂.get? p.1 with
          | some o => exact ha₃ p hp _ (mem_ownOf hq hn e5) rfl
          | none => obtain ⟨o, e6⟩ := hlive _ hq _ _ hst₂; rw [e5] at e6; cases e6
    cases f with
    | ret v => exact h₃
    | brk => exact h₃
    | cont => exact fin h₃
    | next => exact fin h₃
  · have hin : i = n := by omega
    subst hin
    refine W.done _ _ _ hst' fun h₁ tk₁ hk₁ => wpAny_execs_nil ?_
    obtain ⟨F₁, N₁⟩ := next h₁ hk₁
    exact hR g h₁ tk₁ m' news' TN F₁ N₁ hJ
/-- the frame's names agree, but for these -/
def Agree (ts : List Str) (m m₀ : Str → Option Value) : Prop := ∀ z, z ∉ ts → m z = m₀ z
theorem Agree.refl {ts : List Str} {m : Str → Option Value} : Agree ts m m := fun _ _ => rfl
theorem Agree.put {ts : List Str} {m m₀ : Str → Option Value} {y : Str} {v : Option Value} (hy : y ∈ ts) (h : Agree ts m m₀) : Agree ts (fun z => if z = y then v else m z) m₀ := fun z hz => by
  have : z ≠ y := fun e => hz (e ▸ hy)
  simp only [if_neg this]; exact h z hz
theorem Agree.one {a : Str} {m m₀ : Str → Option Value} (h : Agree [a] m m₀) : m = fun z => if z = a then m a else m₀ z := by
  funext z
  by_cases h1 : z = a
  · simp [h1]
  · simp only [if_neg h1]; exact h z (by simp [h1])
theorem Agree.two {a b : Str} {m m₀ : Str → Option Value} (h : Agree [a, b] m m₀) : m = fun z => if z = a then m a else if z = b then m b else m₀ z := by
  funext z
  by_cases h1 : z = a
  · simp [h1]
  · by_cases h2 : z = b
    · subst h2; simp [h1]
    · simp only [if_neg h1, if_neg h2]; exact h z (by simp [h1, h2])
theorem Agree.three {a b c : Str} {m m₀ : Str → Option Value} (h : Agree [a, b, c] m m₀) : m = fun z => if z = a then m a else if z = b then m b else if z = c then m c else m₀ z := by
  funext z
  by_cases h1 : z = a
  · simp [h1]
  · by_cases h2 : z = b
    · subst h2; simp [h1]
    · by_cases h3 : z = c
      · subst h3; simp [h1, h2]
      · simp only [if_neg h1, if_neg h2, if_neg h3]; exact h z (by simp [h1, h2, h3])
end
open Builtin Builtin._codecs in
theorem encode_tree2 (x : Str) (t u : Tok) : «str.encode» ⟨[.str x t, .str (Str.ofString "utf-8") u], []⟩ = (do ret (← encodeRoad "str.encode" (.str x t) x (Str.ofString "utf-8") none)) := by
  kernel_rfl
def utf8 (x : Str) : Array UInt8 := x.cps.foldl (fun acc y => acc ++ (Str.utf8Of y).toArray) #[]
theorem noBad {x : Str} (hs : x.cps.any Str.isSurrogate = false) : x.cps.findIdx? Str.isSurrogate = none := by
  rw [Array.findIdx?_eq_none_iff]
  intro y hy
  rw [Array.any_eq_false'] at hs
  simpa using hs y hy
theorem loop_two {β γ : Type} {f : Nat → β → Sem (ForInStep β)} {rest : β → Sem γ} {b0 b1 : β} {out : Sem γ} (h0 : ∀ a, f a b0 = pure (.yield b1)) (h1 : ∀ a, f a b1 = pure (.done b1)) (e : rest b1 = out) : ∀ n, 0 < n → (forIn (List.range' 0 n 1) b0 f >>= rest) = out := fun n hn => by
  obtain ⟨k, rfl⟩ := Nat.exists_eq_succ_of_ne_zero (Nat.ne_of_gt hn)
  rw [List.range'_succ, List.forIn_cons, h0]
  simp only [pure_bind]
  rcases List.range' (0 + 1) k 1 with _ | ⟨a, r⟩
  · simp only [List.forIn_nil, pure_bind, e]
  · simp only [List.forIn_cons, h1, pure_bind, e]
theorem loop_one {β γ : Type} {f : Nat → β → Sem (ForInStep β)} {rest : β → Sem γ} {b0 b1 : β} {out : Sem γ} (n : Nat) (hn : 0 < n) (h0 : ∀ a, f a b0 = pure (.yield b1)) (h1 : ∀ a, f a b1 = pure (.done b1)) (e : rest b1 = out) : (forIn [0:n] b0 f >>= rest) = out := by
  rw [Std.Legacy.Range.forIn_eq_forIn_range']
  exact loop_two h0 h1 e _ (by simp only [Std.Legacy.Range.size]; rw [Nat.div_one]; omega)
theorem loop_zero {β γ : Type} {f : Nat → β → Sem (ForInStep β)} {rest : β → Sem γ} {b0 : β} {out : Sem γ} (n : Nat) (hn : n = 0) (e : rest b0 = out) : (forIn [0:n] b0 f >>= rest) = out := by
  subst hn
  rw [Std.Legacy.Range.forIn_eq_forIn_range', show List.range' 0 (Std.Legacy.Range.size [0:0]) 1 = [] from rfl, List.forIn_nil, pure_bind, e]
open Builtin Builtin._codecs in
theorem narrow_utf8 (id : String) (self : Value) (x : Str) (hs : x.cps.any Str.isSurrogate = false) (hz : (utf8 x).size ≤ sizeLine) : encodeNarrow id utf8Codec none self x = pure (utf8 x) := by
  by_cases h : x.cps.size = 0
  · have hx : x.cps = #[] := Array.eq_empty_of_size_eq_zero h
    exact loop_zero x.cps.size h (by unfold utf8; rw [hx]; rfl)
  · have hk : 0 < x.cps.size := Nat.pos_of_ne_zero h
    have hcb : utf8Codec.bad x.cps[0] = false := by
      rw [Array.any_eq_false'] at hs
      exact Bool.eq_false_iff.mpr (hs _ (Array.getElem_mem hk))
    have z0 : ¬ ((#[] : Array UInt8).size > sizeLine) := by rw [sizeLine_eq]; decide
    refine loop_one (b1 := (x.cps.size, utf8 x, {})) x.cps.size hk (fun a => (if_neg z0).trans ?h0) (fun a => (if_neg (Nat.not_lt.mpr hz)).trans ?h1) rfl
    case h0 =>
      rw [show x.cps[(0, (#[] : Array UInt8), ({} : Faults)).fst]? = some x.cps[0] from Array.getElem?_eq_getElem hk]
      refine (if_pos (by rw [hcb]; rfl)).trans ?_
      have e0 : x.cps.extract 0 x.cps.size = x.cps := Array.extract_size
      have hf : x.cps.findIdx? utf8Codec.bad = none := noBad hs
      show pure (ForInStep.yield (0 + ((x.cps.extract 0 x.cps.size).findIdx? utf8Codec.bad).getD (x.cps.extract 0 x.cps.size).size, ((x.cps.extract 0 x.cps.size).extract 0 (((x.cps.extract 0 x.cps.size).findIdx? utf8Codec.bad).getD (x.cps.extract 0 x.cps.size).size)).foldl (fun acc y => acc ++ (utf8Codec.bytesOf y).toArray) #[], _)) = _
      rw [e0, hf, Option.getD_none, Nat.zero_add, e0]
      rfl
    case h1 =>
      rw [show x.cps[((x.cps.size, utf8 x, ({} : Faults)) : Nat × Array UInt8 × Faults).fst]? = none from Array.getElem?_eq_none (Nat.le_refl _)]
theorem call_encode {prog : Program} {w : World} {A : Around} {E : Value → Shared → Prop} {s : Shared} {x : Str} {t u : Tok} {Q : Value → Shared → Prop} (hs : x.cps.any Str.isSurrogate = false) (hz : (utf8 x).size ≤ sizeLine) (h : Q (.bytes (utf8 x) s.toks) { s with toks := s.toks + 1 }) :
    wpAny (model prog w) A (call (.builtin "str.encode") [.str x t, .str (Str.ofString "utf-8") u]) Q E s := by
  refine call_gives F.slot_str_encode (typeIs_str _ _ _) F.entry_str_encode (F.args_str_encode_2 _ _) (m := .bytes (utf8 x)) (.of_eq ?_) ⟨hz, h⟩
  rw [encode_tree2, encodeRoad_utf8, narrow_utf8 _ _ _ hs hz]
  rfl

/-- a Key: its text `public` -/
inductive KeyObj (prog : Program) (w : World) (C : Addr) (H : Addr → Obj → Prop) (a : Addr) (pub : Str) : Prop
  | mk (v1 : _) (v2 : _) (v3 : _) (pd : _) (v5 : _) (t : _)
    (i1 : Inst H a C [("keyid", v1), ("keytype", v2), ("scheme", v3), ("keyval", .ref pd), ("unrecognized_fields", v5)])
    (i2 : SDict prog w H pd [("public", .str pub t)]) : KeyObj prog w C H a pub
def KeysOk (prog : Program) (w : World) (C : Addr) (H : Addr → Obj → Prop) (kvs : List (Str × Value)) (pub : Str → Str) : Prop :=
  ∀ k v, valueAt kvs k = some v → ∃ a, v = .ref a ∧ KeyObj prog w C H a (pub k)
/-- a Signature: its text -/
inductive SigObj (C : Addr) (H : Addr → Obj → Prop) (a : Addr) (sg : Str) : Prop
  | mk (v1 : _) (v3 : _) (t : _)
    (i1 : Inst H a C [("keyid", v1), ("signature", .str sg t), ("unrecognized_fields", v3)]) : SigObj C H a sg
def SigsOk (C : Addr) (H : Addr → Obj → Prop) (kvs : List (Str × Value)) (sig : Str → Str) : Prop :=
  ∀ k v, valueAt kvs k = some v → ∃ a, v = .ref a ∧ SigObj C H a (sig k)
theorem KeyObj.mono {prog : Program} {w : World} {C : Addr} {H H' : Addr → Obj → Prop} {a : Addr} {pub : Str} (h : KeyObj prog w C H a pub) (s : Sub H H') : KeyObj prog w C H' a pub :=
  let ⟨v1, v2, v3, pd, v5, t, a, b⟩ := h; ⟨v1, v2, v3, pd, v5, t, a.mono s, b.mono s⟩
theorem KeysOk.mono {prog : Program} {w : World} {C : Addr} {H H' : Addr → Obj → Prop} {kvs : List (Str × Value)} {pub : Str → Str} (h : KeysOk prog w C H kvs pub) (s : Sub H H') : KeysOk prog w C H' kvs pub :=
  fun k v e => let ⟨a, e, x⟩ := h k v e; ⟨a, e, x.mono s⟩
theorem SigObj.mono {C : Addr} {H H' : Addr → Obj → Prop} {a : Addr} {sg : Str} (h : SigObj C H a sg) (s : Sub H H') : SigObj C H' a sg := let ⟨v1, v3, t, a⟩ := h; ⟨v1, v3, t, a.mono s⟩
theorem SigsOk.mono {C : Addr} {H H' : Addr → Obj → Prop} {kvs : List (Str × Value)} {sig : Str → Str} (h : SigsOk C H kvs sig) (s : Sub H H') : SigsOk C H' kvs sig :=
  fun k v e => let ⟨a, e, x⟩ := h k v e; ⟨a, e, x.mono s⟩
/-- what is said of a key's name: no key, signed, not signed -/
def verdict (K S : List (Str × Value)) (ok : Str → Bool) (k : Str) : Option (Value × Bool) :=
  (valueAt K k).map fun v => (v, (valueAt S k).isSome && ok k)
def signedBy (K S : List (Str × Value)) (ok : Str → Bool) (b : Bool) (names : List Str) : List (Str × Value) :=
  names.foldl (fun acc k => match verdict K S ok k with | some (v, b') => if b' = b then stored acc k v else acc | none => acc) []

section
variable {prog : Program} {w : World} {A : Around} {E : Value → Shared → Prop} {s : Shared} {env : Env} {h₀ : Heap} {x : Str} {body : List Stmt} {Q : Flow → Shared → Prop}
theorem loopL {fs : List Addr} {l : Addr} {vs : List Value} {m₀ : Str → Option Value} {news : List (Addr × Obj)} (J : Nat → (Str → Option Value) → List (Addr × Obj) → Prop)
    (hh : A.handled = none) (D : KtsDicts fs h₀) (hl : LstOf (At fs h₀) l vs) (F : Fr h₀ env.locals s.heap m₀) (N : News h₀ env.locals s.heap news) (hj : J 0 m₀ news)
    (turn : ∀ i v m₁ news₁ own g h tk, KtsTurn fs h₀ g → vs[i]? = some v → J i m₁ news₁ → Apart news₁ own → Fr g env.locals h (fun y => if y = x then some v else m₁ y) → News g env.locals h (news₁ ++ own) →
      wpAny (model prog w) A (execs body env) (TurnEnd fs h₀ env.locals own (J (i + 1)) { s with heap := h, toks := tk } Q) E { s with heap := h, toks := tk })
    (done : ∀ m₁ news₁ g h tk, KtsTurn fs h₀ g → J vs.length m₁ news₁ → Fr g env.locals h m₁ → News g env.locals h news₁ → Q .next { s with heap := h, toks := tk }) :
    wpAny (model prog w) A (pyIter (.ref l)) (fun it s₂ => LoopK prog w A fs h₀ env x body Q E it s₂) E s := by
  obtain ⟨ol, nl, ⟨hol, hnf⟩, hcls, hdat⟩ := id hl
  have hl := (hl.mono Sub.now).at
  have hls : s.heap.IsList l vs.toArray := hl.at fun o e => F.keep l o e
  have hlt : l < h₀.objs.size := Heap.lt_size hol
  have hne : l ≠ s.heap.objs.size := Nat.ne_of_lt (Nat.lt_trans (Nat.lt_of_lt_of_le hlt F.above) F.ns.lt)
  have hI : h₀.get? s.heap.objs.size = none := next_is_new F
  refine wpAny_pyIter_list hls ?_
  have W := Walks.list (prog := prog) (w := w) hh s.heap.objs.size l hne vs.toArray
  refine ⟨_, _, _, vs.toArray.size, _, _, m₀, news, J, rfl, W, ?_, ?_, ?_, ?_, ?_, ⟨⟨_, Heap.get?_push_size _ rfl, rfl, rfl⟩, hls.at fun o e => Heap.get?_push_of_some _ e⟩, F.push _, (fun p hp => ⟨Heap.get?_push_of_some _ (N p hp).1, (N p hp).2⟩), hj, ?_, ?_⟩
  · intro hm
    rcases List.mem_cons.mp hm with e | hm
    · exact absurd F.ns.lt (e ▸ Nat.lt_irrefl _)
    · exact absurd (Nat.lt_of_lt_of_le hlt F.above) ((List.mem_singleton.mp hm) ▸ Nat.lt_irrefl _)
  · intro b hb hm
    rcases List.mem_cons.mp hm with rfl | hm
    · obtain ⟨o, _, _, e, _⟩ := D _ hb
      rw [hI] at e; cases e
    · exact hnf ((List.mem_singleton.mp hm) ▸ hb)
  · intro b hb
    rw [List.mem_singleton.mp hb]
    exact hI
  · intro b hb i h st
    rcases List.mem_cons.mp hb with rfl | hb
    · obtain ⟨o, e, _⟩ := st.1; exact ⟨o, e⟩
    · rw [List.mem_singleton.mp hb]; obtain ⟨o, e, _⟩ := st.2; exact ⟨o, e⟩
  · intro p hp hq
    rcases List.mem_cons.mp hq with e | hq
    · exact absurd (Heap.lt_size (N p hp).1) (e ▸ Nat.lt_irrefl _)
    · have := (N p hp).2.2; rw [List.mem_singleton.mp hq, hol] at this; cases this
  · intro i v m₁ news₁ own g h tk T hi hP hJ hap F₁ N₁
    exact turn i v m₁ news₁ own g h tk T (by simpa using hP) hJ hap F₁ N₁
  · intro g h' tk m' news' T F' N' hJ
    exact done m' news' g h' tk T (by simpa using hJ) F' N'

theorem forKF {px pos : Pos} {iter : Expr} {fs : List Addr} {g₀ : Heap} {m₀ : Str → Option Value} (_F : Fr g₀ env.locals s.heap m₀) (_D : KtsDicts fs g₀) (hx : env.kindOf x = some .local)
    (hp : (env.scope.kind == .class || (env.scope.kind == .module && env.locals != env.globals)) = false)
    (h : wpAny (model prog w) A (eval iter env) (fun xv s₁ => wpAny (model prog w) A (pyIter xv) (fun it s₂ => LoopK prog w A fs g₀ env x body Q E it s₂) E s₁) E s)
    (hs : ∀ x, foldedSetIterable iter env x = pure x := by intro _; rfl)
    (hE : PassesOwn (model prog w) A env E := by passes_own) :
    wpAny (model prog w) A (exec (.For (.Name x px) iter body [] pos) env) Q E s := forK fs g₀ hx hp h hs hE
inductive End2In (prog : Program) (w : World) (fs : List Addr) (h₀ : Heap) (L : Addr) (own : List (Addr × Obj)) (ts : List Str) (m₀ : Str → Option Value) (d1 d2 : Addr) (kv1 kv2 : List (Str × Value)) (s₁ s₂ : Shared) : Prop
  | mk (g h' : Heap) (tk : Nat) (m' : Str → Option Value) (o1 o2 : Obj) (i1 : s₂ = { s₁ with heap := h', toks := tk }) (i2 : KtsTurn fs h₀ g) (i3 : Fr g L h' m') (i4 : News g L h' ((d2, o2) :: (d1, o1) :: own)) (i5 : Agree ts m' m₀) (i6 : o1.IsDictOf (PySem.strKind prog w) kv1) (i7 : o2.IsDictOf (PySem.strKind prog w) kv2) : End2In prog w fs h₀ L own ts m₀ d1 d2 kv1 kv2 s₁ s₂
/-- the end of a turn that fills two dicts -/
def End2 (prog : Program) (w : World) (fs : List Addr) (h₀ : Heap) (L : Addr) (own : List (Addr × Obj)) (ts : List Str) (m₀ : Str → Option Value) (d1 d2 : Addr) (kv1 kv2 : List (Str × Value)) (s₁ : Shared) (Q : Flow → Shared → Prop) (f : Flow) (s₂ : Shared) : Prop :=
  match f with
  | .ret v => Q (.ret v) s₂
  | .brk => Q .next s₂
  | _ => End2In prog w fs h₀ L own ts m₀ d1 d2 kv1 kv2 s₁ s₂
theorem loop2 {fs : List Addr} {l d1 d2 : Addr} {o1 o2 : Obj} {vs : List Value} {names : List Str} {m₀ : Str → Option Value} (ts : List Str) (f1 f2 : List Str → List (Str × Value))
    (hh : A.handled = none) (D : KtsDicts fs h₀) (hl : LstOf (At fs h₀) l vs) (hi : StrsAre vs names) (F : Fr h₀ env.locals s.heap m₀) (N : News h₀ env.locals s.heap [(d2, o2), (d1, o1)])
    (h1 : o1.IsDictOf (PySem.strKind prog w) (f1 [])) (h2 : o2.IsDictOf (PySem.strKind prog w) (f2 []))
    (turn : ∀ pre k t m₁ o1 o2 own g h tk, KtsTurn fs h₀ g → (∃ post, names = pre ++ k :: post) → Agree ts m₁ m₀ → o1.IsDictOf (PySem.strKind prog w) (f1 pre) → o2.IsDictOf (PySem.strKind prog w) (f2 pre) → OwnOff own [d2, d1] →
      Fr g env.locals h (fun y => if y = x then some (.str k t) else m₁ y) → News g env.locals h ((d2, o2) :: (d1, o1) :: own) →
      wpAny (model prog w) A (execs body env) (End2 prog w fs h₀ env.locals own ts m₀ d1 d2 (f1 (pre ++ [k])) (f2 (pre ++ [k])) { s with heap := h, toks := tk } Q) E { s with heap := h, toks := tk })
    (done : ∀ m₁ o1 o2 g h tk, KtsTurn fs h₀ g → Agree ts m₁ m₀ → o1.IsDictOf (PySem.strKind prog w) (f1 names) → o2.IsDictOf (PySem.strKind prog w) (f2 names) → Fr g env.locals h m₁ → News g env.locals h [(d2, o2), (d1, o1)] → Q .next { s with heap := h, toks := tk }) :
    wpAny (model prog w) A (pyIter (.ref l)) (fun it s₂ => LoopK prog w A fs h₀ env x body Q E it s₂) E s := by
  have hlen : vs.length = names.length := hi.length
  refine loopL (fun i m₁ news₁ => Agree ts m₁ m₀ ∧ ∃ o1 o2, news₁ = [(d2, o2), (d1, o1)] ∧ o1.IsDictOf (PySem.strKind prog w) (f1 (names.take i)) ∧ o2.IsDictOf (PySem.strKind prog w) (f2 (names.take i))) hh D hl F N ⟨.refl, o1, o2, rfl, h1, h2⟩ ?_ ?_
  · rintro i v m₁ news₁ own g h tk T hv ⟨ha, o1, o2, rfl, h1, h2⟩ hap F₁ N₁
    have hlt : i < names.length := by rw [← hlen]; exact (List.getElem?_eq_some_iff.mp hv).1
    obtain ⟨t, ht⟩ := hi.get i names[i] (by simp [hlt])
    rw [hv] at ht; cases ht
    have e1 : names = names.take i ++ names[i] :: names.drop (i + 1) := by rw [List.getElem_cons_drop, List.take_append_drop]
    have e2 : names.take (i + 1) = names.take i ++ [names[i]] := by rw [List.take_add_one]; simp [hlt]
    refine wpAny_mono (turn (names.take i) names[i] t m₁ o1 o2 own g h tk T ⟨_, e1⟩ ha h1 h2 (fun p hp b hb e => ?_) F₁ N₁) (fun f s₂ q => ?_) fun _ _ e => e
    · rcases List.mem_cons.mp hb with rfl | hb
      · exact hap _ (.head _) p hp e.symm
      · rw [List.mem_singleton.mp hb] at e; exact hap _ (.tail _ (.head _)) p hp e.symm
    · have fin : (End2In prog w fs h₀ env.locals own ts m₀ d1 d2 (f1 (names.take i ++ [names[i]])) (f2 (names.take i ++ [names[i]])) ({ s with heap := h, toks := tk } : Shared) s₂) →
        TurnIn fs h₀ env.locals own (fun m₁ news₁ => Agree ts m₁ m₀ ∧ ∃ o1 o2, news₁ = [(d2, o2), (d1, o1)] ∧ o1.IsDictOf (PySem.strKind prog w) (f1 (names.take (i + 1))) ∧ o2.IsDictOf (PySem.strKind prog w) (f2 (names.take (i + 1)))) ({ s with heap := h, toks := tk } : Shared) s₂ := by
        rintro ⟨g', h', tk', m', o1', o2', e, T', F', N', ha', h1', h2'⟩
        refine ⟨g', h', tk', m', [(d2, o2'), (d1, o1')], e, T', F', N', fun p hp q hq => ?_, ha', o1', o2', rfl, by rw [e2]; exact h1', by rw [e2]; exact h2'⟩
        rcases List.mem_cons.mp hp with rfl | hp
        · exact hap (d2, o2) (.head _) q hq
        · rw [List.mem_singleton.mp hp]; exact hap (d1, o1) (.tail _ (.head _)) q hq
      cases f with
      | ret v => exact q
      | brk => exact q
      | next => exact fin q
      | cont => exact fin q
  · rintro m₁ news₁ g h tk T ⟨ha, o1, o2, rfl, h1, h2⟩ F₁ N₁
    rw [hlen, List.take_length] at h1 h2
    exact done m₁ o1 o2 g h tk T ha h1 h2 F₁ N₁
end
theorem signedBy_snoc (K S : List (Str × Value)) (ok : Str → Bool) (b : Bool) (pre : List Str) (k : Str) :
    signedBy K S ok b (pre ++ [k]) = match verdict K S ok k with | some (v, b') => if b' = b then stored (signedBy K S ok b pre) k v else signedBy K S ok b pre | none => signedBy K S ok b pre := by
  unfold signedBy; rw [List.foldl_append]; rfl

theorem stored_len {K : Type} [DecidableEq K] (l : List (K × Value)) (k : K) (v : Value) : (stored l k v).length ≤ l.length + 1 := by
  unfold stored; split <;> simp
theorem signedBy_len (K S : List (Str × Value)) (ok : Str → Bool) (b : Bool) (names : List Str) : (signedBy K S ok b names).length ≤ names.length := by
  unfold signedBy
  suffices h : ∀ acc : List (Str × Value), (names.foldl (fun acc k => match verdict K S ok k with | some (v, b') => if b' = b then stored acc k v else acc | none => acc) acc).length ≤ acc.length + names.length by simpa using h []
  induction names with
  | nil => intro acc; simp
  | cons k r ih =>
    intro acc
    rw [List.foldl_cons, List.length_cons]
    refine Nat.le_trans (ih _) ?_
    have := stored_len acc k
    split
    · split
      · rename_i v b' _ _; have := stored_len acc k v; omega
      · omega
    · omega

def Plain (x : Str) : Prop := x.cps.any Str.isSurrogate = false ∧ (utf8 x).size ≤ 1000
theorem call_encodeP {hh9 : Heap} {gg : Array GenState} {dd : Drawn} {tk9 : Nat} {oo : OsState} {prog : Program} {w : World} {A : Around} {E : Value → Shared → Prop} {x : Str} {t u : Tok} {Q : Value → Shared → Prop} (hp : Plain x) (h : Q (.bytes (utf8 x) tk9) ⟨hh9, gg, dd, tk9 + 1, oo⟩) :
    wpAny (model prog w) A (call (.builtin "str.encode") [.str x t, .str (Str.ofString "utf-8") u]) Q E ⟨hh9, gg, dd, tk9, oo⟩ := call_encode hp.1 (Nat.le_trans hp.2 (by rw [sizeLine_eq]; omega)) h
theorem valueAt_one {k : Str} {v : Value} : valueAt [(k, v)] k = some v := by simp [valueAt]
theorem meth_encode {M : Model} {A : Around} {E : Value → Shared → Prop} {s : Shared} {x : Str} {t : Tok} {pl : Sem Bool} {Q : Value × List Value → Shared → Prop} (h : Q (.builtin "str.encode", [.str x t]) s) : wpAny M A (getMethod (.str x t) (Str.ofString "encode") pl) Q E s := by
  with_reducible exact GM.of (.str x t) (typeIs_str _ _ _) F.slot_str_encode F.type_str_encode GM.noRef h
/-- a tuple with these items -/
inductive TupOf (H : Addr → Obj → Prop) (l : Addr) (vs : List Value) : Prop
  | mk (o : _) (n : _)
    (i1 : H l o)
    (i2 : o.cls = .type "tuple")
    (i3 : o.data = .seq vs.toArray n) : TupOf H l vs
theorem TupOf.mono {H H' : Addr → Obj → Prop} {l : Addr} {vs : List Value} (h : TupOf H l vs) (s : Sub H H') : TupOf H' l vs := let ⟨o, n, a, b, c⟩ := h; ⟨o, n, s _ _ a, b, c⟩
theorem TupOf.tup {h : Heap} {l : Addr} {vs : List Value} (x : TupOf (Now h) l vs) : IsTup h l vs.toArray := let ⟨o, n, a, b, c⟩ := x; ⟨o, a, b, n, c⟩
theorem ltL {l : List (Addr × Obj)} {a d : Addr} {o : Obj} (h : ∀ p ∈ l, p.1 < d) (m : (a, o) ∈ l) : a < d := h _ m
theorem neL {a b : Addr} (h : a < b) : a ≠ b := Nat.ne_of_lt h
theorem neR {a b : Addr} (h : b < a) : a ≠ b := Nat.ne_of_gt h
theorem allNeL {l tl : List (Addr × Obj)} {d : Addr} (h : ∀ p ∈ l, p.1 < d) (s : ∀ p ∈ tl, p ∈ l) : ∀ p ∈ tl, p.1 ≠ d := fun p hp => Nat.ne_of_lt (h p (s p hp))
theorem allNeT {l tl : List (Addr × Obj)} {d e : Addr} (hd : d < e) (h : ∀ p ∈ l, p.1 < d) (s : ∀ p ∈ tl, p ∈ l) : ∀ p ∈ tl, p.1 ≠ e := fun p hp => Nat.ne_of_lt (Nat.lt_trans (h p (s p hp)) hd)
theorem mTail {α : Type} {a b : α} {l : List α} (h : a ∈ l) : a ∈ b :: l := .tail _ h
theorem msNil {α : Type} {B : List α} : ∀ p ∈ ([] : List α), p ∈ B := fun _ h => nomatch h
theorem msCons {α : Type} {a : α} {A B : List α} (h : a ∈ B) (t : ∀ p ∈ A, p ∈ B) : ∀ p ∈ a :: A, p ∈ B := List.forall_mem_cons.mpr ⟨h, t⟩
theorem msApp {α : Type} {A A' B : List α} (h : ∀ p ∈ A, p ∈ B) (t : ∀ p ∈ A', p ∈ B) : ∀ p ∈ A ++ A', p ∈ B := fun p hp => (List.mem_append.mp hp).elim (h p) (t p)
theorem msTail {α : Type} {b : α} {A B : List α} (h : ∀ p ∈ A, p ∈ B) : ∀ p ∈ A, p ∈ b :: B := fun p hp => .tail _ (h p hp)
theorem msL {α : Type} {A B B' : List α} (h : ∀ p ∈ A, p ∈ B) : ∀ p ∈ A, p ∈ B ++ B' := fun p hp => List.mem_append_left _ (h p hp)
theorem msR {α : Type} {A B B' : List α} (h : ∀ p ∈ A, p ∈ B') : ∀ p ∈ A, p ∈ B ++ B' := fun p hp => List.mem_append_right _ (h p hp)
theorem an1 {p1 q : Prop} (h : p1 ∧ q) : p1 := h.1
theorem an2 {p1 p2 q : Prop} (h : p1 ∧ p2 ∧ q) : p2 := h.2.1
theorem al2 {p1 p2 : Prop} (h : p1 ∧ p2) : p2 := h.2
theorem an3 {p1 p2 p3 q : Prop} (h : p1 ∧ p2 ∧ p3 ∧ q) : p3 := h.2.2.1
theorem al3 {p1 p2 p3 : Prop} (h : p1 ∧ p2 ∧ p3) : p3 := h.2.2
theorem an4 {p1 p2 p3 p4 q : Prop} (h : p1 ∧ p2 ∧ p3 ∧ p4 ∧ q) : p4 := h.2.2.2.1
theorem al4 {p1 p2 p3 p4 : Prop} (h : p1 ∧ p2 ∧ p3 ∧ p4) : p4 := h.2.2.2
theorem an5 {p1 p2 p3 p4 p5 q : Prop} (h : p1 ∧ p2 ∧ p3 ∧ p4 ∧ p5 ∧ q) : p5 := h.2.2.2.2.1
theorem al5 {p1 p2 p3 p4 p5 : Prop} (h : p1 ∧ p2 ∧ p3 ∧ p4 ∧ p5) : p5 := h.2.2.2.2
theorem an6 {p1 p2 p3 p4 p5 p6 q : Prop} (h : p1 ∧ p2 ∧ p3 ∧ p4 ∧ p5 ∧ p6 ∧ q) : p6 := h.2.2.2.2.2.1
theorem al6 {p1 p2 p3 p4 p5 p6 : Prop} (h : p1 ∧ p2 ∧ p3 ∧ p4 ∧ p5 ∧ p6) : p6 := h.2.2.2.2.2
theorem an7 {p1 p2 p3 p4 p5 p6 p7 q : Prop} (h : p1 ∧ p2 ∧ p3 ∧ p4 ∧ p5 ∧ p6 ∧ p7 ∧ q) : p7 := h.2.2.2.2.2.2.1
theorem al7 {p1 p2 p3 p4 p5 p6 p7 : Prop} (h : p1 ∧ p2 ∧ p3 ∧ p4 ∧ p5 ∧ p6 ∧ p7) : p7 := h.2.2.2.2.2.2
theorem an8 {p1 p2 p3 p4 p5 p6 p7 p8 q : Prop} (h : p1 ∧ p2 ∧ p3 ∧ p4 ∧ p5 ∧ p6 ∧ p7 ∧ p8 ∧ q) : p8 := h.2.2.2.2.2.2.2.1
theorem al8 {p1 p2 p3 p4 p5 p6 p7 p8 : Prop} (h : p1 ∧ p2 ∧ p3 ∧ p4 ∧ p5 ∧ p6 ∧ p7 ∧ p8) : p8 := h.2.2.2.2.2.2.2
theorem an9 {p1 p2 p3 p4 p5 p6 p7 p8 p9 q : Prop} (h : p1 ∧ p2 ∧ p3 ∧ p4 ∧ p5 ∧ p6 ∧ p7 ∧ p8 ∧ p9 ∧ q) : p9 := h.2.2.2.2.2.2.2.2.1
theorem al9 {p1 p2 p3 p4 p5 p6 p7 p8 p9 : Prop} (h : p1 ∧ p2 ∧ p3 ∧ p4 ∧ p5 ∧ p6 ∧ p7 ∧ p8 ∧ p9) : p9 := h.2.2.2.2.2.2.2.2
theorem an10 {p1 p2 p3 p4 p5 p6 p7 p8 p9 p10 q : Prop} (h : p1 ∧ p2 ∧ p3 ∧ p4 ∧ p5 ∧ p6 ∧ p7 ∧ p8 ∧ p9 ∧ p10 ∧ q) : p10 := h.2.2.2.2.2.2.2.2.2.1
theorem al10 {p1 p2 p3 p4 p5 p6 p7 p8 p9 p10 : Prop} (h : p1 ∧ p2 ∧ p3 ∧ p4 ∧ p5 ∧ p6 ∧ p7 ∧ p8 ∧ p9 ∧ p10) : p10 := h.2.2.2.2.2.2.2.2.2
theorem storeZ {hh9 : Heap} {gg : Array GenState} {dd : Drawn} {tk9 : Nat} {oo : OsState} {M : Model} {A : Around} {E : Value → Shared → Prop} {h₀ : Heap} {L a : Addr} {m : Str → Option Value} {cn : Str} {cs : Scope} {ccd : Value} {cl : List (Str × Addr)} {news : List (Addr × Obj)} {x : Str} {v : Value} {Q : Unit → Shared → Prop} (F : Fr h₀ L hh9 m) (N : News h₀ L hh9 news)
    (h : ∀ h' (tk' : Nat), let m' : Str → Option Value := fun y => if y = x then some v else m y; Fr h₀ L h' m' → News h₀ L h' news → Q () ⟨h', gg, dd, tk', oo⟩)
    (hk : cs.kind = .function := by rfl) (hx : (envX cn cs L a ccd cl).kindOf x = some .local := by rfl) : wpAny M A (storeName (envX cn cs L a ccd cl) x v) Q E ⟨hh9, gg, dd, tk9, oo⟩ :=
  storeX_L F N (fun h' F' N' => h h' _ F' N') hk hx
def fmore : Flow → Bool
  | .next => false
  | _ => true
theorem execs_consK {M : Model} {A : Around} {st : Stmt} {rest : List Stmt} {env : Env} {Q : Flow → Shared → Prop} {E : Value → Shared → Prop} {s : Shared}
    (h : ∀ K : Flow → Shared → Prop, (∀ s', wpAny M A (execs rest env) Q E s' → K .next s') → (∀ f s', fmore f = true → Q f s' → K f s') → wpAny M A (exec st env) K E s) :
    wpAny M A (execs (st :: rest) env) Q E s := wpAny_execs_cons (h _ (fun _ k => k) (fun f s' e k => by cases f <;> first | exact k | cases e))
theorem execs_lastK {M : Model} {A : Around} {st : Stmt} {env : Env} {Q : Flow → Shared → Prop} {E : Value → Shared → Prop} {s : Shared}
    (h : wpAny M A (exec st env) Q E s) : wpAny M A (execs [st] env) Q E s := execs_consK fun K h1 h2 => wpAny_mono h (fun f s' k => by
      cases f <;> first | exact h1 _ (wpAny_execs_nil k) | exact h2 _ _ rfl k) (fun _ _ k => k)
theorem execs_consA {M : Model} {A : Around} {t : List PySem.Expr} {v : PySem.Expr} {p : Pos} {rest : List Stmt} {env : Env} {Q : Flow → Shared → Prop} {E : Value → Shared → Prop} {s : Shared}
    (h : ∀ K : Flow → Shared → Prop, (∀ s', wpAny M A (execs rest env) Q E s' → K .next s') → wpAny M A (exec (.Assign t v p) env) K E s) :
    wpAny M A (execs (.Assign t v p :: rest) env) Q E s := execs_consK fun K h1 _ => h K h1
theorem execs_consE {M : Model} {A : Around} {v : PySem.Expr} {p : Pos} {rest : List Stmt} {env : Env} {Q : Flow → Shared → Prop} {E : Value → Shared → Prop} {s : Shared}
    (h : ∀ K : Flow → Shared → Prop, (∀ s', wpAny M A (execs rest env) Q E s' → K .next s') → wpAny M A (exec (.Expr v p) env) K E s) :
    wpAny M A (execs (.Expr v p :: rest) env) Q E s := execs_consK fun K h1 _ => h K h1
theorem units9 {d k n : Nat} (h : d + n < cLine) (hk : k ≤ n) : d + k < cLine := Nat.lt_of_le_of_lt (Nat.add_le_add_left hk d) h
theorem room9b {d k l n : Nat} (h : d + n < recursionLimit) (hk : k + l ≤ n) : d + k + l < recursionLimit := by rw [Nat.add_assoc]; exact Nat.lt_of_le_of_lt (Nat.add_le_add_left hk d) h
theorem room9 {d k n : Nat} (h : d + n < recursionLimit) (hk : k ≤ n) : d + k < recursionLimit := Nat.lt_of_le_of_lt (Nat.add_le_add_left hk d) h
theorem mRefl {α : Type} {A : List α} : ∀ p ∈ A, p ∈ A := fun _ h => h
theorem mHead {α : Type} {a : α} {l : List α} : a ∈ a :: l := .head _
theorem mL {α : Type} {a : α} {l l' : List α} (h : a ∈ l) : a ∈ l ++ l' := List.mem_append_left _ h
theorem mR {α : Type} {a : α} {l l' : List α} (h : a ∈ l') : a ∈ l ++ l' := List.mem_append_right _ h
/-- the calls of own functions at which the walk halts -/
def ownAt (c : Nat) : Bool := [362, 448, 690, 697, 565, 643, 514, 671, 676, 262, 451, 652, 683, 702].contains c
/-- a mark in the context: no halt at own calls -/
def NoHalt : Prop := True
theorem haltC {M : Model} {A : Around} {E : Value → Shared → Prop} {s : Shared} {c : Addr} {xs : List Value} {Q : Value → Shared → Prop} (_m : ownAt c = true) (h : Halt (wpAny M A (call (.ref c) xs) Q E s)) : wpAny M A (call (.ref c) xs) Q E s := h
theorem haltT {M : Model} {A : Around} {E : Value → Shared → Prop} {s : Shared} {c : Addr} {Q : Value → Shared → Prop} (h : Halt (wpAny M A (call (.type "dict") [.ref c]) Q E s)) : wpAny M A (call (.type "dict") [.ref c]) Q E s := h
theorem haltU {M : Model} {A : Around} {E : Value → Shared → Prop} {s : Shared} {c d : Addr} {Q : Value → Shared → Prop} (h : Halt (wpAny M A (call (.builtin "dict.update") [.ref c, .ref d]) Q E s)) : wpAny M A (call (.builtin "dict.update") [.ref c, .ref d]) Q E s := h
def ownGet (n : Str) : Bool := [Str.ofString "verified", Str.ofString "signed", Str.ofString "unsigned"].contains n
theorem haltG {M : Model} {A : Around} {E : Value → Shared → Prop} {s : Shared} {c : Addr} {n : Str} {e : Bool} {Q : Value → Shared → Prop} (_m : ownGet n = true) (h : Halt (wpAny M A (getAttr (.ref c) n e) Q E s)) : wpAny M A (getAttr (.ref c) n e) Q E s := h
theorem setK {hh9 : Heap} {gg : Array GenState} {dd : Drawn} {tk9 : Nat} {oo : OsState} {prog : Program} {w : World} {A : Around} {E : Value → Shared → Prop} {h₀ : Heap} {L d : Addr} {m : Str → Option Value} {o : Obj} {news : List (Addr × Obj)} {g : Obj → List (Addr × Obj)} {kvs : List (Str × Value)} {k : Str} {tk : Tok} {v : Value} {Q : Unit → Shared → Prop} (F : Fr h₀ L hh9 m) (N : News h₀ L hh9 news) (U : UpdF d o news g) (hd : o.IsDictOf (PySem.strKind prog w) kvs) (hsz : kvs.length ≤ sizeLine)
    (h : ∀ h' o', Fr h₀ L h' m → News h₀ L h' (g o') → o'.IsDictOf (PySem.strKind prog w) (stored kvs k v) → Q () ⟨h', gg, dd, tk9 + 1, oo⟩) : wpAny (model prog w) A (setItem (.ref d) (.str k tk) v) Q E ⟨hh9, gg, dd, tk9, oo⟩ :=
  kda_set F N U hd (strKind_is _ _ _ _) hsz h
theorem truthI {M : Model} {A : Around} {E : Value → Shared → Prop} {s : Shared} {K : Frag} {g : Heap} {L x C : Addr} {m : Str → Option Value} {l : List (Str × Value)} {Q : Bool → Shared → Prop} (F : Fr g L s.heap m) (X : K.In g) (I : Inst (Now s.heap) x C l) (hs : findIn K (.ref C) "__bool__" = some none) (hl : findIn K (.ref C) "__len__" = some none) (h : Q true s) : wpAny M A (truthy (.ref x)) Q E s := by
  obtain ⟨ox, es, n, I, c⟩ := I.inst
  exact truthy_K0 F X I hs hl h
theorem getMethD {prog : Program} {w : World} {A : Around} {E : Value → Shared → Prop} {s : Shared} {d : Addr} {kvs : List (Str × Value)} {pl : Sem Bool} {Q : Value × List Value → Shared → Prop} (D : SDict prog w (Now s.heap) d kvs) (h : Q (.builtin "dict.get", [.ref d]) s) : wpAny (model prog w) A (getMethod (.ref d) (Str.ofString "get") pl) Q E s :=
  have hD := D.at
  getMethod_builtin hD.typeIs PySem.F.plainAttrs_dict PySem.F.slot_dict_get PySem.F.type_dict_get hD.mapOf.noDict h
theorem callGetD {hh9 : Heap} {gg : Array GenState} {dd : Drawn} {tk9 : Nat} {oo : OsState} {prog : Program} {w : World} {A : Around} {E : Value → Shared → Prop} {d : Addr} {kvs : List (Str × Value)} {k : Str} {tk : Tok} {x : Option Value} {Q : Value → Shared → Prop} (D : SDict prog w (Now hh9) d kvs) (hl : valueAt kvs k = x) (h : Q (x.getD .none) ⟨hh9, gg, dd, tk9 + 1, oo⟩) : wpAny (model prog w) A (call (.builtin "dict.get") [.ref d, .str k tk]) Q E ⟨hh9, gg, dd, tk9, oo⟩ :=
  have hD := D.at
  call_meetsIn PySem.F.slot_dict_get hD.typeIs PySem.F.entry_dict_get (PySem.F.args_dict_get_2 _ _) (meets_dict_get (PySem.strKind prog w) d (strKind_is _ _ _ _) D.1) ⟨_, hD.mapOf, by rw [hl]; exact h⟩
def nmL (env : Env) (x : Str) : Bool := decide (env.scope.kind = .function) && decide (env.kindOf x = some .local) && !(x == ("__debug__" : Str))
theorem nameE {M : Model} {A : Around} {E : Value → Shared → Prop} {s : Shared} {h₀ : Heap} {env : Env} {m : Str → Option Value} {v : Value} {Q : Value → Shared → Prop} {x : Str} {pos : Pos} (hx : true = nmL env x) (F : Fr h₀ env.locals s.heap m) (hv : some v = m x) (h : Q v s) : wpAny M A (eval (.Name x pos) env) Q E s := by
  replace hx := hx.symm
  unfold nmL at hx
  simp only [Bool.and_eq_true, Bool.not_eq_true', decide_eq_true_eq] at hx
  exact wpAny_Name (wpAny_loadName_local hx.1.1 hx.1.2 F.ns hv.symm h) hx.2
set_option autoImplicit true
/-- is it a name of a local, or a constant -/
def simE (env : Env) : PySem.Expr → Bool
  | .Name x _ => nmL env x
  | .Constant (.int _) _ _ => true
  | .Constant (.str _) _ _ => true
  | _ => false
def simA (env : Env) : List PySem.Expr → Bool
  | [] => true
  | e :: r => match simE env e with
    | true => simA env r
    | false => false
/-- a name of a local, or a constant: its value without a step -/
def sim (env : Env) (m : Str → Option Value) (t : Nat) {R : Type} (k : Value → Nat → Option R) : PySem.Expr → Option R
  | .Name x _ => match nmL env x with
    | true => match m x with
      | some v => k v t
      | none => none
    | false => none
  | .Constant (.int i) _ _ => k (.int i t) (t + 1)
  | .Constant (.str x) _ _ => k (.str x t) (t + 1)
  | _ => none
theorem sim_run {M : Model} {A : Around} {E : Value → Shared → Prop} {s : Shared} {h₀ : Heap} {env : Env} {m : Str → Option Value} {R : Type} {k : Value → Nat → Option R} {r : R} {e : PySem.Expr} {Q : Value → Shared → Prop} (F : Fr h₀ env.locals s.heap m)
    (hs : sim env m s.toks k e = some r) (h : ∀ v t, k v t = some r → Q v { s with toks := t }) : wpAny M A (eval e env) Q E s := by
  unfold sim at hs
  split at hs
  · split at hs
    · rename_i hx
      split at hs
      · rename_i v hv
        exact nameE hx.symm F hv.symm (h v s.toks hs)
      · cases hs
    · cases hs
  · exact wpAny_Constant_int (h _ _ hs)
  · exact Constant_str (h _ _ hs)
  · cases hs
def sims (env : Env) (m : Str → Option Value) {R : Type} : List PySem.Expr → Nat → (List Value → Nat → Option R) → Option R
  | [], t, k => k [] t
  | e :: r, t, k => sim env m t (fun v t1 => sims env m r t1 fun vs t2 => k (v :: vs) t2) e
theorem sims_run {M : Model} {A : Around} {E : Value → Shared → Prop} {h₀ : Heap} {env : Env} {m : Str → Option Value} {R : Type} {r : R} {pos : Pos} : ∀ {args : List PySem.Expr} {s : Shared} {k : List Value → Nat → Option R} {Q : List Value → Shared → Prop} (_F : Fr h₀ env.locals s.heap m)
    (_hs : sims env m args s.toks k = some r) (_h : ∀ vs t, k vs t = some r → Q vs { s with toks := t }), wpAny M A (spliced (backTo pos (starEach args env))) Q E s
  | [], s, k, Q, F, hs, h => args_nil (h _ _ hs)
  | e :: rest, s, k, Q, F, hs, h => by
    have hs' : sim env m s.toks (fun v t1 => sims env m rest t1 fun vs t2 => k (v :: vs) t2) e = some r := hs
    refine args_cons (sim_run F hs' fun v t hk => ?_) ?_
    · exact sims_run (s := { s with toks := t }) F hk fun vs t2 hk2 => h (v :: vs) t2 hk2
    · unfold sim at hs'
      split at hs' <;> first | rfl | cases hs'
theorem splS {M : Model} {A : Around} {E : Value → Shared → Prop} {hp : Heap} {tk : Nat} {h₀ : Heap} {env : Env} {m : Str → Option Value} {pos : Pos} {e : PySem.Expr} {args : List PySem.Expr} {vs : List Value} {t : Nat} {Q : List Value → Shared → Prop} (_q : true = simA env (e :: args)) (F : Fr h₀ env.locals hp m)
    (hs : some (vs, t) = sims env m (e :: args) tk (fun vs t => some (vs, t))) (h : Q vs ⟨hp, gg, dd, t, oo⟩) : wpAny M A (spliced (backTo pos (starEach (e :: args) env))) Q E ⟨hp, gg, dd, tk, oo⟩ :=
  sims_run (s := ⟨hp, gg, dd, tk, oo⟩) F hs.symm fun vs' t' e9 => by cases e9; exact h
theorem attrN {M : Model} {A : Around} {E : Value → Shared → Prop} {s : Shared} {h₀ : Heap} {env : Env} {m : Str → Option Value} {x attr : Str} {v : Value} {xp pos : Pos} {Q : Value → Shared → Prop} (hx : true = nmL env x) (F : Fr h₀ env.locals s.heap m) (hv : some v = m x)
    (h : wpAny M A (getAttr v attr true) Q E s) : wpAny M A (eval (.Attribute (.Name x xp) attr pos) env) Q E s :=
  Attribute_Name_ (nameE hx F hv h)
/-- two simple sides -/
def sim2 (env : Env) (m : Str → Option Value) (l r : PySem.Expr) (t : Nat) : Option (Value × Value × Nat) :=
  sim env m t (fun a t1 => sim env m t1 (fun b t2 => some (a, b, t2)) r) l
theorem sim2_run {M : Model} {A : Around} {E : Value → Shared → Prop} {s : Shared} {h₀ : Heap} {env : Env} {m : Str → Option Value} {l r : PySem.Expr} {a b : Value} {t : Nat} {Q : Value → Value → Shared → Prop} (F : Fr h₀ env.locals s.heap m)
    (hs : sim2 env m l r s.toks = some (a, b, t)) (h : Q a b { s with toks := t }) : wpAny M A (eval l env) (fun a s₁ => wpAny M A (eval r env) (fun b s₂ => Q a b s₂) E s₁) E s :=
  sim_run F hs fun v t1 h1 => sim_run (s := { s with toks := t1 }) F h1 fun v2 t2 h2 => by cases h2; exact h
theorem cmpS {M : Model} {A : Around} {E : Value → Shared → Prop} {hp : Heap} {tk : Nat} {h₀ : Heap} {env : Env} {m : Str → Option Value} {l r : PySem.Expr} {op : CmpOp} {a b : Value} {t : Nat} {pos : Pos} {whole : Sem Value} {Q : Bool → Shared → Prop} (F : Fr h₀ env.locals hp m)
    (hs : some (a, b, t) = sim2 env m l r tk) (hm : false = behindInMarks op r)
    (h : wpAny M A (compareOp op a b) (fun c s₃ => wpAny M A (truthy c) Q E s₃) E ⟨hp, gg, dd, t, oo⟩) : wpAny M A (PySem.isTrue (.Compare l [op] [r] pos) env whole) Q E ⟨hp, gg, dd, tk, oo⟩ :=
  wpAny_isTrue_Compare1 (sim2_run (s := ⟨hp, gg, dd, tk, oo⟩) (Q := fun a b s₂ => wpAny M A (compareOp op a b) (fun c s₃ => wpAny M A (truthy c) Q E s₃) E s₂) F hs.symm h) hm.symm
theorem constI {M : Model} {A : Around} {E : Value → Shared → Prop} {hh9 : Heap} {tk : Nat} {i : Int} {k : Nat} {pos : Pos} {env : Env} {Q : Value → Shared → Prop} (h : Q (.int i tk) ⟨hh9, gg, dd, tk + 1, oo⟩) : wpAny M A (eval (.Constant (.int i) k pos) env) Q E ⟨hh9, gg, dd, tk, oo⟩ := wpAny_Constant_int h
theorem constS {M : Model} {A : Around} {E : Value → Shared → Prop} {hh9 : Heap} {tk : Nat} {i : Str} {k : Nat} {pos : Pos} {env : Env} {Q : Value → Shared → Prop} (h : Q (.str i tk) ⟨hh9, gg, dd, tk + 1, oo⟩) : wpAny M A (eval (.Constant (.str i) k pos) env) Q E ⟨hh9, gg, dd, tk, oo⟩ := Constant_str h
def nmG (env : Env) (x : Str) : Bool := decide (env.scope.kind = .function) && decide (env.kindOf x = some .globalImplicit) && decide (env.globals = mainGlobals) && !(x == ("__debug__" : Str))
theorem nmG_of {env : Env} {x : Str} (h : true = nmG env x) : env.scope.kind = .function ∧ env.kindOf x = some .globalImplicit ∧ env.globals = mainGlobals ∧ (x == ("__debug__" : Str)) = false := by
  replace h := h.symm
  unfold nmG at h
  simp only [Bool.and_eq_true, Bool.not_eq_true', decide_eq_true_eq] at h
  exact ⟨h.1.1.1, h.1.1.2, h.1.2, h.2⟩
theorem sims_star {env : Env} {m : Str → Option Value} {R : Type} {r : R} {e : PySem.Expr} {args : List PySem.Expr} {t : Nat} {k : List Value → Nat → Option R} (h : sims env m (e :: args) t k = some r) : starEach (e :: args) env = (false, eval e env) :: starEach args env := by
  have h' : sim env m t (fun v t1 => sims env m args t1 fun vs t2 => k (v :: vs) t2) e = some r := h
  unfold sim at h'
  split at h' <;> first | rfl | cases h'
theorem nameGE {K : Frag} {prog : Program} {w : World} {A : Around} {E : Value → Shared → Prop} {s : Shared} {h₀ : Heap} {env : Env} {m mg mb : Str → Option Value} {p : Program} {loose : List Str} {x : Str} {xp : Pos} {f : Value} {Q : Value → Shared → Prop}
    (hx : true = nmG env x) (F : Fr h₀ env.locals s.heap m) (X : K.In h₀) (T : TopRead p loose mg mb h₀) (e : nsIn K mainGlobals x = some (some f)) (h : Q f s) : wpAny (model prog w) A (eval (.Name x xp) env) Q E s := by
  obtain ⟨q1, q2, q3, q4⟩ := nmG_of hx
  exact Name_function_global q1 q2 (loadGlobal_global (by rw [q3]; exact T.g.keeps F.keep) (mg_of X T.g e) h) q4
/-- a method of an instance, called with simple arguments -/
theorem methKS {K : Frag} {prog : Program} {w : World} {A : Around} {E : Value → Shared → Prop} {hh9 h₀ : Heap} {tk t : Nat} {env : Env} {m : Str → Option Value} {on name : Str} {onp apos pos : Pos} {x C f : Addr} {l : List (Str × Value)} {a : PySem.Expr} {args : List PySem.Expr} {vs : List Value} {pl : Sem Bool} {Q : Value → Shared → Prop}
    (hq : true = simA env (a :: args)) (hx : true = nmL env on) (F : Fr h₀ env.locals hh9 m) (hv : some (.ref x) = m on) (X : K.In h₀) (I : Inst (Now hh9) x C l) (hg : plainGet K C name = true) (hf : findIn K (.ref C) name = some (some (.ref f))) (ht : isFn K (.ref f) = true) (hl : none = l.lookup name) (hk : keepIn K (.ref f) = true)
    (hs : some (vs, t) = sims env m (a :: args) tk (fun vs t => some (vs, t))) (hp : false = (backTo pos (starEach args env)).any (·.1))
    (he : eval (.Call (.Attribute (.Name on onp) name apos) (a :: args) [] pos) env = (do
      let ov ← eval (.Name on onp) env
      standAt apos.atName
      let (f, first) ← holding [ov] (getMethod ov name pl)
      callWith pos f first (backTo pos (starEach (a :: args) env)) []))
    (h : wpAny (model prog w) A (call (.ref f) (.ref x :: vs)) Q E ⟨hh9, gg, dd, t, oo⟩) : wpAny (model prog w) A (eval (.Call (.Attribute (.Name on onp) name apos) (a :: args) [] pos) env) Q E ⟨hh9, gg, dd, tk, oo⟩ := by
  refine MethodCall_ (nameE hx F hv (methI (s := ⟨hh9, gg, dd, tk, oo⟩) F X I hg hf ht hl.symm ?_)) he
  exact callWith_K (first := [.ref x]) X hk (splS hq F hs ⟨X.keeps F.keep, h⟩) (sims_star hs.symm) hp.symm
/-- an if whose test compares two simple sides -/
theorem ifC {M : Model} {A : Around} {E : Value → Shared → Prop} {hh9 h₀ : Heap} {tk t : Nat} {env : Env} {m : Str → Option Value} {l r : PySem.Expr} {op : CmpOp} {a b : Value} {cpos pos : Pos} {body orelse : List Stmt} {Q : Flow → Shared → Prop} (_q : true = simA env [l, r]) (F : Fr h₀ env.locals hh9 m)
    (hs : some (a, b, t) = sim2 env m l r tk) (hm : false = behindInMarks op r)
    (h : wpAny M A (compareOp op a b) (fun c s₃ => wpAny M A (truthy c) (fun b s₂ => if b then wpAny M A (execs body env) Q E s₂ else wpAny M A (execs orelse env) Q E s₂) E s₃) E ⟨hh9, gg, dd, t, oo⟩) :
    wpAny M A (exec (.If (.Compare l [op] [r] cpos) body orelse pos) env) Q E ⟨hh9, gg, dd, tk, oo⟩ := wpAny_If (cmpS F hs hm h)
theorem truT {M : Model} {A : Around} {E : Value → Shared → Prop} {s : Shared} {P R : Prop} (h : P) : (if true = true then P else R) := h
theorem subS {M : Model} {A : Around} {E : Value → Shared → Prop} {hh9 h₀ : Heap} {tk t : Nat} {env : Env} {m : Str → Option Value} {l r : PySem.Expr} {a b : Value} {pos : Pos} {Q : Value → Shared → Prop} (_q : true = simA env [l, r]) (F : Fr h₀ env.locals hh9 m)
    (hs : some (a, b, t) = sim2 env m l r tk) (h : wpAny M A (subscriptTail l r a b) Q E ⟨hh9, gg, dd, t, oo⟩) : wpAny M A (eval (.Subscript l r pos) env) Q E ⟨hh9, gg, dd, tk, oo⟩ :=
  Subscript_ (sim2_run (s := ⟨hh9, gg, dd, tk, oo⟩) (Q := fun a b s₂ => wpAny M A (subscriptTail l r a b) Q E s₂) F hs.symm h)
theorem cmpE {M : Model} {A : Around} {E : Value → Shared → Prop} {hh9 h₀ : Heap} {tk t : Nat} {env : Env} {m : Str → Option Value} {l r : PySem.Expr} {op : CmpOp} {a b : Value} {pos : Pos} {Q : Value → Shared → Prop} (_q : true = simA env [l, r]) (F : Fr h₀ env.locals hh9 m)
    (hs : some (a, b, t) = sim2 env m l r tk) (hm : false = behindInMarks op r) (h : wpAny M A (compareOp op a b) Q E ⟨hh9, gg, dd, t, oo⟩) : wpAny M A (eval (.Compare l [op] [r] pos) env) Q E ⟨hh9, gg, dd, tk, oo⟩ :=
  wpAny_Compare1 (sim2_run (s := ⟨hh9, gg, dd, tk, oo⟩) (Q := fun a b s₂ => wpAny M A (compareOp op a b) Q E s₂) F hs.symm h) hm.symm
theorem binS {M : Model} {A : Around} {E : Value → Shared → Prop} {hh9 h₀ : Heap} {tk t : Nat} {env : Env} {m : Str → Option Value} {l r : PySem.Expr} {op : Operator} {a b : Value} {pos : Pos} {Q : Value → Shared → Prop} (_q : true = simA env [l, r]) (F : Fr h₀ env.locals hh9 m)
    (hs : some (a, b, t) = sim2 env m l r tk) (h : wpAny M A (binaryOp op a b) Q E ⟨hh9, gg, dd, t, oo⟩) : wpAny M A (eval (.BinOp l op r pos) env) Q E ⟨hh9, gg, dd, tk, oo⟩ :=
  wpAny_BinOp (sim2_run (s := ⟨hh9, gg, dd, tk, oo⟩) (Q := fun a b s₂ => wpAny M A (binaryOp op a b) Q E s₂) F hs.symm h)
end Mine
end
section -- Tc
open PySem PySem.W PySem.Spec PySem.Calls PyProof.Rows PyProof.V PySem.SeqAt
set_option Elab.async false
set_option maxRecDepth 100000
set_option linter.unusedVariables false
namespace Mine
theorem readsAll_of_strs {h : Heap} : ∀ {vs : List Value} {ns : List Str}, StrsAre vs ns → ReadsAll h vs (ns.map PyData.str) []
  | _, _, .nil => .nil
  | _, _, .cons k t r => by
    have := ReadsAll.cons (Reads.str (h := h) k t) (readsAll_of_strs (h := h) r)
    simpa using this
theorem strsOf : ∀ {vs : List Value} {ns : List Str}, vs.length = ns.length → (∀ (i : Nat) (k : Str), ns[i]? = some k → ∃ t, vs[i]? = some (Value.str k t)) → StrsAre vs ns
  | [], [], _, _ => .nil
  | [], _ :: _, e, _ => nomatch e
  | _ :: _, [], e, _ => nomatch e
  | v :: vs, n :: ns, e, h => by
    obtain ⟨t, q⟩ := h 0 n rfl
    have q : v = .str n t := by simpa using q
    subst q
    exact .cons n t (strsOf (by simpa using e) fun i k e => by obtain ⟨t, q⟩ := h (i + 1) k (by simpa using e); exact ⟨t, by simpa using q⟩)
theorem canLayAll0_strs : ∀ ns : List Str, (∀ k ∈ ns, PyData.strOk k = true) → PyData.canLayAll0 (ns.map PyData.str) = true
  | [], _ => by simp [PyData.canLayAll0]
  | n :: r, h => by simp [PyData.canLayAll0, PyData.canLay0, canLayAll0_strs r (fun k hk => h k (.tail _ hk)), h n (.head _)]
theorem depthAll_strs : ∀ ns : List Str, PyData.depthAll (ns.map PyData.str) ≤ 1
  | [] => by simp [PyData.depthAll]
  | n :: r => by
    have := depthAll_strs r
    simp only [List.map_cons, PyData.depthAll, PyData.depth]
    omega
theorem shaped_strs (ns : List Str) (ok : ∀ k ∈ ns, PyData.strOk k = true) : SeqAt.shaped (.list (ns.map PyData.str)) = true := by
  have h1 := depthAll_strs ns
  have h2 : PyData.depth (.list (ns.map PyData.str)) ≤ 64 := by simp only [PyData.depth]; omega
  show (PyData.canLay0 (.list (ns.map PyData.str)) && decide (PyData.depth (.list (ns.map PyData.str)) ≤ 64)) = true
  rw [Bool.and_eq_true]
  exact ⟨by simp only [PyData.canLay0]; exact canLayAll0_strs ns ok, decide_eq_true h2⟩
theorem noMix_strs : ∀ ns ms : List Str, noMixAll (ns.map PyData.str) (ms.map PyData.str) = true
  | [], [] => by simp [noMixAll]
  | [], _ :: _ => by simp [noMixAll]
  | _ :: _, [] => by simp [noMixAll]
  | _ :: r, _ :: q => by simp [noMixAll, noMix, noMix_strs r q]
theorem same_strs : ∀ ns : List Str, PySem.Spec.sameAll (ns.map PyData.str) (ns.map PyData.str) = true
  | [] => by simp [PySem.Spec.sameAll]
  | n :: r => by simp only [List.map_cons, PySem.Spec.sameAll, PySem.Spec.same, same_strs r]; simp
section
variable {prog : Program} {w : World} {A : Around} {E : Value → Shared → Prop} {s : Shared}
theorem ne_strsSame {a b : Addr} {vs us : List Value} {ns : List Str} {Q : Value → Shared → Prop} (hl : s.heap.IsList a vs.toArray) (hi : StrsAre vs ns) (hl' : s.heap.IsList b us.toArray) (hi' : StrsAre us ns) (ok : ∀ k ∈ ns, PyData.strOk k = true) (hu : A.units + 64 < cLine)
    (h : Q (.bool false) s) : wpAny (model prog w) A (compareOp .NotEq (.ref a) (.ref b)) Q E s := by
  obtain ⟨o, ho, hc, n, hd⟩ := hl
  obtain ⟨o', ho', hc', n', hd'⟩ := hl'
  refine ne_dataH_same (Reads.list ho hc hd (by simpa using readsAll_of_strs hi)) (Reads.list ho' hc' hd' (by simpa using readsAll_of_strs hi')) (shaped_strs ns ok) (shaped_strs ns ok) hu (by simp only [noMix]; exact noMix_strs ns ns) ?_
  simp only [PySem.Spec.same]; rw [same_strs]; exact h
theorem valueAt_mem {kvs : List (Str × Value)} (hn : (kvs.map (·.1)).Nodup) {k : Str} {v : Value} (hm : (k, v) ∈ kvs) : valueAt kvs k = some v := by
  induction kvs with
  | nil => cases hm
  | cons p r ih =>
    obtain ⟨k', v'⟩ := p
    rw [List.map_cons, List.nodup_cons] at hn
    unfold valueAt
    rw [List.find?_cons]
    rcases List.mem_cons.mp hm with e | hm
    · cases e; simp
    · have hne : ¬ k' = k := fun e => hn.1 (e ▸ List.mem_map_of_mem (f := (·.1)) hm)
      simp only [hne, decide_false]
      exact ih hn.2 hm
theorem hits_same {kvs : List (Str × Value)} (hn : (kvs.map (·.1)).Nodup) : ∀ l : List (Str × Value), (∀ p ∈ l, p ∈ kvs) → KeqHits A s kvs l true
  | [], _ => .nil
  | (k, v) :: r, h => KeqHits.hit (e := true) (b := true) (valueAt_mem hn (h _ (.head _))) (SeqAt.EqAt.same v) (hits_same hn r fun p hp => h p (.tail _ hp))
theorem eqDict {a b : Addr} {kvs : List (Str × Value)} {Q : Value → Shared → Prop} (ha : SDict prog w (Now s.heap) a kvs) (hb : SDict prog w (Now s.heap) b kvs) (hu : A.units < cLine)
    (h : Q (.bool true) s) : wpAny (model prog w) A (compareOp .Eq (.ref a) (.ref b)) Q E s := by
  refine keq_eq ha.1 hb.1 ha.at hb.at hu (fun _ => hits_same ha.nodup kvs fun _ h => h) ?_
  simpa using h
theorem neDict {a b : Addr} {kvs : List (Str × Value)} {Q : Value → Shared → Prop} (ha : SDict prog w (Now s.heap) a kvs) (hb : SDict prog w (Now s.heap) b kvs) (hu : A.units < cLine)
    (h : Q (.bool false) s) : wpAny (model prog w) A (compareOp .NotEq (.ref a) (.ref b)) Q E s := by
  refine keq_ne ha.1 hb.1 ha.at hb.at hu (fun _ => hits_same ha.nodup kvs fun _ h => h) ?_
  simpa using h
variable {h₀ : Heap} {L : Addr} {m : Str → Option Value} {news : List (Addr × Obj)} {d : Addr} {kvs : List (Str × Value)} {Q : Value → Shared → Prop}
/-- list(dict): its names -/
theorem listD {hh9 : Heap} {gg : Array GenState} {dd : Drawn} {tk9 : Nat} {oo : OsState} (hh : A.handled = none) (F : Fr h₀ L hh9 m) (N : News h₀ L hh9 news) (hd : SDict prog w (Now hh9) d kvs) (hn : kvs.length ≤ 16777216)
    (h : ∀ (B : Addr) c h' tk vs, Fr h₀ L h' m → News h₀ L h' ((B, listOf vs.toArray c) :: news) → (∀ q ∈ news, q.1 < B) → StrsAre vs (kvs.map (·.1)) → Q (.ref B) ⟨h', gg, dd, tk, oo⟩) :
    wpAny (model prog w) A (call (.type "list") [.ref d]) Q E ⟨hh9, gg, dd, tk9, oo⟩ := by
  obtain ⟨ep, hat⟩ := hd.at.dictAt
  refine kdl_N (kdl_dict (knd := PySem.strKind prog w) (kvs := kvs) (ep := ep) hd.1) hh F N hat (kdl_size hn) fun B c h' tk vs F' N' l1 hl hv => ?_
  refine h B c h' tk vs F' N' l1 (strsOf (by rw [hl, List.length_map]) fun i k hk => ?_)
  have hlt : i < vs.length := by rw [hl]; have := (List.getElem?_eq_some_iff.mp hk).1; simpa using this
  obtain ⟨k', x, hx, hk'⟩ := hv i vs[i] (by simp [hlt])
  obtain ⟨t, e⟩ := Value.isStrOf_shape hk'
  rw [List.getElem?_map, hx] at hk
  cases hk
  exact ⟨t, by rw [← e]; simp [hlt]⟩
/-- dict(d): a copy -/
theorem dictD {hh9 : Heap} {gg : Array GenState} {dd : Drawn} {tk9 : Nat} {oo : OsState} (F : Fr h₀ L hh9 m) (N : News h₀ L hh9 news) (hbig : h₀.NoLimit) (hd : SDict prog w (Now hh9) d kvs) (hn : kvs.length ≤ 16777216)
    (h : ∀ D h' o, Fr h₀ L h' m → News h₀ L h' ((D, o) :: news) → (∀ p ∈ news, p.1 < D) → (D == sysModules) = false → o.IsDictOf (PySem.strKind prog w) kvs → Q (.ref D) ⟨h', gg, dd, tk9, oo⟩) :
    wpAny (model prog w) A (call (.type "dict") [.ref d]) Q E ⟨hh9, gg, dd, tk9, oo⟩ := by
  refine kt_call_dict hd.1 hd.at (by rw [sizeLine_eq]; exact hn) fun h' hm hs => ?_
  obtain ⟨o', ho', hd'⟩ := Heap.dictOf_iff.mp hm
  have N1 := News.push F N { cls := .type "dict", data := .dict #[] }
  exact h _ h' o' ((F.push _).change hs (N1 _ (.head _)).2.1 (N1.fresh (.head _))) (N1.setHead N.apart hs ho') (fun p hp => Heap.lt_size (N p hp).1) (F.notModules (modules_low hbig)) hd'
/-- dict.update with a dict -/
theorem updateD {o : Obj} {d' : Addr} {more : List (Str × Value)} {upd : Obj → List (Addr × Obj)} (F : Fr h₀ L s.heap m) (N : News h₀ L s.heap news) (U : UpdF d o news upd) (hd : o.IsDictOf (PySem.strKind prog w) kvs) (hm : SDict prog w (Now s.heap) d' more) (hne : d ≠ d') (hz : kvs.length + more.length ≤ 16777216)
    (h : ∀ h' o', Fr h₀ L h' m → News h₀ L h' (upd o') → o'.IsDictOf (PySem.strKind prog w) (merged kvs more) → Q .none { s with heap := h' }) :
    wpAny (model prog w) A (call (.builtin "dict.update") [.ref d, .ref d']) Q E s := by
  obtain ⟨pre, post, rfl, hg, a, b⟩ := U.split
  have n1 := N (d, o) (List.mem_append_right _ (.head _))
  have hD : s.heap.DictOf (PySem.strKind prog w) d kvs := Heap.dictOf_iff.mpr ⟨o, n1.1, hd⟩
  refine call_meetsIn PySem.F.slot_dict_update hD.typeIs PySem.F.entry_dict_update (PySem.F.args_dict_update_2 _ _) (meets_dict_update (PySem.strKind prog w) d d' hne hm.1) ⟨kvs, more, hD, hm.at, by rw [sizeLine_eq]; exact hz, fun h' h1 h2 hs => ?_⟩
  obtain ⟨o', ho', hd'⟩ := Heap.dictOf_iff.mp h1
  exact h h' o' (F.change hs n1.2.1 n1.2.2) (hg o' ▸ N.setIn a b hs ho') hd'
end

section
variable {K : Frag} {p : Program} {loose : List Str} {mean : ExcName → Option Value} {mg mb : Str → Option Value} {A₀ : Around} {base h₀ h h' : Heap} {outer : List Env} {L : Addr} {m : Str → Option Value} {news tl : List (Addr × Obj)} {mods : List Addr}
/-- a call that turns no frame -/
theorem Cx.after0 (C : Cx K p loose mean mg mb A₀ base outer h₀ L h m) (E : Ext [] mods h h') (hm : ∀ a ∈ mods, a ≠ L ∧ h₀.get? a = none) :
    Cx K p loose mean mg mb A₀ base outer h₀ L h' m ∧
      (∀ news, News h₀ L h news → (∀ p ∈ news, p.1 ∉ mods) → News h₀ L h' news) ∧ (∀ tl, Made h h' tl → News h₀ L h' tl) := by
  obtain ⟨B, F, X, T, XB, TB, D⟩ := C
  have ke : ∀ b o, h₀.get? b = some o → h'.get? b = some o := fun b o e => E.keep b o (F.keep b o e) (by simp) fun q => by rw [(hm b q).2] at e; cases e
  have hL : ∀ o, h.get? L = some o → h'.get? L = some o := fun o e => E.keep L o e (by simp) fun q => (hm L q).1 rfl
  refine ⟨⟨B, ⟨F.ns.at' hL, ke, F.above⟩, X, T, XB, TB, D⟩, fun news N hn p hp => ?_, fun tl M p hp => ?_⟩
  · have ⟨a, b, c⟩ := N p hp
    exact ⟨E.keep _ _ a (by simp) (hn p hp), b, c⟩
  · have ⟨a, b⟩ := M p hp
    obtain ⟨oL, _, _, e1, _⟩ := F.ns
    refine ⟨a, (fun q => by rw [q, e1] at b; cases b), ?_⟩
    cases q : h₀.get? p.1 with
    | none => rfl
    | some o => rw [F.keep _ _ q] at b; cases b
/-- the way out of a def that turned no frame; the ledger's objects may have changed -/
theorem Grd.extM {h g h' : Heap} {L' : Addr} {mods : List Addr} {m : Str → Option Value} (G : Grd h g L' mods) (F : Fr g L' h' m) : Ext [] mods h h' := G.ext KtsTurn.refl F (by simp)
theorem Grd.madeM {h g h' : Heap} {L' L₂ : Addr} {mods : List Addr} {l tl : List (Addr × Obj)} (G : Grd h g L' mods) (N : News g L₂ h' l) (hs : ∀ p ∈ tl, p ∈ l) (hm : ∀ p ∈ tl, p.1 ∉ mods) : Made h h' tl := G.made (fs := []) KtsTurn.refl N hs hm
end
section
variable {prog : Program} {w : World} {A : Around} {E : Value → Shared → Prop} {s : Shared} {env : Env} {h₀ : Heap} {x : Str} {body : List Stmt} {Q : Flow → Shared → Prop}
theorem loopR {fs : List Addr} {r : Addr} {a : Int} {n : Nat} {t₁ t₂ t₃ : Tok} {b : Int} {m₀ : Str → Option Value} {news : List (Addr × Obj)} (J : Nat → (Str → Option Value) → List (Addr × Obj) → Prop)
    (hh : A.handled = none) (D : KtsDicts fs h₀) (hr : IsRange s.heap r a b 1 t₁ t₂ t₃) (hsm : Builtin.Range.small a b 1 = true) (hn : Builtin.Range.rangeSize a b 1 = n) (F : Fr h₀ env.locals s.heap m₀) (N : News h₀ env.locals s.heap news) (hj : J 0 m₀ news)
    (turn : ∀ i t m₁ news₁ own g h tk, KtsTurn fs h₀ g → i < n → J i m₁ news₁ → Apart news₁ own → Fr g env.locals h (fun y => if y = x then some (.int (a + (i : Int)) t) else m₁ y) → News g env.locals h (news₁ ++ own) →
      wpAny (model prog w) A (execs body env) (TurnEnd fs h₀ env.locals own (J (i + 1)) { s with heap := h, toks := tk } Q) E { s with heap := h, toks := tk })
    (done : ∀ m₁ news₁ g h tk, KtsTurn fs h₀ g → J n m₁ news₁ → Fr g env.locals h m₁ → News g env.locals h news₁ → Q .next { s with heap := h, toks := tk }) :
    wpAny (model prog w) A (pyIter (.ref r)) (fun it s₂ => LoopK prog w A fs h₀ env x body Q E it s₂) E s := by
  have hI : h₀.get? s.heap.objs.size = none := next_is_new F
  refine wpAny_pyIter_range hr hsm ?_
  have W := Walks.range (prog := prog) (w := w) hh s.heap.objs.size a 1 n
  refine ⟨_, _, _, n, _, _, m₀, news, J, rfl, W, ?_, ?_, ?_, ?_, ?_, ?_, F.push _, (fun p hp => ⟨Heap.get?_push_of_some _ (N p hp).1, (N p hp).2⟩), hj, ?_, ?_⟩
  · intro hm
    exact absurd F.ns.lt (List.mem_singleton.mp hm ▸ Nat.lt_irrefl _)
  · intro b hb hm
    rw [List.mem_singleton.mp hm] at hb
    obtain ⟨o, _, _, e, _⟩ := D _ hb
    rw [hI] at e; cases e
  · intro b hb
    rw [List.mem_singleton.mp hb]
    exact hI
  · intro b hb i h st
    rw [List.mem_singleton.mp hb]; exact ⟨_, st⟩
  · intro p hp hq
    exact absurd (Heap.lt_size (N p hp).1) (List.mem_singleton.mp hq ▸ Nat.lt_irrefl _)
  · rw [hn]
    have e1 : a + ((0 : Nat) : Int) * 1 = a := by simp
    have e2 : (n : Int) - ((0 : Nat) : Int) = n := by simp
    rw [e1, e2]
    exact Heap.get?_push_size _ rfl
  · rintro i v m₁ news₁ own g h tk T hi ⟨t, rfl⟩ hJ hap F₁ N₁
    have e : a + (i : Int) * 1 = a + (i : Int) := by rw [Int.mul_one]
    rw [e] at F₁
    exact turn i t m₁ news₁ own g h tk T hi hJ hap F₁ N₁
  · intro g h' tk m' news' T F' N' hJ
    exact done m' news' g h' tk T hJ F' N'
end
/-- the draws: the row, and where it stands -/
def Draws (prog : Program) (w : World) (o : Obj) (rl : Addr) (n : Int) : Prop := ∃ t, o.IsDictOf (PySem.strKind prog w) [("row", .ref rl), ("at", .int n t)]
def IntsIn (vs : List Value) (a b : Int) : Prop := ∀ v ∈ vs, ∃ n t, v = .int n t ∧ a ≤ n ∧ n < b
theorem stored_at (a b v : Value) : stored [(Str.ofString "row", a), (Str.ofString "at", b)] (Str.ofString "at") v = [(Str.ofString "row", a), (Str.ofString "at", v)] := by
  unfold stored
  rfl
theorem lenL {hh9 : Heap} {gg : Array GenState} {dd : Drawn} {tk9 : Nat} {oo : OsState} {prog : Program} {w : World} {A : Around} {E : Value → Shared → Prop} {l : Addr} {vs : List Value} {Q : Value → Shared → Prop} (hl : LstOf (Now hh9) l vs) (hn : vs.length ≤ 16777216) (h : Q (.int vs.length (tk9 + 1)) ⟨hh9, gg, dd, tk9 + 1 + 1, oo⟩) :
    wpAny (model prog w) A (call (.builtin "len") [.ref l]) Q E ⟨hh9, gg, dd, tk9, oo⟩ := by
  refine call_len_list hl.at (by rw [List.size_toArray]; omega) (by rw [List.size_toArray]; exact h)
theorem itemLI {prog : Program} {w : World} {A : Around} {E : Value → Shared → Prop} {s : Shared} {l : Addr} {vs : List Value} {lo hi i : Int} {t : Tok} {value slice : PySem.Expr} {Q : Value → Shared → Prop} (hl : LstOf (Now s.heap) l vs) (hv : IntsIn vs lo hi) (h0 : 0 ≤ i) (h1 : i < (vs.length : Int)) (hz : vs.length ≤ 16777216) (h : ∀ n t, lo ≤ n → n < hi → Q (.int n t) s)
    (hs : subscripted slice false (.ref l) (.int i t) = operate [.ref l, .int i t] (getItem (.ref l) (.int i t)) := by with_unfolding_all rfl) :
    wpAny (model prog w) A (subscriptTail value slice (.ref l) (.int i t)) Q E s := by
  have hlt : i.toNat < vs.length := by omega
  obtain ⟨n, t', e, a, b⟩ := hv vs[i.toNat] (List.getElem_mem hlt)
  exact item_listR (x := .int n t') hl.at h0 (by omega) (by simp [hlt, e]) (h n t' a b) hs
/-- the draws, at most so many taken -/
def DrawsU (prog : Program) (w : World) (o : Obj) (rl : Addr) (k : Nat) : Prop := ∃ n : Int, 0 ≤ n ∧ n ≤ (k : Int) ∧ Draws prog w o rl n
theorem DrawsU.le {prog : Program} {w : World} {o : Obj} {rl : Addr} {k k' : Nat} (h : DrawsU prog w o rl k) (e : k ≤ k') : DrawsU prog w o rl k' := let ⟨n, a, b, c⟩ := h; ⟨n, a, by omega, c⟩
theorem news_upd {h₀ h h' : Heap} {L wd : Addr} {o o' : Obj} {news : List (Addr × Obj)} {upd : Obj → List (Addr × Obj)} (N : News h₀ L h news) (U : UpdF wd o news upd) (E : Ext [] [wd] h h') (hw : h'.get? wd = some o') : News h₀ L h' (upd o') := by
  obtain ⟨pre, post, rfl, hg, a, b⟩ := U.split
  rw [hg]
  have n1 := N (wd, o) (List.mem_append_right _ (.head _))
  intro p hp
  rcases List.mem_append.mp hp with hp | hp
  · have n2 := N p (List.mem_append_left _ hp)
    exact ⟨E.keep _ _ n2.1 (by simp) (by simpa using a p hp), n2.2⟩
  · rcases List.mem_cons.mp hp with rfl | hp
    · exact ⟨hw, n1.2⟩
    · have n2 := N p (List.mem_append_right _ (.tail _ hp))
      exact ⟨E.keep _ _ n2.1 (by simp) (by simpa using b p hp), n2.2⟩
theorem draws_ne {prog : Program} {w : World} {h₀ h : Heap} {L : Addr} {o : Obj} {wd rl l : Addr} {k : Nat} {fs : List Addr} {vs : List Value} {news : List (Addr × Obj)} (N : News h₀ L h news) (hp : (wd, o) ∈ news) (ho : DrawsU prog w o rl k) (hrl : LstOf (At fs h) l vs) : l ≠ wd := by
  intro hq
  obtain ⟨o2, k2, e2, e3, e4⟩ := hrl
  have e5 := (N (wd, o) hp).1
  rw [← hq, e2.1] at e5
  obtain ⟨_, _, _, _, hd⟩ := ho
  obtain ⟨_, _, _, e6, _⟩ := hd
  cases e5
  rw [e4] at e6; cases e6
theorem LstOf.enter {fs : List Addr} {h g : Heap} {L' l : Addr} {mods : List Addr} {vs : List Value} (hl : LstOf (At fs h) l vs) (G : Grd h g L' mods) (hn : l ∉ mods) : LstOf (At fs g) l vs :=
  (show LstOf (fun a o => At fs h a o ∧ a ∉ mods) l vs from let ⟨o2, k2, a, b, c⟩ := hl; ⟨o2, k2, ⟨a, hn⟩, b, c⟩).mono G.subs
theorem valueAt_cons {p : Str × Value} {r : List (Str × Value)} {k : Str} : valueAt (p :: r) k = if p.1 = k then some p.2 else valueAt r k := by
  unfold valueAt
  rw [List.find?_cons]
  by_cases h : p.1 = k <;> simp [h]
theorem valueAt_append {r : List (Str × Value)} {k k' : Str} {v : Value} : valueAt (r ++ [(k, v)]) k' = (valueAt r k').or (if k = k' then some v else none) := by
  induction r with
  | nil => rw [List.nil_append, valueAt_cons]; simp [valueAt]
  | cons p r ih =>
    rw [List.cons_append, valueAt_cons, valueAt_cons, ih]
    by_cases h : p.1 = k' <;> simp [h]
theorem valueAt_none {r : List (Str × Value)} {k : Str} (h : r.any (fun kv => kv.1 = k) = false) : valueAt r k = none := by
  induction r with
  | nil => rfl
  | cons p r ih =>
    rw [List.any_cons, Bool.or_eq_false_iff] at h
    have h1 : ¬ p.1 = k := by simpa using h.1
    rw [valueAt_cons, if_neg h1]; exact ih h.2
theorem valueAt_map {r : List (Str × Value)} {k k' : Str} {v : Value} : valueAt (r.map fun kv => if kv.1 = k then (kv.1, v) else kv) k' = if k' = k then (if r.any (fun kv => kv.1 = k) then some v else none) else valueAt r k' := by
  induction r with
  | nil => simp [valueAt]
  | cons p r ih =>
    rw [List.map_cons, valueAt_cons, ih, valueAt_cons, List.any_cons]
    by_cases h1 : p.1 = k
    · by_cases h2 : k' = k
      · subst h2; simp [h1]
      · have h3 : ¬ k = k' := fun e => h2 e.symm
        simp [h1, h2, h3]
    · have h4 : decide (p.1 = k) = false := decide_eq_false h1
      by_cases h2 : k' = k
      · subst h2
        rw [h4, Bool.false_or, if_pos rfl, if_pos rfl, if_neg h1]
        simp only [if_neg h1]
      · simp [h1, h2]
theorem valueAt_stored {kvs : List (Str × Value)} {k k' : Str} {v : Value} : valueAt (stored kvs k v) k' = if k' = k then some v else valueAt kvs k' := by
  unfold stored
  by_cases h : kvs.any (fun kv => kv.1 = k) = true
  · rw [if_pos h, valueAt_map]
    by_cases h2 : k' = k
    · rw [if_pos h2, if_pos h2, if_pos h]
    · rw [if_neg h2, if_neg h2]
  · rw [if_neg h, valueAt_append]
    by_cases h2 : k' = k
    · subst h2; rw [valueAt_none (Bool.eq_false_iff.mpr h)]; simp
    · have h3 : ¬ k = k' := fun e => h2 e.symm
      rw [if_neg h3, if_neg h2]; simp
theorem SigsOk.put {C : Addr} {H : Addr → Obj → Prop} {kvs : List (Str × Value)} {sig : Str → Str} {k sg : Str} {a : Addr} (h : SigsOk C H kvs sig) (x : SigObj C H a sg) : SigsOk C H (stored kvs k (.ref a)) (fun y => if y = k then sg else sig y) := by
  intro k' v e
  rw [valueAt_stored] at e
  by_cases q : k' = k
  · rw [if_pos q] at e; cases e
    exact ⟨a, rfl, by simpa [q] using x⟩
  · rw [if_neg q] at e
    obtain ⟨b, e1, e2⟩ := h k' v e
    exact ⟨b, e1, by simpa [q] using e2⟩
/-- the texts of the signatures -/
def sigTexts : List Str := ["p0:load", "p1:load", "p2:load", "p3:load", "p4:load", "p5:load", "p6:load", "p0:loads", "p1:loads", "p2:loads", "p3:loads", "p4:loads", "p5:loads", "p6:loads"].map Str.ofString
theorem loopR1 {prog : Program} {w : World} {A : Around} {E : Value → Shared → Prop} {s : Shared} {env : Env} {h₀ : Heap} {x : Str} {body : List Stmt} {Q : Flow → Shared → Prop} {fs : List Addr} {r d : Addr} {od : Obj} {a : Int} {n : Nat} {t₁ t₂ t₃ : Tok} {b : Int} {m₀ : Str → Option Value} {rest : List (Addr × Obj)} (J : (Str → Option Value) → Addr → Nat → (Str → Option Value) → List (Addr × Obj) → Prop)
    (hh : A.handled = none) (D : KtsDicts fs h₀) (F : Fr h₀ env.locals s.heap m₀) (N : News h₀ env.locals s.heap ((d, od) :: rest)) (hr : IsRange s.heap r a b 1 t₁ t₂ t₃) (hsm : Builtin.Range.small a b 1 = true) (hn : Builtin.Range.rangeSize a b 1 = n) (hj : J m₀ d 0 m₀ ((d, od) :: rest))
    (turn : ∀ i t m₁ news₁ own g h tk, KtsTurn fs h₀ g → i < n → J m₀ d i m₁ news₁ → Apart news₁ own → Fr g env.locals h (fun y => if y = x then some (.int (a + (i : Int)) t) else m₁ y) → News g env.locals h (news₁ ++ own) →
      wpAny (model prog w) A (execs body env) (TurnEnd fs h₀ env.locals own (J m₀ d (i + 1)) { s with heap := h, toks := tk } Q) E { s with heap := h, toks := tk })
    (done : ∀ m₁ news₁ g h tk, KtsTurn fs h₀ g → J m₀ d n m₁ news₁ → Fr g env.locals h m₁ → News g env.locals h news₁ → Q .next { s with heap := h, toks := tk }) :
    wpAny (model prog w) A (pyIter (.ref r)) (fun it s₂ => LoopK prog w A fs h₀ env x body Q E it s₂) E s := loopR (J m₀ d) hh D hr hsm hn F N hj turn done
theorem offApp {tl own : List (Addr × Obj)} {d wd : Addr} {oF ow : Obj} (h : OwnOff tl [d, wd]) (hap : Apart ((d, oF) :: (wd, ow) :: tl) own) : OwnOff (tl ++ own) [d, wd] := fun p hp b hb e => by
  rcases List.mem_append.mp hp with hp | hp
  · exact h p hp b hb e
  · rcases List.mem_cons.mp hb with rfl | hb
    · exact hap (b, oF) (.head _) p hp e.symm
    · rw [List.mem_singleton.mp hb] at e; exact hap (wd, ow) (.tail _ (.head _)) p hp e.symm
theorem itemTwo {prog : Program} {w : World} {A : Around} {E : Value → Shared → Prop} {s : Shared} {l : Addr} {a b : Str} {ta tb : Tok} {i : Int} {t : Tok} {value slice : PySem.Expr} {Q : Value → Shared → Prop} (hl : s.heap.IsList l #[.str a ta, .str b tb]) (h0 : 0 ≤ i) (h1 : i < 2) (h : ∀ c t, (c = a ∨ c = b) → Q (.str c t) s)
    (hs : subscripted slice false (.ref l) (.int i t) = operate [.ref l, .int i t] (getItem (.ref l) (.int i t)) := by with_unfolding_all rfl) :
    wpAny (model prog w) A (subscriptTail value slice (.ref l) (.int i t)) Q E s := by
  rcases (show i = 0 ∨ i = 1 by omega) with rfl | rfl
  · exact item_listR (x := .str a ta) hl h0 (by omega) (by rfl) (h a ta (.inl rfl)) hs
  · exact item_listR (x := .str b tb) hl h0 (by omega) (by rfl) (h b tb (.inr rfl)) hs
theorem allLtMem {d : Nat} {l : List (Addr × Obj)} (h : AllLt d l) : ∀ p ∈ l, p.1 < d := by
  induction l with
  | nil => intro p hp; cases hp
  | cons q r ih =>
    intro p hp
    rcases List.mem_cons.mp hp with e | hp
    · rw [e]; exact h.1
    · exact ih h.2 p hp
theorem sig_text (i : Nat) (h : i < 7) : Str.ofString "p" ++ Str.ofString (toString (0 + (i : Int))) ++ Str.ofString ":load" ∈ sigTexts ∧ Str.ofString "p" ++ Str.ofString (toString (0 + (i : Int))) ++ Str.ofString ":loads" ∈ sigTexts ∧ Str.ofString "p" ++ Str.ofString (toString ((0 + (i : Int) + 1).fmod 7)) ++ Str.ofString ":load" ∈ sigTexts := by
  revert i; decide +kernel
/-- the state of the loop over the signatures -/
inductive SigSt (prog : Program) (w : World) (wd rl : Addr) (k : Nat) (ts : List Str) (m₀ : Str → Option Value) (d : Addr) (i : Nat) (m₁ : Str → Option Value) (news₁ : List (Addr × Obj)) : Prop
  | mk (i1 : Agree ts m₁ m₀)
    (oF : _) (ow : _) (kvs : _) (sig : _) (tl : _)
    (i2 : news₁ = (d, oF) :: (wd, ow) :: tl)
    (i3 : oF.IsDictOf (PySem.strKind prog w) kvs)
    (i4 : DrawsU prog w ow rl (k + 2 * i))
    (i5 : SigsOk 101 (Led tl) kvs sig)
    (i6 : (∀ x, sig x ∈ sigTexts))
    (i7 : OwnOff tl [d, wd])
    (i8 : kvs.length ≤ i)
    (i9 : wd < d) : SigSt prog w wd rl k ts m₀ d i m₁ news₁
theorem sig_end {prog : Program} {w : World} {wd rl dF x dx L : Addr} {k i : Nat} {ts : List Str} {m₀ m' : Str → Option Value} {g h' : Heap} {all tlo tl own : List (Addr × Obj)} {oF ow odx : Obj} {kvs : List (Str × Value)} {sig : Str → Str} {name sg : Str} {v1 v3 : Value} {t : Tok}
    (N : News g L h' all) {m₁ : Str → Option Value} (F : Fr g L h' m') (ha0 : Agree ts m₁ m₀) (hd : oF.IsDictOf (PySem.strKind prog w) (stored kvs name (.ref x))) (hw : DrawsU prog w ow rl (k + 2 * (i + 1))) (htlo : tl ++ own = tlo) (s1 : (dF, oF) ∈ all) (s2 : (wd, ow) ∈ all) (hap : OwnOff tlo [dF, wd]) (hap2 : Apart tl own) (s3 : (x, instObj 101 dx) ∈ all) (s4 : (dx, odx) ∈ all) (s5 : ∀ p ∈ tlo, p ∈ all)
    (l1 : dF < dx ∧ wd < dx ∧ AllLt dx tlo) (l2 : dx < x) (hI : Inst (Led [(x, instObj 101 dx), (dx, odx)]) x 101 [("keyid", v1), ("signature", .str sg t), ("unrecognized_fields", v3)]) (ha : Agree ts m' m₀)
    (hS : SigsOk 101 (Led tl) kvs sig) (hst : ∀ x, sig x ∈ sigTexts) (hsg : sg ∈ sigTexts) (hz : kvs.length ≤ i) (hlt : wd < dF) :
    ∃ news', Fr g L h' m' ∧ News g L h' (news' ++ own) ∧ Apart news' own ∧ SigSt prog w wd rl k ts m₀ dF (i + 1) m' news' := by
  subst htlo
  have lo := fun p hp => allLtMem l1.2.2 p hp
  refine ⟨(dF, oF) :: (wd, ow) :: (x, instObj 101 dx) :: (dx, odx) :: tl, F, fun p hp => N p ?_, fun p hp q hq e => ?_, ha, oF, ow, stored kvs name (.ref x), (fun y => if y = name then sg else sig y), (x, instObj 101 dx) :: (dx, odx) :: tl, rfl, hd, hw, (hS.mono (Sub.mem fun p hp => .tail _ (.tail _ hp))).put ⟨v1, v3, t, hI.mono (Sub.mem fun p hp => ?_)⟩, fun y => ?_, fun p hp b hb e => ?_, ?_, hlt⟩
  · simp only [List.cons_append, List.mem_cons, List.mem_append] at hp
    rcases hp with rfl | rfl | rfl | rfl | hp
    · exact s1
    · exact s2
    · exact s3
    · exact s4
    · exact s5 p (List.mem_append.mpr hp)
  · have hq' : q ∈ tl ++ own := List.mem_append_right _ hq
    simp only [List.mem_cons] at hp
    rcases hp with rfl | rfl | rfl | rfl | hp
    · exact hap q hq' dF (by simp) e.symm
    · exact hap q hq' wd (by simp) e.symm
    · have := lo q hq'; rw [← e] at this; exact absurd (Nat.lt_trans this l2) (Nat.lt_irrefl _)
    · have := lo q hq'; rw [← e] at this; exact absurd this (Nat.lt_irrefl _)
    · exact hap2 p hp q hq e
  · simp only [List.mem_cons, List.not_mem_nil, or_false] at hp ⊢
    rcases hp with rfl | rfl <;> simp
  · show (if y = name then sg else sig y) ∈ sigTexts
    split
    · exact hsg
    · exact hst y
  · have hb' : b = dF ∨ b = wd := by simpa using hb
    have l3 : b < dx := hb'.elim (fun q => q ▸ l1.1) (fun q => q ▸ l1.2.1)
    simp only [List.mem_cons] at hp
    rcases hp with rfl | rfl | hp
    · rw [← e] at l3; exact absurd (Nat.lt_trans l3 l2) (Nat.lt_irrefl _)
    · rw [← e] at l3; exact absurd l3 (Nat.lt_irrefl _)
    · exact hap p (List.mem_append_left _ hp) b hb e
  · have := stored_len kvs name (.ref x); omega
theorem sig_skip {prog : Program} {w : World} {wd rl dF L : Addr} {k i : Nat} {ts : List Str} {m₀ m' : Str → Option Value} {g h' : Heap} {tlo tl own : List (Addr × Obj)} {oF ow : Obj} {kvs : List (Str × Value)} {sig : Str → Str}
    (N : News g L h' ((dF, oF) :: (wd, ow) :: tlo)) {m₁ : Str → Option Value} (F : Fr g L h' m') (ha0 : Agree ts m₁ m₀) (htlo : tl ++ own = tlo) (hoff : OwnOff tl [dF, wd]) (hofo : OwnOff tlo [dF, wd]) (hap2 : Apart tl own) (ha : Agree ts m' m₀)
    (hd : oF.IsDictOf (PySem.strKind prog w) kvs) (hw : DrawsU prog w ow rl (k + 2 * (i + 1))) (hS : SigsOk 101 (Led tl) kvs sig) (hst : ∀ x, sig x ∈ sigTexts) (hz : kvs.length ≤ i) (hlt : wd < dF) :
    ∃ news', Fr g L h' m' ∧ News g L h' (news' ++ own) ∧ Apart news' own ∧ SigSt prog w wd rl k ts m₀ dF (i + 1) m' news' := by
  subst htlo
  refine ⟨(dF, oF) :: (wd, ow) :: tl, F, N, fun p hp q hq e => ?_, ha, oF, ow, _, _, tl, rfl, hd, hw, hS, hst, hoff, by omega, hlt⟩
  have hq' : q ∈ tl ++ own := List.mem_append_right _ hq
  simp only [List.mem_cons] at hp
  rcases hp with rfl | rfl | hp
  · exact hofo q hq' dF (by simp) e.symm
  · exact hofo q hq' wd (by simp) e.symm
  · exact hap2 p hp q hq e
theorem fr_nil {g g' h : Heap} {L : Addr} {m : Str → Option Value} (T : KtsTurn [] g g') (F : Fr g' L h m) : Fr g L h m :=
  ⟨F.ns, fun b o e => F.keep b o (T.other b o e (by simp)), by rw [← T.size]; exact F.above⟩
theorem news_nil {g g' h : Heap} {L : Addr} {news : List (Addr × Obj)} (T : KtsTurn [] g g') (N : News g' L h news) : News g L h news := fun p hp => by
  have ⟨a, b, c⟩ := N p hp
  refine ⟨a, b, ?_⟩
  cases q : g.get? p.1 with
  | none => rfl
  | some o => rw [T.other _ o q (by simp)] at c; cases c
theorem dicts_nil {g : Heap} : KtsDicts [] g := fun _ hb => nomatch hb
section
variable {prog : Program} {w : World} {A₀ A : Around} {s : Shared} {base h₀ : Heap} {outer : List Env} {L : Addr} {m : Str → Option Value} {env : Env} {news : List (Addr × Obj)}
/-- a def with cells is entered -/
theorem enterCC {K : Frag} {p : Program} {loose : List Str} {mean : ExcName → Option Value} {mg mb : Str → Option Value} {R : Result → Shared → Prop} {name qual : Str} {params : Arguments} {body : List Stmt} {scope : Scope} {dV kV doc pm cdv ct oc : Value} {an od : Option Addr} {osl : Array (Option Value)} {f : Addr} {args : Args} {binds : List (Str × Value)}
    (hA : A.frames = some (env :: outer)) (hf : env.frame = some L) (hke : env.scope.kind = .function) (F : Fr h₀ L s.heap m) (B : Below A₀ base outer h₀) (X : K.In h₀) (N : News h₀ L s.heap news) (T : Top p loose mean mg mb h₀) (D : KtsDicts (frs outer) h₀)
    (ho : K.lookup f = some ⟨oc, od, .func (fnOf name qual params body scope dV kV doc pm an cdv ct), osl⟩) (hcd : codeIn K cdv qual = true) (hroom : A.depth < recursionLimit)
    (hbind : BindsTo s (fnOf name qual params body scope dV kV doc pm an cdv ct) args binds) (hkind : (binds.all fun y => scope.names.lookup y.1 == some .local || scope.names.lookup y.1 == some .cell) = true)
    (hnd : ((cellsFrom 0 scope.names []).map (·.1)).Nodup)
    (h : ∀ g L' h₁ (tk : Nat) cells, let m' := bindL (envOfC qual scope L' f cdv).kindOf binds fun _ => none; let eK := envOfC qual scope L' f cdv; let aK := A.deeper eK; let gK := s.gens; let dK := s.drawn; let oK := s.os;
      Fr g L' h₁ m' → News g L' h₁ (cells ++ news) →
      CellsAre (bindC (envOfC qual scope L' f cdv).kindOf binds fun _ => none) (cellsFrom (L' + 1) scope.names []) cells → Below A base (env :: outer) g → K.In g → Top p loose mean mg mb g → KtsDicts (frs (env :: outer)) g → Grd s.heap g L' (news.map (·.1)) → (∀ p ∈ news, p.1 < L') →
      wpAny (model prog w) aK (execs body eK)
        (fun fl s' => R (.ok (.ret (match fl with | .ret v => v | _ => .none))) s')
        (fun e s' => wpAny (model prog w) aK (leaving eK e) (fun _ s'' => R (.error e) s'') (fun e' s'' => R (.error e') s'') s')
        ⟨h₁, gK, dK, tk, oK⟩)
    (hco : scope.isCoroutine = false) (hgen : scope.isGenerator = false) (hk : scope.kind = .function) : codeAny (model prog w) A (.call (.ref f) args) R s := by
  obtain ⟨FG, BG, st, _⟩ := groundX (R := R) B F N hA hf hke
  have XS := X.keeps F.keep
  refine codeAny_call_function hroom (XS _ _ ho) rfl hco hgen rfl (codeRec_of XS hcd) (hbind _ _ _ _ ?_)
  refine wpAny_newFunctionEnv_cells hk (kindsX hkind _) fun env' he s' x => ?_
  subst he
  refine ⟨(T.nolimit.keeps F.keep).keeps x.toInCall.keep, codeAny_func ?_⟩
  obtain ⟨h₁, tk, rfl, _⟩ := x.done
  have hk₁ := x.toInCall.keep
  obtain ⟨cells, NC, Y⟩ := Cl.news (h₀ := s.heap) (Nat.le_refl _) fun n c hm => ⟨x.cell n c (lookup_of_mem_nodup (cellsFrom_names scope.names 0 (s.heap.objs.size + 1) [] [] rfl ▸ hnd) hm), x.above n c hm⟩
  refine h _ s.heap.objs.size h₁ tk cells ⟨x.toInCall.ns, fun b o e => hk₁ b o (of_hideAll _ e), Nat.le_of_eq (hideAll_size _ _)⟩ (fun p hp => ?_) Y BG (X.keeps st) (T.keeps st) (fun b hb => ?_) ⟨Nat.le_refl _, fun b o e n => hideAll_get _ e n⟩ (fun p hp => Heap.lt_size (N p hp).1)
  · rcases List.mem_append.mp hp with hp | hp
    · refine ⟨(NC p hp).1, (NC p hp).2.1, ?_⟩
      cases q : (hideAll s.heap (news.map (·.1))).get? p.1 with
      | none => rfl
      | some o => have := of_hideAll _ q; rw [(NC p hp).2.2] at this; cases this
    · exact ⟨hk₁ _ _ (N p hp).1, Nat.ne_of_lt (Heap.lt_size (N p hp).1), hideAll_none _ (List.mem_map_of_mem hp)⟩
  · rw [show frs (env :: outer) = L :: frs outer by simp [frs, hf]] at hb
    rcases List.mem_cons.mp hb with rfl | hb
    · obtain ⟨oL, es, ep, e1, e2, _⟩ := FG.ns
      exact ⟨oL, es, ep, e1, e2⟩
    · obtain ⟨o, es, ep, e1, e2⟩ := D b hb
      exact ⟨o, es, ep, st _ _ e1, e2⟩
end
/-- the k-th name of a role whose first draw is v -/
abbrev rn {v : Int} (_ : v < 7) (k : Int) : Str := Str.ofString "k" ++ Str.ofString (toString ((v + 2 * k).fmod 7))
def kNames : List Str := ["k0", "k1", "k2", "k3", "k4", "k5", "k6"].map Str.ofString
/-- the names of a role -/
def RoleNames (names : List Str) : Prop := names.Nodup ∧ 1 ≤ names.length ∧ names.length ≤ 4 ∧ ∀ k ∈ names, k ∈ kNames
instance (names : List Str) : Decidable (RoleNames names) := by unfold RoleNames; infer_instance
def rnv (v k : Int) : Str := Str.ofString "k" ++ Str.ofString (toString ((v + 2 * k).fmod 7))
theorem rnv_ok {v : Int} (h0 : 0 ≤ v) (h : v < 7) (n : Nat) (h1 : 1 ≤ n) (h2 : n ≤ 4) : RoleNames ((rangeKs 0 n).map (rnv v)) := by
  obtain ⟨i, rfl⟩ := Int.eq_ofNat_of_zero_le h0
  exact (show ∀ i, i < 7 → ∀ n, n < 5 → 1 ≤ n → RoleNames ((rangeKs 0 n).map (rnv ((i : Nat) : Int))) by decide +kernel) i (Int.ofNat_lt.mp h) n (Nat.lt_succ_of_le h2) h1
theorem rn_ok {v : Int} (h0 : 0 ≤ v) (h : v < 7) (n : Nat) (h1 : 1 ≤ n) (h2 : n ≤ 4) : RoleNames ((rangeKs 0 n).map (rn h)) := rnv_ok h0 h n h1 h2
theorem Grd.made2 {h g h' : Heap} {L' L₂ : Addr} {mods : List Addr} {p q : Addr × Obj} {r : List (Addr × Obj)} (G : Grd h g L' mods) (N : News g L₂ h' (p :: q :: r)) (hp : p.1 ∉ mods) (hq : q.1 ∉ mods) : Made h h' [p, q] :=
  G.madeM N (fun x hx => by rcases List.mem_cons.mp hx with rfl | hx; exact .head _; rw [List.mem_singleton.mp hx]; exact .tail _ (.head _)) (fun x hx => by rcases List.mem_cons.mp hx with rfl | hx; exact hp; rw [List.mem_singleton.mp hx]; exact hq)
theorem draws_ne2 {prog : Program} {w : World} {h₀ h : Heap} {L x wd rl : Addr} {o ox : Obj} {k n : Nat} {its : Array Value} {news : List (Addr × Obj)} (N : News h₀ L h news) (hp : (wd, o) ∈ news) (hx : (x, ox) ∈ news) (ho : DrawsU prog w o rl k) (hs : ox.data = .seq its n) : x ∉ [wd] := by
  intro hq
  rw [List.mem_singleton.mp hq] at hx
  have e1 := (N _ hx).1
  rw [(N _ hp).1] at e1
  obtain ⟨_, _, _, _, hd⟩ := ho
  obtain ⟨_, _, _, e6, _⟩ := hd
  cases e1
  rw [hs] at e6; cases e6
end Mine
end
section -- Td
open PySem PySem.W PySem.Spec PySem.Calls PyProof.Rows PyProof.V PySem.SeqAt
set_option Elab.async false
set_option maxRecDepth 100000
set_option linter.unusedVariables false
namespace Mine
theorem lk_list_keys : typeLookup (.type "list") "keys" = pure none := by rw [typeLookup_type, builtinLookup_eq_fast]; kernel_rfl
theorem sub_attr_attr : isSubtype (.type "AttributeError") (.type "AttributeError") = pure true := by rw [isSubtype_type]; kernel_rfl
/-- a list has no attribute keys -/
theorem keysNone {prog : Program} {w : World} {A : Around} {E : Value → Shared → Prop} {s : Shared} {a : Addr} {o : Obj} {xs : Array Value} {k : Nat} {Q : Option Value → Shared → Prop}
    (hx : s.heap.get? a = some o) (hc : o.cls = .type "list") (hdat : o.data = .seq xs k) (hd : o.dict = none) (hA : A.handled = none)
    (h : ∀ h' tk, (∀ b o, s.heap.get? b = some o → h'.get? b = some o) → Q none { s with heap := h', toks := tk }) :
    wpAny (model prog w) A (getAttr? (.ref a) "keys") Q E s := by
  obtain ⟨c, dct, dat, sl⟩ := o
  simp only at hc hdat hd
  subst hc hdat hd
  obtain ⟨hp, g, d, tk, os⟩ := s
  have hT : ∀ tk', (⟨hp, g, d, tk', os⟩ : Shared).TypeIs (.ref a) "list" := fun _ => ⟨_, hx, rfl⟩
  have f1 := sub_AttributeError
  have f3 := F.slot_list_getattribute.lookup
  have f4 := F.slot_list_getattribute.bind (.ref a)
  have f5 := am_list_getattr_none
  have hmiss := lk_list_keys
  have f7 := sub_attr_attr
  unfold getAttr? getAttrBy? getAttrBy
  repeat (any_goals (first | assumption | exact hT _ | ((with_reducible show wpAny _ _ (call (Value.builtin "list.__getattribute__") _ _) _ _ _); refine call_meets F.slot_list_getattribute (hT _) am_entry_list_getattribute (F.args_list_getattribute_2 _ _) (meets_getattribute_miss_list a xs k sl "keys" _ hmiss (by decide) (by size_fits)) ⟨hx, hA, fun h' tk' e hx' => ?_⟩) | wp_step))
  obtain ⟨t', u', he⟩ := hx'.there
  show wpAny _ _ (getattributeRaised _ _ _ _ _ _ _) _ _ _
  unfold getattributeRaised
  repeat (any_goals (first | assumption | wp_step))
  exact h _ _ hx'.keeps

theorem entry_update_loop : entryFor table "dict.update.loop" = some Builtin.«dict.update.loop» := entryFor_of_tree (by kernel_rfl)
theorem plain_update_loop : plainId "dict.update.loop" = true := by decide +kernel
def storedAll (acc : List (Str × Value)) (ps : List (Str × Value)) : List (Str × Value) := ps.foldl (fun a p => stored a p.1 p.2) acc
/-- pairs: tuples of a text and a value -/
inductive PairAt (H : Addr → Obj → Prop) (v : Value) (p : Str × Value) : Prop
  | mk (t : _) (k : _)
    (i1 : v = .ref t)
    (i2 : TupOf H t [.str p.1 k, p.2]) : PairAt H v p
section
variable {prog : Program} {w : World} {A : Around} {R : Result → Shared → Prop} {I l S : Addr} {vs : List Value} {ps : List (Str × Value)}
theorem update_loop (hh : A.handled = none) (hlI : l ≠ I) (hSI : S ≠ I) (hSl : S ≠ l) (hlen : vs.length = ps.length) (hz : ps.length ≤ 100000) :
    ∀ (k i : Nat) (s : Shared) (acc : List (Str × Value)) (res : Value) (ti : Tok), vs.length - i = k → i ≤ vs.length → s.heap.IsListIter I l i → s.heap.IsList l vs.toArray → s.heap.DictOf (PySem.strKind prog w) S acc → acc.length ≤ i →
      (∀ (j : Nat) (v : Value) (p : Str × Value), vs[j]? = some v → ps[j]? = some p → ∃ t k o n, v = Value.ref t ∧ t ≠ S ∧ t ≠ I ∧ s.heap.get? t = some o ∧ o.cls = .type "tuple" ∧ o.data = .seq #[Value.str p.1 k, p.2] n) →
      (∀ h' tk, (∀ b o, b ≠ S → b ≠ I → s.heap.get? b = some o → h'.get? b = some o) → h'.DictOf (PySem.strKind prog w) S (storedAll acc (ps.drop i)) → R (.ok (.ret res)) { s with heap := h', toks := tk }) →
      codeAny (model prog w) A (.builtin "dict.update.loop" ⟨[.ref S, .ref I, .int i ti, res], []⟩) R s := by
  intro k
  induction k with
  | zero =>
    intro i s acc res ti hk hi hit hl hS ha hp hR
    have hin : i = vs.length := by omega
    subst hin
    refine codeAny_builtin entry_update_loop ?_
    rw [Around.under_plainId plain_update_loop _]
    show wpAny _ A.in1 (pyNext (.ref I) >>= _) _ _ s
    refine wpAny_bind (wpAny_pyNext_list_end hh hit hl (by simp) fun h' he => ?_)
    show wpAny _ A.in1 (Builtin.Dict.addKeywords S [] >>= fun _ => ret res) _ _ _
    refine wpAny_bind (wpAny_pure (wpAny_pure (hR h' s.toks (fun b o hb1 hb2 e => he b o hb2 e) ?_)))
    have e : ps.drop vs.length = [] := by rw [hlen]; exact List.drop_length
    rw [e]
    exact hS.at fun o e => he S o hSI e
  | succ k ih =>
    intro i s acc res ti hk hi hit hl hS ha hp hR
    have hlt : i < vs.length := by omega
    obtain ⟨t, kt, o, n, hv, tS, tI, ho, hc, hd⟩ := hp i vs[i] (ps[i]'(hlen ▸ hlt)) (by simp [hlt]) (by have := hlen ▸ hlt; simp [this])
    refine codeAny_builtin entry_update_loop ?_
    rw [Around.under_plainId plain_update_loop _]
    show wpAny _ A.in1 (pyNext (.ref I) >>= _) _ _ s
    refine wpAny_bind (wpAny_pyNext_list_item hit hl (x := vs[i]) (by simp [hlt]) fun h' hit' hs' => ?_)
    rw [hv]
    show wpAny _ A.in1 (holding [Value.ref t] _ >>= _) _ _ _
    refine wpAny_bind (wpAny_holding ?_)
    refine wpAny_bind (wpAny_tryCatch ?_)
    unfold Builtin.Dict.pairItems
    have ho' : h'.get? t = some o := hs'.2 t tI ▸ ho
    refine wpAny_bind (wpAny_typeOf (T := "tuple") ⟨_, ho', hc⟩ ?_)
    rw [if_pos (by decide)]
    refine wpAny_bind (wpAny_seqItems ho' hd (wpAny_pure ?_))
    show wpAny _ A.in1 (holding [Value.str (ps[i]'(hlen ▸ hlt)).1 kt, (ps[i]'(hlen ▸ hlt)).2] (dictSet S (.str (ps[i]'(hlen ▸ hlt)).1 kt) (ps[i]'(hlen ▸ hlt)).2)) _ _ _
    refine wpAny_holding ?_
    unfold dictSet
    refine wpAny_holding ?_
    refine wpAny_bind ((PySem.strKind prog w).pyHash (k := (ps[i]'(hlen ▸ hlt)).1) (strKind_is _ _ _ _) ?_)
    have hS' : h'.DictOf (PySem.strKind prog w) S acc := hS.at fun o e => hs'.extBut S o hSI e
    refine wpAny_dictSetHashed_pairs (knd := PySem.strKind prog w) (strKind_is _ _ _ _) hS' (fun h2 hS2 sb2 => ?_) (by rw [sizeLine_eq]; omega)
    have st := stored_len acc (ps[i]'(hlen ▸ hlt)).1 (ps[i]'(hlen ▸ hlt)).2
    have e1 : rawInt ((i : Int) + 1) = .int ((i + 1 : Nat) : Int) 0 := by unfold rawInt; push_cast; rfl
    rw [e1]
    refine wpAny_pure ⟨plainId_quiet plain_update_loop _, ih (i + 1) _ _ res _ (by omega) hlt (hit'.at fun o e => sb2.extBut I o (Ne.symm hSI) e) (hl.at fun o e => sb2.extBut l o (Ne.symm hSl) (hs'.extBut l o hlI e)) hS2 (by omega) (fun j v p h1 h2' => ?_) fun h3 tk3 hk3 hS3 => ?_⟩
    · obtain ⟨t2, k2, o2, n2, a1, a2, a3, a4, a5⟩ := hp j v p h1 h2'
      exact ⟨t2, k2, o2, n2, a1, a2, a3, sb2.extBut t2 _ a2 (hs'.extBut t2 _ a3 a4), a5⟩
    · refine hR h3 tk3 (fun b o n1 n2 e => hk3 b o n1 n2 (sb2.extBut b o n1 (hs'.extBut b o n2 e))) ?_
      have e2 : ps.drop i = (ps[i]'(hlen ▸ hlt)) :: ps.drop (i + 1) := by rw [List.getElem_cons_drop]
      rw [e2]; exact hS3
end
section
variable {prog : Program} {w : World} {A : Around} {E : Value → Shared → Prop} {s : Shared} {l : Addr} {o : Obj} {n : Nat} {vs : List Value} {ps : List (Str × Value)}
theorem call_dictPairs {Q : Value → Shared → Prop} (hA : A.handled = none) (ho : s.heap.get? l = some o) (hc : o.cls = .type "list") (hd : o.data = .seq vs.toArray n) (hdd : o.dict = none) (hp : ∀ (j : Nat) (v : Value) (p : Str × Value), vs[j]? = some v → ps[j]? = some p → PairAt (Now s.heap) v p) (hlen : vs.length = ps.length) (hz : ps.length ≤ 100000)
    (h : ∀ h' tk, h'.DictOf (PySem.strKind prog w) s.heap.objs.size (storedAll [] ps) → (∀ b o, s.heap.get? b = some o → h'.get? b = some o) → Q (.ref s.heap.objs.size) { s with heap := h', toks := tk }) :
    wpAny (model prog w) A (call (.type "dict") [.ref l]) Q E s := by
  refine callType_codes (Q₁ := fun obj s₁ => obj = .ref s.heap.objs.size ∧ s₁ = { s with heap := s.heap.push { cls := .type "dict", data := .dict #[] } }) F.kt_called_dict (F.kt_typeCall_dict_1 _) F.entry_dict_init (kt_code_dict_new _ ⟨rfl, rfl⟩) ?_
  rintro obj s₁ ⟨rfl, rfl⟩
  have hnew : (s.heap.push { cls := .type "dict", data := .dict #[] }).DictOf (PySem.strKind prog w) s.heap.objs.size [] := Heap.DictOf.new s.heap
  have ho' : (s.heap.push { cls := .type "dict", data := .dict #[] }).get? l = some o := Heap.get?_push_of_some _ ho
  refine ⟨hnew.typeIs, F.args_dict_init_2 _ _, ?_⟩
  unfold Builtin.«dict.__init__»
  refine wpAny_bind ?_
  unfold Builtin.Dict.selfAndRest
  refine wpAny_bind (wpAny_notOrdered_dict hnew.typeIs ?_)
  show wpAny _ _ (pure (s.heap.objs.size, [Value.ref l])) _ _ _
  refine wpAny_pure ?_
  show wpAny _ _ (Builtin.Dict.updateFrom "dict.__init__" s.heap.objs.size (.ref l) [] .none) _ _ _
  unfold Builtin.Dict.updateFrom
  refine wpAny_bind (wpAny_typeOf (T := "list") ⟨_, ho', hc⟩ ?_)
  rw [if_pos (by decide)]
  refine wpAny_bind (keysNone ho' hc hd hdd hA fun h1 tk1 k1 => ?_)
  rw [if_pos (by rfl)]
  refine wpAny_bind (wpAny_rule ?_)
  have hl1 : h1.IsList l vs.toArray := ⟨o, k1 _ _ ho', hc, n, hd⟩
  have hS1 : h1.DictOf (PySem.strKind prog w) s.heap.objs.size [] := hnew.at fun o e => k1 _ o e
  have hSl : s.heap.objs.size ≠ l := fun e => absurd (Heap.lt_size ho) (by rw [← e]; exact Nat.lt_irrefl _)
  have hSlt : s.heap.objs.size < h1.objs.size := by obtain ⟨_, _, _, e, _⟩ := hS1; exact Heap.lt_size e
  have hllt : l < h1.objs.size := by obtain ⟨_, e, _⟩ := hl1; exact Heap.lt_size e
  refine wpAny_bind (wpAny_pyIter_list (s := { s with heap := h1, toks := tk1 }) hl1 ?_)
  refine wpAny_pure ⟨plainId_quiet plain_update_loop _, ?_⟩
  refine update_loop (A := A.in1) (vs := vs) (ps := ps) hA (Nat.ne_of_lt hllt) (Nat.ne_of_lt hSlt) hSl hlen hz _ 0 _ [] .none 0 rfl (Nat.zero_le _) ⟨_, Heap.get?_push_size _ rfl, rfl, rfl⟩ (hl1.at fun o e => Heap.get?_push_of_some _ e) (hS1.at fun o e => Heap.get?_push_of_some _ e) (Nat.zero_le _) (fun j v p h1' h2' => ?_) fun h' tk hk hS => ?_
  · obtain ⟨t, k, e, ot, nt, e1, e2, e3⟩ := hp j v p h1' h2'
    have lt := Heap.lt_size e1
    have e4 := k1 t ot (Heap.get?_push_of_some _ e1)
    exact ⟨t, k, ot, nt, e, Nat.ne_of_lt lt, Nat.ne_of_lt (Heap.lt_size e4), Heap.get?_push_of_some _ e4, e2, e3⟩
  · refine ⟨rfl, h h' tk (by simpa using hS) fun b o e => ?_⟩
    have e4 := k1 b o (Heap.get?_push_of_some _ e)
    exact hk b o (Nat.ne_of_lt (Heap.lt_size e)) (Nat.ne_of_lt (Heap.lt_size e4)) (Heap.get?_push_of_some _ e4)
end
section
variable {prog : Program} {w : World} {A : Around} {E : Value → Shared → Prop} {s : Shared} {h₀ : Heap} {L l : Addr} {m : Str → Option Value} {news : List (Addr × Obj)} {vs : List Value} {ps : List (Str × Value)} {n : Nat}
theorem dictP {Q : Value → Shared → Prop} (hA : A.handled = none) (F : Fr h₀ L s.heap m) (N : News h₀ L s.heap news) (hbig : h₀.NoLimit) (hl : (l, { cls := .type "list", data := .seq vs.toArray n }) ∈ news) (hp : ∀ (j : Nat) (v : Value) (p : Str × Value), vs[j]? = some v → ps[j]? = some p → PairAt (Now s.heap) v p) (hlen : vs.length = ps.length) (hz : ps.length ≤ 100000)
    (k : ∀ D h' o tk, Fr h₀ L h' m → News h₀ L h' ((D, o) :: news) → (∀ p ∈ news, p.1 < D) → (D == sysModules) = false → o.IsDictOf (PySem.strKind prog w) (storedAll [] ps) → Q (.ref D) { s with heap := h', toks := tk }) :
    wpAny (model prog w) A (call (.type "dict") [.ref l]) Q E s := by
  refine call_dictPairs hA (N _ hl).1 rfl rfl rfl hp hlen hz fun h' tk hd hk => ?_
  obtain ⟨o', ho', hd'⟩ := Heap.dictOf_iff.mp hd
  have N1 := News.push F N { cls := .type "dict", data := .dict #[] }
  refine k _ h' o' tk (F.keeps hk) (fun p hp => ?_) (fun p hp => Heap.lt_size (N p hp).1) (F.notModules (modules_low hbig)) hd'
  rcases List.mem_cons.mp hp with rfl | hp
  · exact ⟨ho', (N1 _ (.head _)).2.1, (N1 _ (.head _)).2.2⟩
  · exact ⟨hk _ _ (N p hp).1, (N p hp).2⟩
end
/-- the key of a name -/
def pubOf (k : Str) : Str := (([("k0", "p0"), ("k1", "p1"), ("k2", "p2"), ("k3", "p3"), ("k4", "p4"), ("k5", "p5"), ("k6", "p6")].map fun (p : String × String) => (Str.ofString p.1, Str.ofString p.2)).lookup k).getD (Str.ofString "p0")
theorem pubOf_k (i : Nat) (h : i < 7) : pubOf (Str.ofString "k" ++ Str.ofString (toString (0 + (i : Int)))) = Str.ofString "p" ++ Str.ofString (toString (0 + (i : Int))) := by
  revert i; decide +kernel
section
open LCg LCt
variable {prog : Program} {w : World} {A : Around} {s : Shared} {h₀ : Heap} {L : Addr} {m : Str → Option Value} {env : Env} {ct elt : PySem.Expr} {x : Str} {scope : Scope} {cl : List (Str × Addr)} {S : List (Addr × Obj) → Prop} {P : Nat → Value → Prop} {Fin : List Value → List (Addr × Obj) → Prop} {news : List (Addr × Obj)} {n : Nat}
theorem ct_rest (J : Nat → List Value → List (Addr × Obj) → Prop) (h0 : J 0 [] news)
    (turn : ∀ i ys news v I oI C oC D m₂ h tk (E' : Value → Shared → Prop), i < n → J i ys news → P i v → NsObj oC m₂ → m₂ x = some v → Fr h₀ L h m → News h₀ L h ((I, oI) :: (C, oC) :: (D, lst ys) :: news) → Off3 I C D news → ((@Ne Nat I C) ∧ (@Ne Nat I D) ∧ (@Ne Nat C D)) →
      wpAny (model prog w) A (isTrue ct (compEnvC scope cl C env) (eval ct (compEnvC scope cl C env))) (fun ok s' => if ok = true then
        wpAny (model prog w) A (eval elt (compEnvC scope cl C env)) (CompEnd h₀ L m { s with heap := h, toks := tk } I oI C oC D (lst ys) S (fun y news' => J (i + 1) (ys ++ [y]) news')) E' s'
        else CompEnd h₀ L m { s with heap := h, toks := tk } I oI C oC D (lst ys) S (fun _ news' => J (i + 1) ys news') Value.none s') E' { s with heap := h, toks := tk })
    (fin : ∀ ys news, J n ys news → Fin ys news) : CompRestT prog w A h₀ L m env ct elt x scope cl s S P Fin n 0 [] news := by
  have key : ∀ (j i : Nat) (ys : List Value) (news : List (Addr × Obj)), i + j = n → J i ys news → CompRestT prog w A h₀ L m env ct elt x scope cl s S P Fin j i ys news := by
    intro j
    induction j with
    | zero =>
      intro i ys news hi hJ
      have e : i = n := by omega
      subst e
      exact CompRestT.zero (fin ys news hJ)
    | succ j ih =>
      intro i ys news hi hJ
      refine CompRestT.succ fun v I oI C oC D m₂ h tk E' hv hC hx F N off ne => ?_
      have up : ∀ (ys' : Value → List Value) (y : Value) (s₂ : Shared), CompEnd h₀ L m { s with heap := h, toks := tk } I oI C oC D (lst ys) S (fun y news' => J (i + 1) (ys' y) news') y s₂ → CompEnd h₀ L m { s with heap := h, toks := tk } I oI C oC D (lst ys) S (fun y news' => CompRestT prog w A h₀ L m env ct elt x scope cl s S P Fin j (i + 1) (ys' y) news') y s₂ := fun ys' y s₂ ⟨h', tk', nw, e, F', N', off', hS, hJ'⟩ =>
        ⟨h', tk', nw, e, F', N', off', hS, ih (i + 1) _ nw (by omega) hJ'⟩
      refine wpAny_mono (turn i ys news v I oI C oC D m₂ h tk E' (by omega) hJ hv hC hx F N off ne) (fun ok s' q => ?_) fun _ _ e => e
      by_cases b : ok = true
      · rw [if_pos b] at q ⊢
        exact wpAny_mono q (fun y s₂ q => up (fun y => ys ++ [y]) y s₂ q) fun _ _ e => e
      · rw [if_neg b] at q ⊢
        exact up (fun _ => ys) _ _ q
  exact key n 0 [] news (by omega) h0
end
/-- the state of the comprehension of the keys -/
inductive KeySt (prog : Program) (w : World) (wd rl c1 c2 : Addr) (o1 o2 : Obj) (k i : Nat) (ys : List Value) (news : List (Addr × Obj)) : Prop
  | mk (ow : Obj) (ps : List (Str × Value)) (tl : List (Addr × Obj))
    (i1 : news = (c1, o1) :: (c2, o2) :: (wd, ow) :: tl)
    (i2 : DrawsU prog w ow rl (k + i))
    (i3 : ys.length = ps.length)
    (i4 : (∀ (j : Nat) (v : Value) (p : Str × Value), ys[j]? = some v → ps[j]? = some p → PairAt (Led tl) v p))
    (i5 : (∀ p ∈ ps, ∃ a, p.2 = .ref a ∧ KeyObj prog w 154 (Led tl) a (pubOf p.1)))
    (i6 : (∀ p ∈ ps, p.1 ∈ kNames))
    (i7 : ps.length ≤ i)
    (i8 : OwnOff tl [c1, c2, wd]) : KeySt prog w wd rl c1 c2 o1 o2 k i ys news
open LCg LCt in
theorem keys_rest {prog : Program} {w : World} {A : Around} {s : Shared} {h₀ : Heap} {L wd rl c1 c2 : Addr} {o1 o2 ow : Obj} {k : Nat} {m : Str → Option Value} {env : Env} {ct elt : PySem.Expr} {x : Str} {scope : Scope} {cl : List (Str × Addr)} {S : List (Addr × Obj) → Prop} {P : Nat → Value → Prop} {Fin : List Value → List (Addr × Obj) → Prop} {n : Nat}
    (hw : DrawsU prog w ow rl k)
    (turn : ∀ i ys news v I oI C oC D m₂ h tk (E' : Value → Shared → Prop), i < n → KeySt prog w wd rl c1 c2 o1 o2 k i ys news → P i v → NsObj oC m₂ → m₂ x = some v → Fr h₀ L h m → News h₀ L h ((I, oI) :: (C, oC) :: (D, lst ys) :: news) → Off3 I C D news → ((@Ne Nat I C) ∧ (@Ne Nat I D) ∧ (@Ne Nat C D)) →
      wpAny (model prog w) A (isTrue ct (compEnvC scope cl C env) (eval ct (compEnvC scope cl C env))) (fun ok s' => if ok = true then
        wpAny (model prog w) A (eval elt (compEnvC scope cl C env)) (CompEnd h₀ L m { s with heap := h, toks := tk } I oI C oC D (lst ys) S (fun y news' => KeySt prog w wd rl c1 c2 o1 o2 k (i + 1) (ys ++ [y]) news')) E' s'
        else CompEnd h₀ L m { s with heap := h, toks := tk } I oI C oC D (lst ys) S (fun _ news' => KeySt prog w wd rl c1 c2 o1 o2 k (i + 1) ys news') Value.none s') E' { s with heap := h, toks := tk })
    (fin : ∀ ys news, KeySt prog w wd rl c1 c2 o1 o2 k n ys news → Fin ys news) : CompRestT prog w A h₀ L m env ct elt x scope cl s S P Fin n 0 [] [(c1, o1), (c2, o2), (wd, ow)] :=
  ct_rest (KeySt prog w wd rl c1 c2 o1 o2 k) ⟨ow, [], [], rfl, hw, rfl, (fun j v p h => by simp at h), (fun p hp => nomatch hp), (fun p hp => nomatch hp), Nat.le_refl _, (fun p hp => nomatch hp)⟩ turn fin
section
variable {prog : Program} {w : World} {g h' : Heap} {L wd rl c1 c2 I C D : Addr} {o1 o2 ow oI oC oD ow0 : Obj} {k i : Nat} {ys : List Value} {m : Str → Option Value} {all tl : List (Addr × Obj)} {ps : List (Str × Value)}
theorem key_skip (N : News g L h' ((I, oI) :: (C, oC) :: (D, oD) :: (c1, o1) :: (c2, o2) :: (wd, ow) :: tl)) (off : LCg.Off3 I C D ((c1, o1) :: (c2, o2) :: (wd, ow0) :: tl)) (hdw : DrawsU prog w ow rl (k + i + 1)) (hyl : ys.length = ps.length) (hpa : ∀ (j : Nat) (v : Value) (p : Str × Value), ys[j]? = some v → ps[j]? = some p → PairAt (Led tl) v p)
    (hko : ∀ p ∈ ps, ∃ a, p.2 = .ref a ∧ KeyObj prog w 154 (Led tl) a (pubOf p.1)) (hkn : ∀ p ∈ ps, p.1 ∈ kNames) (hpl : ps.length ≤ i) (hoff : OwnOff tl [c1, c2, wd]) :
    ∃ news', News g L h' ((I, oI) :: (C, oC) :: (D, oD) :: news') ∧ LCg.Off3 I C D news' ∧ KeySt prog w wd rl c1 c2 o1 o2 k (i + 1) ys news' :=
  ⟨_, N, off, ow, ps, tl, rfl, hdw, hyl, hpa, hko, hkn, by omega, hoff⟩
theorem key_end {T x dx pd : Addr} {odx opd : Obj} {name pub : Str} {t1 t2 : Tok} {v1 v2 v3 v5 : Value} {nn : Nat} (N : News g L h' all) (n1 : (T, { cls := .type "tuple", data := .seq #[.str name t1, .ref x] nn }) ∈ all) (n2 : (x, instObj 154 dx) ∈ all) (n3 : (dx, odx) ∈ all)
    (hI : Inst (Led [(x, instObj 154 dx), (dx, odx)]) x 154 [("keyid", v1), ("keytype", v2), ("scheme", v3), ("keyval", .ref pd), ("unrecognized_fields", v5)]) (n4 : (pd, opd) ∈ all) (hpd : opd.IsDictOf (PySem.strKind prog w) [("public", .str pub t2)]) (hlow : (pd == sysModules) = false) (hpub : pubOf name = pub) (hname : name ∈ kNames)
    (sI : (I, oI) ∈ all) (sC : (C, oC) ∈ all) (sD : (D, oD) ∈ all) (s1 : (c1, o1) ∈ all) (s2 : (c2, o2) ∈ all) (hdw : DrawsU prog w ow rl (k + i + 1)) (sw : (wd, ow) ∈ all) (st : ∀ p ∈ tl, p ∈ all)
    (off : LCg.Off3 I C D ((c1, o1) :: (c2, o2) :: (wd, ow0) :: tl)) (lb : I < pd ∧ C < pd ∧ D < pd ∧ c1 < pd ∧ c2 < pd ∧ wd < pd ∧ AllLt pd tl) (b1 : @LT.lt Nat _ pd dx) (b2 : @LT.lt Nat _ dx x) (b3 : @LT.lt Nat _ pd T)
    (hyl : ys.length = ps.length) (hpa : ∀ (j : Nat) (v : Value) (p : Str × Value), ys[j]? = some v → ps[j]? = some p → PairAt (Led tl) v p)
    (hko : ∀ p ∈ ps, ∃ a, p.2 = .ref a ∧ KeyObj prog w 154 (Led tl) a (pubOf p.1)) (hkn : ∀ p ∈ ps, p.1 ∈ kNames) (hpl : ps.length ≤ i) (hoff : OwnOff tl [c1, c2, wd]) :
    ∃ news', News g L h' ((I, oI) :: (C, oC) :: (D, oD) :: news') ∧ LCg.Off3 I C D news' ∧ KeySt prog w wd rl c1 c2 o1 o2 k (i + 1) (ys ++ [.ref T]) news' := by
  obtain ⟨l1, l2, l3, l4, l5, l6, l7⟩ := lb
  have hnew : ∀ p ∈ [(T, ({ cls := .type "tuple", data := .seq #[.str name t1, .ref x] nn } : Obj)), (x, instObj 154 dx), (dx, odx), (pd, opd)], p ∈ all ∧ pd ≤ p.1 := by
    intro p hp
    simp only [List.mem_cons, List.not_mem_nil, or_false] at hp
    rcases hp with rfl | rfl | rfl | rfl
    · exact ⟨n1, Nat.le_of_lt b3⟩
    · exact ⟨n2, Nat.le_of_lt (Nat.lt_trans b1 b2)⟩
    · exact ⟨n3, Nat.le_of_lt b1⟩
    · exact ⟨n4, Nat.le_refl _⟩
  generalize hnw : [(T, ({ cls := .type "tuple", data := .seq #[.str name t1, .ref x] nn } : Obj)), (x, instObj 154 dx), (dx, odx), (pd, opd)] = nw at hnew
  have offm := LCg.Off3.mem off
  have far : ∀ (b : Addr), b < pd → ∀ p ∈ nw, p.1 ≠ b := fun b hb p hp e => absurd (Nat.lt_of_lt_of_le hb (e ▸ (hnew p hp).2)) (Nat.lt_irrefl _)
  have sub : Sub (Led tl) (Led (nw ++ tl)) := Sub.mem fun p hp => List.mem_append_right _ hp
  have sub2 : Sub (Led nw) (Led (nw ++ tl)) := Sub.mem fun p hp => List.mem_append_left _ hp
  refine ⟨(c1, o1) :: (c2, o2) :: (wd, ow) :: (nw ++ tl), fun p hp => N p ?_, LCg.Off3.of fun p hp => ?_, ow, ps ++ [(name, .ref x)], nw ++ tl, rfl, hdw, by simp [hyl], fun j v p h1 h2 => ?_, fun p hp => ?_, fun p hp => ?_, by simp; omega, fun p hp b hb => ?_⟩
  · simp only [List.mem_cons, List.mem_append] at hp
    rcases hp with rfl | rfl | rfl | rfl | rfl | rfl | hp | hp
    · exact sI
    · exact sC
    · exact sD
    · exact s1
    · exact s2
    · exact sw
    · exact (hnew p hp).1
    · exact st p hp
  · simp only [List.mem_cons, List.mem_append] at hp
    rcases hp with rfl | rfl | rfl | hp | hp
    · exact offm (c1, o1) (.head _)
    · exact offm (c2, o2) (.tail _ (.head _))
    · exact offm (wd, ow0) (.tail _ (.tail _ (.head _)))
    · exact ⟨far I l1 p hp, far C l2 p hp, far D l3 p hp⟩
    · exact offm p (.tail _ (.tail _ (.tail _ hp)))
  · by_cases hj : j < ys.length
    · rw [List.getElem?_append_left hj] at h1
      rw [List.getElem?_append_left (hyl ▸ hj)] at h2
      obtain ⟨t, k, e, q⟩ := hpa j v p h1 h2
      exact ⟨t, k, e, q.mono sub⟩
    · have hlt := (List.getElem?_eq_some_iff.mp h1).1
      rw [List.length_append, List.length_singleton] at hlt
      have hj' : j = ys.length := by omega
      subst hj'
      rw [List.getElem?_append_right (Nat.le_refl _), Nat.sub_self] at h1
      rw [hyl, List.getElem?_append_right (Nat.le_refl _), Nat.sub_self] at h2
      cases h1; cases h2
      exact ⟨T, t1, rfl, _, nn, sub2 _ _ (by rw [← hnw]; exact .head _), rfl, rfl⟩
  · rcases List.mem_append.mp hp with hp | hp
    · obtain ⟨a, e, q⟩ := hko p hp
      exact ⟨a, e, q.mono sub⟩
    · rw [List.mem_singleton.mp hp]
      refine ⟨x, rfl, v1, v2, v3, pd, v5, t2, hI.mono fun a o e => sub2 _ _ ?_, hlow, opd, sub2 _ _ (by rw [← hnw]; simp), ?_⟩
      · rw [← hnw]
        simp only [Led, List.mem_cons, List.not_mem_nil, or_false] at e ⊢
        rcases e with e | e <;> simp [e]
      · show opd.IsDictOf (PySem.strKind prog w) [("public", .str (pubOf name) t2)]
        rw [hpub]; exact hpd
  · rcases List.mem_append.mp hp with hp | hp
    · exact hkn p hp
    · rw [List.mem_singleton.mp hp]; exact hname
  · rcases List.mem_append.mp hp with hp | hp
    · have : b < pd := by
        simp only [List.mem_cons, List.not_mem_nil, or_false] at hb
        rcases hb with rfl | rfl | rfl
        · exact l4
        · exact l5
        · exact l6
      exact far b this p hp
    · exact hoff p hp b hb
theorem k_name (i : Nat) (h : i < 7) : Str.ofString "k" ++ Str.ofString (toString (0 + (i : Int))) ∈ kNames := by
  revert i; decide +kernel
end
theorem storedAll_from {ps : List (Str × Value)} : ∀ {acc : List (Str × Value)} {k : Str} {v : Value}, valueAt (storedAll acc ps) k = some v → (k, v) ∈ ps ∨ valueAt acc k = some v := by
  induction ps with
  | nil => intro acc k v h; exact .inr h
  | cons p r ih =>
    intro acc k v h
    rcases ih (acc := stored acc p.1 p.2) h with h | h
    · exact .inl (.tail _ h)
    · rw [valueAt_stored] at h
      by_cases q : k = p.1
      · rw [if_pos q] at h; cases h; subst q; exact .inl (.head _)
      · rw [if_neg q] at h; exact .inr h
theorem storedAll_len {ps : List (Str × Value)} : ∀ {acc : List (Str × Value)}, (storedAll acc ps).length ≤ acc.length + ps.length := by
  induction ps with
  | nil => intro acc; exact Nat.le_refl _
  | cons p r ih =>
    intro acc
    have := ih (acc := stored acc p.1 p.2)
    have h2 := stored_len acc p.1 p.2
    rw [List.length_cons]
    show (storedAll (stored acc p.1 p.2) r).length ≤ _
    omega
theorem stored_names {acc : List (Str × Value)} {k : Str} {v : Value} {p : Str × Value} (h : p ∈ stored acc k v) : p.1 = k ∨ ∃ q ∈ acc, q.1 = p.1 := by
  unfold stored at h
  split at h
  · obtain ⟨q, hq, e⟩ := List.mem_map.mp h
    refine .inr ⟨q, hq, ?_⟩
    rw [← e]; split <;> rfl
  · rcases List.mem_append.mp h with h | h
    · exact .inr ⟨p, h, rfl⟩
    · rw [List.mem_singleton.mp h]; exact .inl rfl
theorem storedAll_names {S : List Str} {ps : List (Str × Value)} : ∀ {acc : List (Str × Value)}, (∀ p ∈ acc, p.1 ∈ S) → (∀ p ∈ ps, p.1 ∈ S) → ∀ p ∈ storedAll acc ps, p.1 ∈ S := by
  induction ps with
  | nil => intro acc h _; exact h
  | cons q r ih =>
    intro acc h1 h2
    refine ih (acc := stored acc q.1 q.2) (fun p hp => ?_) fun p hp => h2 p (.tail _ hp)
    rcases stored_names hp with e | ⟨z, hz, e⟩
    · rw [e]; exact h2 q (.head _)
    · rw [← e]; exact h1 z hz
section
variable {prog : Program} {w : World} {A : Around} {E : Value → Shared → Prop} {s : Shared} {env : Env} {h₀ : Heap} {x : Str} {body : List Stmt} {Q : Flow → Shared → Prop}
/-- a loop over a list of the ledger; no frame turns -/
theorem loopLn {l : Addr} {ol : Obj} {vs : List Value} {n : Nat} {m₀ : Str → Option Value} {news : List (Addr × Obj)} (J : Nat → (Str → Option Value) → List (Addr × Obj) → Prop)
    (hh : A.handled = none) (F : Fr h₀ env.locals s.heap m₀) (N : News h₀ env.locals s.heap ((l, ol) :: news)) (hc : ol.cls = .type "list") (hd : ol.data = .seq vs.toArray n) (hne : ∀ p ∈ news, p.1 ≠ l) (hj : J 0 m₀ news)
    (turn : ∀ i v m₁ news₁ own g h tk, KtsTurn [] h₀ g → vs[i]? = some v → J i m₁ news₁ → Apart news₁ own → Fr g env.locals h (fun y => if y = x then some v else m₁ y) → News g env.locals h (news₁ ++ own) →
      wpAny (model prog w) A (execs body env) (TurnEnd [] h₀ env.locals own (J (i + 1)) { s with heap := h, toks := tk } Q) E { s with heap := h, toks := tk })
    (done : ∀ m₁ news₁ g h tk, KtsTurn [] h₀ g → J vs.length m₁ news₁ → Fr g env.locals h m₁ → News g env.locals h news₁ → Q .next { s with heap := h, toks := tk }) :
    wpAny (model prog w) A (pyIter (.ref l)) (fun it s₂ => LoopK prog w A [] h₀ env x body Q E it s₂) E s := by
  have n1 := N (l, ol) (.head _)
  have hls : s.heap.IsList l vs.toArray := ⟨ol, n1.1, hc, n, hd⟩
  have hlt : l < s.heap.objs.size := Heap.lt_size n1.1
  have hlI : l ≠ s.heap.objs.size := Nat.ne_of_lt hlt
  have hI : h₀.get? s.heap.objs.size = none := next_is_new F
  refine wpAny_pyIter_list hls ?_
  have W := Walks.list (prog := prog) (w := w) hh s.heap.objs.size l hlI vs.toArray
  refine ⟨_, _, _, vs.toArray.size, _, _, m₀, news, J, rfl, W, ?_, (fun b hb => nomatch hb), ?_, ?_, ?_, ⟨⟨_, Heap.get?_push_size _ rfl, rfl, rfl⟩, hls.at fun o e => Heap.get?_push_of_some _ e⟩, F.push _, (fun p hp => ⟨Heap.get?_push_of_some _ (N p (.tail _ hp)).1, (N p (.tail _ hp)).2⟩), hj, ?_, ?_⟩
  · intro hm
    rcases List.mem_cons.mp hm with e | hm
    · exact absurd F.ns.lt (e ▸ Nat.lt_irrefl _)
    · exact n1.2.1 (List.mem_singleton.mp hm).symm
  · intro b hb
    rw [List.mem_singleton.mp hb]
    exact hI
  · intro b hb i h st
    rcases List.mem_cons.mp hb with rfl | hb
    · obtain ⟨o, e, _⟩ := st.1; exact ⟨o, e⟩
    · rw [List.mem_singleton.mp hb]; obtain ⟨o, e, _⟩ := st.2; exact ⟨o, e⟩
  · intro p hp hq
    rcases List.mem_cons.mp hq with e | hq
    · exact absurd (Heap.lt_size (N p (.tail _ hp)).1) (e ▸ Nat.lt_irrefl _)
    · exact hne p hp (List.mem_singleton.mp hq)
  · intro i v m₁ news₁ own g h tk T hi hP hJ hap F₁ N₁
    exact turn i v m₁ news₁ own g h tk T (by simpa using hP) hJ hap F₁ N₁
  · intro g h' tk m' news' T F' N' hJ
    exact done m' news' g h' tk T (by simpa using hJ) F' N'
end
/-- the row so far -/
inductive RowSt (ts : List Str) (rest : List (Addr × Obj)) (m₀ : Str → Option Value) (d : Addr) (k : Nat) (m₁ : Str → Option Value) (news₁ : List (Addr × Obj)) : Prop
  | mk (i1 : Agree ts m₁ m₀)
    (its : Array Value) (nn : Nat)
    (i2 : news₁ = (d, W.listOf its nn) :: rest)
    (i3 : IntsIn its.toList 0 997)
    (i4 : its.size ≤ k)
    (i5 : OwnOff rest [d]) : RowSt ts rest m₀ d k m₁ news₁
theorem IntsIn.snoc {its : Array Value} {lo hi n : Int} {t : Tok} (h : IntsIn its.toList lo hi) (h0 : lo ≤ n) (h1 : n < hi) : IntsIn (its.push (.int n t)).toList lo hi := fun v hv => by
  rw [Array.toList_push] at hv
  rcases List.mem_append.mp hv with hv | hv
  · exact h v hv
  · rw [List.mem_singleton.mp hv]; exact ⟨n, t, rfl, h0, h1⟩
section
variable {prog : Program} {w : World} {A : Around} {E : Value → Shared → Prop} {s : Shared} {env : Env} {h₀ : Heap} {x : Str} {body : List Stmt} {Q : Flow → Shared → Prop}
theorem loopLn1 {l r : Addr} {or : Obj} {vs : List Value} {n : Nat} {m₀ : Str → Option Value} (J : (Str → Option Value) → Addr → Nat → (Str → Option Value) → List (Addr × Obj) → Prop)
    (hh : A.handled = none) (F : Fr h₀ env.locals s.heap m₀) (N : News h₀ env.locals s.heap [(l, W.listOf vs.toArray n), (r, or)]) (hne : @Ne Nat r l) (hj : J m₀ r 0 m₀ [(r, or)])
    (turn : ∀ i v m₁ news₁ own g h tk, KtsTurn [] h₀ g → vs[i]? = some v → J m₀ r i m₁ news₁ → Apart news₁ own → Fr g env.locals h (fun y => if y = x then some v else m₁ y) → News g env.locals h (news₁ ++ own) →
      wpAny (model prog w) A (execs body env) (TurnEnd [] h₀ env.locals own (J m₀ r (i + 1)) { s with heap := h, toks := tk } Q) E { s with heap := h, toks := tk })
    (done : ∀ m₁ news₁ g h tk, KtsTurn [] h₀ g → J m₀ r vs.length m₁ news₁ → Fr g env.locals h m₁ → News g env.locals h news₁ → Q .next { s with heap := h, toks := tk }) :
    wpAny (model prog w) A (pyIter (.ref l)) (fun it s₂ => LoopK prog w A [] h₀ env x body Q E it s₂) E s :=
  loopLn (J m₀ r) hh F N rfl rfl (fun p hp => by rw [List.mem_singleton.mp hp]; exact hne) hj turn done
end
theorem offApp1 {tl own : List (Addr × Obj)} {d : Addr} {oF : Obj} (h : OwnOff tl [d]) (hap : Apart ((d, oF) :: tl) own) : OwnOff (tl ++ own) [d] := fun p hp b hb e => by
  rcases List.mem_append.mp hp with hp | hp
  · exact h p hp b hb e
  · rw [List.mem_singleton.mp hb] at e; exact hap (d, oF) (.head _) p hp e.symm
theorem apartHead {tl own : List (Addr × Obj)} {d : Addr} {o o' : Obj} (hap : Apart ((d, o) :: tl) own) : Apart ((d, o') :: tl) own := fun p hp q hq e => by
  rcases List.mem_cons.mp hp with rfl | hp
  · exact hap (d, o) (.head _) q hq e
  · exact hap p (.tail _ hp) q hq e
end Mine
end
section -- Te
open PySem PySem.W PySem.Spec PySem.Calls PyProof.Rows PyProof.V PySem.SeqAt
set_option Elab.async false
set_option maxRecDepth 100000
set_option linter.unusedVariables false
namespace Mine
/-- beside the heap: nothing but generators that are over -/
def Rst (s s' : Shared) : Prop := s'.os = s.os ∧ (AllBare s.gens → AllBare s'.gens)
theorem Rst.refl {s : Shared} : Rst s s := ⟨rfl, fun h => h⟩
theorem Rst.trans {s s' s'' : Shared} (a : Rst s s') (b : Rst s' s'') : Rst s s'' := ⟨b.1.trans a.1, fun h => b.2 (a.2 h)⟩
/-- a code object and its table -/
def CodeT (h : Heap) (c P : Addr) (ps : Array Value) : Prop := h.IsCode c P ps ∧ h.TableAt c P ps
theorem CodeT.keeps {h h' : Heap} {c P : Addr} {ps : Array Value} (x : CodeT h c P ps) (k : ∀ b o, h.get? b = some o → h'.get? b = some o) : CodeT h' c P ps := ⟨x.1.keeps k, x.2.keeps k⟩
/-- the code object of a generator expression: found in the table, or made now -/
theorem genCode {M : Model} {A : Around} {E : Value → Shared → Prop} {s : Shared} {env : Env} {c P : Addr} {ps : Array Value} {pos : Pos} {qualname : Str} {scope : Scope} {Q : Value → Shared → Prop} (hc : env.code = .ref c) (hok : CodeT s.heap c P ps)
    (hQ : ∀ code h' tk ps', Heap.ExtBut P s.heap h' → CodeT h' c P ps' → Q code { s with heap := h', toks := tk }) : wpAny M A (genexprCode env pos qualname scope) Q E s := by
  cases hf : codeAmong pos ps.toList with
  | some cv => exact wpAny_genexprCode_hit hc hok.1 hf (hQ cv s.heap s.toks ps (Heap.ExtBut.refl _ _) hok)
  | none => exact wpAny_genexprCodeX hc hok.1 hok.2 hf fun c' h' tk hx _ _ hi _ ht _ => hQ _ h' tk _ hx ⟨hi, ht⟩
section
variable {prog : Program} {w : World} {A : Around} {E : Value → Shared → Prop} {s : Shared} {h₀ : Heap} {c P : Addr} {mg : Str → Option Value} {bm : Addr} {ob : Obj}
/-- a generator expression over a list, its code object found in the table or made now -/
theorem gen_eval {env : Env} {elt iter : PySem.Expr} {x : Str} {px : Pos} {ifs : List PySem.Expr} {scope : Scope} {cl : List (Str × Addr)} {pos : Pos} {Q : Value → Shared → Prop}
    (M : BMod h₀ env.globals mg bm ob) (hlim : h₀.NoLimit) (hP : h₀.get? P = none) (hcode : env.code = .ref c)
    (hh : A.handled = none) (hco : scope.isCoroutine = false) (hclos : closureFor scope env = pure cl) (hcell : ∀ y ∈ scope.names, y.2 ≠ .cell) (h0 : scope.names.lookup (".0" : Str) = some NameKind.local)
    (hx : scope.names.lookup x = some .local) (hkind : scope.kind = .function) (hroom : A.depth < recursionLimit)
    (h : wpAny (model prog w) A (eval iter env) (fun xv s₁ => ∃ (l : Addr) (its ps : Array Value) (pz : Nat → Bool) (Fv : Nat → Value → Prop), xv = .ref l ∧ s₁.heap.IsList l its ∧ l ≠ P ∧ CodeT s₁.heap c P ps ∧ (∀ b o, h₀.get? b = some o → s₁.heap.get? b = some o) ∧
      (∀ (code : Value) (C : Addr) (A' : Around) E' i v (t : Shared) m₂, A'.handled = none → its[i]? = some v → t.heap.Ns C m₂ → m₂ x = some v → (∀ b o, b ≠ P → s₁.heap.get? b = some o → t.heap.get? b = some o) →
        wpAny (model prog w) A' (forIn ifs true fun c r => if r = true then do let ok ← isTrue c (genEnv scope cl C code builtinsNs env) (eval c (genEnv scope cl C code builtinsNs env)); pure (ForInStep.yield ok) else pure (ForInStep.yield r)) (fun ok s₃ => ok = pz i ∧ Keeps t s₃) E' t) ∧
      (∀ (code : Value) (C : Addr) (A' : Around) E' i v (t : Shared) m₂, A'.handled = none → its[i]? = some v → pz i = true → t.heap.Ns C m₂ → m₂ x = some v → (∀ b o, b ≠ P → s₁.heap.get? b = some o → t.heap.get? b = some o) →
        wpAny (model prog w) A' (eval elt (genEnv scope cl C code builtinsNs env)) (fun y s₃ => Fv i y ∧ Keeps t s₃) E' t) ∧
      (∀ (a : Addr) (s₅ : Shared) (ps' : Array Value), CodeT s₅.heap c P ps' → (∀ b o, b ≠ P → s₁.heap.get? b = some o → s₅.heap.get? b = some o) → Rst s₁ s₅ → Gen prog w A (s₁.heap.objs.size - 1) a (passing pz its.size 0).length (fun j y => ∃ i, (passing pz its.size 0)[j]? = some i ∧ Fv i y) s₅ → Q (.ref a) s₅)) E s)
    (hs : ∀ x, genFold iter env x = pure x) :
    wpAny (model prog w) A (eval (.GeneratorExp elt [⟨.Name x px, iter, ifs, 0⟩] scope pos) env) Q E s := by
  refine wpAny_GeneratorExp_walksQ hh hco hclos hcell h0 hx hkind hroom (wpAny_mono h (fun xv s₁ h₁' => ?_) fun _ _ e => e) hs
  obtain ⟨l, its, ps, pz, Fv, rfl, hl, hlP, hC, hk, hq1, hq2, hQ⟩ := h₁'
  refine wpAny_pyIter_list hl ?_
  have hlt : l < s₁.heap.objs.size := by obtain ⟨_, e, _⟩ := hl; exact Heap.lt_size e
  have hPlt : P < s₁.heap.objs.size := Heap.lt_size hC.2.2
  have hI : (s₁.heap.push { cls := .type "list_iterator", data := .fields #[.ref l, .int 0 0] }).get? s₁.heap.objs.size = some { cls := .type "list_iterator", data := .fields #[.ref l, .int 0 0] } := Heap.get?_push_size _ rfl
  have hk2 : ∀ b o, h₀.get? b = some o → (s₁.heap.push { cls := .type "list_iterator", data := .fields #[.ref l, .int 0 0] }).get? b = some o := fun b o e => Heap.get?_push_of_some _ (hk b o e)
  refine ⟨hlim.keeps hk2, genCode hcode (hC.keeps fun _ _ e => Heap.get?_push_of_some _ e) fun code h₃ tk₃ ps' hx₃ hC₃ => ?_⟩
  have neP : ∀ b o, h₀.get? b = some o → b ≠ P := fun b o e q => by rw [q, hP] at e; cases e
  have k3 : ∀ b o, h₀.get? b = some o → h₃.get? b = some o := fun b o e => hx₃ b o (neP b o e) (hk2 b o e)
  have M₃ := M.keeps k3
  have hl₃ := hlim.keeps k3
  have hIP : s₁.heap.objs.size ≠ P := Nat.ne_of_gt hPlt
  have hI3 := hx₃ _ _ hIP hI
  have hIlt : s₁.heap.objs.size < h₃.objs.size := Heap.lt_size hI3
  have hcI : cStatics < s₁.heap.objs.size := let ⟨_, hn, _⟩ := hlim.keeps hk; hn.lt
  refine wpAny_builtinsFor M₃.ns M₃.name M₃.ne M₃.obj M₃.cls M₃.dict M₃.data ?_
  refine ⟨s₁.heap.objs.size, [s₁.heap.objs.size, l], [s₁.heap.objs.size], its.size, _, _, pz, Fv, rfl, (fun A' hA => Walks.list hA _ _ (Nat.ne_of_lt hlt) its), ⟨⟨_, hI3, rfl, rfl⟩, hl.at fun o e => hx₃ l o hlP (Heap.get?_push_of_some _ e)⟩, (fun b hb => ?_), hl₃, (fun hm => absurd (List.mem_singleton.mp hm) (Nat.ne_of_lt hcI)), (fun href hhref => ?_), fun a h₅ tk gs hgb hag hsz₅ hk₅ W hat => ?_⟩
  · rcases List.mem_cons.mp hb with rfl | hb
    · exact hIlt
    · rw [List.mem_singleton.mp hb]; exact Nat.lt_trans hlt hIlt
  · have inB : ∀ (t : Shared), (∀ b ∈ List.range h₃.objs.size, b ∉ [s₁.heap.objs.size] → ∀ o, href.get? b = some o → t.heap.get? b = some o) → ∀ b o, b ≠ P → s₁.heap.get? b = some o → t.heap.get? b = some o := fun t hkp b o hbP e =>
      have e3 := hx₃ b o hbP (Heap.get?_push_of_some _ e)
      hkp b (List.mem_range.mpr (Heap.lt_size e3)) (fun hm => absurd (Heap.lt_size e) (List.mem_singleton.mp hm ▸ Nat.lt_irrefl _)) o (hhref b o e3)
    exact ⟨fun A' E' i v t m₂ hA hPi hn hm hkp => hq1 code _ A' E' i v t m₂ hA hPi hn hm (inB t hkp),
      fun A' E' i v t m₂ hA hPi hp hn hm hkp => hq2 code _ A' E' i v t m₂ hA hPi hp hn hm (inB t hkp)⟩
  · refine hQ a _ ps' (hC₃.keeps hk₅) (fun b o hb e => hk₅ b o (hx₃ b o hb (Heap.get?_push_of_some _ e))) ⟨rfl, fun h => h.push hgb⟩ ⟨_, _, _, _, W, hat, (fun i s' st => st.1.typeIs), List.mem_cons_self, ?_, ?_⟩
    · intro b hb
      show b < h₅.objs.size
      rw [hsz₅]
      rcases List.mem_cons.mp hb with rfl | hb
      · exact Nat.lt_succ_self _
      · rcases List.mem_cons.mp hb with rfl | hb
        · exact Nat.lt_succ_of_lt hag
        · exact Nat.lt_succ_of_lt (Nat.lt_trans (List.mem_range.mp hb) hag)
    · intro b hb
      rcases List.mem_cons.mp hb with rfl | hb
      · exact Nat.lt_of_le_of_lt (Nat.sub_le _ _) hIlt
      · rw [List.mem_singleton.mp hb]; exact Nat.sub_lt (Nat.lt_of_le_of_lt (Nat.zero_le _) hlt) (by decide)
end
section
variable {prog : Program} {w : World} {A : Around} {E : Value → Shared → Prop} {s : Shared} {K a : Addr} {n : Nat} {F : Nat → Value → Prop} {Q : Value → Shared → Prop}
theorem all_gen (X : Gen prog w A K a n F s) (tr : Nat → Bool) (htr : TruthOf prog w A.in1 F tr)
    (hQ : ∀ s', Rst s s' → (∀ b o, b ≤ K → s.heap.get? b = some o → s'.heap.get? b = some o) → Q (.bool ((List.range n).all tr)) s') : wpAny (model prog w) A (call (.builtin "all") [.ref a]) Q E s := by
  obtain ⟨fp, wr, g, St, W, hst, _, _, hfp, hwr⟩ := X
  have W := W.in4_1
  exact call_all_walkS (W.self 0 _ _ _ hst ⟨a, _, _, _, _, _, _, tr, rfl, W, hst, htr, fun s' hm => hQ s' ⟨hm.os, fun h => h.movedS hm⟩ fun b o hb e => hm.heap b o (fun hmem => Nat.lt_irrefl _ (Nat.lt_of_lt_of_le (hwr b hmem) hb)) e⟩)
theorem any_gen (X : Gen prog w A K a n F s) (tr : Nat → Bool) (htr : TruthOf prog w A.in1 F tr)
    (hQ : ∀ s', Rst s s' → (∀ b o, b ≤ K → s.heap.get? b = some o → s'.heap.get? b = some o) → Q (.bool ((List.range n).any tr)) s') : wpAny (model prog w) A (call (.builtin "any") [.ref a]) Q E s := by
  obtain ⟨fp, wr, g, St, W, hst, _, _, hfp, hwr⟩ := X
  have W := W.in4_1
  exact call_any_walkS (W.self 0 _ _ _ hst ⟨a, _, _, _, _, _, _, tr, rfl, W, hst, htr, fun s' hm => hQ s' ⟨hm.os, fun h => h.movedS hm⟩ fun b o hb e => hm.heap b o (fun hmem => Nat.lt_irrefl _ (Nat.lt_of_lt_of_le (hwr b hmem) hb)) e⟩)
theorem sum_gen (X : Gen prog w A K a n F s) (val : Nat → Int) (hval : ∀ j v, F j v → NumOf (val j) v)
    (hQ : ∀ s' t', Rst s s' → (∀ b o, b ≤ K → s.heap.get? b = some o → s'.heap.get? b = some o) → Q (.int (preSum val n) t') s') : wpAny (model prog w) A (call (.builtin "sum") [.ref a]) Q E s := by
  obtain ⟨fp, wr, g, St, W, hst, _, _, hfp, hwr⟩ := X
  have W := W.in4_1
  exact call_sum_walkAnyB (W.self 0 _ _ _ hst ⟨a, _, _, _, _, _, _, val, rfl, W, hst, hfp, hval, fun s' t' hm => hQ s' t' ⟨hm.os, fun h => h.movedS hm⟩ fun b o hb e => hm.heap b o (fun hmem => Nat.lt_irrefl _ (Nat.lt_of_lt_of_le (hwr b hmem) hb)) e⟩)
end
/-- a table of code objects -/
def TabOk (o : Obj) : Prop := ∃ ps : Array Value, o = tabObj ps ∧ TriplesOk ps.toList
theorem isCode_of {h : Heap} {c P : Addr} {oP : Obj} (C : CodeHd h c P) (hP : h.get? P = some oP) (hT : TabOk oP) : ∃ ps, CodeT h c P ps := by
  obtain ⟨ps, rfl, h2⟩ := hT
  exact ⟨ps, C.code hP h2, C.tab hP⟩
theorem tabOk_of {h : Heap} {c P : Addr} {ps : Array Value} (C : CodeT h c P ps) : ∃ oP, h.get? P = some oP ∧ TabOk oP := by
  obtain ⟨⟨o, vs, file, tf, flags, tg, inF, text, tt, op, a, r1, r2, r3, r4, r5, r6, b, r7, r8, _⟩, h2⟩ := C
  have e := h2.2
  rw [b] at e
  cases e
  cases r7
  exact ⟨_, b, ps, rfl, r8⟩
theorem tabOk_empty : TabOk (tabObj #[]) := ⟨#[], rfl, trivial⟩
theorem TabOk.data {o : Obj} (h : TabOk o) : ∃ ps, o.data = .fields ps ∧ TriplesOk ps.toList := let ⟨ps, e, t⟩ := h; ⟨ps, by rw [e], t⟩
/-- the ledger after a generator expression: only the table may have changed -/
theorem gen_ledger {h₀ h h' : Heap} {L P : Addr} {m : Str → Option Value} {oP oP' : Obj} {news : List (Addr × Obj)} {upd : Obj → List (Addr × Obj)} (F : Fr h₀ L h m) (N : News h₀ L h news) (U : UpdF P oP news upd) (hk : ∀ b o, b ≠ P → h.get? b = some o → h'.get? b = some o) (hP : h'.get? P = some oP') :
    Fr h₀ L h' m ∧ News h₀ L h' (upd oP') := by
  obtain ⟨pre, post, rfl, hg, a, b⟩ := U.split
  have n1 := N (P, oP) (List.mem_append_right _ (.head _))
  refine ⟨⟨F.ns.at' fun o e => hk L o (fun q => n1.2.1 q.symm) e, fun b o e => hk b o (fun q => by rw [q, n1.2.2] at e; cases e) (F.keep b o e), F.above⟩, fun p hp => ?_⟩
  rw [hg] at hp
  rcases List.mem_append.mp hp with hp | hp
  · have n2 := N p (List.mem_append_left _ hp)
    exact ⟨hk _ _ (a p hp) n2.1, n2.2⟩
  · rcases List.mem_cons.mp hp with rfl | hp
    · exact ⟨hP, n1.2⟩
    · have n2 := N p (List.mem_append_right _ (.tail _ hp))
      exact ⟨hk _ _ (b p hp) n2.1, n2.2⟩
section
variable {prog : Program} {w : World} {A : Around} {E : Value → Shared → Prop} {s : Shared} {h₀ : Heap} {c P L : Addr} {m mg : Str → Option Value} {bm : Addr} {ob : Obj} {news : List (Addr × Obj)} {oP : Obj} {upd : Obj → List (Addr × Obj)}
/-- a generator expression over a list, the table in the ledger -/
theorem gen_evalL {env : Env} {elt iter : PySem.Expr} {x : Str} {px : Pos} {ifs : List PySem.Expr} {scope : Scope} {cl : List (Str × Addr)} {pos : Pos} {Q : Value → Shared → Prop}
    (F : Fr h₀ L s.heap m) (N : News h₀ L s.heap news) (U : UpdF P oP news upd) (hT : TabOk oP) (C : CodeHd h₀ c P)
    (M : BMod h₀ env.globals mg bm ob) (hlim : h₀.NoLimit) (hcode : env.code = .ref c)
    (hh : A.handled = none) (hco : scope.isCoroutine = false) (hclos : closureFor scope env = pure cl) (hcell : ∀ y ∈ scope.names, y.2 ≠ .cell) (h0 : scope.names.lookup (".0" : Str) = some NameKind.local)
    (hx : scope.names.lookup x = some .local) (hkind : scope.kind = .function) (hroom : A.depth < recursionLimit)
    (l : Addr) (its : Array Value) (pz : Nat → Bool) (Fv : Nat → Value → Prop) (hl : s.heap.IsList l its) (hlP : l ≠ P)
    (h : wpAny (model prog w) A (eval iter env) (fun xv s₁ => xv = .ref l ∧ ∃ tk, s₁ = { s with toks := tk }) E s)
    (hq1 : ∀ (code : Value) (C : Addr) (A' : Around) E' i v (t : Shared) m₂, A'.handled = none → its[i]? = some v → t.heap.Ns C m₂ → m₂ x = some v → (∀ b o, b ≠ P → s.heap.get? b = some o → t.heap.get? b = some o) →
        wpAny (model prog w) A' (forIn ifs true fun c r => if r = true then do let ok ← isTrue c (genEnv scope cl C code builtinsNs env) (eval c (genEnv scope cl C code builtinsNs env)); pure (ForInStep.yield ok) else pure (ForInStep.yield r)) (fun ok s₃ => ok = pz i ∧ Keeps t s₃) E' t)
    (hq2 : ∀ (code : Value) (C : Addr) (A' : Around) E' i v (t : Shared) m₂, A'.handled = none → its[i]? = some v → pz i = true → t.heap.Ns C m₂ → m₂ x = some v → (∀ b o, b ≠ P → s.heap.get? b = some o → t.heap.get? b = some o) →
        wpAny (model prog w) A' (eval elt (genEnv scope cl C code builtinsNs env)) (fun y s₃ => Fv i y ∧ Keeps t s₃) E' t)
    (hQ : ∀ (a : Addr) (s₅ : Shared) (oP' : Obj), Fr h₀ L s₅.heap m → News h₀ L s₅.heap (upd oP') → TabOk oP' → Rst s s₅ → Gen prog w A (s.heap.objs.size - 1) a (passing pz its.size 0).length (fun j y => ∃ i, (passing pz its.size 0)[j]? = some i ∧ Fv i y) s₅ → Q (.ref a) s₅)
    (hs : ∀ x, genFold iter env x = pure x) :
    wpAny (model prog w) A (eval (.GeneratorExp elt [⟨.Name x px, iter, ifs, 0⟩] scope pos) env) Q E s := by
  have nP : (P, oP) ∈ news := by obtain ⟨pre, post, rfl, _⟩ := U.split; simp
  have n1 := N _ nP
  obtain ⟨ps, hC⟩ := isCode_of (C.keeps F.keep) n1.1 hT
  refine gen_eval M hlim n1.2.2 hcode hh hco hclos hcell h0 hx hkind hroom (wpAny_mono h (fun xv s₁ hv => ?_) fun _ _ e => e) hs
  obtain ⟨rfl, tk, rfl⟩ := hv
  refine ⟨l, its, ps, pz, Fv, rfl, hl, hlP, hC, F.keep, hq1, hq2, fun a s₅ ps' hC5 hk5 hos hG => ?_⟩
  obtain ⟨oP', e1, e2⟩ := tabOk_of hC5
  obtain ⟨F5, N5⟩ := gen_ledger F N U hk5 e1
  exact hQ a s₅ oP' F5 N5 e2 hos hG
end
/-- what stands behind a generator's consumer -/
def GenBack (h₀ : Heap) (L : Addr) (m : Str → Option Value) (news : List (Addr × Obj)) (K : Addr) (s₅ : Shared) : Prop :=
  ∀ h' : Heap, (∀ b o, b ≤ K → s₅.heap.get? b = some o → h'.get? b = some o) → Fr h₀ L h' m ∧ News h₀ L h' news
theorem genBack {h₀ h : Heap} {L P : Addr} {m : Str → Option Value} {oP oP' : Obj} {news : List (Addr × Obj)} {upd : Obj → List (Addr × Obj)} {s₅ : Shared} (F : Fr h₀ L h m) (N : News h₀ L h news) (U : UpdF P oP news upd) (F5 : Fr h₀ L s₅.heap m) (N5 : News h₀ L s₅.heap (upd oP')) :
    GenBack h₀ L m (upd oP') (h.objs.size - 1) s₅ := fun h' hk => by
  have low : ∀ b, b < h.objs.size → b ≤ h.objs.size - 1 := fun b hb => Nat.le_sub_one_of_lt hb
  refine ⟨⟨F5.ns.at' fun o e => hk L o (low L F.ns.lt) e, fun b o e => hk b o (low b (Heap.lt_size (F.keep b o e))) (F5.keep b o e), F.above⟩, fun p hp => ?_⟩
  have hlt : p.1 < h.objs.size := by
    obtain ⟨pre, post, rfl, hg, _, _⟩ := U.split
    rw [hg] at hp
    rcases List.mem_append.mp hp with hp | hp
    · exact Heap.lt_size (N p (List.mem_append_left _ hp)).1
    · rcases List.mem_cons.mp hp with rfl | hp
      · exact Heap.lt_size (N (P, oP) (List.mem_append_right _ (.head _))).1
      · exact Heap.lt_size (N p (List.mem_append_right _ (.tail _ hp))).1
  exact ⟨hk _ _ (low _ hlt) (N5 p hp).1, (N5 p hp).2⟩
section
variable {prog : Program} {w : World} {A : Around} {E : Value → Shared → Prop} {s : Shared} {h₀ : Heap} {c P L : Addr} {m mg mb : Str → Option Value} {news : List (Addr × Obj)} {oP : Obj} {upd : Obj → List (Addr × Obj)} {p : Program} {loose : List Str} {mean : ExcName → Option Value}
/-- the same with the list in the ledger -/
theorem gen_K {env : Env} {elt iter : PySem.Expr} {x : Str} {px : Pos} {ifs : List PySem.Expr} {scope : Scope} {cl : List (Str × Addr)} {pos : Pos} {Q : Value → Shared → Prop} {l : Addr} {its : Array Value} {nl : Nat}
    (F : Fr h₀ L s.heap m) (N : News h₀ L s.heap news) (T : Top p loose mean mg mb h₀) (U : UpdF P oP news upd) (hT : TabOk oP) (C : CodeHd h₀ c P) (hl : (l, W.listOf its nl) ∈ news)
    (hglob : env.globals = mainGlobals) (hcode : env.code = .ref c)
    (hh : A.handled = none) (hco : scope.isCoroutine = false) (hclos : closureFor scope env = pure cl) (hcell : ∀ y ∈ scope.names, y.2 ≠ .cell) (h0 : scope.names.lookup (".0" : Str) = some NameKind.local)
    (hx : scope.names.lookup x = some .local) (hkind : scope.kind = .function) (hroom : A.depth < recursionLimit)
    (pz : Nat → Bool) (Fv : Nat → Value → Prop)
    (h : wpAny (model prog w) A (eval iter env) (fun xv s₁ => xv = .ref l ∧ ∃ tk, s₁ = { s with toks := tk }) E s)
    (hq1 : ∀ (code : Value) (C : Addr) (A' : Around) E' i v (t : Shared) m₂, A'.handled = none → its[i]? = some v → t.heap.Ns C m₂ → m₂ x = some v → (∀ b o, b ≠ P → s.heap.get? b = some o → t.heap.get? b = some o) →
        wpAny (model prog w) A' (forIn ifs true fun c r => if r = true then do let ok ← isTrue c (genEnv scope cl C code builtinsNs env) (eval c (genEnv scope cl C code builtinsNs env)); pure (ForInStep.yield ok) else pure (ForInStep.yield r)) (fun ok s₃ => ok = pz i ∧ Keeps t s₃) E' t)
    (hq2 : ∀ (code : Value) (C : Addr) (A' : Around) E' i v (t : Shared) m₂, A'.handled = none → its[i]? = some v → pz i = true → t.heap.Ns C m₂ → m₂ x = some v → (∀ b o, b ≠ P → s.heap.get? b = some o → t.heap.get? b = some o) →
        wpAny (model prog w) A' (eval elt (genEnv scope cl C code builtinsNs env)) (fun y s₃ => Fv i y ∧ Keeps t s₃) E' t)
    (hQ : ∀ (a : Addr) (s₅ : Shared) (oP' : Obj), Fr h₀ L s₅.heap m → News h₀ L s₅.heap (upd oP') → TabOk oP' → Rst s s₅ → Gen prog w A (s.heap.objs.size - 1) a (passing pz its.size 0).length (fun j y => ∃ i, (passing pz its.size 0)[j]? = some i ∧ Fv i y) s₅ → GenBack h₀ L m (upd oP') (s.heap.objs.size - 1) s₅ → Q (.ref a) s₅)
    (hs : ∀ x, genFold iter env x = pure x) :
    wpAny (model prog w) A (eval (.GeneratorExp elt [⟨.Name x px, iter, ifs, 0⟩] scope pos) env) Q E s := by
  obtain ⟨bm, ob, b1, b2, b3, b4, b5, b6⟩ := T.bmain
  have nP : (P, oP) ∈ news := by obtain ⟨pre, post, rfl, _⟩ := U.split; simp
  have n1 := N _ nP
  have n2 := N _ hl
  have hlP : l ≠ P := by
    rintro rfl
    have e := n1.1
    rw [n2.1] at e; cases e
    obtain ⟨ps, e2, _⟩ := hT.data
    cases e2
  exact gen_evalL F N U hT C (mg := mg) (bm := bm) (ob := ob) (hglob ▸ ⟨T.g, b1, b2, b3, b4, b5, b6⟩) T.nolimit hcode hh hco hclos hcell h0 hx hkind hroom l its pz Fv ⟨_, n2.1, rfl, _, rfl⟩ hlP h hq1 hq2 (fun a s₅ oP' F5 N5 T5 R5 G5 => hQ a s₅ oP' F5 N5 T5 R5 G5 (genBack F N U F5 N5)) hs
end
theorem keeps_refl {s : Shared} : Keeps s s := ⟨s.heap, s.toks, rfl, fun _ _ e => e⟩
section
variable {prog : Program} {w : World} {A : Around} {E : Value → Shared → Prop} {s t : Shared}
theorem gen_name {scope : Scope} {cl : List (Str × Addr)} {C : Addr} {code : Value} {env : Env} {x : Str} {pos : Pos} {m₂ : Str → Option Value} {v : Value} {Q : Value → Shared → Prop}
    (hn : t.heap.Ns C m₂) (hm : m₂ x = some v) (h : Q v t) (hk : scope.kind = .function := by rfl) (hl : (genEnv scope cl C code builtinsNs env).kindOf x = some .local := by rfl) (hd : (x == ("__debug__" : Str)) = false := by decide) :
    wpAny (model prog w) A (eval (.Name x pos) (genEnv scope cl C code builtinsNs env)) Q E t := wpAny_Name (wpAny_loadName_local hk hl hn hm h) hd
theorem truth_bool {tr : Nat → Bool} {F : Nat → Value → Prop} (h : ∀ i v, F i v → v = .bool (tr i)) : TruthOf prog w A F tr := fun i v s Q E hv hQ => by
  rw [h i v hv]; exact wpAny_truthy_bool hQ
theorem no_ifs {env : Env} : wpAny (model prog w) A (forIn ([] : List PySem.Expr) true fun c r => if r = true then do let ok ← isTrue c env (eval c env); pure (ForInStep.yield ok) else pure (ForInStep.yield r)) (fun ok s₃ => ok = true ∧ Keeps t s₃) E t :=
  wpAny_pure ⟨rfl, keeps_refl⟩
end
section
variable {prog : Program} {w : World} {A : Around} {E : Value → Shared → Prop} {s : Shared} {h₀ : Heap} {L K a : Addr} {m : Str → Option Value} {news : List (Addr × Obj)} {n : Nat} {F : Nat → Value → Prop} {Q : Value → Shared → Prop}
theorem all_true : ∀ n : Nat, ((List.range n).all fun _ => true) = true := fun n => by simp
theorem any_false : ∀ n : Nat, ((List.range n).any fun _ => false) = false := fun n => by simp
theorem all_K (X : Gen prog w A K a n F s) (B : GenBack h₀ L m news K s) (htr : ∀ i v, F i v → v = .bool true)
    (h : ∀ s', Rst s s' → Fr h₀ L s'.heap m → News h₀ L s'.heap news → Q (.bool true) s') : wpAny (model prog w) A (call (.builtin "all") [.ref a]) Q E s :=
  all_gen X (fun _ => true) (truth_bool htr) fun s' hr hk => by rw [all_true]; exact h s' hr (B _ hk).1 (B _ hk).2
theorem any_K (X : Gen prog w A K a n F s) (B : GenBack h₀ L m news K s) (htr : ∀ i v, F i v → v = .bool false)
    (h : ∀ s', Rst s s' → Fr h₀ L s'.heap m → News h₀ L s'.heap news → Q (.bool false) s') : wpAny (model prog w) A (call (.builtin "any") [.ref a]) Q E s :=
  any_gen X (fun _ => false) (truth_bool htr) fun s' hr hk => by rw [any_false]; exact h s' hr (B _ hk).1 (B _ hk).2
theorem sum_K (X : Gen prog w A K a n F s) (B : GenBack h₀ L m news K s) (val : Nat → Int) (hval : ∀ j v, F j v → NumOf (val j) v) {k : Int} (hk : preSum val n = k)
    (h : ∀ s' t', Rst s s' → Fr h₀ L s'.heap m → News h₀ L s'.heap news → Q (.int k t') s') : wpAny (model prog w) A (call (.builtin "sum") [.ref a]) Q E s :=
  sum_gen X val hval fun s' t' hr hk2 => by rw [hk]; exact h s' t' hr (B _ hk2).1 (B _ hk2).2
end
theorem strs4 {vs : List Value} {a b c d : Str} (h : StrsAre vs [a, b, c, d]) : ∃ t1 t2 t3 t4, vs = [.str a t1, .str b t2, .str c t3, .str d t4] := by
  cases h with | cons _ t1 h => cases h with | cons _ t2 h => cases h with | cons _ t3 h => cases h with | cons _ t4 h => cases h with | nil => exact ⟨t1, t2, t3, t4, rfl⟩
section
variable {prog : Program} {w : World} {A : Around} {E : Value → Shared → Prop} {s : Shared} {h₀ : Heap} {L : Addr} {m : Str → Option Value} {news : List (Addr × Obj)} {d : Addr} {kvs : List (Str × Value)} {Q : Value → Shared → Prop}
theorem strs_of_keys {vs : List Value} (hl : vs.length = kvs.length) (hv : ∀ (j : Nat) (v : Value), vs[j]? = some v → ∃ k x, kvs[j]? = some (k, x) ∧ (PySem.strKind prog w).is k v = true) : StrsAre vs (kvs.map (·.1)) :=
  strsOf (by rw [hl, List.length_map]) fun i k hk => by
    have hlt : i < vs.length := by rw [hl]; have := (List.getElem?_eq_some_iff.mp hk).1; simpa using this
    obtain ⟨k', x, hx, hk'⟩ := hv i vs[i] (by simp [hlt])
    obtain ⟨t, e⟩ := Value.isStrOf_shape hk'
    rw [List.getElem?_map, hx] at hk
    cases hk
    exact ⟨t, by rw [← e]; simp [hlt]⟩
/-- sorted(dict) of four texts: the sort of its names -/
theorem sortedD4 {a b c e : Str} (hh : A.handled = none) (F : Fr h₀ L s.heap m) (N : News h₀ L s.heap news) (hd : SDict prog w (Now s.heap) d kvs) (hk : kvs.map (·.1) = [a, b, c, e])
    (h : ∀ (B : Addr) (t1 t2 t3 t4 : Tok) h' tk, Fr h₀ L h' m → News h₀ L h' ((B, W.listOf #[.str a t1, .str b t2, .str c t3, .str e t4] 0) :: news) → (∀ q ∈ news, q.1 < B) →
      wpAny (model prog w) A.in1 (call (.builtin "list.sort") [.ref B]) (fun _ s' => Q (.ref B) s') E { s with heap := h', toks := tk }) :
    wpAny (model prog w) A (call (.builtin "sorted") [.ref d]) Q E s := by
  obtain ⟨ep, hat⟩ := hd.at.dictAt
  have hlen : kvs.length = 4 := by rw [← List.length_map (f := (·.1)), hk]; rfl
  refine kdu_sorted (kdl_dict (knd := PySem.strKind prog w) (kvs := kvs) (ep := ep) hd.1) hh F N hat (kdl_size (by rw [hlen]; decide)) fun B h' tk vs F' N' l1 hl hv => ?_
  have hS := strs_of_keys hl hv
  rw [hk] at hS
  obtain ⟨t1, t2, t3, t4, rfl⟩ := strs4 hS
  exact h B t1 t2 t3 t4 h' tk F' N' l1
end
end Mine
end
section -- Tf
open PySem PySem.W PySem.Spec PySem.Calls PyProof.Rows PyProof.V PySem.SeqAt
set_option Elab.async false
set_option maxRecDepth 100000
set_option linter.unusedVariables false
namespace Mine
section
variable {prog : Program} {w : World} {A₀ A : Around} {s : Shared} {base h₀ : Heap} {outer : List Env} {L : Addr} {m : Str → Option Value} {env : Env} {news : List (Addr × Obj)}
/-- a def with super() is entered: its ground holds all that stands, but for the ledger's objects -/
theorem enterKS {K : Frag} {p : Program} {loose : List Str} {mean : ExcName → Option Value} {mg mb : Str → Option Value} {R : Result → Shared → Prop} {name qual : Str} {params : Arguments} {body : List Stmt} {scope : Scope} {dV kV doc pm cdv ct oc : Value} {an od : Option Addr} {osl : Array (Option Value)} {f cc : Addr} {args : Args} {binds : List (Str × Value)}
    (hA : A.frames = some (env :: outer)) (hf : env.frame = some L) (hke : env.scope.kind = .function) (F : Fr h₀ L s.heap m) (B : Below A₀ base outer h₀) (X : K.In h₀) (N : News h₀ L s.heap news) (T : Top p loose mean mg mb h₀) (D : KtsDicts (frs outer) h₀)
    (ho : K.lookup f = some ⟨oc, od, .func (ksFn name qual params body scope dV kV doc pm an cdv ct cc), osl⟩) (hcd : codeIn K cdv qual = true) (hroom : A.depth < recursionLimit)
    (hbind : BindsTo s (ksFn name qual params body scope dV kV doc pm an cdv ct cc) args binds) (hsc : enterOk scope binds = true)
    (h : ∀ g L' h₁ (tk' : Nat), let m' : Str → Option Value := fun y => binds.reverse.lookup y; let eK := ksEnv qual scope L' f cdv cc; let aK := A.deeper eK; let gK := s.gens; let dK := s.drawn; let oK := s.os;
      Fr g L' h₁ m' → News g L' h₁ news → Below A base (env :: outer) g → K.In g → Top p loose mean mg mb g → KtsDicts (frs (env :: outer)) g → Grd s.heap g L' (news.map (·.1)) → (∀ p ∈ news, p.1 < L') →
      _root_.PySem.wpAt (model prog w) aK (.func body eK) (execs body eK)
        (fun fl s' => R (.ok (.ret (match fl with | .ret v => v | _ => .none))) s')
        (fun e s' => wpAny (model prog w) aK (leaving eK e) (fun _ s'' => R (.error e) s'') (fun e' s'' => R (.error e') s'') s')
        ⟨h₁, gK, dK, tk', oK⟩)
    : codeAny (model prog w) A (.call (.ref f) args) R s := by
  obtain ⟨FG, BG, st, _⟩ := groundX (R := R) B F N hA hf hke
  have XS := X.keeps F.keep
  refine ks_codeAny_call_defAt (fd := ksFn name qual params body scope dV kV doc pm an cdv ct cc) (body := body) (binds := binds) hroom (XS _ _ ho) rfl (T.nolimit.keeps F.keep) (codeRec_of XS hcd) rfl hbind (eOk hsc).1 (eOk hsc).2.1 (fun h₁ ns kp => ?_) (eOk hsc).2.2.1 (eOk hsc).2.2.2.1 (eOk hsc).2.2.2.2
  refine h _ s.heap.objs.size h₁ _ ⟨ns, fun b o e => kp b o (of_hideAll _ e), Nat.le_of_eq (hideAll_size _ _)⟩ (fun p hp => ?_) BG (X.keeps st) (T.keeps st) (fun b hb => ?_) ⟨Nat.le_refl _, fun b o e n => hideAll_get _ e n⟩ (fun p hp => Heap.lt_size (N p hp).1)
  · exact ⟨kp _ _ (N p hp).1, Nat.ne_of_lt (Heap.lt_size (N p hp).1), hideAll_none _ (List.mem_map_of_mem hp)⟩
  · rw [show frs (env :: outer) = L :: frs outer by simp [frs, hf]] at hb
    rcases List.mem_cons.mp hb with rfl | hb
    · obtain ⟨oL, es, ep, e1, e2, _⟩ := FG.ns
      exact ⟨oL, es, ep, e1, e2⟩
    · obtain ⟨o, es, ep, e1, e2⟩ := D b hb
      exact ⟨o, es, ep, st _ _ e1, e2⟩
end
/-- a heap that a new object was laid on: what stood, stands -/
theorem Sub.atKeep {fs : List Addr} {h h' : Heap} (k : ∀ b o, h.get? b = some o → h'.get? b = some o) : Sub (At fs h) (At fs h') := fun a o e => ⟨k a o e.1, e.2⟩
/-- the objects of a heap that are no frame's and none of these -/
abbrev AtO (fs mods : List Addr) (h : Heap) : Addr → Obj → Prop := fun a o => At fs h a o ∧ a ∉ mods
section
variable {prog : Program} {w : World} {A : Around} {s : Shared} {h₀ : Heap} {L : Addr} {m : Str → Option Value} {news : List (Addr × Obj)} {K : Frag} {C : Addr} {Q E : Value → Shared → Prop}
theorem call_clsK {pos : List Value} {kw : List (Str × Value)} {fI : Addr} (F : Fr h₀ L s.heap m) (X₀ : K.In h₀) (N : News h₀ L s.heap news) (hm : makesIn K C = true) (hi : findIn K (.ref C) "__init__" = some (some (.ref fI))) (hf : isFn K (.ref fI) = true)
    (h : ∀ (x dx : Addr) h', Fr h₀ L h' m → News h₀ L h' ((x, instObj C dx) :: (dx, dictOf [] 0) :: news) → (∀ p ∈ news, p.1 < dx) → dx < x → (∀ b o, s.heap.get? b = some o → h'.get? b = some o) → s.heap.objs.size ≤ dx →
      codeAny (model prog w) (A.under (.builtin "type.__call__" ⟨.ref C :: pos, kw⟩)) (.call (.ref fI) ⟨.ref x :: pos, kw⟩) (InitBack x fun r s' => match r with | .ok (.ret v) => Q v s' | .ok _ => False | .error e => E e s') { s with heap := h' }) :
    wpAny (model prog w) A (call (.ref C) pos kw) Q E s := by
  refine wpAny_call ?_
  have X := X₀.keeps F.keep
  have hf := beq_iff_eq.mp hf
  obtain ⟨hh, g, d, t, os⟩ := s
  refine make_core (makes_of X hm) (looks_findIn X hi) (fun self => bind_fn X self hf) (.inl rfl) (h _ hh.objs.size _ ((F.push _).push _) ?_ (fun p hp => Heap.lt_size (N p hp).1) (Nat.lt_succ_self _) (fun b o e => Heap.get?_push_of_some _ (Heap.get?_push_of_some _ e)) (Nat.le_refl _))
  have := (N.push F emptyDict).push (F.push _) (instObj C hh.objs.size)
  rwa [Heap.size_push] at this
end
theorem Sub.cls {fs mods : List Addr} {h h' : Heap} {x dx : Addr} (k : ∀ b o, h.get? b = some o → h'.get? b = some o) (hz : h.objs.size ≤ dx) (hx : dx < x) : Sub (AtO fs mods h) (AtO fs (x :: dx :: mods) h') := fun a o e => by
  have hlt := Heap.lt_size e.1.1
  refine ⟨⟨k a o e.1.1, e.1.2⟩, fun q => ?_⟩
  rcases List.mem_cons.mp q with rfl | q
  · exact absurd (Nat.lt_trans (Nat.lt_of_lt_of_le hlt hz) hx) (Nat.lt_irrefl _)
  · rcases List.mem_cons.mp q with rfl | q
    · exact absurd (Nat.lt_of_lt_of_le hlt hz) (Nat.lt_irrefl _)
    · exact e.2 q
theorem Sub.off {fs : List Addr} {h : Heap} : Sub (At fs h) (AtO fs [] h) := fun a o e => ⟨e, by simp⟩
/-- the way out of a class's call -/
theorem Ext.cls {fs mods : List Addr} {h h₁ h' : Heap} {x dx : Addr} (k : ∀ b o, h.get? b = some o → h₁.get? b = some o) (hz : h.objs.size ≤ dx) (hx : dx < x) (E : Ext fs (x :: dx :: mods) h₁ h') (hs : h.objs.size ≤ h₁.objs.size) : Ext fs mods h h' := by
  have off : ∀ b o, h.get? b = some o → b ∉ mods → b ∉ x :: dx :: mods := fun b o e n q => by
    have hlt := Heap.lt_size e
    rcases List.mem_cons.mp q with rfl | q
    · exact absurd (Nat.lt_trans (Nat.lt_of_lt_of_le hlt hz) hx) (Nat.lt_irrefl _)
    · rcases List.mem_cons.mp q with rfl | q
      · exact absurd (Nat.lt_of_lt_of_le hlt hz) (Nat.lt_irrefl _)
      · exact n q
  exact ⟨Nat.le_trans hs E.size, fun b o e n q => E.keep b o (k b o e) n (off b o e q), fun b o e n => E.slots b o (k b o e) n⟩
theorem Made.cls {h h₁ h' : Heap} {x dx : Addr} {ox od : Obj} {tl : List (Addr × Obj)} (k : ∀ b o, h.get? b = some o → h₁.get? b = some o) (hz : h.objs.size ≤ dx) (hx : dx < x) (M : Made h₁ h' tl) (hx' : h'.get? x = some ox) (hd' : h'.get? dx = some od) : Made h h' ((x, ox) :: (dx, od) :: tl) := fun p hp => by
  have none_ : ∀ b, h.objs.size ≤ b → h.get? b = none := fun b hb => Heap.get?_none_of_le hb
  rcases List.mem_cons.mp hp with rfl | hp
  · exact ⟨hx', none_ _ (Nat.le_trans hz (Nat.le_of_lt hx))⟩
  · rcases List.mem_cons.mp hp with rfl | hp
    · exact ⟨hd', none_ _ hz⟩
    · refine ⟨(M p hp).1, ?_⟩
      cases q : h.get? p.1 with
      | none => rfl
      | some o => have := (M p hp).2; rw [k _ _ q] at this; cases this
section
variable {prog : Program} {w : World} {A : Around} {E : Value → Shared → Prop} {s : Shared} {h₀ : Heap} {L : Addr} {m : Str → Option Value} {news : List (Addr × Obj)} {Q : Value → Shared → Prop}
theorem collect_tupleX {l : Addr} {vs : List Value} {Q : List Value → Shared → Prop} (hl : IsTup s.heap l vs.toArray)
    (h : ∀ h', (∀ b o, s.heap.get? b = some o → h'.get? b = some o) → Q vs { s with heap := h' }) (hsz : vs.length ≤ sizeLine) :
    wpAny (model prog w) A (collect (.ref l)) Q E s := by
  obtain ⟨o, ho, hc, n, hd⟩ := id hl
  unfold collect
  refine wpAny_bind (wpAny_runValue (codeAny_builtin entry_proto_collect' ?_))
  show wpAny _ _ (do again (.builtin "list.__iadd__" ⟨[← newList [], .ref l], []⟩)) _ _ s
  refine wpAny_bind (wpAny_newList (wpAny_pure ⟨Code.quiet_builtin _ (by decide +kernel), codeAny_builtin entry_list_iadd' ?_⟩))
  show wpAny _ _ (Builtin.List.listExtendWith (.ref s.heap.objs.size) (.ref l) (.ref s.heap.objs.size)) _ _ { s with heap := s.heap.push (seqObj "list" #[] 0) }
  unfold Builtin.List.listExtendWith
  have ho' : (s.heap.push (seqObj "list" #[] 0)).get? l = some o := Heap.get?_push_of_some _ ho
  refine wpAny_bind (wpAny_typeOf (T := "tuple") ⟨o, ho', hc⟩ ?_)
  have ht : (Value.type "tuple" == Value.type "tuple") = true := by rfl
  rw [if_pos (by rw [ht]; simp)]
  refine wpAny_bind (listItems_at ho' hd ?_)
  refine wpAny_bind (listItems_at (xs := #[]) (n := 0) (Heap.get?_push_size _ rfl) rfl ?_)
  rw [if_neg (by simp)]
  refine wpAny_bind (listUpdate_at (xs := #[]) (n := 0) (Heap.get?_push_size _ rfl) rfl ?_ (Nat.zero_le _) (by show (#[] ++ vs.toArray).size ≤ sizeLine + 1; simp only [Array.size_append, List.size_toArray, List.length_nil]; omega))
  refine wpAny_pure ?_
  show wpAny (model prog w) A (do
      let o ← load s.heap.objs.size
      match o.data with
      | .seq xs _ => pure xs.toList
      | _ => unsupported "internal:collect") Q E { s with heap := (s.heap.push (seqObj "list" #[] 0)).update s.heap.objs.size (Obj.mapSeq (· ++ vs.toArray)) }
  refine wpAny_bind (wpAny_load (get?_update_seq (Heap.get?_push_size _ rfl) _) ?_)
  show wpAny _ _ (pure ((#[] : Array Value) ++ vs.toArray).toList) Q E _
  rw [show ((#[] : Array Value) ++ vs.toArray).toList = vs by simp]
  refine wpAny_pure (h _ fun b o e => ?_)
  have hlt : b < s.heap.objs.size := Heap.lt_size e
  rw [Heap.get?_update_ne _ _ _ _ (Nat.ne_of_lt hlt), Heap.get?_push_ne _ _ _ (Nat.ne_of_lt hlt)]
  exact e
/-- sorted(tuple): the sort of a new list -/
theorem sortedTup {l : Addr} {vs : List Value} (F : Fr h₀ L s.heap m) (N : News h₀ L s.heap news) (hl : IsTup s.heap l vs.toArray) (hz : vs.length ≤ 1000)
    (h : ∀ (B : Addr) h', Fr h₀ L h' m → News h₀ L h' ((B, W.listOf vs.toArray 0) :: news) → (∀ q ∈ news, q.1 < B) →
      wpAny (model prog w) A.in1 (call (.builtin "list.sort") [.ref B]) (fun _ s' => Q (.ref B) s') E { s with heap := h' }) :
    wpAny (model prog w) A (call (.builtin "sorted") [.ref l]) Q E s := by
  have hz' : vs.length ≤ sizeLine := by rw [sizeLine_eq]; omega
  refine call_function_entry kind_sorted plain_sorted entry_sorted (args_sorted1 _) ?_
  unfold Builtin.«sorted»
  refine wpAny_bind (m := checkCount "sorted" 1 1 _) (wpAny_pure ?_)
  refine wpAny_bind (collect_tupleX hl (fun h' hk => ?_) hz')
  refine wpAny_bind (wpAny_newList ?_ hz')
  have hg := h h'.objs.size (h'.push { cls := .type "list", data := .seq vs.toArray }) ((F.keeps hk).push _) (News.push (F.keeps hk) (fun p hp => ⟨hk _ _ (N p hp).1, (N p hp).2⟩) _ rfl)
    (fun q hq => Heap.lt_size (hk _ _ (N q hq).1))
  refine wpAny_bind (wpAny_holding (wpAny_mono hg (fun _ s' x => ?_) fun _ _ e => e))
  exact wpAny_pure ⟨_, rfl, x⟩
theorem tupK {K : Frag} {g : Heap} {l : Addr} {od : Option Addr} {its : Array Value} {n : Nat} {sl : Array (Option Value)} (F : Fr g L s.heap m) (X : K.In g) (ho : K.lookup l = some ⟨.type "tuple", od, .seq its n, sl⟩) : IsTup s.heap l its.toList.toArray :=
  ⟨_, F.keep _ _ (X _ _ ho), rfl, n, by simp⟩
theorem lstK {K : Frag} {g : Heap} {l : Addr} {od : Option Addr} {its : Array Value} {n : Nat} {sl : Array (Option Value)} (F : Fr g L s.heap m) (X : K.In g) (ho : K.lookup l = some ⟨.type "list", od, .seq its n, sl⟩) : s.heap.IsList l its :=
  ⟨_, F.keep _ _ (X _ _ ho), rfl, n, rfl⟩
end
theorem item0 {prog : Program} {w : World} {A : Around} {E : Value → Shared → Prop} {s : Shared} {value slice : PySem.Expr} {l : Addr} {x : Value} {r : List Value} {u : Tok} {Q : Value → Shared → Prop} (hl : s.heap.IsList l (x :: r).toArray) (h : Q x s)
    (hs : subscripted slice false (.ref l) (.int 0 u) = operate [.ref l, .int 0 u] (getItem (.ref l) (.int 0 u)) := by with_unfolding_all rfl) :
    wpAny (model prog w) A (subscriptTail value slice (.ref l) (.int 0 u)) Q E s := item_listR (x := x) hl (by decide) (by decide) rfl h hs
end Mine
end
section -- Tg
open PySem PySem.W PySem.Spec PySem.Calls PyProof.Rows PyProof.V PySem.SeqAt
set_option Elab.async false
set_option maxRecDepth 100000
set_option maxHeartbeats 3200000
set_option linter.unusedVariables false
namespace Mine
section
variable {prog : Program} {w : World} {A : Around} {R : Result → Shared → Prop} {I : Addr} {fp wr : List Addr} {G : Array GenState → Array GenState → Prop} {n : Nat} {P : Nat → Value → Prop} {St : Nat → Shared → Prop}
theorem take_more {names : List Str} {i : Nat} (hn : names.Nodup) (h : i < names.length) : (names.take i).contains names[i] = false := by
  rw [List.contains_eq_mem, decide_eq_false_iff_not]
  intro hm
  obtain ⟨j, hj, e⟩ := List.getElem_of_mem hm
  rw [List.length_take] at hj
  rw [List.getElem_take] at e
  exact (List.pairwise_iff_getElem.mp hn) j i (by omega) h (by omega) e
/-- the names are taken up into a set one by one -/
theorem set_take_strs (W : WalksS prog w A.in1 I fp wr G n P St) (S : Addr) (hSf : S ∉ fp) (names : List Str) (hnn : names.length = n) (hnd : names.Nodup)
    (hval : ∀ i v, P i v → ∃ k t, names[i]? = some k ∧ v = .str k t) (hb : n + 1 < scanBound) :
    ∀ (j i : Nat) (s : Shared), n - i = j → i ≤ n → St i s → s.heap.SetOf (PySem.strKind prog w) S (fun k => (names.take i).contains k) i →
      (∀ s', Moved (S :: wr) G s s' → s'.heap.SetOf (PySem.strKind prog w) S (fun k => names.contains k) n → R (.ok (.ret .none)) s') →
      codeAny (model prog w) A (.builtin "set.update.loop" ⟨[.ref S, .ref I], []⟩) R s := by
  have hSw : S ∉ wr := fun h => hSf (W.sub _ h)
  have hsub : ∀ b ∈ wr, b ∈ S :: wr := fun b hb => List.mem_cons_of_mem _ hb
  intro j
  induction j with
  | zero =>
    intro i s hj hi hst hS hR
    have hin : i = n := by omega
    subst hin
    refine codeAny_builtin F.entry_set_update_loop ?_
    rw [Around.under_plainId F.plain_set_update_loop _]
    show wpAny _ A.in1 (pyNext (.ref I) >>= _) _ _ s
    refine wpAny_bind (W.done s _ _ hst fun s' hm => ?_)
    show wpAny _ A.in1 (ret Value.none) _ _ s'
    refine wpAny_pure (hR s' (hm.mono hsub) ?_)
    rw [← hnn, List.take_length] at hS
    obtain ⟨o, es, ep, t, ho, rest⟩ := hS
    rw [hnn] at rest
    exact ⟨o, es, ep, t, hm.heap S _ hSw ho, rest⟩
  | succ j ih =>
    intro i s hj hi hst hS hR
    have hlt : i < n := by omega
    refine codeAny_builtin F.entry_set_update_loop ?_
    rw [Around.under_plainId F.plain_set_update_loop _]
    show wpAny _ A.in1 (pyNext (.ref I) >>= _) _ _ s
    refine wpAny_bind (W.item i s _ _ hlt hst fun v s' hP hst' hm => ?_)
    obtain ⟨k, t, hk, rfl⟩ := hval i v hP
    have hlt' : i < names.length := by omega
    have hk' : names[i] = k := (List.getElem?_eq_some_iff.mp hk).2
    have hS' : s'.heap.SetOf (PySem.strKind prog w) S (fun k => (names.take i).contains k) i := by
      obtain ⟨o, es, ep, tb, ho, rest⟩ := hS
      exact ⟨o, es, ep, tb, hm.heap S _ hSw ho, rest⟩
    show wpAny _ A.in1 (holding [Value.str k t] (setAdd S (.str k t)) >>= _) _ _ s'
    refine wpAny_bind (wpAny_holding ?_)
    unfold setAdd
    refine wpAny_holding ?_
    refine wpAny_bind ((PySem.strKind prog w).pyHash (k := k) (strKind_is _ _ _ _) ?_)
    have hroom : i + 1 < scanBound := by omega
    refine wpAny_setAddHashed_of (knd := PySem.strKind prog w) (s := { s' with toks := s'.toks + 1 }) (strKind_is _ _ _ _) rfl hS' hroom fun h' hsb hS2 => ?_
    have hno : (names.take i).contains k = false := hk' ▸ take_more hnd hlt'
    have hSi : h'.SetOf (PySem.strKind prog w) S (fun k => (names.take (i + 1)).contains k) (i + 1) :=
      SetOf_congr hS2 (fun k' => by
        rw [List.take_add_one, hk]
        simp only [Option.toList_some, List.contains_eq_mem, List.mem_append, List.mem_singleton]
        by_cases h1 : k' ∈ names.take i <;> by_cases h2 : k' = k <;> simp [h1, h2]) (by rw [hno]; rfl)
    refine wpAny_pure ⟨plainId_quiet F.plain_set_update_loop _, ih (i + 1) _ (by omega) hlt (W.frame _ s' _ _ hst' (Nat.le_succ _) fun b hb o e => ?_) hSi fun s'' hm'' hS'' => ?_⟩
    · rw [hsb.2 b (fun h : b = S => hSf (by rw [← h]; exact hb))]; exact e
    · refine hR s'' (Moved.trans W.gtrans ((hm.mono hsub).then_heap (Nat.le_succ _) fun b o hb e => ?_) hm'') hS''
      rw [hsb.2 b (fun h : b = S => hb (by rw [h]; exact List.mem_cons_self))]; exact e
end
abbrev freshSet (led : Bool) : Obj := { cls := .type "set", dict := none, data := .set #[] 0 (.fresh 0 0 led) }
section
variable {prog : Program} {w : World} {A : Around} {E : Value → Shared → Prop} {s : Shared}
/-- set(list of texts, each once) -/
theorem call_set_strs {l : Addr} {items : Array Value} {names : List Str} {Q : Value → Shared → Prop}
    (hh : A.handled = none) (hl : s.heap.IsList l items) (hi : StrsAre items.toList names) (hnd : names.Nodup) (hb : items.size + 1 < scanBound)
    (h : ∀ (h' : Heap) (tk : Nat), h'.SetOf (PySem.strKind prog w) s.heap.objs.size (fun k => names.contains k) items.size →
      (∀ b o, b < s.heap.objs.size → s.heap.get? b = some o → h'.get? b = some o) → Q (.ref s.heap.objs.size) { s with heap := h', toks := tk }) :
    wpAny (model prog w) A (call (.type "set") [.ref l]) Q E s := by
  obtain ⟨c, tl, hmro⟩ := F.called_set.mro
  have hmade := F.called_set.made
  have hsub := F.called_set.sub
  have hnn : names.length = items.size := by have := hi.length; rw [Array.length_toList] at this; exact this.symm
  refine wpAny_call (codeAny_of_tree ?_)
  show wpAny _ _ (callAny (.type "set") _) _ _ _
  refine wpAny_pure ⟨Code.quiet_builtin _ (by decide +kernel), codeAny_builtin F.entry_type_call ?_⟩
  rw [Around.under_plain (weight_type_call_type "set" [.ref l] []) rfl]
  have h1 := F.called_set.notType
  have h2 := F.called_set.canCreate
  have hct := F.typeCall_set_1 (.ref l)
  repeat (any_goals (first | assumption | wp_step))
  refine codeAny_mono (code_set_new_1 (.ref l) (E := E) (Q₁ := fun obj s₁ => ∃ led : Bool, obj = .ref s.heap.objs.size ∧ s₁ = { s with heap := s.heap.push { cls := .type "set", dict := none, data := .set #[] 0 (.fresh 0 0 led) } }) fun led => ⟨led, rfl, rfl⟩) fun r s₁ hr => ?_
  cases r with
  | error e => exact hr
  | ok fl =>
    cases fl with
    | ret obj =>
      obtain ⟨led, rfl, rfl⟩ := hr
      have hS : (s.heap.push (freshSet led)).get? s.heap.objs.size = some (freshSet led) := Heap.get?_push_size _ rfl
      have hT : Shared.TypeIs { s with heap := s.heap.push (freshSet led) } (.ref s.heap.objs.size) "set" := ⟨_, hS, rfl⟩
      have hli := F.called_set.init.lookup
      have hbi := F.called_set.init.bind (.ref s.heap.objs.size)
      repeat (any_goals (first | assumption | wp_step))
      refine codeAny_mono (codeAny_call_builtin (R := wants (fun r s₂ => r = .none ∧ ∃ h' tk, s₂ = { s with heap := h', toks := tk } ∧
          h'.SetOf (PySem.strKind prog w) s.heap.objs.size (fun k => names.contains k) items.size ∧
          (∀ b o, b < s.heap.objs.size → s.heap.get? b = some o → h'.get? b = some o)) E) F.called_set.init.plain F.entry_set_init (check_set_init_1 hT ?_)) fun r₂ s₂ hr₂ => ?_
      · obtain ⟨ol, hol, hcl, nl, hdl⟩ := hl
        obtain ⟨ocls, odict, odata, oslots⟩ := ol
        simp only at hcl hdl
        subst hcl; subst hdl
        have hol' : (s.heap.push (freshSet led)).get? l = some { cls := .type "list", dict := odict, data := .seq items nl, slots := oslots } := Heap.get?_push_of_some _ hol
        have hsls := F.sub_list_set
        have hslf := F.sub_list_frozenset
        have hne : (Value.type "list" == Value.type "dict") = false := by decide
        have hl1 : (s.heap.push (freshSet led)).IsList l items := ⟨_, hol', rfl, nl, rfl⟩
        unfold Builtin.«set.__init__» noKeywords Builtin.Frozenset.updateFrom
        generalize hPI : pyIter = PI
        wp_walk
        subst hPI
        refine wpAny_pyIter_list hl1 ?_
        refine wpAny_bind (wpAny_runValue ?_)
        have hlS : l < s.heap.objs.size := Heap.lt_size hol
        have hh3 : A.in1.in1.in1.handled = none := by simp [hh]
        have hsz : (s.heap.push (freshSet led)).objs.size = s.heap.objs.size + 1 := Heap.size_push _ _
        have hneI : l ≠ (s.heap.push (freshSet led)).objs.size := by rw [hsz]; exact Nat.ne_of_lt (Nat.lt_succ_of_lt hlS)
        have hSf : s.heap.objs.size ∉ [(s.heap.push (freshSet led)).objs.size, l] := by
          rw [hsz]; simp only [List.mem_cons, List.not_mem_nil, or_false, not_or]
          exact ⟨Nat.ne_of_lt (Nat.lt_succ_self _), Nat.ne_of_gt hlS⟩
        refine set_take_strs ((Walks.list hh3 _ l hneI items).toS) s.heap.objs.size hSf names hnn hnd (fun i v hv => ?hval) hb (items.size - 0) 0 _ (by omega) (Nat.zero_le _)
          ⟨⟨_, Heap.get?_push_size _ rfl, rfl, rfl⟩, (hl1.push _)⟩ ?hS0 ?hR
        case hval =>
          have hlt : i < names.length := by rw [hnn]; exact (Array.getElem?_eq_some_iff.mp hv).1
          obtain ⟨t, e⟩ := hi.get i names[i] (by simp [hlt])
          rw [Array.getElem?_toList, hv] at e
          cases e
          exact ⟨_, t, by simp [hlt], rfl⟩
        case hS0 =>
          have hget := Heap.get?_push_of_some (h := s.heap.push (freshSet led)) { cls := .type "list_iterator", data := .fields #[.ref l, .int 0 0] } hS
          exact SetOf_congr ((setObjOf_fresh (knd := PySem.strKind prog w) led).setOf hget (by unfold scanBound; omega)) (fun _ => rfl) rfl
        case hR =>
          intro s' hm hS'
          obtain ⟨h', g', d', tk', os'⟩ := s'
          have eg : g' = s.gens := hm.gens
          have ed : d' = s.drawn := hm.drawn
          have eo : os' = s.os := hm.os
          subst eg; subst ed; subst eo
          show wpAny _ _ _ _ _ _
          refine wpAny_pure ?_
          show wpAny _ _ (ret Value.none) _ _ _
          refine wpAny_pure ⟨rfl, h', tk', rfl, hS', fun b o hb e => ?_⟩
          have hb1 : b ≠ s.heap.objs.size := Nat.ne_of_lt hb
          have hb2 : b ≠ (s.heap.push (freshSet led)).objs.size := by rw [hsz]; exact Nat.ne_of_lt (Nat.lt_succ_of_lt hb)
          exact hm.heap b o (by simp only [List.mem_cons, List.not_mem_nil, or_false, not_or]; exact ⟨hb1, hb2⟩) (Heap.get?_push_of_some _ (Heap.get?_push_of_some _ e))
      · cases r₂ with
        | error e => exact hr₂
        | ok fl₂ =>
          cases fl₂ with
          | ret r =>
            obtain ⟨rfl, h', tk, rfl, hS', hk'⟩ := hr₂
            repeat (any_goals (first | assumption | wp_step))
            exact h _ _ hS' hk'
          | _ => exact hr₂.elim
    | _ => exact hr.elim
end
section
variable {prog : Program} {w : World} {A : Around} {E : Value → Shared → Prop} {s : Shared} {h₀ : Heap} {L : Addr} {m : Str → Option Value} {news : List (Addr × Obj)}
/-- set(list of texts, each once): a set of so many -/
theorem setStrs {l : Addr} {vs : List Value} {names : List Str} {Q : Value → Shared → Prop} (F : Fr h₀ L s.heap m) (N : News h₀ L s.heap news) (hh : A.handled = none)
    (hl : s.heap.IsList l vs.toArray) (hi : StrsAre vs names) (hnd : names.Nodup) (hz : names.length ≤ 100)
    (h : ∀ S h' tk o, Fr h₀ L h' m → News h₀ L h' ((S, o) :: news) → (∀ p ∈ news, p.1 < S) → o.SetObjOf (PySem.strKind prog w) (fun k => names.contains k) names.length → Q (.ref S) { s with heap := h', toks := tk }) :
    wpAny (model prog w) A (call (.type "set") [.ref l]) Q E s := by
  have hlen : vs.toArray.size = names.length := by rw [List.size_toArray]; exact hi.length
  refine call_set_strs hh hl (by simpa using hi) hnd (by rw [hlen]; unfold scanBound; omega) fun h' tk hS hk => ?_
  rw [hlen] at hS
  obtain ⟨o, ho, hso⟩ := hS.objOf
  have hLlt : L < s.heap.objs.size := F.ns.lt
  refine h _ h' tk o ⟨F.ns.at' fun o' e => hk L o' hLlt e, fun b o' e => hk b o' (Heap.lt_size (F.keep b o' e)) (F.keep b o' e), F.above⟩ (fun p hp => ?_) (fun p hp => Heap.lt_size (N p hp).1) hso
  rcases List.mem_cons.mp hp with rfl | hp
  · refine ⟨ho, Nat.ne_of_gt hLlt, ?_⟩
    cases hq : h₀.get? s.heap.objs.size with
    | none => rfl
    | some o' => exact absurd (Heap.lt_size (F.keep _ _ hq)) (Nat.lt_irrefl _)
  · exact ⟨hk _ _ (Heap.lt_size (N p hp).1) (N p hp).1, (N p hp).2⟩
end
end Mine
end
section -- Th
open PySem PySem.W PySem.Spec PySem.Calls PyProof.Rows PyProof.V PySem.SeqAt
set_option Elab.async false
set_option maxRecDepth 100000
set_option maxHeartbeats 3200000
set_option linter.unusedVariables false
namespace Mine
open LCg
/-- where a source's object stands: in the ground or in the ledger -/
def SrcO (h₀ : Heap) (d : Addr) (od : Obj) (news : List (Addr × Obj)) : Prop := h₀.get? d = some od ∨ (d, od) ∈ news
theorem SrcO.get {h₀ h : Heap} {L d : Addr} {od : Obj} {m : Str → Option Value} {news : List (Addr × Obj)} (x : SrcO h₀ d od news) (F : Fr h₀ L h m) (N : News h₀ L h news) : h.get? d = some od := x.elim (fun e => F.keep _ _ e) fun hm => (N _ hm).1
theorem Rst.at {s s' : Shared} {h : Heap} {tk : Nat} (r : Rst s s') : Rst s { s' with heap := h, toks := tk } := ⟨r.1, r.2⟩
theorem Rst.of {s s' : Shared} {h : Heap} {tk : Nat} (r : Rst { s with heap := h, toks := tk } s') : Rst s s' := ⟨r.1, r.2⟩
section
variable {prog : Program} {w : World} {A : Around} {E : Value → Shared → Prop} {s : Shared} {h₀ : Heap} {L : Addr} {m : Str → Option Value} {env : Env}
/-- what a turn of a comprehension leaves -/
inductive TurnO (h₀ : Heap) (L : Addr) (m : Str → Option Value) (I : Addr) (oI : Obj) (C : Addr) (oC : Obj) (D : Addr) (oD : Obj) (d : Addr) (od : Obj) (s₁ : Shared) (J : Value → List (Addr × Obj) → Prop) (y : Value) (s₂ : Shared) : Prop
  | mk (news' : _)
    (i1 : Rst s₁ s₂)
    (i2 : Fr h₀ L s₂.heap m)
    (i3 : News h₀ L s₂.heap ((I, oI) :: (C, oC) :: (D, oD) :: news'))
    (i4 : Off3 I C D news')
    (i5 : SrcO h₀ d od news')
    (i6 : J y news') : TurnO h₀ L m I oI C oC D oD d od s₁ J y s₂
inductive BlkP (h₀ : Heap) (L : Addr) (m : Str → Option Value) (I C D d : Addr) (od : Obj) (n : Nat) (St : Nat → Heap → Prop) (J : Nat → List Value → List (Addr × Obj) → Prop) (s₂ : Shared) (k : Nat) (s' : Shared) : Prop
  | mk (i : Nat) (ys : List Value) (m' : Str → Option Value) (news' : List (Addr × Obj)) (q1 : Rst s₂ s') (q2 : i ≤ n) (q3 : k = n + 1 - i) (q4 : ys.length = i) (q5 : St i s'.heap) (q6 : Fr h₀ L s'.heap m) (q7 : s'.heap.Ns C m') (q8 : News h₀ L s'.heap ((D, lst ys) :: news')) (q9 : Off3 I C D news') (q10 : SrcO h₀ d od news') (q11 : J i ys news') : BlkP h₀ L m I C D d od n St J s₂ k s'
theorem block_O {elt iter : PySem.Expr} {x : Str} {px : Pos} {scope : Scope} {cl : List (Str × Addr)} {pos : Pos} {s₂ : Shared} {I d : Addr} {od : Obj} {n : Nat} {P : Nat → Value → Prop} {St : Nat → Heap → Prop} {news : List (Addr × Obj)}
    (J : Nat → List Value → List (Addr × Obj) → Prop) {RR : Value → Addr → Result → Shared → Prop}
    (W : Walks prog w A I [I, d] [I] n P St) (hsz : n ≤ sizeLine) (hIo : ∀ i h, St i h → ∃ o, h.get? I = some o)
    (hcell : ∀ y ∈ scope.names, y.2 ≠ .cell) (hkind : scope.kind = .function) (hx : scope.names.lookup x = some .local) (hst : St 0 s₂.heap) (hdlt : d < I) (hIlt : I < s₂.heap.objs.size)
    (F : Fr h₀ L s₂.heap m) (N : News h₀ L s₂.heap news) (hIL : L ≠ I) (hI₀ : h₀.get? I = none) (off : ∀ p ∈ news, p.1 ≠ I) (hS : SrcO h₀ d od news) (h0 : J 0 [] news)
    (turn : ∀ i ys news v oI C oC D m₂ (s₁ : Shared) (E' : Value → Shared → Prop), i < n → J i ys news → P i v → NsObj oC m₂ → m₂ x = some v → Rst s₂ s₁ → Fr h₀ L s₁.heap m → News h₀ L s₁.heap ((I, oI) :: (C, oC) :: (D, lst ys) :: news) → Off3 I C D news → SrcO h₀ d od news → ((@Ne Nat I C) ∧ (@Ne Nat I D) ∧ (@Ne Nat C D)) →
      wpAny (model prog w) A (eval elt (compEnvC scope cl C env)) (TurnO h₀ L m I oI C oC D (lst ys) d od s₁ fun y news' => J (i + 1) (ys ++ [y]) news') E' s₁)
    (hRR : ∀ D C s' m' ys news', Rst s₂ s' → Fr h₀ L s'.heap m → News h₀ L s'.heap ((D, lst ys) :: news') → Off1 D news' → s'.heap.Ns C m' → h₀.get? C = none → C ≠ L → C ≠ D → (∀ p ∈ news', p.1 ≠ C) → J n ys news' → RR (.ref D) C (.ok .next) s') :
    wpAny (model prog w) A (newList []) (fun acc s₃ => wpAny (model prog w) A (newFunctionEnv scope env.globals cl [] env.qual none .none (some env)) (fun cenv s₄ =>
      codeAny (model prog w) A (.compStart (.ListComp elt [⟨.Name x px, iter, [], 0⟩] scope pos) 0 (.ref I) acc { cenv with scope := relabel scope env }) (RR acc cenv.locals) s₄) E s₃) E s₂ := by
  refine wpAny_newObj_type (wpAny_newFunctionEnv hcell (by intro y hy; simp at hy) (fun h₁ hns₁ hsb₁ => ?_) hkind)
  dsimp only at hns₁ hsb₁ ⊢
  generalize hH2 : s₂.heap.push { cls := .type "list", dict := none, data := .seq ([] : List Value).toArray } = H2 at hns₁ hsb₁ ⊢
  have hC : H2.objs.size = s₂.heap.objs.size + 1 := by rw [← hH2, Heap.size_push]
  have hDC : s₂.heap.objs.size ≠ H2.objs.size := by rw [hC]; exact Nat.ne_of_lt (Nat.lt_succ_self _)
  have below : ∀ b, b < s₂.heap.objs.size → b ≠ H2.objs.size ∧ b ≠ s₂.heap.objs.size := fun b hb => ⟨by rw [hC]; exact Nat.ne_of_lt (Nat.lt_succ_of_lt hb), Nat.ne_of_lt hb⟩
  have hfp : ∀ b ∈ [I, d], b < s₂.heap.objs.size := fun b hb => by
    rcases List.mem_cons.mp hb with rfl | hb
    · exact hIlt
    · rw [List.mem_singleton.mp hb]; exact Nat.lt_trans hdlt hIlt
  have hDf : s₂.heap.objs.size ∉ [I, d] := fun hm => Nat.lt_irrefl _ (hfp _ hm)
  have hCf : H2.objs.size ∉ [I, d] := fun hm => by have := hfp _ hm; rw [hC] at this; exact Nat.lt_irrefl _ (Nat.lt_of_succ_lt this)
  have old : ∀ b o, s₂.heap.get? b = some o → h₁.get? b = some o := fun b o e => hsb₁.extBut b o (below b (Heap.lt_size e)).1 (Heap.get?_push_of_some _ (hH2 ▸ Heap.get?_push_of_some _ e))
  have hacc : h₁.get? s₂.heap.objs.size = some (lst []) := hsb₁.extBut _ _ hDC (Heap.get?_push_of_some _ (hH2 ▸ Heap.get?_push_size _ rfl))
  have hst₁ : St 0 h₁ := W.frame _ _ _ hst fun b _ o e => old b o e
  have fresh₀ : ∀ a, s₂.heap.objs.size ≤ a → h₀.get? a = none := fun a ha => by
    cases e : h₀.get? a with
    | none => rfl
    | some o' => exact absurd (Heap.lt_size (F.keep a o' e)) (Nat.not_lt.mpr ha)
  have hD₀ : h₀.get? s₂.heap.objs.size = none := fresh₀ _ (Nat.le_refl _)
  have hC₀ : h₀.get? H2.objs.size = none := fresh₀ _ (by rw [hC]; exact Nat.le_succ _)
  have hLlt : L < s₂.heap.objs.size := F.ns.lt
  have hDL : s₂.heap.objs.size ≠ L := Ne.symm (below L hLlt).2
  have hCL : H2.objs.size ≠ L := Ne.symm (below L hLlt).1
  have hCI : I ≠ H2.objs.size := (below I hIlt).1
  have hDI : I ≠ s₂.heap.objs.size := (below I hIlt).2
  have hdI : d ≠ I := Nat.ne_of_lt hdlt
  have hdC : d ≠ H2.objs.size := (below d (hfp d (by simp))).1
  have off₀ : Off3 I H2.objs.size s₂.heap.objs.size news := Off3.of fun p hp => ⟨off p hp, (below _ (Heap.lt_size (N p hp).1)).1, (below _ (Heap.lt_size (N p hp).1)).2⟩
  have loop : ∀ s₃ : Shared, s₃ = { s₂ with heap := h₁, toks := s₂.toks + ([] : List (Str × Value)).length } →
      codeAny (model prog w) A (.compLoop (.ListComp elt [⟨.Name x px, iter, [], 0⟩] scope pos) 0 (.ref I) (.ref s₂.heap.objs.size) (compEnvC scope cl H2.objs.size env))
        (RR (.ref s₂.heap.objs.size) H2.objs.size) s₃ := by
    rintro s₃ rfl
    refine codeAny_compLoop_tests
      (BlkP h₀ L m I H2.objs.size s₂.heap.objs.size d od n St J s₂) ?_ (n + 1)
      ⟨0, [], _, news, ⟨rfl, fun h => h⟩, Nat.zero_le _, rfl, rfl, hst₁, F.keeps old, hns₁, fun p hp => ?_, off₀, hS, h0⟩
    · rintro k s' ⟨i, ys, m', news', hr, hi, rfl, hyl, hst', F', hn', N', off', hS', hJ⟩
      have off3 := off'.mem
      by_cases hlt : i < n
      · refine W.item i _ _ _ hlt hst' fun v h₂ tk₂ hPv hst₂ hk₂ => ?_
        refine wpAny_assign_Name (wpAny_storeName_local (lookup_relabel_local hx) (hn'.at' fun o e => hk₂ _ o (by simpa using Ne.symm hCI) e) (fun h₃ hn₃ hs₃ => ?_) (by simp [compEnvC, relabel, hkind]))
        refine wpAny_tests_nil ?_
        simp only [if_true]
        have hst₃ : St (i + 1) h₃ := W.frame _ _ _ hst₂ fun b hb o e => hs₃.extBut b o (fun q => hCf (by have q' : b = H2.objs.size := q; rw [← q']; exact hb)) e
        obtain ⟨oI, heI⟩ := hIo _ _ hst₃
        obtain ⟨oC, heC, hoC⟩ := ns_obj hn₃
        have F₃ : Fr h₀ L h₃ m := (fr_but F' hk₂ hIL hI₀).change hs₃ hCL hC₀
        have N₂ : News h₀ L h₂ ((s₂.heap.objs.size, lst ys) :: news') := news_but N' hk₂ fun p hp => by
          rcases List.mem_cons.mp hp with rfl | hp
          · exact Ne.symm hDI
          · exact (off3 p hp).1
        have N₃ : News h₀ L h₃ ((I, oI) :: (H2.objs.size, oC) :: (s₂.heap.objs.size, lst ys) :: news') := fun p hp => by
          rcases List.mem_cons.mp hp with rfl | hp
          · exact ⟨heI, Ne.symm hIL, hI₀⟩
          · rcases List.mem_cons.mp hp with rfl | hp
            · exact ⟨heC, hCL, hC₀⟩
            · have z := N₂ p hp
              refine ⟨hs₃.extBut _ _ ?_ z.1, z.2⟩
              rcases List.mem_cons.mp hp with rfl | hp
              · exact hDC
              · exact (off3 p hp).2.1
        have hd3 : h₃.get? d = some od := hS'.get F₃ fun p hp => N₃ p (.tail _ (.tail _ (.tail _ hp)))
        refine wpAny_mono (turn i ys news' v oI H2.objs.size oC s₂.heap.objs.size _ _ _ hlt hJ hPv hoC (by simp) hr.at F₃ N₃ off' hS' ⟨hCI, hDI, Ne.symm hDC⟩) (fun y s₄ h₄ => ?_) fun _ _ e => e
        obtain ⟨news₄, hr₄, F₄, N₄, off₄, hS₄, J₄⟩ := h₄
        have zI := (N₄ (I, oI) List.mem_cons_self).1
        have zC := (N₄ (H2.objs.size, oC) (List.mem_cons_of_mem _ List.mem_cons_self)).1
        have zD := (N₄ (s₂.heap.objs.size, lst ys) (List.mem_cons_of_mem _ (List.mem_cons_of_mem _ List.mem_cons_self))).1
        have N₄' : News h₀ L s₄.heap news₄ := fun p hp => N₄ p (List.mem_cons_of_mem _ (List.mem_cons_of_mem _ (List.mem_cons_of_mem _ hp)))
        have zd := hS₄.get F₄ N₄'
        have hst₄ : St (i + 1) s₄.heap := W.frame _ _ _ hst₃ fun b hb o e => by
          rcases List.mem_cons.mp hb with rfl | hb
          · rw [heI] at e; cases e; exact zI
          · rw [List.mem_singleton.mp hb] at e ⊢; rw [hd3] at e; cases e; exact zd
        refine append_at (hsz := by show ys.toArray.size ≤ sizeLine; rw [List.size_toArray, hyl]; exact Nat.le_trans hi hsz) zD fun h₅ hs₅ hD₅ => ?_
        have off4 := off₄.mem
        have hr5 : Rst s₂ s₄ := Rst.trans hr ⟨hr₄.1, hr₄.2⟩
        refine ⟨n + 1 - (i + 1), by omega, i + 1, ys ++ [y], _, news₄, ⟨hr5.1, hr5.2⟩, hlt, rfl, by rw [List.length_append, List.length_singleton, hyl], W.frame _ _ _ hst₄ fun b hb o e => hs₅.extBut b o (fun q => hDf (q ▸ hb)) e, F₄.change hs₅ hDL hD₀,
          (hoC.ns zC).sameBut hs₅ (Ne.symm hDC), fun p hp => ?_, off₄, hS₄, J₄⟩
        rcases List.mem_cons.mp hp with rfl | hp
        · exact ⟨hD₅.trans (congrArg some (lst_snoc ys y)), hDL, hD₀⟩
        · exact ⟨hs₅.extBut _ _ (off4 p hp).2.2 (N₄' p hp).1, (N₄' p hp).2⟩
      · obtain rfl : i = n := Nat.le_antisymm hi (Nat.not_lt.mp hlt)
        refine W.done _ _ _ hst' fun h₂ tk₂ hk₂ => ?_
        exact hRR _ _ _ _ ys news' hr.at (fr_but F' hk₂ hIL hI₀) (news_but N' hk₂ fun p hp => by
          rcases List.mem_cons.mp hp with rfl | hp
          · exact Ne.symm hDI
          · exact (off3 p hp).1) off'.one (hn'.at' fun o e => hk₂ _ o (by simpa using Ne.symm hCI) e) hC₀ hCL (Ne.symm hDC) (fun p hp => (off3 p hp).2.1) hJ
    · rcases List.mem_cons.mp hp with rfl | hp
      · exact ⟨hacc, hDL, hD₀⟩
      · exact ⟨old _ _ (N p hp).1, (N p hp).2⟩
  exact codeAny_compStart_list (loop _ rfl) (W.self 0 _ _ _ hst₁ (loop _ rfl))
end
section
variable {prog : Program} {w : World} {A : Around} {E : Value → Shared → Prop} {s : Shared} {h₀ : Heap} {L : Addr} {m : Str → Option Value} {env : Env}
/-- the source of a comprehension: an object that is walked by a new iterator -/
inductive CompG (prog : Program) (w : World) (A : Around) (h₀ : Heap) (L : Addr) (m : Str → Option Value) (env : Env) (elt : PySem.Expr) (x : Str) (scope : Scope) (cl : List (Str × Addr)) (Q : Value → Shared → Prop) (xv : Value) (s₁ : Shared) : Prop
  | mk (d : Addr) (od oI : Obj) (n : Nat) (P : Nat → Value → Prop) (St : Nat → Heap → Prop) (news : List (Addr × Obj)) (J : Nat → List Value → List (Addr × Obj) → Prop)
    (i1 : (∀ (E : Value → Shared → Prop) (Q : Value → Shared → Prop), Q (.ref s₁.heap.objs.size) { s₁ with heap := s₁.heap.push oI } → wpAny (model prog w) A (pyIter xv) Q E s₁))
    (i2 : Walks prog w A s₁.heap.objs.size [s₁.heap.objs.size, d] [s₁.heap.objs.size] n P St)
    (i3 : St 0 (s₁.heap.push oI))
    (i4 : (∀ i h, St i h → ∃ o, h.get? s₁.heap.objs.size = some o))
    (i5 : n ≤ sizeLine)
    (i6 : d < s₁.heap.objs.size)
    (i7 : Fr h₀ L s₁.heap m)
    (i8 : News h₀ L s₁.heap news)
    (i9 : SrcO h₀ d od news)
    (i10 : J 0 [] news)
    (i11 : (∀ i ys news v I oI C oC D m₂ (s₂ : Shared) (E' : Value → Shared → Prop), i < n → J i ys news → P i v → NsObj oC m₂ → m₂ x = some v → Rst s₁ s₂ → Fr h₀ L s₂.heap m → News h₀ L s₂.heap ((I, oI) :: (C, oC) :: (D, lst ys) :: news) → Off3 I C D news → SrcO h₀ d od news → ((@Ne Nat I C) ∧ (@Ne Nat I D) ∧ (@Ne Nat C D)) → wpAny (model prog w) A (eval elt (compEnvC scope cl C env)) (TurnO h₀ L m I oI C oC D (lst ys) d od s₂ fun y news' => J (i + 1) (ys ++ [y]) news') E' s₂))
    (i12 : (∀ D ys news s', Rst s₁ s' → J n ys news → Fr h₀ L s'.heap m → News h₀ L s'.heap ((D, lst ys) :: news) → Off1 D news → Q (.ref D) s')) : CompG prog w A h₀ L m env elt x scope cl Q xv s₁
theorem ListComp_O {elt iter : PySem.Expr} {x : Str} {px : Pos} {scope : Scope} {cl : List (Str × Addr)} {pos : Pos} {Q : Value → Shared → Prop} (_F₀ : Fr h₀ L s.heap m)
    (hclos : closureFor scope env = pure cl) (hcell : ∀ y ∈ scope.names, y.2 ≠ .cell) (hkind : scope.kind = .function)
    (hnames : ∀ y ∈ scope.names, y.2 = .local → scope.names.lookup y.1 = some .local) (hx : scope.names.lookup x = some .local)
    (h : wpAny (model prog w) A (eval iter env) (CompG prog w A h₀ L m env elt x scope cl Q) E s)
    (hs : ∀ x, foldedSetIterable iter env x = pure x) :
    wpAny (model prog w) A (eval (.ListComp elt [⟨.Name x px, iter, [], 0⟩] scope pos) env) Q E s := by
  rw [eval_ListComp]
  refine wpAny_comprehension_free (use := none) rfl hs hclos hkind hnames (wpAny_mono h (fun xv s₁ h₁ => ?_) fun _ _ e => e)
  obtain ⟨d, od, oI, n, P, St, news, J, hit, W, st, hIo, hsz, hd, F, N, S, h0, turn, fin⟩ := h₁
  refine hit _ _ ?_
  have up : ∀ b o, s₁.heap.get? b = some o → (s₁.heap.push oI).get? b = some o := fun b o e => Heap.get?_push_of_some _ e
  refine block_O (I := s₁.heap.objs.size) (d := d) (od := od) J W hsz hIo hcell hkind hx st hd (by show s₁.heap.objs.size < (s₁.heap.push oI).objs.size; rw [Heap.size_push]; exact Nat.lt_succ_self _) (F.keeps up) (N.grown up) (Nat.ne_of_lt F.ns.lt) (next_is_new F) (fun p hp => Nat.ne_of_lt (Heap.lt_size (N p hp).1)) S h0
    (fun i ys news v oI' C oC D m₂ s₂ E' hi hJ hP hC hx' hr F' N' o3 hS ne => turn i ys news v _ oI' C oC D m₂ s₂ E' hi hJ hP hC hx' ⟨hr.1, hr.2⟩ F' N' o3 hS ne) ?_
  intro D C s' m' ys news' hr F' N' o1 hn hC₀ hCL hCD offC hJ
  refine ⟨m', hn, fun h'' hs'' => fin D ys news' _ ⟨hr.1, hr.2⟩ hJ (F'.change hs'' hCL hC₀) (fun p hp => ?_) o1⟩
  refine ⟨hs''.extBut _ _ ?_ (N' p hp).1, (N' p hp).2⟩
  rcases List.mem_cons.mp hp with rfl | hp
  · exact Ne.symm hCD
  · exact offC p hp
/-- a dict with texts as keys -/
theorem CompG.dict {elt : PySem.Expr} {x : Str} {scope : Scope} {cl : List (Str × Addr)} {Q : Value → Shared → Prop} {d : Addr} {od : Obj} {kvs : List (Str × Value)} {news : List (Addr × Obj)} {s₁ : Shared} (J : Nat → List Value → List (Addr × Obj) → Prop)
    (hh : A.handled = none) (F : Fr h₀ L s₁.heap m) (N : News h₀ L s₁.heap news) (S : SrcO h₀ d od news) (lo : (d == sysModules) = false) (hd : od.IsDictOf (PySem.strKind prog w) kvs) (hz : kvs.length ≤ 1000) (h0 : J 0 [] news)
    (turn : ∀ i ys news k t I oI C oC D m₂ (s₂ : Shared) (E' : Value → Shared → Prop), i < kvs.length → J i ys news → (∃ v, kvs[i]? = some (k, v)) → NsObj oC m₂ → m₂ x = some (.str k t) → Rst s₁ s₂ → Fr h₀ L s₂.heap m → News h₀ L s₂.heap ((I, oI) :: (C, oC) :: (D, lst ys) :: news) → Off3 I C D news → SrcO h₀ d od news → ((@Ne Nat I C) ∧ (@Ne Nat I D) ∧ (@Ne Nat C D)) →
      wpAny (model prog w) A (eval elt (compEnvC scope cl C env)) (TurnO h₀ L m I oI C oC D (lst ys) d od s₂ fun y news' => J (i + 1) (ys ++ [y]) news') E' s₂)
    (fin : ∀ D ys news s', Rst s₁ s' → J kvs.length ys news → Fr h₀ L s'.heap m → News h₀ L s'.heap ((D, lst ys) :: news) → Off1 D news → Q (.ref D) s') :
    CompG prog w A h₀ L m env elt x scope cl Q (.ref d) s₁ := by
  have hm : s₁.heap.DictOf (PySem.strKind prog w) d kvs := Heap.dictOf_iff.mpr ⟨od, S.get F N, hd⟩
  obtain ⟨ep, hat⟩ := hm.dictAt
  refine ⟨d, od, _, kvs.length, _, _, news, J, fun _ _ hq => wpAny_pyIter_dict lo hat hq, Walks.dictKeys hh _ d (Nat.ne_of_lt hat.lt_size) kvs ep, ⟨⟨_, Heap.get?_push_size _ rfl, rfl, rfl⟩, hat.push _⟩, (fun i h st => by obtain ⟨o, e, _⟩ := st.1; exact ⟨o, e⟩), by rw [sizeLine_eq]; omega, hat.lt_size, F, N, S, h0, ?_, fin⟩
  rintro i ys news v I oI C oC D m₂ s₂ E' hi hJ ⟨k, u, hk, hv⟩ hC hx hr F' N' o3 hS ne
  obtain ⟨t, rfl⟩ := Value.isStrOf_shape hv
  exact turn i ys news k t I oI C oC D m₂ s₂ E' hi hJ ⟨u, hk⟩ hC hx hr F' N' o3 hS ne
/-- a tuple -/
theorem CompG.tup {elt : PySem.Expr} {x : Str} {scope : Scope} {cl : List (Str × Addr)} {Q : Value → Shared → Prop} {d : Addr} {od : Obj} {its : Array Value} {k : Nat} {news : List (Addr × Obj)} {s₁ : Shared} (J : Nat → List Value → List (Addr × Obj) → Prop)
    (hh : A.handled = none) (F : Fr h₀ L s₁.heap m) (N : News h₀ L s₁.heap news) (S : SrcO h₀ d od news) (hc : od.cls = .type "tuple") (hd : od.data = .seq its k) (hz : its.size ≤ 1000) (h0 : J 0 [] news)
    (turn : ∀ i ys news v I oI C oC D m₂ (s₂ : Shared) (E' : Value → Shared → Prop), i < its.size → J i ys news → its[i]? = some v → NsObj oC m₂ → m₂ x = some v → Rst s₁ s₂ → Fr h₀ L s₂.heap m → News h₀ L s₂.heap ((I, oI) :: (C, oC) :: (D, lst ys) :: news) → Off3 I C D news → SrcO h₀ d od news → ((@Ne Nat I C) ∧ (@Ne Nat I D) ∧ (@Ne Nat C D)) →
      wpAny (model prog w) A (eval elt (compEnvC scope cl C env)) (TurnO h₀ L m I oI C oC D (lst ys) d od s₂ fun y news' => J (i + 1) (ys ++ [y]) news') E' s₂)
    (fin : ∀ D ys news s', Rst s₁ s' → J its.size ys news → Fr h₀ L s'.heap m → News h₀ L s'.heap ((D, lst ys) :: news) → Off1 D news → Q (.ref D) s') :
    CompG prog w A h₀ L m env elt x scope cl Q (.ref d) s₁ := by
  have hg := S.get F N
  have ht : s₁.heap.IsTuple d its := ⟨od, hg, hc, k, hd⟩
  have hlt : d < s₁.heap.objs.size := Heap.lt_size hg
  exact ⟨d, od, _, its.size, _, _, news, J, fun _ _ hq => wpAny_pyIter_tuple ht hq, Walks.tuple hh _ d (Nat.ne_of_lt hlt) its, ⟨⟨_, Heap.get?_push_size _ rfl, rfl, rfl⟩, ht.at fun o e => Heap.get?_push_of_some _ e⟩, (fun i h st => by obtain ⟨o, e, _⟩ := st.1; exact ⟨o, e⟩), by rw [sizeLine_eq]; omega, hlt, F, N, S, h0, turn, fin⟩
end
section
variable {prog : Program} {w : World} {A : Around} {E : Value → Shared → Prop} {s : Shared} {env : Env} {h₀ : Heap} {x : Str} {body : List Stmt} {Q : Flow → Shared → Prop}
/-- a loop over a tuple of the ledger; no frame turns -/
theorem loopTn {l : Addr} {ol : Obj} {vs : List Value} {n : Nat} {m₀ : Str → Option Value} {news : List (Addr × Obj)} (J : (Str → Option Value) → Nat → (Str → Option Value) → List (Addr × Obj) → Prop)
    (hh : A.handled = none) (F : Fr h₀ env.locals s.heap m₀) (N : News h₀ env.locals s.heap ((l, ol) :: news)) (hc : ol.cls = .type "tuple") (hd : ol.data = .seq vs.toArray n) (hne : ∀ p ∈ news, p.1 ≠ l) (hj : J m₀ 0 m₀ news)
    (turn : ∀ i v m₁ news₁ own g h tk, KtsTurn [] h₀ g → vs[i]? = some v → J m₀ i m₁ news₁ → Apart news₁ own → Fr g env.locals h (fun y => if y = x then some v else m₁ y) → News g env.locals h (news₁ ++ own) →
      wpAny (model prog w) A (execs body env) (TurnEnd [] h₀ env.locals own (J m₀ (i + 1)) { s with heap := h, toks := tk } Q) E { s with heap := h, toks := tk })
    (done : ∀ m₁ news₁ g h tk, KtsTurn [] h₀ g → J m₀ vs.length m₁ news₁ → Fr g env.locals h m₁ → News g env.locals h news₁ → Q .next { s with heap := h, toks := tk }) :
    wpAny (model prog w) A (pyIter (.ref l)) (fun it s₂ => LoopK prog w A [] h₀ env x body Q E it s₂) E s := by
  have n1 := N (l, ol) (.head _)
  have hls : s.heap.IsTuple l vs.toArray := ⟨ol, n1.1, hc, n, hd⟩
  have hlt : l < s.heap.objs.size := Heap.lt_size n1.1
  have hlI : l ≠ s.heap.objs.size := Nat.ne_of_lt hlt
  have hI : h₀.get? s.heap.objs.size = none := next_is_new F
  refine wpAny_pyIter_tuple hls ?_
  have W := Walks.tuple (prog := prog) (w := w) hh s.heap.objs.size l hlI vs.toArray
  refine ⟨_, _, _, vs.toArray.size, _, _, m₀, news, J m₀, rfl, W, ?_, (fun b hb => nomatch hb), ?_, ?_, ?_, ⟨⟨_, Heap.get?_push_size _ rfl, rfl, rfl⟩, hls.at fun o e => Heap.get?_push_of_some _ e⟩, F.push _, (fun p hp => ⟨Heap.get?_push_of_some _ (N p (.tail _ hp)).1, (N p (.tail _ hp)).2⟩), hj, ?_, ?_⟩
  · intro hm
    rcases List.mem_cons.mp hm with e | hm
    · exact absurd F.ns.lt (e ▸ Nat.lt_irrefl _)
    · exact n1.2.1 (List.mem_singleton.mp hm).symm
  · intro b hb
    rw [List.mem_singleton.mp hb]
    exact hI
  · intro b hb i h st
    rcases List.mem_cons.mp hb with rfl | hb
    · obtain ⟨o, e, _⟩ := st.1; exact ⟨o, e⟩
    · rw [List.mem_singleton.mp hb]; obtain ⟨o, e, _⟩ := st.2; exact ⟨o, e⟩
  · intro p hp hq
    rcases List.mem_cons.mp hq with e | hq
    · exact absurd (Heap.lt_size (N p (.tail _ hp)).1) (e ▸ Nat.lt_irrefl _)
    · exact hne p hp (List.mem_singleton.mp hq)
  · intro i v m₁ news₁ own g h tk T hi hP hJ hap F₁ N₁
    exact turn i v m₁ news₁ own g h tk T (by simpa using hP) hJ hap F₁ N₁
  · intro g h' tk m' news' T F' N' hJ
    exact done m' news' g h' tk T (by simpa using hJ) F' N'
end
end Mine
end
section -- Ti
open PySem PySem.W PySem.Spec PySem.Calls PyProof.Rows PyProof.V PySem.SeqAt
set_option Elab.async false
set_option maxRecDepth 100000
set_option maxHeartbeats 3200000
set_option linter.unusedVariables false
namespace Mine
open LCg
/-- the ledger behind a call that changes some of its objects and makes new ones -/
theorem led_mods {h₀ h h' : Heap} {L : Addr} {m : Str → Option Value} {news news' tl : List (Addr × Obj)} {mods : List Addr} (F : Fr h₀ L h m) (N : News h₀ L h news) (E : Ext [] mods h h') (M : Made h h' tl)
    (hm : ∀ a ∈ mods, ∃ o, (a, o) ∈ news) (hn : ∀ p ∈ news', (p ∈ news ∧ p.1 ∉ mods) ∨ (h'.get? p.1 = some p.2 ∧ ∃ o, (p.1, o) ∈ news)) :
    Fr h₀ L h' m ∧ News h₀ L h' (news' ++ tl) ∧ OwnOff tl (news.map (·.1)) := by
  have none0 : ∀ a ∈ mods, a ≠ L ∧ h₀.get? a = none := fun a ha => let ⟨o, ho⟩ := hm a ha; ⟨(N _ ho).2.1, (N _ ho).2.2⟩
  have ke : ∀ b o, h₀.get? b = some o → h'.get? b = some o := fun b o e => E.keep b o (F.keep b o e) (by simp) fun q => by rw [(none0 b q).2] at e; cases e
  refine ⟨⟨F.ns.at' fun o e => E.keep L o e (by simp) fun q => (none0 L q).1 rfl, ke, F.above⟩, fun p hp => ?_, OwnOff.made N M⟩
  rcases List.mem_append.mp hp with hp | hp
  · rcases hn p hp with ⟨h1, h2⟩ | ⟨h1, o, h2⟩
    · exact ⟨E.keep _ _ (N p h1).1 (by simp) h2, (N p h1).2⟩
    · exact ⟨h1, (N _ h2).2⟩
  · have ⟨a, b⟩ := M p hp
    obtain ⟨oL, _, _, e1, _⟩ := F.ns
    refine ⟨a, (fun q => by rw [q, e1] at b; cases b), ?_⟩
    cases q : h₀.get? p.1 with
    | none => rfl
    | some o => rw [F.keep _ _ q] at b; cases b
theorem led_one {h₀ h h' : Heap} {L wd : Addr} {o o' : Obj} {m : Str → Option Value} {news tl : List (Addr × Obj)} {upd : Obj → List (Addr × Obj)} (F : Fr h₀ L h m) (N : News h₀ L h news) (U : UpdF wd o news upd) (E : Ext [] [wd] h h') (hw : h'.get? wd = some o') (M : Made h h' tl) :
    Fr h₀ L h' m ∧ News h₀ L h' (upd o' ++ tl) ∧ OwnOff tl (news.map (·.1)) := by
  obtain ⟨pre, post, rfl, hg, a, b⟩ := U.split
  have hmem : (wd, o) ∈ pre ++ (wd, o) :: post := by simp
  refine led_mods F N E M (fun x hx => ⟨o, by rw [List.mem_singleton.mp hx]; exact hmem⟩) fun p hp => ?_
  rw [hg] at hp
  rcases List.mem_append.mp hp with hp | hp
  · exact .inl ⟨by simp [hp], by simpa using a p hp⟩
  · rcases List.mem_cons.mp hp with rfl | hp
    · exact .inr ⟨hw, o, hmem⟩
    · exact .inl ⟨by simp [hp], by simpa using b p hp⟩
/-- a call that changes nothing of the ledger -/
theorem led_none {h₀ h h' : Heap} {L : Addr} {m : Str → Option Value} {news tl : List (Addr × Obj)} (F : Fr h₀ L h m) (N : News h₀ L h news) (E : Ext [] [] h h') (M : Made h h' tl) :
    Fr h₀ L h' m ∧ News h₀ L h' (news ++ tl) ∧ OwnOff tl (news.map (·.1)) :=
  led_mods F N E M (fun _ h => nomatch h) fun p hp => .inl ⟨hp, by simp⟩
theorem OwnOff.app {a b : List (Addr × Obj)} {l : List Addr} (x : OwnOff a l) (y : OwnOff b l) : OwnOff (a ++ b) l := fun p hp => (List.mem_append.mp hp).elim (x p) (y p)
theorem OwnOff.sub {a : List (Addr × Obj)} {l l' : List Addr} (x : OwnOff a l) (h : ∀ b ∈ l', b ∈ l) : OwnOff a l' := fun p hp b hb => x p hp b (h b hb)
theorem Sub.appL {a b : List (Addr × Obj)} : Sub (Led a) (Led (a ++ b)) := fun _ _ e => List.mem_append_left _ e
theorem Sub.appR {a b : List (Addr × Obj)} : Sub (Led b) (Led (a ++ b)) := fun _ _ e => List.mem_append_right _ e
/-- a role as the law keeps it -/
structure RoleSpec where
  name : Str
  ro : Addr
  names : List Str
  thr : Int
inductive RoleTup (H : Addr → Obj → Prop) (ro : Addr) (names : List Str) (thr : Int) : Prop
  | mk (nl : _) (vs : _) (t : _)
    (i1 : TupOf H ro [.ref nl, .int thr t])
    (i2 : LstOf H nl vs)
    (i3 : StrsAre vs names)
    (i4 : RoleNames names)
    (i5 : 1 ≤ thr)
    (i6 : thr ≤ (names.length : Int)) : RoleTup H ro names thr
theorem RoleTup.mono {H H' : Addr → Obj → Prop} {ro : Addr} {names : List Str} {thr : Int} (h : RoleTup H ro names thr) (s : Sub H H') : RoleTup H' ro names thr :=
  let ⟨nl, vs, t, a, b, c, d, e, f⟩ := h; ⟨nl, vs, t, a.mono s, b.mono s, c, d, e, f⟩
def RolesT (H : Addr → Obj → Prop) (rs : List RoleSpec) : Prop := ∀ r ∈ rs, RoleTup H r.ro r.names r.thr
theorem RolesT.mono {H H' : Addr → Obj → Prop} {rs : List RoleSpec} (h : RolesT H rs) (s : Sub H H') : RolesT H' rs := fun r hr => (h r hr).mono s
def kvT (rs : List RoleSpec) : List (Str × Value) := rs.map fun r => (r.name, .ref r.ro)
theorem kvT_names (rs : List RoleSpec) : (kvT rs).map (·.1) = rs.map (·.name) := by unfold kvT; simp
/-- a role as the project keeps it -/
inductive RoleObj (H : Addr → Obj → Prop) (ra : Addr) (names : List Str) (thr : Int) : Prop
  | mk (kl : _) (vs : _) (t : _) (v6 : _)
    (i1 : Inst H ra 262 [("keyids", .ref kl), ("threshold", .int thr t), ("unrecognized_fields", v6)])
    (i2 : LstOf H kl vs)
    (i3 : StrsAre vs names) : RoleObj H ra names thr
theorem RoleObj.mono {H H' : Addr → Obj → Prop} {ra : Addr} {names : List Str} {thr : Int} (h : RoleObj H ra names thr) (s : Sub H H') : RoleObj H' ra names thr :=
  let ⟨kl, vs, t, v6, a, b, c⟩ := h; ⟨kl, vs, t, v6, a.mono s, b.mono s, c⟩
/-- the project's roles beside the law's -/
def RolesR (H : Addr → Obj → Prop) (rs : List RoleSpec) (ps : List (Str × Value)) : Prop :=
  ps.length = rs.length ∧ ∀ (i : Nat) (r : RoleSpec) (p : Str × Value), rs[i]? = some r → ps[i]? = some p → p.1 = r.name ∧ ∃ ra, p.2 = .ref ra ∧ RoleObj H ra r.names r.thr
theorem stored_new {kvs : List (Str × Value)} {k : Str} {v : Value} (h : k ∉ kvs.map (·.1)) : stored kvs k v = kvs ++ [(k, v)] := by
  unfold stored
  rw [if_neg]
  intro q
  rw [List.any_eq_true] at q
  obtain ⟨p, hp, e⟩ := q
  exact h (List.mem_map.mpr ⟨p, hp, by simpa using e⟩)
def fourNames : List Str := ["timestamp", "root", "targets", "snapshot"].map Str.ofString
theorem four_nodup : fourNames.Nodup := by decide +kernel
theorem take_not_mem {names : List Str} {i : Nat} (hn : names.Nodup) (h : i < names.length) : names[i] ∉ names.take i := by
  have := take_more hn h
  rw [List.contains_eq_mem, decide_eq_false_iff_not] at this
  exact this
/-- the law's roles so far -/
inductive LrSt (prog : Program) (w : World) (wd rl c9 : Addr) (oc oP : Obj) (k : Nat) (names : List Str) (m₀ : Str → Option Value) (d : Addr) (i : Nat) (m₁ : Str → Option Value) (news₁ : List (Addr × Obj)) : Prop
  | mk (i1 : Agree ["name"] m₁ m₀)
    (oF : _) (ow : _) (rs : _) (tl : _)
    (i2 : news₁ = (d, oF) :: (c9, oc) :: (177, oP) :: (wd, ow) :: tl)
    (i3 : oF.IsDictOf (PySem.strKind prog w) (kvT rs))
    (i4 : DrawsU prog w ow rl (k + 3 * i))
    (i5 : RolesT (Led tl) rs)
    (i6 : rs.map (·.name) = names.take i)
    (i7 : OwnOff tl [d, c9, 177, wd]) : LrSt prog w wd rl c9 oc oP k names m₀ d i m₁ news₁
section
variable {prog : Program} {w : World} {A : Around} {E : Value → Shared → Prop} {s : Shared} {env : Env} {h₀ : Heap} {x : Str} {body : List Stmt} {Q : Flow → Shared → Prop}
theorem loopT3 {l d c9 L : Addr} {od oc : Obj} {vs : List Value} {n : Nat} {m₀ : Str → Option Value} {news : List (Addr × Obj)} (J : Addr → Addr → Obj → (Str → Option Value) → Nat → (Str → Option Value) → List (Addr × Obj) → Prop)
    (hh : A.handled = none) (hL : env.locals = L) (N : News h₀ L s.heap ((l, { cls := .type "tuple", data := .seq vs.toArray n }) :: (d, od) :: (c9, oc) :: news)) (F : Fr h₀ L s.heap m₀) (hne : ∀ p ∈ (d, od) :: (c9, oc) :: news, p.1 ≠ l) (hj : J d c9 oc m₀ 0 m₀ ((d, od) :: (c9, oc) :: news))
    (turn : ∀ i v m₁ news₁ own g h tk, KtsTurn [] h₀ g → vs[i]? = some v → J d c9 oc m₀ i m₁ news₁ → Apart news₁ own → Fr g L h (fun y => if y = x then some v else m₁ y) → News g L h (news₁ ++ own) →
      wpAny (model prog w) A (execs body env) (TurnEnd [] h₀ L own (J d c9 oc m₀ (i + 1)) { s with heap := h, toks := tk } Q) E { s with heap := h, toks := tk })
    (done : ∀ m₁ news₁ g h tk, KtsTurn [] h₀ g → J d c9 oc m₀ vs.length m₁ news₁ → Fr g L h m₁ → News g L h news₁ → Q .next { s with heap := h, toks := tk }) :
    wpAny (model prog w) A (pyIter (.ref l)) (fun it s₂ => LoopK prog w A [] h₀ env x body Q E it s₂) E s := by
  subst hL
  exact loopTn (J d c9 oc) hh F N rfl rfl hne hj turn done
end
theorem offApp4 {tl own : List (Addr × Obj)} {a b c d : Addr} {oa ob oc od : Obj} (h : OwnOff tl [a, b, c, d]) (hap : Apart ((a, oa) :: (b, ob) :: (c, oc) :: (d, od) :: tl) own) : OwnOff (tl ++ own) [a, b, c, d] := fun p hp x hx e => by
  rcases List.mem_append.mp hp with hp | hp
  · exact h p hp x hx e
  · simp only [List.mem_cons, List.not_mem_nil, or_false] at hx
    rcases hx with rfl | rfl | rfl | rfl
    · exact hap (_, oa) (by simp) p hp e.symm
    · exact hap (_, ob) (by simp) p hp e.symm
    · exact hap (_, oc) (by simp) p hp e.symm
    · exact hap (_, od) (by simp) p hp e.symm
theorem lr_end {prog : Program} {w : World} {wd rl c9 d L : Addr} {oc oP oF oF0 ow ow0 : Obj} {k i : Nat} {names : List Str} {m₀ m₁ m' : Str → Option Value} {g h' : Heap} {tlo tl own tn : List (Addr × Obj)} {rs : List RoleSpec} {ro : Addr} {nms : List Str} {thr : Int} {name : Str}
    (F : Fr g L h' m') (N : News g L h' ((d, oF) :: (c9, oc) :: (177, oP) :: (wd, ow) :: (tlo ++ tn))) (htlo : tl ++ own = tlo) (hoff : OwnOff tl [d, c9, 177, wd]) (hap : Apart ((d, oF0) :: (c9, oc) :: (177, oP) :: (wd, ow0) :: tl) own)
    (hofn : OwnOff tn (((d, oF0) :: (c9, oc) :: (177, oP) :: (wd, ow0) :: tlo).map (·.1))) (_ha0 : Agree ["name"] m₁ m₀) (ha : Agree ["name"] m' m₀) (hd : oF.IsDictOf (PySem.strKind prog w) (stored (kvT rs) name (.ref ro))) (hw : DrawsU prog w ow rl (k + 3 * i + 3)) (hR : RolesT (Led tl) rs) (hn : rs.map (·.name) = names.take i) (hr : RoleTup (Led tn) ro nms thr)
    (hnd : names.Nodup) (hi : names[i]? = some name) :
    ∃ news', Fr g L h' m' ∧ News g L h' (news' ++ own) ∧ Apart news' own ∧ LrSt prog w wd rl c9 oc oP k names m₀ d (i + 1) m' news' := by
  subst htlo
  have hlt : i < names.length := (List.getElem?_eq_some_iff.mp hi).1
  have hne : name = names[i] := ((List.getElem?_eq_some_iff.mp hi).2).symm
  have hnot : name ∉ (kvT rs).map (·.1) := by rw [kvT_names, hn, hne]; exact take_not_mem hnd hlt
  rw [stored_new hnot] at hd
  refine ⟨(d, oF) :: (c9, oc) :: (177, oP) :: (wd, ow) :: (tl ++ tn), F, fun p hp => N p ?_, fun p hp q hq e => ?_, ha, oF, ow, rs ++ [⟨name, ro, nms, thr⟩], tl ++ tn, rfl, by simpa [kvT] using hd, by rw [show k + 3 * (i + 1) = k + 3 * i + 3 by omega]; exact hw, fun r hr' => ?_, ?_, ?_⟩
  · simp only [List.cons_append, List.mem_cons, List.mem_append] at hp ⊢
    rcases hp with h | h | h | h | (h | h) | h <;> simp [h]
  · simp only [List.mem_cons, List.mem_append] at hp
    rcases hp with rfl | rfl | rfl | rfl | hp | hp
    · exact hap (d, oF0) (by simp) q hq e
    · exact hap (c9, oc) (by simp) q hq e
    · exact hap (177, oP) (by simp) q hq e
    · exact hap (wd, ow0) (by simp) q hq e
    · exact hap p (by simp [hp]) q hq e
    · exact hofn p hp q.1 (List.mem_map.mpr ⟨q, by simp [hq], rfl⟩) e
  · rcases List.mem_append.mp hr' with h | h
    · exact (hR r h).mono Sub.appL
    · rw [List.mem_singleton.mp h]; exact hr.mono Sub.appR
  · rw [List.map_append, hn, List.take_add_one, hi]; rfl
  · refine OwnOff.app hoff (OwnOff.sub hofn fun b hb => ?_)
    simp only [List.map_cons, List.mem_cons, List.not_mem_nil, or_false] at hb ⊢
    rcases hb with h | h | h | h <;> simp [h]
theorem tab_ne {h₀ h : Heap} {L : Addr} {oP : Obj} {P l : Addr} {fs : List Addr} {vs : List Value} {news : List (Addr × Obj)} (N : News h₀ L h news) (hp : (P, oP) ∈ news) (hT : TabOk oP) (hrl : LstOf (At fs h) l vs) : l ≠ P := by
  intro hq
  obtain ⟨o2, k2, e2, e3, e4⟩ := hrl
  have e5 := (N (P, oP) hp).1
  rw [← hq, e2.1] at e5
  obtain ⟨ps, e6, _⟩ := hT.data
  cases e5
  rw [e4] at e6; cases e6
theorem tab_neD {prog : Program} {w : World} {h₀ h : Heap} {L : Addr} {oP o : Obj} {P wd rl : Addr} {k : Nat} {news : List (Addr × Obj)} (N : News h₀ L h news) (hp : (P, oP) ∈ news) (hw : (wd, o) ∈ news) (hT : TabOk oP) (ho : DrawsU prog w o rl k) : @Ne Nat P wd := by
  intro hq
  have e5 := (N (P, oP) hp).1
  have e6 := (N (wd, o) hw).1
  rw [← show P = wd from hq, e5] at e6
  obtain ⟨ps, e7, _⟩ := hT.data
  obtain ⟨_, _, _, _, hd⟩ := ho
  obtain ⟨_, _, _, e8, _⟩ := hd
  cases e6
  rw [e7] at e8; cases e8
section
variable {prog : Program} {w : World} {A : Around} {E : Value → Shared → Prop} {s : Shared} {h₀ : Heap} {L : Addr} {m : Str → Option Value} {news : List (Addr × Obj)} {Q : Value → Shared → Prop}
/-- list(l): a copy; what it holds is told -/
theorem listL {l : Addr} {vs : List Value} (F : Fr h₀ L s.heap m) (N : News h₀ L s.heap news) (hl : LstOf (Now s.heap) l vs) (hz : vs.length ≤ 100000)
    (h : ∀ D c h', Fr h₀ L h' m → News h₀ L h' ((D, W.listOf vs.toArray c) :: news) → (∀ q ∈ news, q.1 < D) → LstOf (Led [(D, W.listOf vs.toArray c)]) D vs → Q (.ref D) { s with heap := h' }) :
    wpAny (model prog w) A (call (.type "list") [.ref l]) Q E s :=
  list_copyK F N hl.at (fun D c h' F' N' l1 => h D c h' F' N' l1 ⟨_, c, .head _, rfl, rfl⟩) (by rw [List.size_toArray, sizeLine_eq]; omega)
end
/-- pairs, one beside the other -/
def PairsAt (H : Addr → Obj → Prop) (ys : List Value) (ps : List (Str × Value)) : Prop := ys.length = ps.length ∧ ∀ (j : Nat) (v : Value) (p : Str × Value), ys[j]? = some v → ps[j]? = some p → PairAt H v p
theorem PairAt.mono {H H' : Addr → Obj → Prop} {v : Value} {p : Str × Value} (h : PairAt H v p) (s : Sub H H') : PairAt H' v p := let ⟨t, k, e, a⟩ := h; ⟨t, k, e, a.mono s⟩
theorem PairsAt.mono {H H' : Addr → Obj → Prop} {ys : List Value} {ps : List (Str × Value)} (h : PairsAt H ys ps) (s : Sub H H') : PairsAt H' ys ps := ⟨h.1, fun j v p a b => (h.2 j v p a b).mono s⟩
theorem PairsAt.nil {H : Addr → Obj → Prop} : PairsAt H [] [] := ⟨rfl, fun j v p a => by simp at a⟩
theorem PairsAt.snoc {H : Addr → Obj → Prop} {ys : List Value} {ps : List (Str × Value)} {T : Addr} {k : Str} {t : Tok} {v : Value} (h : PairsAt H ys ps) (x : TupOf H T [.str k t, v]) : PairsAt H (ys ++ [.ref T]) (ps ++ [(k, v)]) := by
  refine ⟨by simp [h.1], fun j u p h1 h2 => ?_⟩
  by_cases hj : j < ys.length
  · rw [List.getElem?_append_left hj] at h1
    rw [List.getElem?_append_left (h.1 ▸ hj)] at h2
    exact h.2 j u p h1 h2
  · have hlt := (List.getElem?_eq_some_iff.mp h1).1
    rw [List.length_append, List.length_singleton] at hlt
    have hj' : j = ys.length := by omega
    subst hj'
    rw [List.getElem?_append_right (Nat.le_refl _), Nat.sub_self] at h1
    rw [h.1, List.getElem?_append_right (Nat.le_refl _), Nat.sub_self] at h2
    cases h1; cases h2
    exact ⟨T, t, rfl, x⟩
theorem RolesR.mono {H H' : Addr → Obj → Prop} {rs : List RoleSpec} {ps : List (Str × Value)} (h : RolesR H rs ps) (s : Sub H H') : RolesR H' rs ps :=
  ⟨h.1, fun i r p a b => let ⟨e, ra, e2, x⟩ := h.2 i r p a b; ⟨e, ra, e2, x.mono s⟩⟩
theorem RolesR.nil {H : Addr → Obj → Prop} : RolesR H [] [] := ⟨rfl, fun i r p a => by simp at a⟩
theorem RolesR.snoc {H : Addr → Obj → Prop} {rs : List RoleSpec} {ps : List (Str × Value)} {r : RoleSpec} {ra : Addr} (h : RolesR H rs ps) (x : RoleObj H ra r.names r.thr) : RolesR H (rs ++ [r]) (ps ++ [(r.name, .ref ra)]) := by
  refine ⟨by simp [h.1], fun i r' p h1 h2 => ?_⟩
  by_cases hj : i < rs.length
  · rw [List.getElem?_append_left hj] at h1
    rw [List.getElem?_append_left (h.1 ▸ hj)] at h2
    exact h.2 i r' p h1 h2
  · have hlt := (List.getElem?_eq_some_iff.mp h1).1
    rw [List.length_append, List.length_singleton] at hlt
    have hj' : i = rs.length := by omega
    subst hj'
    rw [List.getElem?_append_right (Nat.le_refl _), Nat.sub_self] at h1
    rw [← h.1, List.getElem?_append_right (Nat.le_refl _), Nat.sub_self] at h2
    cases h1; cases h2
    exact ⟨rfl, ra, rfl, x⟩
theorem RolesR.names {H : Addr → Obj → Prop} {rs : List RoleSpec} {ps : List (Str × Value)} (h : RolesR H rs ps) : ps.map (·.1) = rs.map (·.name) := by
  apply List.ext_getElem? 
  intro i
  rw [List.getElem?_map, List.getElem?_map]
  cases hr : rs[i]? with
  | none =>
    have : ps[i]? = none := by rw [List.getElem?_eq_none_iff] at hr ⊢; rw [h.1]; exact hr
    rw [this]; rfl
  | some r =>
    have hi : i < ps.length := by rw [h.1]; exact (List.getElem?_eq_some_iff.mp hr).1
    have hp : ps[i]? = some ps[i] := List.getElem?_eq_getElem hi
    rw [hp]
    simp [(h.2 i r _ hr hp).1]
/-- the comprehension of the project's roles so far -/
inductive CrSt (front t2 : List (Addr × Obj)) (rs : List RoleSpec) (i : Nat) (ys : List Value) (news : List (Addr × Obj)) : Prop
  | mk (ps : _) (tl : _)
    (i1 : news = front ++ tl)
    (i2 : PairsAt (Led tl) ys ps)
    (i3 : RolesR (Led tl) (rs.take i) ps)
    (i4 : (∀ p ∈ t2, p ∈ tl))
    (i5 : OwnOff tl (front.map (·.1))) : CrSt front t2 rs i ys news
theorem cr_end {h₀ : Heap} {L I C D d T kl rr : Addr} {oI oC oD od oT okl : Obj} {m : Str → Option Value} {s₁ s₂ : Shared} {all front t2 tl tn : List (Addr × Obj)} {rs : List RoleSpec} {r : RoleSpec} {i : Nat} {ys : List Value} {k : Str} {tk t4 : Tok} {v6 : Value} {vs : List Value} {ps : List (Str × Value)}
    (hr : Rst s₁ s₂) (F : Fr h₀ L s₂.heap m) (N : News h₀ L s₂.heap ((T, oT) :: all)) (sub : ∀ p ∈ (I, oI) :: (C, oC) :: (D, oD) :: (front ++ ((T, oT) :: (kl, okl) :: (tl ++ tn))), p ∈ (T, oT) :: all) (off : LCg.Off3 I C D (front ++ tl)) (src : SrcO h₀ d od front)
    (hri : rs[i]? = some r) (hk : r.name = k) (hP : PairsAt (Led tl) ys ps) (hR : RolesR (Led tl) (rs.take i) ps) (ht2 : ∀ p ∈ t2, p ∈ tl) (hoff : OwnOff tl (front.map (·.1)))
    (oT' : TupOf (Led [(T, oT)]) T [.str k tk, .ref rr]) (hI : Inst (Led tn) rr 262 [("keyids", .ref kl), ("threshold", .int r.thr t4), ("unrecognized_fields", v6)]) (hkl : LstOf (Led [(kl, okl)]) kl vs) (hvs : StrsAre vs r.names)
    (ofn : OwnOff tn ([I, C, D] ++ front.map (·.1))) (lT : ∀ b ∈ [I, C, D] ++ front.map (·.1), b ≠ T ∧ b ≠ kl) :
    TurnO h₀ L m I oI C oC D oD d od s₁ (fun y news' => CrSt front t2 rs (i + 1) (ys ++ [y]) news') (.ref T) s₂ := by
  have sub1 : Sub (Led [(T, oT)]) (Led ((T, oT) :: (kl, okl) :: (tl ++ tn))) := Sub.mem fun p hp => by rw [List.mem_singleton.mp hp]; exact .head _
  have sub2 : Sub (Led [(kl, okl)]) (Led ((T, oT) :: (kl, okl) :: (tl ++ tn))) := Sub.mem fun p hp => by rw [List.mem_singleton.mp hp]; exact .tail _ (.head _)
  have sub3 : Sub (Led tl) (Led ((T, oT) :: (kl, okl) :: (tl ++ tn))) := fun a o e => .tail _ (.tail _ (List.mem_append_left _ e))
  have sub4 : Sub (Led tn) (Led ((T, oT) :: (kl, okl) :: (tl ++ tn))) := fun a o e => .tail _ (.tail _ (List.mem_append_right _ e))
  have offm := off.mem
  refine ⟨front ++ ((T, oT) :: (kl, okl) :: (tl ++ tn)), hr, F, fun p hp => N p (sub p hp), LCg.Off3.of fun p hp => ?_, src.imp id fun h => List.mem_append_left _ h, ps ++ [(k, .ref rr)], _, rfl, (hP.mono sub3).snoc (oT'.mono sub1), ?_, fun p hp => .tail _ (.tail _ (List.mem_append_left _ (ht2 p hp))), fun p hp b hb e => ?_⟩
  · rcases List.mem_append.mp hp with hp | hp
    · exact offm p (List.mem_append_left _ hp)
    · simp only [List.mem_cons, List.mem_append] at hp
      rcases hp with rfl | rfl | hp | hp
      · exact ⟨Ne.symm (lT I (by simp)).1, Ne.symm (lT C (by simp)).1, Ne.symm (lT D (by simp)).1⟩
      · exact ⟨Ne.symm (lT I (by simp)).2, Ne.symm (lT C (by simp)).2, Ne.symm (lT D (by simp)).2⟩
      · exact offm p (List.mem_append_right _ hp)
      · exact ⟨ofn p hp I (by simp), ofn p hp C (by simp), ofn p hp D (by simp)⟩
  · rw [List.take_add_one, hri]
    subst hk
    exact (hR.mono sub3).snoc ⟨kl, vs, t4, v6, hI.mono sub4, hkl.mono sub2, hvs⟩
  · simp only [List.mem_cons, List.mem_append] at hp
    rcases hp with rfl | rfl | hp | hp
    · exact (lT b (List.mem_append_right _ hb)).1 e.symm
    · exact (lT b (List.mem_append_right _ hb)).2 e.symm
    · exact hoff p hp b hb e
    · exact ofn p hp b (List.mem_append_right _ hb) e
theorem storedAll_nodup : ∀ {ps acc : List (Str × Value)}, ((acc ++ ps).map (·.1)).Nodup → storedAll acc ps = acc ++ ps
  | [], acc, _ => by simp [storedAll]
  | p :: r, acc, h => by
    have hnot : p.1 ∉ acc.map (·.1) := fun hm => by
      rw [List.map_append, List.nodup_append] at h
      exact h.2.2 p.1 hm p.1 (by simp) rfl
    show storedAll (stored acc p.1 p.2) r = _
    rw [stored_new hnot, storedAll_nodup (by simpa using h)]
    simp
/-- a root as the law builds it, beside its rules and its keys -/
inductive RootOk (prog : Program) (w : World) (H : Addr → Obj → Prop) (x rd kd : Addr) (ver : Int) (rs : List RoleSpec) (Kv : List (Str × Value)) : Prop
  | mk (kd2 : _) (md : _) (ps : _) (v1 : _) (v2 : _) (tv : _) (v4 : _) (v5 : _)
    (i1 : Inst H x 451 [("spec_version", v1), ("expires", v2), ("version", .int ver tv), ("unrecognized_fields", v4), ("consistent_snapshot", v5), ("keys", .ref kd2), ("roles", .ref md)])
    (i2 : SDict prog w H kd2 Kv)
    (i3 : SDict prog w H md ps)
    (i4 : RolesR H rs ps)
    (i5 : SDict prog w H rd (kvT rs))
    (i6 : RolesT H rs)
    (i7 : SDict prog w H kd Kv)
    (i8 : KeysOk prog w 154 H Kv pubOf)
    (i9 : (∀ p ∈ Kv, p.1 ∈ kNames))
    (i10 : Kv.length ≤ 7)
    (i11 : rs.map (·.name) = fourNames) : RootOk prog w H x rd kd ver rs Kv
theorem RootOk.mono {prog : Program} {w : World} {H H' : Addr → Obj → Prop} {x rd kd : Addr} {ver : Int} {rs : List RoleSpec} {Kv : List (Str × Value)} (h : RootOk prog w H x rd kd ver rs Kv) (s : Sub H H') : RootOk prog w H' x rd kd ver rs Kv :=
  let ⟨kd2, md, ps, v1, v2, tv, v4, v5, a, b, c, d, e, f, g, i, j, k, l⟩ := h; ⟨kd2, md, ps, v1, v2, tv, v4, v5, a.mono s, b.mono s, c.mono s, d.mono s, e.mono s, f.mono s, g.mono s, i.mono s, j, k, l⟩
theorem lr_fin {prog : Program} {w : World} {h g h' : Heap} {L L' T D4 D2 D d c9 wd rr kd : Addr} {o4 oD olst oF oc oP o1 : Obj} {tl3 tl9 : List (Addr × Obj)} {rs : List RoleSpec} {ps Kv : List (Str × Value)} {ver : Int} {tv : Tok} {v1 v2 v4 v5 : Value} {n : Nat}
    (G : Grd h g L' [177, wd]) (N : News g L h' ((T, { cls := .type "tuple", data := .seq #[.ref rr, .ref d, .ref kd] n }) :: (D4, o4) :: (D2, oD) :: (D, olst) :: (d, oF) :: (c9, oc) :: (177, oP) :: (wd, o1) :: (tl3 ++ tl9)))
    (n1 : @Ne Nat T 177) (n2 : @Ne Nat T wd) (n3 : @Ne Nat D4 177) (n4 : @Ne Nat D4 wd) (n5 : @Ne Nat D2 177) (n6 : @Ne Nat D2 wd) (n7 : @Ne Nat d 177) (n8 : @Ne Nat d wd) (of3 : OwnOff tl3 [177, wd]) (of9 : OwnOff tl9 [177, wd])
    (hI : Inst (Led tl9) rr 451 [("spec_version", v1), ("expires", v2), ("version", .int ver tv), ("unrecognized_fields", v4), ("consistent_snapshot", v5), ("keys", .ref D4), ("roles", .ref D2)])
    (lo4 : (D4 == sysModules) = false) (h4 : o4.IsDictOf (PySem.strKind prog w) Kv) (lo2 : (D2 == sysModules) = false) (h2 : oD.IsDictOf (PySem.strKind prog w) ps) (hR : RolesR (Led tl3) rs ps) (lo : (d == sysModules) = false) (hd : oF.IsDictOf (PySem.strKind prog w) (kvT rs)) (hT : RolesT (Led tl3) rs)
    (hk : SDict prog w (Led tl3) kd Kv) (hK : KeysOk prog w 154 (Led tl3) Kv pubOf) (hkn : ∀ p ∈ Kv, p.1 ∈ kNames) (hkl : Kv.length ≤ 7) (hn : rs.map (·.name) = fourNames) :
    ∃ tl, Made h h' tl ∧ TupOf (Led tl) T [.ref rr, .ref d, .ref kd] ∧ RootOk prog w (Led tl) rr d kd ver rs Kv := by
  have s0 : Sub (Led (tl3 ++ tl9)) (Led ((T, ({ cls := .type "tuple", data := .seq #[.ref rr, .ref d, .ref kd] n } : Obj)) :: (D4, o4) :: (D2, oD) :: (d, oF) :: (tl3 ++ tl9))) := fun _ _ e => .tail _ (.tail _ (.tail _ (.tail _ e)))
  have s3 := Sub.trans (Sub.appL (a := tl3) (b := tl9)) s0
  have s9 := Sub.trans (Sub.appR (a := tl3) (b := tl9)) s0
  refine ⟨_, G.madeM N ?_ ?_, ⟨_, _, .head _, rfl, rfl⟩, D4, D2, ps, v1, v2, tv, v4, v5, hI.mono s9, ⟨lo4, o4, .tail _ (.head _), h4⟩, ⟨lo2, oD, .tail _ (.tail _ (.head _)), h2⟩, hR.mono s3, ⟨lo, oF, .tail _ (.tail _ (.tail _ (.head _))), hd⟩, hT.mono s3, hk.mono s3, hK.mono s3, hkn, hkl, hn⟩
  · intro p hp
    simp only [List.mem_cons] at hp ⊢
    rcases hp with h | h | h | h | h <;> simp only [h, true_or, or_true]
  · intro p hp
    simp only [List.mem_cons] at hp
    simp only [List.mem_cons, List.not_mem_nil, or_false, not_or]
    rcases hp with rfl | rfl | rfl | rfl | h
    · exact ⟨n1, n2⟩
    · exact ⟨n3, n4⟩
    · exact ⟨n5, n6⟩
    · exact ⟨n7, n8⟩
    · have := OwnOff.app of3 of9 p h
      exact ⟨this 177 (by simp), this wd (by simp)⟩
end Mine
end
section -- Tj
open PySem PySem.W PySem.Spec PySem.Calls PyProof.Rows PyProof.V PySem.SeqAt
set_option Elab.async false
set_option maxRecDepth 100000
set_option maxHeartbeats 3200000
set_option linter.unusedVariables false
namespace Mine
/-- a verification's result: threshold, signed, unsigned -/
inductive VerRes (prog : Program) (w : World) (H : Addr → Obj → Prop) (x : Addr) (thr : Int) (K1 K2 : List (Str × Value)) : Prop
  | mk (a1 : _) (a2 : _) (tt : _)
    (q91 : Inst H x 299 [("threshold", .int thr tt), ("signed", .ref a1), ("unsigned", .ref a2)])
    (q92 : SDict prog w H a1 K1)
    (q93 : SDict prog w H a2 K2) : VerRes prog w H x thr K1 K2
theorem VerRes.mono {prog : Program} {w : World} {H H' : Addr → Obj → Prop} {x : Addr} {thr : Int} {K1 K2 : List (Str × Value)} (h : VerRes prog w H x thr K1 K2) (s : Sub H H') : VerRes prog w H' x thr K1 K2 :=
  let ⟨a1, a2, tt, a, b, c⟩ := h; ⟨a1, a2, tt, a.mono s, b.mono s, c.mono s⟩
/-- what is due -/
inductive DueOk (prog : Program) (w : World) (H : Addr → Obj → Prop) (r : Addr) (thr : Int) (K1 K2 : List (Str × Value)) : Prop
  | mk (d1 : _) (d2 : _) (b1 : _) (i1 : _) (t1 : _)
    (q91 : TupOf H r [.ref d1, .ref d2, .bool b1, .int i1 t1])
    (q92 : b1 = decide (thr ≤ (K1.length : Int)))
    (q93 : i1 = max 0 (thr - (K1.length : Int)))
    (q94 : SDict prog w H d1 K1)
    (q95 : SDict prog w H d2 K2) : DueOk prog w H r thr K1 K2
theorem DueOk.mono {prog : Program} {w : World} {H H' : Addr → Obj → Prop} {r : Addr} {thr : Int} {K1 K2 : List (Str × Value)} (h : DueOk prog w H r thr K1 K2) (s : Sub H H') : DueOk prog w H' r thr K1 K2 :=
  let ⟨d1, d2, b1, i1, t1, a, b, c, d, e⟩ := h; ⟨d1, d2, b1, i1, t1, a.mono s, b, c, d.mono s, e.mono s⟩
def loadB : Array UInt8 := #[108, 111, 97, 100]
/-- the right signature, by the law's text -/
def okS (sig : Str → Str) (k : Str) : Bool := sig k == Str.ofString "p" ++ Txt.slice k (some 1) none ++ Str.ofString ":load"
/-- the right signature, by the project's bytes -/
def okU (sig : Str → Str) (k : Str) : Bool := utf8 (sig k) == utf8 (pubOf k) ++ #[58] ++ loadB
theorem ok_all : ∀ k ∈ kNames, ∀ x ∈ sigTexts, (utf8 x == utf8 (pubOf k) ++ #[58] ++ loadB) = (x == Str.ofString "p" ++ Txt.slice k (some 1) none ++ Str.ofString ":load") := by decide +kernel
theorem ok_same {sig : Str → Str} (hs : ∀ x, sig x ∈ sigTexts) {k : Str} (hk : k ∈ kNames) : okU sig k = okS sig k := ok_all k hk _ (hs k)
theorem verdict_congr {K S : List (Str × Value)} {ok ok' : Str → Bool} {k : Str} (h : ok k = ok' k) : verdict K S ok k = verdict K S ok' k := by unfold verdict; rw [h]
theorem signedBy_congr {K S : List (Str × Value)} {ok ok' : Str → Bool} {b : Bool} : ∀ {names : List Str}, (∀ k ∈ names, ok k = ok' k) → signedBy K S ok b names = signedBy K S ok' b names := by
  intro names h
  unfold signedBy
  suffices hh : ∀ (l : List Str) (acc : List (Str × Value)), (∀ k ∈ l, ok k = ok' k) → l.foldl (fun acc k => match verdict K S ok k with | some (v, b') => if b' = b then stored acc k v else acc | none => acc) acc = l.foldl (fun acc k => match verdict K S ok' k with | some (v, b') => if b' = b then stored acc k v else acc | none => acc) acc from hh names [] h
  intro l
  induction l with
  | nil => intro acc _; rfl
  | cons k r ih =>
    intro acc h
    rw [List.foldl_cons, List.foldl_cons, verdict_congr (h k (.head _))]
    exact ih _ fun k hk => h k (.tail _ hk)
theorem plain_sig : ∀ x ∈ sigTexts, x.cps.any Str.isSurrogate = false ∧ (utf8 x).size ≤ 1000 := by decide +kernel
theorem plain_pubs : ∀ x ∈ (["p0", "p1", "p2", "p3", "p4", "p5", "p6"].map Str.ofString), x.cps.any Str.isSurrogate = false ∧ (utf8 x).size ≤ 1000 := by decide +kernel
theorem lookup_mem {α β : Type} [BEq α] : ∀ {l : List (α × β)} {k : α} {v : β}, l.lookup k = some v → v ∈ l.map (·.2)
  | (a, b) :: r, k, v, h => by
    rw [List.lookup_cons] at h
    cases hq : k == a with
    | true => rw [hq] at h; cases h; exact .head _
    | false => rw [hq] at h; exact .tail _ (lookup_mem h)
theorem plain_pub (k : Str) : Plain (pubOf k) := by
  refine plain_pubs _ ?_
  unfold pubOf
  cases h : (List.lookup k ([("k0", "p0"), ("k1", "p1"), ("k2", "p2"), ("k3", "p3"), ("k4", "p4"), ("k5", "p5"), ("k6", "p6")].map fun (p : String × String) => (Str.ofString p.1, Str.ofString p.2))) with
  | none => exact .head _
  | some v => exact lookup_mem h
theorem kNames_len : ∀ k ∈ kNames, k.length ≤ 64 := by decide +kernel
theorem kNames_ok : ∀ k ∈ kNames, PyData.strOk k = true := by decide +kernel
theorem signedBy_names {K S : List (Str × Value)} {ok : Str → Bool} {b : Bool} {names : List Str} {T : List Str} (h : ∀ k ∈ names, k ∈ T) : ∀ p ∈ signedBy K S ok b names, p.1 ∈ T := by
  unfold signedBy
  suffices hh : ∀ (l : List Str) (acc : List (Str × Value)), (∀ k ∈ l, k ∈ T) → (∀ p ∈ acc, p.1 ∈ T) → ∀ p ∈ l.foldl (fun acc k => match verdict K S ok k with | some (v, b') => if b' = b then stored acc k v else acc | none => acc) acc, p.1 ∈ T from hh names [] h (fun _ h => nomatch h)
  intro l
  induction l with
  | nil => intro acc _ h; exact h
  | cons k r ih =>
    intro acc h1 h2
    rw [List.foldl_cons]
    refine ih _ (fun k hk => h1 k (.tail _ hk)) fun p hp => ?_
    split at hp
    · split at hp
      · rcases stored_names hp with e | ⟨q, hq, e⟩
        · rw [e]; exact h1 k (.head _)
        · rw [← e]; exact h2 q hq
      · exact h2 p hp
    · exact h2 p hp
/-- the ledger behind a call that may turn the frame's slots, where no frame lies below -/
theorem led_turn {K : Frag} {p : Program} {loose : List Str} {mean : ExcName → Option Value} {mg mb : Str → Option Value} {A₀ : Around} {base h₀ h h' : Heap} {L : Addr} {m : Str → Option Value} {news tl : List (Addr × Obj)}
    (C : Cx K p loose mean mg mb A₀ base [] h₀ L h m) (N : News h₀ L h news) (E : Ext [L] [] h h') (M : Made h h' tl) : Fr h₀ L h' m ∧ News h₀ L h' (news ++ tl) ∧ OwnOff tl (news.map (·.1)) := by
  obtain ⟨g, T, C', hn, ht⟩ := C.after E (fun _ h => nomatch h)
  exact ⟨fr_nil T C'.F, fun q hq => (List.mem_append.mp hq).elim (fun h => news_nil T (hn news N (by simp)) q h) fun h => news_nil T (ht tl M) q h, OwnOff.made N M⟩
end Mine
end
section -- Tk
open PySem PySem.W PySem.Spec PySem.Calls PyProof.Rows PyProof.V PySem.SeqAt
set_option Elab.async false
set_option maxRecDepth 100000
set_option maxHeartbeats 3200000
set_option linter.unusedVariables false
namespace Mine
/-- the law's end, its tables laid aside -/
def LawEnd (tabs : List (Addr × Addr)) (s₁ : Shared) (v : Value) (s' : Shared) : Prop :=
  v = .bool true ∧ (∀ b o, (ghostOf s₁.heap tabs).get? b = some o → s'.heap.get? b = some o) ∧ Rst s₁ s' ∧ (∀ q ∈ tabs, ∃ o, s'.heap.get? q.2 = some o ∧ TabOk o)
theorem law_post {M : Model} {A : Around} {cd : Code} {s s₁ : Shared} {cw : ClaimW} {cl : Str → Option Addr} {mean : ExcName → Option Value} {args : List WData} {tabs : List (Addr × Addr)} (hT : TabsAt tabs s₁.heap) (hg : s₁.gens = #[]) (hr : ∀ a x, cw.raises a x = false) (hp : cw.post args (.bool true) args = true)
    (h : codeAny M A cd (fun r s' => ∃ v, r = .ok (.ret v) ∧ LawEnd tabs s₁ v s') s) : codeAny M A cd (GoodWG cw cl mean args s₁) s :=
  codeAny_mono h fun r s' ⟨v, hv, he, hk, hrst, hgr⟩ => by
    subst he; subst hv
    refine ⟨.inl ⟨.bool true, .bool true, [], rfl, hr _, ReadsW.bool _, hp, fun _ => ⟨List.nodup_nil, fun a ha => nomatch ha⟩⟩, ⟨fun b o e => ?_, fun b o e => ?_⟩, hrst.1, hrst.2 (by rw [hg]; exact AllBare.empty)⟩
    · by_cases hb : b ∈ tabs.map (·.2)
      · obtain ⟨q, hq, rfl⟩ := List.mem_map.mp hb
        have e2 := (hT q hq).2
        rw [e] at e2
        obtain ⟨o', h1, ps, h2, _⟩ := hgr q hq
        have ho := Option.some.inj e2
        subst ho
        exact .inr (.inl ⟨((hT q hq).1.tab (hT q hq).2).isCodeTable, rfl, #[], ps, rfl, by rw [Array.empty_append, h1, h2]⟩)
      · exact .inl (hk b o (ghost_ne e hb))
    · by_cases hb : b ∈ tabs.map (·.2)
      · obtain ⟨q, hq, rfl⟩ := List.mem_map.mp hb
        obtain ⟨o', h1, _⟩ := hgr q hq
        exact ⟨o', h1⟩
      · exact ⟨o, hk b o (ghost_ne e hb)⟩
/-- an address that is none of these -/
def NeAll (a : Addr) : List Addr → Prop
  | [] => True
  | b :: r => (@Ne Nat a b) ∧ NeAll a r
theorem neAll_of {a : Addr} : ∀ {l : List Addr}, (∀ b ∈ l, a ≠ b) → NeAll a l
  | [], _ => trivial
  | b :: _, h => ⟨h b (.head _), neAll_of fun c hc => h c (.tail _ hc)⟩
theorem OwnOff.neAll {tl : List (Addr × Obj)} {l : List Addr} {a : Addr} {o : Obj} (h : OwnOff tl l) (hm : (a, o) ∈ tl) : NeAll a l := neAll_of fun b hb => h (a, o) hm b hb
theorem draws_ne3 {prog : Program} {w : World} {h₀ h : Heap} {L x wd rl : Addr} {o ox : Obj} {k n : Nat} {its : Array Value} {news : List (Addr × Obj)} (N : News h₀ L h news) (hp : (wd, o) ∈ news) (hx : (x, ox) ∈ news) (ho : DrawsU prog w o rl k) (hs : ox.data = .seq its n) : @Ne Nat x wd := fun q => draws_ne2 N hp hx ho hs (by rw [show x = wd from q]; exact .head _)
theorem itemMenu5 {prog : Program} {w : World} {A : Around} {E : Value → Shared → Prop} {s : Shared} {l : Addr} {t1 t2 t3 t4 t5 : Tok} {i : Int} {t : Tok} {value slice : PySem.Expr} {Q : Value → Shared → Prop} (hl : s.heap.IsList l #[.int 1 t1, .int 1 t2, .int 1 t3, .int 0 t4, .int 2 t5]) (h0 : 0 ≤ i) (h1 : i < 5) (h : ∀ n t, (n = 0 ∨ n = 1 ∨ n = 2) → Q (.int n t) s)
    (hs : subscripted slice false (.ref l) (.int i t) = operate [.ref l, .int i t] (getItem (.ref l) (.int i t)) := by with_unfolding_all rfl) :
    wpAny (model prog w) A (subscriptTail value slice (.ref l) (.int i t)) Q E s := by
  rcases (show i = 0 ∨ i = 1 ∨ i = 2 ∨ i = 3 ∨ i = 4 by omega) with rfl | rfl | rfl | rfl | rfl
  · exact item_listR (x := .int 1 t1) hl h0 (by omega) (by rfl) (h 1 t1 (by simp)) hs
  · exact item_listR (x := .int 1 t2) hl h0 (by omega) (by rfl) (h 1 t2 (by simp)) hs
  · exact item_listR (x := .int 1 t3) hl h0 (by omega) (by rfl) (h 1 t3 (by simp)) hs
  · exact item_listR (x := .int 0 t4) hl h0 (by omega) (by rfl) (h 0 t4 (by simp)) hs
  · exact item_listR (x := .int 2 t5) hl h0 (by omega) (by rfl) (h 2 t5 (by simp)) hs
theorem sub_nil {l' : List Addr} : ∀ b ∈ ([] : List Addr), b ∈ l' := fun _ h => nomatch h
theorem sub_cons {a : Addr} {l l' : List Addr} (h : a ∈ l') (k : ∀ b ∈ l, b ∈ l') : ∀ b ∈ a :: l, b ∈ l' := fun b hb => by
  rcases List.mem_cons.mp hb with rfl | hb
  · exact h
  · exact k b hb
end Mine
end
section -- Tl
open PySem PySem.W PySem.Spec PySem.Calls PyProof.Rows PyProof.V PySem.SeqAt
set_option Elab.async false
set_option maxRecDepth 100000
set_option maxHeartbeats 3200000
set_option linter.unusedVariables false
namespace Mine
open LCg
section
variable {prog : Program} {w : World} {A : Around} {E : Value → Shared → Prop} {s : Shared} {env : Env} {h₀ : Heap} {x : Str} {body : List Stmt} {Q : Flow → Shared → Prop}
inductive ForP (h₀ : Heap) (L I d : Addr) (od : Obj) (n : Nat) (St : Nat → Heap → Prop) (J : Nat → (Str → Option Value) → List (Addr × Obj) → Prop) (s₁ : Shared) (k : Nat) (s' : Shared) : Prop
  | mk (i : Nat) (m' : Str → Option Value) (news' : List (Addr × Obj)) (q1 : Rst s₁ s') (q2 : i ≤ n) (q3 : k = n + 1 - i) (q4 : St i s'.heap) (q5 : Fr h₀ L s'.heap m') (q6 : News h₀ L s'.heap news') (q7 : ∀ p ∈ news', p.1 ≠ I) (q8 : SrcO h₀ d od news') (q9 : J i m' news') : ForP h₀ L I d od n St J s₁ k s'
inductive TurnRIn (h₀ : Heap) (L : Addr) (I : Addr) (oI : Obj) (d : Addr) (od : Obj) (J : (Str → Option Value) → List (Addr × Obj) → Prop) (s₁ s₂ : Shared) : Prop
  | mk (m' : Str → Option Value) (news' : List (Addr × Obj)) (i1 : Rst s₁ s₂) (i2 : Fr h₀ L s₂.heap m') (i3 : News h₀ L s₂.heap ((I, oI) :: news')) (i4 : Off1 I news') (i5 : SrcO h₀ d od news') (i6 : J m' news') : TurnRIn h₀ L I oI d od J s₁ s₂
/-- the end of a turn, in any state -/
def TurnR (h₀ : Heap) (L : Addr) (I : Addr) (oI : Obj) (d : Addr) (od : Obj) (J : (Str → Option Value) → List (Addr × Obj) → Prop) (s₁ : Shared) (Q : Flow → Shared → Prop) (f : Flow) (s₂ : Shared) : Prop :=
  match f with
  | .ret v => Q (.ret v) s₂
  | .brk => Q .next s₂
  | _ => TurnRIn h₀ L I oI d od J s₁ s₂
/-- the source of a loop: an object that is walked by a new iterator -/
inductive ForG (prog : Program) (w : World) (A : Around) (h₀ : Heap) (L : Addr) (env : Env) (x : Str) (body : List Stmt) (Q : Flow → Shared → Prop) (E : Value → Shared → Prop) (xv : Value) (s₁ : Shared) : Prop
  | mk (d : Addr) (od oI : Obj) (n : Nat) (P : Nat → Value → Prop) (St : Nat → Heap → Prop) (m : Str → Option Value) (news : List (Addr × Obj)) (J : Nat → (Str → Option Value) → List (Addr × Obj) → Prop)
    (i1 : env.locals = L)
    (i2 : (∀ (E : Value → Shared → Prop) (Q : Value → Shared → Prop), Q (.ref s₁.heap.objs.size) { s₁ with heap := s₁.heap.push oI } → wpAny (model prog w) A (pyIter xv) Q E s₁))
    (i3 : Walks prog w A s₁.heap.objs.size [s₁.heap.objs.size, d] [s₁.heap.objs.size] n P St)
    (i4 : St 0 (s₁.heap.push oI))
    (i5 : (∀ i h, St i h → ∃ o, h.get? s₁.heap.objs.size = some o))
    (i6 : d < s₁.heap.objs.size)
    (i7 : L ≠ d)
    (i8 : Fr h₀ L s₁.heap m)
    (i9 : News h₀ L s₁.heap news)
    (i10 : SrcO h₀ d od news)
    (i11 : J 0 m news)
    (i12 : (∀ i v m₁ news I oI (s₂ : Shared), i < n → P i v → J i m₁ news → Rst s₁ s₂ → Fr h₀ L s₂.heap (fun y => if y = x then some v else m₁ y) → News h₀ L s₂.heap ((I, oI) :: news) → Off1 I news → SrcO h₀ d od news → wpAny (model prog w) A (execs body env) (TurnR h₀ L I oI d od (J (i + 1)) s₂ Q) E s₂))
    (i13 : (∀ m₁ news s', Rst s₁ s' → J n m₁ news → Fr h₀ L s'.heap m₁ → News h₀ L s'.heap news → Q .next s')) : ForG prog w A h₀ L env x body Q E xv s₁
theorem off1_of {I : Addr} : ∀ {l : List (Addr × Obj)}, (∀ p ∈ l, p.1 ≠ I) → Off1 I l
  | [], _ => trivial
  | p :: _, h => ⟨h p (.head _), off1_of fun q hq => h q (.tail _ hq)⟩
theorem off1_mem {I : Addr} : ∀ {l : List (Addr × Obj)}, Off1 I l → ∀ p ∈ l, p.1 ≠ I
  | [], _, _, h => nomatch h
  | _ :: _, x, p, h => by
    rcases List.mem_cons.mp h with rfl | h
    · exact x.1
    · exact off1_mem x.2 p h
theorem for_O {px pos : Pos} {iter : Expr} (hx : env.kindOf x = some .local)
    (hp : (env.scope.kind == .class || (env.scope.kind == .module && env.locals != env.globals)) = false) (L : Addr)
    (h : wpAny (model prog w) A (eval iter env) (ForG prog w A h₀ L env x body Q E) E s)
    (hs : ∀ x, foldedSetIterable iter env x = pure x := by intro _; rfl)
    (hE : PassesOwn (model prog w) A env E := by passes_own) :
    wpAny (model prog w) A (exec (.For (.Name x px) iter body [] pos) env) Q E s := by
  refine wpAny_For (wpAny_mono h (fun xv s₁ h₁ => ?_) fun _ _ e => e) hs
  obtain ⟨d, od, oI, n, P, St, m, news, J, hLe, hit, W, st, hIo, hd, hLd, F, N, S, h0, turn, fin⟩ := h₁
  subst hLe
  refine hit _ _ ?_
  have up : ∀ b o, s₁.heap.get? b = some o → (s₁.heap.push oI).get? b = some o := fun b o e => Heap.get?_push_of_some _ e
  generalize hI : s₁.heap.objs.size = I at hit W st hIo hd ⊢
  have hLI : env.locals ≠ I := by rw [← hI]; exact Nat.ne_of_lt F.ns.lt
  have hI₀ : h₀.get? I = none := by rw [← hI]; exact next_is_new F
  have hdI : d ≠ I := Nat.ne_of_lt hd
  have off0 : ∀ p ∈ news, p.1 ≠ I := fun p hp => by rw [← hI]; exact Nat.ne_of_lt (Heap.lt_size (N p hp).1)
  refine codeAny_forLoop
    (ForP h₀ env.locals I d od n St J s₁) ?_ (n + 1)
    ⟨0, m, news, ⟨rfl, fun h => h⟩, Nat.zero_le _, rfl, st, F.keeps up, N.grown up, off0, S, h0⟩
  rintro k s' ⟨i, m', news', hr, hi, rfl, hst, F', N', off', S', hJ⟩
  by_cases hlt : i < n
  · refine W.item i _ _ _ hlt hst fun v h₂ tk₂ hPv hst₂ hk₂ => ?_
    have F₂ := fr_but F' hk₂ hLI hI₀
    have N₂ := news_but N' hk₂ off'
    refine wpAny_assign_Name (wpAny_storeName_local hx F₂.ns (fun h₃ hn₃ hs₃ => ?_) hp)
    have F₃ := F₂.set hn₃ hs₃
    have N₃ := N₂.set hs₃
    have hst₃ : St (i + 1) h₃ := W.frame _ _ _ hst₂ fun b hb o e => (hs₃.2 b fun q => by
      rcases List.mem_cons.mp hb with e2 | hb
      · exact hLI (q.symm.trans e2)
      · exact hLd (q.symm.trans (List.mem_singleton.mp hb))).trans e
    obtain ⟨oI', heI⟩ := hIo _ _ hst₃
    have N₄ : News h₀ env.locals h₃ ((I, oI') :: news') := fun p hp => by
      rcases List.mem_cons.mp hp with rfl | hp
      · exact ⟨heI, Ne.symm hLI, hI₀⟩
      · exact N₃ p hp
    have hd3 : h₃.get? d = some od := S'.get F₃ N₃
    refine wpAny_passesOwn hE ?_
    refine wpAny_mono (turn i v m' news' I oI' _ hlt hPv hJ hr.at F₃ N₄ (off1_of off') S') (fun f s₃ q => ?_) fun _ _ e => e
    have finish : (TurnRIn h₀ env.locals I oI' d od (J (i + 1)) ({ s' with heap := h₃, toks := tk₂ + 1 } : Shared) s₃) →
        ∃ k, k < n + 1 - i ∧ ForP h₀ env.locals I d od n St J s₁ k s₃ := by
      rintro ⟨m₂, news₂, hr₂, F₅, N₅, off₅, S₅, J₅⟩
      have N₆ : News h₀ env.locals s₃.heap news₂ := fun p hp => N₅ p (.tail _ hp)
      refine ⟨n + 1 - (i + 1), by omega, i + 1, m₂, news₂, Rst.trans hr ⟨hr₂.1, hr₂.2⟩, hlt, rfl, W.frame _ _ _ hst₃ fun b hb o e => ?_, F₅, N₆, off1_mem off₅, S₅, J₅⟩
      rcases List.mem_cons.mp hb with rfl | hb
      · rw [heI] at e; cases e; exact (N₅ _ (.head _)).1
      · rw [List.mem_singleton.mp hb] at e ⊢; rw [hd3] at e; cases e; exact S₅.get F₅ N₆
    cases f with
    | ret v => exact q
    | brk => exact q
    | cont => exact finish q
    | next => exact finish q
  · have hin : i = n := by omega
    subst hin
    refine W.done _ _ _ hst fun h₂ tk₂ hk₂ => wpAny_execs_nil ?_
    exact fin m' news' _ hr.at hJ (fr_but F' hk₂ hLI hI₀) (news_but N' hk₂ off')
/-- a loop over a dict with texts as keys -/
theorem ForG.dict {d : Addr} {od : Obj} {kvs : List (Str × Value)} {news : List (Addr × Obj)} {s₁ : Shared} {L : Addr} {m : Str → Option Value} (J : (Str → Option Value) → Nat → (Str → Option Value) → List (Addr × Obj) → Prop)
    (hLe : env.locals = L) (hh : A.handled = none) (F : Fr h₀ L s₁.heap m) (N : News h₀ L s₁.heap news) (S : SrcO h₀ d od news) (lo : (d == sysModules) = false) (hd : od.IsDictOf (PySem.strKind prog w) kvs) (h0 : J m 0 m news)
    (turn : ∀ i k t m₁ news I oI (s₂ : Shared), i < kvs.length → (∃ v, kvs[i]? = some (k, v)) → J m i m₁ news → Rst s₁ s₂ → Fr h₀ L s₂.heap (fun y => if y = x then some (.str k t) else m₁ y) → News h₀ L s₂.heap ((I, oI) :: news) → Off1 I news → SrcO h₀ d od news →
      wpAny (model prog w) A (execs body env) (TurnR h₀ L I oI d od (J m (i + 1)) s₂ Q) E s₂)
    (fin : ∀ m₁ news s', Rst s₁ s' → J m kvs.length m₁ news → Fr h₀ L s'.heap m₁ → News h₀ L s'.heap news → Q .next s') :
    ForG prog w A h₀ L env x body Q E (.ref d) s₁ := by
  have hg := S.get F N
  have hm : s₁.heap.DictOf (PySem.strKind prog w) d kvs := Heap.dictOf_iff.mpr ⟨od, hg, hd⟩
  obtain ⟨ep, hat⟩ := hm.dictAt
  have hLd : L ≠ d := fun q => by
    rcases S with e | hm
    · have := F.above; exact absurd (Heap.lt_size e) (by rw [← q]; exact Nat.not_lt.mpr this)
    · exact (N _ hm).2.1 q.symm
  refine ⟨d, od, _, kvs.length, _, _, m, news, J m, hLe, fun _ _ hq => wpAny_pyIter_dict lo hat hq, Walks.dictKeys hh _ d (Nat.ne_of_lt hat.lt_size) kvs ep, ⟨⟨_, Heap.get?_push_size _ rfl, rfl, rfl⟩, hat.push _⟩, (fun i h st => by obtain ⟨o, e, _⟩ := st.1; exact ⟨o, e⟩), hat.lt_size, hLd, F, N, S, h0, ?_, fin⟩
  rintro i v m₁ news I oI s₂ hi ⟨k, u, hk, hv⟩ hJ hr F' N' o1 hS
  obtain ⟨t, rfl⟩ := Value.isStrOf_shape hv
  exact turn i k t m₁ news I oI s₂ hi ⟨u, hk⟩ hJ hr F' N' o1 hS
end
end Mine
end
section -- Tm
open PySem PySem.W PySem.Spec PySem.Calls PyProof.Rows PyProof.V PySem.SeqAt
set_option Elab.async false
set_option maxRecDepth 100000
set_option maxHeartbeats 3200000
set_option linter.unusedVariables false
namespace Mine
section
variable {prog : Program} {w : World} {A : Around} {E : Value → Shared → Prop} {t : Shared}
theorem one_if {env : Env} {c : PySem.Expr} {b : Bool} (h : wpAny (model prog w) A (isTrue c env (eval c env)) (fun ok s₃ => ok = b ∧ Keeps t s₃) E t) :
    wpAny (model prog w) A (forIn [c] true fun c r => if r = true then do let ok ← isTrue c env (eval c env); pure (ForInStep.yield ok) else pure (ForInStep.yield r)) (fun ok s₃ => ok = b ∧ Keeps t s₃) E t := by
  simp only [List.forIn_cons, List.forIn_nil, ↓reduceIte]
  exact wpAny_bind (wpAny_bind (wpAny_mono h (fun ok s' q => wpAny_pure (wpAny_pure q)) fun _ _ e => e))
theorem notnone_if {scope : Scope} {cl : List (Str × Addr)} {C : Addr} {code : Value} {env : Env} {x : Str} {p1 p2 p3 : Pos} {k : Nat} {m₂ : Str → Option Value} {v : Value} {b : Bool}
    (hn : t.heap.Ns C m₂) (hm : m₂ x = some v) (hb : (!(v == .none)) = b) (hk : scope.kind = .function := by rfl) (hl : (genEnv scope cl C code builtinsNs env).kindOf x = some .local := by rfl) (hd : (x == ("__debug__" : Str)) = false := by decide) :
    wpAny (model prog w) A (forIn [PySem.Expr.Compare (.Name x p1) [.IsNot] [.Constant .none k p2] p3] true fun c r => if r = true then do let ok ← isTrue c (genEnv scope cl C code builtinsNs env) (eval c (genEnv scope cl C code builtinsNs env)); pure (ForInStep.yield ok) else pure (ForInStep.yield r)) (fun ok s₃ => ok = b ∧ Keeps t s₃) E t :=
  one_if (wpAny_isTrue_Compare1 (gen_name hn hm (wpAny_Constant_none (isnot_none_gen (wpAny_truthy_bool ⟨hb, keeps_refl⟩))) hk hl hd))
end
/-- the first of two passes -/
theorem first_passes : passing (fun i => i == 0) 2 0 = [0] := by decide +kernel
theorem second_passes : passing (fun i => i == 1) 2 0 = [1] := by decide +kernel
end Mine
end
section -- Tn
open PySem PySem.W PySem.Spec PySem.Calls PyProof.Rows PyProof.V PySem.SeqAt
set_option Elab.async false
set_option maxRecDepth 100000
set_option maxHeartbeats 3200000
set_option linter.unusedVariables false
namespace Mine
open LCg
section
variable {prog : Program} {w : World} {A : Around} {E : Value → Shared → Prop} {s : Shared} {env : Env} {h₀ : Heap} {body : List Stmt} {Q : Flow → Shared → Prop}
/-- a loop over a tuple of the ledger, any target -/
inductive ForT (prog : Program) (w : World) (A : Around) (h₀ : Heap) (L : Addr) (env : Env) (target : PySem.Expr) (body : List Stmt) (Q : Flow → Shared → Prop) (E : Value → Shared → Prop) (xv : Value) (s₁ : Shared) : Prop
  | mk (d : Addr) (od : Obj) (its : Array Value) (k : Nat) (m : Str → Option Value) (news : List (Addr × Obj)) (J : Nat → (Str → Option Value) → List (Addr × Obj) → Prop)
    (q91 : xv = .ref d)
    (q92 : env.locals = L)
    (q93 : A.handled = none)
    (q94 : od.cls = .type "tuple")
    (q95 : od.data = .seq its k)
    (q96 : Fr h₀ L s₁.heap m)
    (q97 : News h₀ L s₁.heap news)
    (q98 : SrcO h₀ d od news)
    (q99 : J 0 m news)
    (q910 : (∀ i v m₁ news I oI (s₂ : Shared), its[i]? = some v → J i m₁ news → Rst s₁ s₂ → Fr h₀ L s₂.heap m₁ → News h₀ L s₂.heap ((I, oI) :: news) → Off1 I news → SrcO h₀ d od news → wpAny (model prog w) A (assign target env v) (fun _ s₃ => wpAny (model prog w) A (execs body env) (TurnR h₀ L I oI d od (J (i + 1)) s₂ Q) E s₃) E s₂))
    (q911 : (∀ m₁ news s', Rst s₁ s' → J its.size m₁ news → Fr h₀ L s'.heap m₁ → News h₀ L s'.heap news → Q .next s')) : ForT prog w A h₀ L env target body Q E xv s₁
theorem for_T {target iter : PySem.Expr} {pos : Pos} (L : Addr)
    (h : wpAny (model prog w) A (eval iter env) (ForT prog w A h₀ L env target body Q E) E s)
    (hs : ∀ x, foldedSetIterable iter env x = pure x := by intro _; rfl)
    (hE : PassesOwn (model prog w) A env E := by passes_own) :
    wpAny (model prog w) A (exec (.For target iter body [] pos) env) Q E s := by
  refine wpAny_For (wpAny_mono h (fun xv s₁ h₁ => ?_) fun _ _ e => e) hs
  obtain ⟨d, od, its, k, m, news, J, rfl, hLe, hh, hc, hdd, F, N, S, h0, turn, fin⟩ := h₁
  subst hLe
  have hg := S.get F N
  have ht : s₁.heap.IsTuple d its := ⟨od, hg, hc, k, hdd⟩
  have hd : d < s₁.heap.objs.size := Heap.lt_size hg
  have hLd : env.locals ≠ d := fun q => by
    rcases S with e | hm
    · have := F.above; exact absurd (Heap.lt_size e) (by rw [← q]; exact Nat.not_lt.mpr this)
    · exact (N _ hm).2.1 q.symm
  refine wpAny_pyIter_tuple ht ?_
  have up : ∀ (o' : Obj) b o, s₁.heap.get? b = some o → (s₁.heap.push o').get? b = some o := fun o' b o e => Heap.get?_push_of_some _ e
  have W := Walks.tuple (prog := prog) (w := w) hh s₁.heap.objs.size d (Nat.ne_of_lt hd) its
  have ei : ({ cls := .type "tuple_iterator", data := .fields #[.ref d, .int 0 0] } : Obj).cls = .type "tuple_iterator" := rfl
  have ej : ({ cls := .type "tuple_iterator", data := .fields #[.ref d, .int 0 0] } : Obj).data = .fields #[.ref d, .int 0 0] := rfl
  have ek : ({ cls := .type "tuple_iterator", data := .fields #[.ref d, .int 0 0] } : Obj).isFreed = false := rfl
  generalize ({ cls := .type "tuple_iterator", data := .fields #[.ref d, .int 0 0] } : Obj) = oI0 at ei ej ek ⊢
  have st : s₁.heap.push oI0 |>.IsTupleIter s₁.heap.objs.size d 0 := ⟨_, Heap.get?_push_size _ ek, ei, ej⟩
  have st2 : (s₁.heap.push oI0).IsTuple d its := ht.at fun o e => up _ _ _ e
  have FP := F.keeps (up oI0)
  have NP := N.grown (up oI0)
  generalize hI : s₁.heap.objs.size = I at W st hd ⊢
  have hLI : env.locals ≠ I := by rw [← hI]; exact Nat.ne_of_lt F.ns.lt
  have hI₀ : h₀.get? I = none := by rw [← hI]; exact next_is_new F
  have hdI : d ≠ I := Nat.ne_of_lt hd
  have off0 : ∀ p ∈ news, p.1 ≠ I := fun p hp => by rw [← hI]; exact Nat.ne_of_lt (Heap.lt_size (N p hp).1)
  refine codeAny_forLoop_any
    (ForP h₀ env.locals I d od its.size (fun i h => h.IsTupleIter I d i ∧ h.IsTuple d its) J s₁) ?_ (its.size + 1)
    ⟨0, m, news, ⟨rfl, fun h => h⟩, Nat.zero_le _, rfl, ⟨st, st2⟩, FP, NP, off0, S, h0⟩
  rintro k s' ⟨i, m', news', hr, hi, rfl, hst, F', N', off', S', hJ⟩
  by_cases hlt : i < its.size
  · refine W.item i _ _ _ hlt hst fun v h₂ tk₂ hPv hst₂ hk₂ => ?_
    have F₂ := fr_but F' hk₂ hLI hI₀
    have N₂ := news_but N' hk₂ off'
    refine letGo_tupleiter (s' := { s' with heap := h₂, toks := tk₂ }) hst₂.1 ?_
    obtain ⟨oI', heI, _⟩ := id hst₂.1
    have N₄ : News h₀ env.locals h₂ ((I, oI') :: news') := fun p hp => by
      rcases List.mem_cons.mp hp with rfl | hp
      · exact ⟨heI, Ne.symm hLI, hI₀⟩
      · exact N₂ p hp
    have hd3 : h₂.get? d = some od := S'.get F₂ N₂
    refine wpAny_passesOwn hE ?_
    refine wpAny_mono (turn i v m' news' I oI' _ hPv hJ hr.at F₂ N₄ (off1_of off') S') (fun _ s₃ q => wpAny_passesOwn hE (wpAny_mono q (fun f s₄ q => ?_) fun _ _ e => e)) fun _ _ e => e
    have finish : (TurnRIn h₀ env.locals I oI' d od (J (i + 1)) ({ s' with heap := h₂, toks := tk₂ } : Shared) s₄) →
        ∃ k, k < its.size + 1 - i ∧ ForP h₀ env.locals I d od its.size (fun i h => h.IsTupleIter I d i ∧ h.IsTuple d its) J s₁ k s₄ := by
      rintro ⟨m₂, news₂, hr₂, F₅, N₅, off₅, S₅, J₅⟩
      have N₆ : News h₀ env.locals s₄.heap news₂ := fun p hp => N₅ p (.tail _ hp)
      refine ⟨its.size + 1 - (i + 1), by omega, i + 1, m₂, news₂, Rst.trans hr ⟨hr₂.1, hr₂.2⟩, hlt, rfl, ⟨hst₂.1.at fun o e => ?_, hst₂.2.at fun o e => ?_⟩, F₅, N₆, off1_mem off₅, S₅, J₅⟩
      · rw [heI] at e; cases e; exact (N₅ _ (.head _)).1
      · rw [hd3] at e; cases e; exact S₅.get F₅ N₆
    cases f with
    | ret v => exact q
    | brk => exact q
    | cont => exact finish q
    | next => exact finish q
  · have hin : i = its.size := by omega
    subst hin
    refine W.done _ _ _ hst fun h₂ tk₂ hk₂ => wpAny_execs_nil ?_
    exact fin m' news' _ hr.at hJ (fr_but F' hk₂ hLI hI₀) (news_but N' hk₂ off')
end
/-- a name of the frame, written out -/
theorem putBack {m : Str → Option Value} {a : Str} {v : Value} (h : m a = some v) : (fun z => if z = a then some v else m z) = m := funext fun z => by
  by_cases e : z = a
  · subst e; simp [h]
  · simp [e]
theorem putBack2 {m : Str → Option Value} {a b : Str} {va vb : Value} (ha : m a = some va) (hb : m b = some vb) :
    (fun z => if z = a then some va else if z = b then some vb else m z) = m := funext fun z => by
  by_cases e1 : z = a
  · subst e1; simp [ha]
  · by_cases e2 : z = b
    · subst e2; simp [e1, hb]
    · simp [e1, e2]
theorem putBack3 {m : Str → Option Value} {a b c : Str} {va vb vc : Value} (ha : m a = some va) (hb : m b = some vb) (hc : m c = some vc) :
    (fun z => if z = a then some va else if z = b then some vb else if z = c then some vc else m z) = m := funext fun z => by
  by_cases e1 : z = a
  · subst e1; simp [ha]
  · by_cases e2 : z = b
    · subst e2; simp [e1, hb]
    · by_cases e3 : z = c
      · subst e3; simp [e1, e2, hc]
      · simp [e1, e2, e3]
theorem putBack4 {m : Str → Option Value} {a b c d : Str} {va vb vc vd : Value} (ha : m a = some va) (hb : m b = some vb) (hc : m c = some vc) (hd : m d = some vd) :
    (fun z => if z = a then some va else if z = b then some vb else if z = c then some vc else if z = d then some vd else m z) = m := funext fun z => by
  by_cases e1 : z = a
  · subst e1; simp [ha]
  · by_cases e2 : z = b
    · subst e2; simp [e1, hb]
    · by_cases e3 : z = c
      · subst e3; simp [e1, e2, hc]
      · by_cases e4 : z = d
        · subst e4; simp [e1, e2, e3, hd]
        · simp [e1, e2, e3, e4]
theorem agree_of {ts : List Str} {m m' : Str → Option Value} (e : m' = m) : Agree ts m' m := e ▸ Agree.refl
theorem sub_front {a : Addr × Obj} {A r x y t1 : List (Addr × Obj)} (h : r ++ x = t1) : ∀ p ∈ A ++ (r ++ (x ++ y)), p ∈ a :: (A ++ (t1 ++ y)) := by
  intro p hp
  rw [← h]
  simp only [List.mem_append, List.mem_cons] at hp ⊢
  rcases hp with h | h | h | h <;> simp only [h, true_or, or_true]
theorem ad_two {A r x y t1 : List (Addr × Obj)} (h : r ++ x = t1) : ∀ b ∈ (A ++ r).map (·.1), b ∈ (A ++ t1).map (·.1) := by
  intro b hb
  rw [← h, ← List.append_assoc, List.map_append]
  exact List.mem_append_left _ hb
theorem fr_conv {g h : Heap} {L : Addr} {m m' : Str → Option Value} (F : Fr g L h m) (e : m = m') : Fr g L h m' := e ▸ F
theorem turn_back {fs : List Addr} {g g' : Heap} (T : KtsTurn fs g g') {b : Addr} (h : g'.get? b = none) : g.get? b = none := by
  cases e : g.get? b with
  | none => rfl
  | some o =>
    by_cases hb : b ∈ fs
    · obtain ⟨sl, e2⟩ := T.frame b o e hb
      rw [h] at e2; cases e2
    · have e2 := T.other b o e hb
      rw [h] at e2; cases e2
/-- back in the caller: its ground turned as the callee's did -/
theorem back_turn {fs : List Addr} {g4 g5 g5' h' : Heap} {L' L₂ : Addr} {m' m₂ : Str → Option Value} (D : KtsDicts fs g4) (FG : Fr g4 L' g5 m') (T : KtsTurn (L' :: fs) g5 g5') (F : Fr g5' L₂ h' m₂) :
    ∃ g4', KtsTurn fs g4 g4' ∧ Fr g4' L' h' m' ∧ ∀ l, News g5' L₂ h' l → News g4' L' h' l := by
  have nL := kts_self FG
  obtain ⟨tn, ke⟩ := kts_turn_at (fs := fs) (g := g4) (h := h') (fun b hb => let ⟨o, _, _, e, _⟩ := D b hb; ⟨o, e⟩)
    (fun b o e n => F.keep b o (T.other b o (FG.keep b o e) (fun q => (List.mem_cons.mp q).elim (fun q => by rw [q, nL] at e; cases e) n)))
    (fun b o e n => by obtain ⟨sl, e2⟩ := T.frame b o (FG.keep b o e) (.tail _ n); exact ⟨sl, F.keep _ _ e2⟩)
  obtain ⟨oL, es, ep, e1, r1, r2⟩ := FG.ns
  obtain ⟨sl, e2⟩ := T.frame L' oL e1 (.head _)
  refine ⟨_, tn, ⟨⟨_, es, ep, F.keep _ _ e2, r1, r2⟩, ke, by rw [tn.size]; exact FG.above⟩, fun l N p hp => ?_⟩
  have ⟨a, b, c⟩ := N p hp
  have c5 := turn_back T c
  refine ⟨a, (fun q => by rw [q, e1] at c5; cases c5), tn.none_ _ ?_⟩
  cases e : g4.get? p.1 with
  | none => rfl
  | some o => rw [FG.keep _ _ e] at c5; cases c5
theorem back_frame2 {g g4 g' h h' : Heap} {L L' L₂ : Addr} {m m' : Str → Option Value} {l : List (Addr × Obj)} (F : Fr g L h m) (N : News g L h l) (G : Grd h g4 L' (l.map (·.1))) (T : KtsTurn [L] g4 g') (F' : Fr g' L₂ h' m') :
    Fr g L h' m ∧ ∀ l2, News g' L₂ h' l2 → News g L h' l2 := by
  have nl : ∀ b o, h.get? b = some o → b ∉ l.map (·.1) → g4.get? b = some o := G.keep
  obtain ⟨oL, es, ep, e1, r1, r2⟩ := F.ns
  have h4 := nl L oL e1 (fun q => by
    obtain ⟨p, hp, e⟩ := List.mem_map.mp q
    exact (N p hp).2.1 e)
  have old : ∀ b o, g.get? b = some o → g4.get? b = some o := fun b o e => nl b o (F.keep b o e) fun q => by
    obtain ⟨p, hp, e'⟩ := List.mem_map.mp q
    have := (N p hp).2.2
    rw [e', e] at this; cases this
  obtain ⟨sl, e2⟩ := T.frame L oL h4 (.head _)
  refine ⟨⟨⟨_, es, ep, F'.keep _ _ e2, r1, r2⟩, fun b o e => ?_, F.above⟩, fun l2 N' p hp => ?_⟩
  · have n2 : b ∉ [L] := fun q => by
      have q := List.mem_singleton.mp q
      have := kts_self F
      rw [← q, e] at this; cases this
    exact F'.keep _ _ (T.other b o (old b o e) n2)
  · have ⟨a, b, c⟩ := N' p hp
    have c4 := turn_back T c
    refine ⟨a, (fun q => by rw [q, h4] at c4; cases c4), ?_⟩
    cases e : g.get? p.1 with
    | none => rfl
    | some o => rw [old _ _ e] at c4; cases c4
theorem dicts_cons {g h : Heap} {L : Addr} {m : Str → Option Value} {fs : List Addr} (F : Fr g L h m) (D : KtsDicts fs g) : KtsDicts (L :: fs) h := fun b hb => by
  rcases List.mem_cons.mp hb with rfl | hb
  · obtain ⟨oL, es, ep, e1, r1, r2⟩ := F.ns
    exact ⟨oL, _, _, e1, r1⟩
  · obtain ⟨o, es, n, e, d⟩ := D b hb
    exact ⟨o, es, n, F.keep _ _ e, d⟩
section
variable {prog : Program} {w : World} {A A₀ : Around} {s : Shared} {K : Frag} {L : Addr} {h₀ base : Heap} {m mg mb : Str → Option Value} {news : List (Addr × Obj)} {p : Program} {loose : List Str} {mean : ExcName → Option Value}
/-- a lambda of the ledger is entered; its ground may turn -/
theorem enterLam {env : Env} {outer : List Env} {R : Result → Shared → Prop} {name qual : Str} {params : Arguments} {body : PySem.Expr} {scope : Scope} {cl : List (Str × Addr)} {pm ctv : Value} {c' : Addr} {f : Addr} {args : Args} {binds : List (Str × Value)}
    (hA : A.frames = some (env :: outer)) (hf : env.frame = some L) (hke : env.scope.kind = .function) (F : Fr h₀ L s.heap m) (B : Below A₀ base outer h₀) (X : K.In h₀) (N : News h₀ L s.heap news) (T : Top p loose mean mg mb h₀) (D : KtsDicts (frs outer) h₀)
    (ho : (f, kla_obj name qual params body scope cl pm c' ctv) ∈ news) (hcd : s.heap.CodeRec (.ref c') qual) (hroom : A.depth < recursionLimit)
    (hbind : bindArgs (kla_fn name qual params body scope cl pm (.ref c') ctv) args = pure binds) (hsc : enterOk scope binds = true)
    (h : ∀ g L' h₁ (tk' : Nat), let m' : Str → Option Value := fun y => binds.reverse.lookup y; let eK := envX qual scope L' f (.ref c') cl; let aK := A.deeper eK; let gK := s.gens; let dK := s.drawn; let oK := s.os;
      Fr h₀ L g m → Fr g L' h₁ m' → News g L' h₁ news → Below A base (env :: outer) g → K.In g → Top p loose mean mg mb g → KtsDicts (frs (env :: outer)) g →
      wpAny (model prog w) aK (eval body eK)
        (fun v s' => R (.ok (.ret v)) s')
        (fun e s' => wpAny (model prog w) aK (leaving eK e) (fun _ s'' => R (.error e) s'') (fun e' s'' => R (.error e') s'') s')
        ⟨h₁, gK, dK, tk', oK⟩)
    : codeAny (model prog w) A (.call (.ref f) args) R s := by
  obtain ⟨FG, BG, st, lv⟩ := groundX (R := R) B F N hA hf hke
  refine kla_callFunE hroom (N _ ho).1 rfl (eOk hsc).2.2.1 (eOk hsc).2.2.2.1 rfl hcd ?_
  rw [hbind]
  refine wpAny_pure (wpAny_newFunctionEnv (eOk hsc).1 (eOk hsc).2.1 (fun h₁ hns hsb => ⟨((T.nolimit).keeps F.keep).fresh _ hsb, ?_⟩) (eOk hsc).2.2.2.2)
  show codeAny _ _ (.expr body (envX qual scope s.heap.objs.size f (.ref c') cl)) _ _
  have hk₁ : ∀ b o, s.heap.get? b = some o → h₁.get? b = some o := fun b o e => hsb.extBut b o (Nat.ne_of_lt (Heap.lt_size e)) (Heap.get?_push_of_some _ e)
  refine kla_codeExpr (h _ s.heap.objs.size h₁ _ FG ⟨hns, fun b o e => hk₁ b o (of_hideAll _ e), Nat.le_of_eq (hideAll_size _ _)⟩
    (fun p hp => ⟨hk₁ _ _ (N p hp).1, Nat.ne_of_lt (Heap.lt_size (N p hp).1), hideAll_none _ (List.mem_map_of_mem hp)⟩) BG (X.keeps st) (T.keeps st) ?_)
  rw [show frs (env :: outer) = L :: frs outer by simp [frs, hf]]
  exact dicts_cons FG D
end
end Mine
end
section -- To
open PySem PySem.W PySem.Spec PySem.Calls PyProof.Rows PyProof.V PySem.SeqAt
set_option Elab.async false
set_option maxRecDepth 100000
set_option maxHeartbeats 3200000
set_option linter.unusedVariables false
namespace Mine
/-- a generator expression whose source may be folded -/
theorem gen_makeF {M : Model} {A : Around} {E : Value → Shared → Prop} {s : Shared} {env : Env} {elt target iter : PySem.Expr} {ifs : List PySem.Expr} {scope : Scope} {cl : List (Str × Addr)} {pos : Pos} {Q : Value → Shared → Prop}
    (hco : scope.isCoroutine = false) (hclos : closureFor scope env = pure cl) (hcell : ∀ y ∈ scope.names, y.2 ≠ .cell) (h0 : scope.names.lookup (".0" : Str) = some NameKind.local) (hkind : scope.kind = .function) (hroom : A.depth < recursionLimit)
    (h : wpAny M A (eval iter env) (fun xv s₁ => wpAny M A (genFold iter env xv) (fun yv s₁' => wpAny M A (pyIter yv) (fun it s₂ => s₂.heap.NoLimit ∧
      wpAny M A (genexprCode env pos (env.qual ++ "<genexpr>") scope) (fun code s₃ => wpAny M A (builtinsFor env.globals env.builtins) (fun bi s₄ =>
        ∀ h', h'.Ns s₄.heap.objs.size (fun y => if y = ".0" then some it else none) → Heap.SameBut s₄.heap.objs.size (s₄.heap.push { cls := .type "frame", data := .dict #[] }) h' →
          Q (.ref h'.objs.size) { s₄ with
            gens := s₄.gens.push (.fresh (.compStart (.GeneratorExp elt [⟨target, iter, ifs, 0⟩] scope pos) 0 it .none (genEnv scope cl s₄.heap.objs.size code bi env))),
            toks := s₄.toks + 1 + 1 + 1,
            heap := h'.push { cls := .type "generator", data := .fields #[.int s₄.gens.size 0, .str "<genexpr>" (s₄.toks + 1), .str (env.qual ++ "<genexpr>") (s₄.toks + 1 + 1)] } }) E s₃) E s₂) E s₁') E s₁) E s) :
    wpAny M A (eval (.GeneratorExp elt [⟨target, iter, ifs, 0⟩] scope pos) env) Q E s := by
  rw [eval_GeneratorExp1 _ _ _ _ _ _ _ hco, hclos]
  refine wpAny_bind (wpAny_mono h (fun xv s₁ h₁ => wpAny_bind (wpAny_standAt (wpAny_bind (wpAny_mono h₁ (fun yv s₁' h₁' => wpAny_bind (wpAny_holding (wpAny_mono h₁' (fun it s₂ h₂ => ?_) fun _ _ e => e))) fun _ _ e => e)))) fun _ _ e => e)
  refine wpAny_bind (wpAny_enterFrame h₂.1 hroom (wpAny_bind (wpAny_pure (wpAny_bind (wpAny_mono h₂.2 (fun code s₃ h₃ => wpAny_bind (wpAny_mono h₃ (fun bi s₄ h₄ => ?_) fun _ _ e => e)) fun _ _ e => e)))))
  refine wpAny_bind (wpAny_newFunctionEnv hcell (fun y hy => by rw [List.mem_singleton.mp hy]; exact h0) (fun h' hn' hs' => ?_) hkind)
  have hn2 : h'.Ns s₄.heap.objs.size (fun y => if y = ".0" then some it else none) := by
    refine cast (congrArg (h'.Ns s₄.heap.objs.size) ?_) hn'
    funext y
    rw [List.reverse_singleton, List.lookup_cons]
    by_cases hy : y = ".0"
    · rw [if_pos hy, hy]; rfl
    · rw [if_neg hy, show (y == (".0" : Str)) = false by simpa using hy]; rfl
  simp only [newGenerator, newFields]
  exact wpAny_bind (wpAny_newGen (wpAny_bind (wpAny_mkText (wpAny_bind (wpAny_mkText (wpAny_newObj_type (h₄ h' hn2 hs') (by size_fits)))))))
section
variable {prog : Program} {w : World} {A : Around} {E : Value → Shared → Prop} {s : Shared} {h₀ : Heap} {c P : Addr} {mg : Str → Option Value} {bm : Addr} {ob : Obj}
/-- what a generator's source is, once it is folded -/
inductive FoldSrc (prog : Program) (w : World) (A : Around) (h₀ : Heap) (c P : Addr) (env : Env) (elt : PySem.Expr) (x : Str) (ifs : List PySem.Expr) (scope : Scope) (cl : List (Str × Addr)) (Q : Value → Shared → Prop) (yv : Value) (s₁ : Shared) : Prop
  | mk (l : Addr) (its ps : Array Value) (pz : Nat → Bool) (Fv : Nat → Value → Prop) (oI : Obj) (St : Nat → Heap → Prop)
    (q91 : (∀ (E : Value → Shared → Prop) (Q : Value → Shared → Prop), Q (.ref s₁.heap.objs.size) { s₁ with heap := s₁.heap.push oI } → wpAny (model prog w) A (pyIter yv) Q E s₁))
    (q92 : (∀ A' : Around, A'.handled = none → Walks prog w A' s₁.heap.objs.size [s₁.heap.objs.size, l] [s₁.heap.objs.size] its.size (fun i v => its[i]? = some v) St))
    (q93 : (∀ h, (∀ b o, b ≠ P → (s₁.heap.push oI).get? b = some o → h.get? b = some o) → St 0 h))
    (q94 : oI.isFreed = false)
    (q95 : l < s₁.heap.objs.size)
    (q96 : CodeT s₁.heap c P ps)
    (q97 : (∀ b o, h₀.get? b = some o → s₁.heap.get? b = some o))
    (q98 : (∀ (code : Value) (C : Addr) (A' : Around) E' i v (t : Shared) m₂, A'.handled = none → its[i]? = some v → t.heap.Ns C m₂ → m₂ x = some v → wpAny (model prog w) A' (forIn ifs true fun c r => if r = true then do let ok ← isTrue c (genEnv scope cl C code builtinsNs env) (eval c (genEnv scope cl C code builtinsNs env)); pure (ForInStep.yield ok) else pure (ForInStep.yield r)) (fun ok s₃ => ok = pz i ∧ Keeps t s₃) E' t))
    (q99 : (∀ (code : Value) (C : Addr) (A' : Around) E' i v (t : Shared) m₂, A'.handled = none → its[i]? = some v → pz i = true → t.heap.Ns C m₂ → m₂ x = some v → wpAny (model prog w) A' (eval elt (genEnv scope cl C code builtinsNs env)) (fun y s₃ => Fv i y ∧ Keeps t s₃) E' t))
    (q910 : (∀ (a : Addr) (s₅ : Shared) (ps' : Array Value), CodeT s₅.heap c P ps' → (∀ b o, b ≠ P → s₁.heap.get? b = some o → s₅.heap.get? b = some o) → Rst s₁ s₅ → Gen prog w A (s₁.heap.objs.size - 1) a (passing pz its.size 0).length (fun j y => ∃ i, (passing pz its.size 0)[j]? = some i ∧ Fv i y) s₅ → Q (.ref a) s₅)) : FoldSrc prog w A h₀ c P env elt x ifs scope cl Q yv s₁
theorem gen_evalF {env : Env} {elt iter : PySem.Expr} {x : Str} {px : Pos} {ifs : List PySem.Expr} {scope : Scope} {cl : List (Str × Addr)} {pos : Pos} {Q : Value → Shared → Prop}
    (M : BMod h₀ env.globals mg bm ob) (hlim : h₀.NoLimit) (hP : h₀.get? P = none) (hcode : env.code = .ref c)
    (hh : A.handled = none) (hco : scope.isCoroutine = false) (hclos : closureFor scope env = pure cl) (hcell : ∀ y ∈ scope.names, y.2 ≠ .cell) (h0 : scope.names.lookup (".0" : Str) = some NameKind.local)
    (hx : scope.names.lookup x = some .local) (hkind : scope.kind = .function) (hroom : A.depth < recursionLimit)
    (h : wpAny (model prog w) A (eval iter env) (fun xv s₀ => wpAny (model prog w) A (genFold iter env xv) (FoldSrc prog w A h₀ c P env elt x ifs scope cl Q) E s₀) E s) :
    wpAny (model prog w) A (eval (.GeneratorExp elt [⟨.Name x px, iter, ifs, 0⟩] scope pos) env) Q E s := by
  refine gen_makeF hco hclos hcell h0 hkind hroom (wpAny_mono h (fun xv s₀ hx0 => wpAny_mono hx0 (fun yv s₁ h₁' => ?_) fun _ _ e => e) fun _ _ e => e)
  obtain ⟨l, its, ps, pz, Fv, oI, St, hit, W, hst, hfI, hlt, hC, hk, hq1, hq2, hQ⟩ := h₁'
  refine hit _ _ ?_
  have hPlt : P < s₁.heap.objs.size := Heap.lt_size hC.2.2
  have hI : (s₁.heap.push oI).get? s₁.heap.objs.size = some oI := Heap.get?_push_size _ hfI
  have hk2 : ∀ b o, h₀.get? b = some o → (s₁.heap.push oI).get? b = some o := fun b o e => Heap.get?_push_of_some _ (hk b o e)
  refine ⟨hlim.keeps hk2, genCode hcode (hC.keeps fun _ _ e => Heap.get?_push_of_some _ e) fun code h₃ tk₃ ps' hx₃ hC₃ => ?_⟩
  have neP : ∀ b o, h₀.get? b = some o → b ≠ P := fun b o e q => by rw [q, hP] at e; cases e
  have k3 : ∀ b o, h₀.get? b = some o → h₃.get? b = some o := fun b o e => hx₃ b o (neP b o e) (hk2 b o e)
  have M₃ := M.keeps k3
  have hl₃ := hlim.keeps k3
  have hIP : s₁.heap.objs.size ≠ P := Nat.ne_of_gt hPlt
  have hIlt : s₁.heap.objs.size < h₃.objs.size := Heap.lt_size (hx₃ _ _ hIP hI)
  have hcI : cStatics < s₁.heap.objs.size := let ⟨_, hn, _⟩ := hlim.keeps hk; hn.lt
  have hst₃ : St 0 h₃ := hst h₃ fun b o hb e => hx₃ b o hb e
  refine wpAny_builtinsFor M₃.ns M₃.name M₃.ne M₃.obj M₃.cls M₃.dict M₃.data ?_
  intro h' hn' hs'
  have hsz : h'.objs.size = h₃.objs.size + 1 := by rw [hs'.1, Heap.size_push]
  have keep' : ∀ b o, h₃.get? b = some o → h'.get? b = some o := fun b o e => hs'.extBut b o (Nat.ne_of_lt (Heap.lt_size e)) (Heap.get?_push_of_some _ e)
  have keep₅ : ∀ oG b o, h₃.get? b = some o → (h'.push oG).get? b = some o := fun oG b o e => Heap.get?_push_of_some _ (keep' b o e)
  have hclt : cStatics < h₃.objs.size := let ⟨_, hn, _⟩ := hl₃; hn.lt
  have inR : ∀ b ∈ [s₁.heap.objs.size, l], b ∈ List.range h₃.objs.size := fun b hb => List.mem_range.mpr (by
    rcases List.mem_cons.mp hb with rfl | hb
    · exact hIlt
    · rw [List.mem_singleton.mp hb]; exact Nat.lt_trans hlt hIlt)
  have hsub : ∀ b ∈ [s₁.heap.objs.size], b ∈ List.range h₃.objs.size := fun b hb => by rw [List.mem_singleton.mp hb]; exact inR _ (.head _)
  have haC : h'.objs.size ≠ h₃.objs.size := by rw [hsz]; exact Nat.succ_ne_self _
  have haf : h'.objs.size ∉ List.range h₃.objs.size := fun hm => by have := List.mem_range.mp hm; omega
  have hag : h₃.objs.size < h'.objs.size := by omega
  have hcw : cStatics ∉ [s₁.heap.objs.size] := fun hm => absurd (List.mem_singleton.mp hm) (Nat.ne_of_lt hcI)
  refine hQ _ _ ps' (hC₃.keeps (keep₅ _)) (fun b o hb e => keep₅ _ b o (hx₃ b o hb (Heap.get?_push_of_some _ e))) ⟨rfl, fun h => h.push rfl⟩
    ⟨_, _, _, _, WalksS.genexpQ (A := A.in4) hh _ _ _ _ [s₁.heap.objs.size] pz its.size Fv haC haf hsub hroom (List.mem_range.mpr hclt) (Nat.ne_of_lt hclt) hcw,
      GenAt.fresh (A := A.in4) (cenv := genEnv scope cl h₃.objs.size code builtinsNs env) (m := fun y => if y = ".0" then some (.ref s₁.heap.objs.size) else none) hh
        (fun A' hA => (W A' hA).mono_fp inR) pz Fv hx (by simp [genEnv, hkind]) hco (fun hm => Nat.lt_irrefl _ (List.mem_range.mp hm)) ⟨fun A' E' i v t m₂ hA hPi hn hm _ => hq1 code _ A' E' i v t m₂ hA hPi hn hm, fun A' E' i v t m₂ hA hPi hp hn hm _ => hq2 code _ A' E' i v t m₂ hA hPi hp hn hm⟩
        ⟨_, _, _, Heap.get?_push_size _ rfl, rfl, rfl, rfl⟩ (Array.getElem?_push_size ..) (hst _ fun b o hb e => keep₅ _ b o (hx₃ b o hb e)) (hn'.push _) (hl₃.keeps (keep₅ _)),
      (fun i s' st => st.1.typeIs), List.mem_cons_self, ?_, ?_⟩
  · intro b hb
    show b < (h'.push _).objs.size
    rw [Heap.size_push]
    rcases List.mem_cons.mp hb with rfl | hb
    · exact Nat.lt_succ_self _
    · rcases List.mem_cons.mp hb with rfl | hb
      · exact Nat.lt_succ_of_lt hag
      · exact Nat.lt_succ_of_lt (Nat.lt_trans (List.mem_range.mp hb) hag)
  · intro b hb
    rcases List.mem_cons.mp hb with rfl | hb
    · exact Nat.lt_of_le_of_lt (Nat.sub_le _ _) hIlt
    · rw [List.mem_singleton.mp hb]; exact Nat.sub_lt (Nat.lt_of_le_of_lt (Nat.zero_le _) hlt) (by decide)
end
section
variable {prog : Program} {w : World} {A : Around} {E : Value → Shared → Prop} {s : Shared} {h₀ : Heap} {c P L : Addr} {m mg mb : Str → Option Value} {p : Program} {loose : List Str} {mean : ExcName → Option Value}
theorem foldList {elts : List PySem.Expr} (he : (elts.any fun | .Starred .. => true | _ => false) = false) {pos : Pos} {l : Addr} {its : Array Value} {env : Env} {Q : Value → Shared → Prop} (hl : s.heap.IsList l its) (hz : its.size ≤ 1000)
    (hq1 : Q (.ref l) s) (hq2 : Q (.ref s.heap.objs.size) { s with heap := s.heap.push { cls := .type "tuple", data := .seq its.toList.toArray } }) : wpAny (model prog w) A (genFold (.List elts pos) env (.ref l)) Q E s := by
  unfold genFold
  dsimp only
  unfold foldedIterable
  refine wpAny_bind (wpAny_askSetting ?_)
  dsimp only
  by_cases hf : (model prog w).w.params.followText "for-iterable-display-folded" = true
  · rw [if_pos hf]; exact wpAny_pure hq1
  · obtain ⟨o, ho, hc, n, hd⟩ := hl
    rw [if_neg hf]
    split
    · rename_i hh
      exact Bool.noConfusion (he.symm.trans hh)
    refine wpAny_bind (wpAny_rule (wpAny_bind (wpAny_seqItems ho hd ?_)))
    exact wpAny_newTuple hq2 (by show its.toList.length ≤ sizeLine; rw [sizeLine_eq, Array.length_toList]; omega)
/-- the source of a generator expression over a list display -/
inductive GenSrc (prog : Program) (w : World) (h₀ : Heap) (P L : Addr) (m : Str → Option Value) (A : Around) (env : Env) (elt : PySem.Expr) (x : Str) (ifs : List PySem.Expr) (scope : Scope) (cl : List (Str × Addr)) (Q : Value → Shared → Prop) (xv : Value) (s : Shared) : Prop
  | mk (l : Addr) (its : Array Value) (nl : Nat) (news : List (Addr × Obj)) (oP : Obj) (upd : Obj → List (Addr × Obj)) (pz : Nat → Bool) (Fv : Nat → Value → Prop)
    (q91 : xv = .ref l)
    (q92 : Fr h₀ L s.heap m)
    (q93 : News h₀ L s.heap news)
    (q94 : UpdF P oP news upd)
    (q95 : TabOk oP)
    (q96 : (l, W.listOf its nl) ∈ news)
    (q97 : its.size ≤ 1000)
    (q98 : (∀ (code : Value) (C : Addr) (A' : Around) E' i v (t : Shared) m₂, A'.handled = none → its[i]? = some v → t.heap.Ns C m₂ → m₂ x = some v → wpAny (model prog w) A' (forIn ifs true fun c r => if r = true then do let ok ← isTrue c (genEnv scope cl C code builtinsNs env) (eval c (genEnv scope cl C code builtinsNs env)); pure (ForInStep.yield ok) else pure (ForInStep.yield r)) (fun ok s₃ => ok = pz i ∧ Keeps t s₃) E' t))
    (q99 : (∀ (code : Value) (C : Addr) (A' : Around) E' i v (t : Shared) m₂, A'.handled = none → its[i]? = some v → pz i = true → t.heap.Ns C m₂ → m₂ x = some v → wpAny (model prog w) A' (eval elt (genEnv scope cl C code builtinsNs env)) (fun y s₃ => Fv i y ∧ Keeps t s₃) E' t))
    (q910 : (∀ (a : Addr) (s₅ : Shared) (oP' : Obj) (K : Addr), Fr h₀ L s₅.heap m → News h₀ L s₅.heap (upd oP') → TabOk oP' → Rst s s₅ → Gen prog w A K a (passing pz its.size 0).length (fun j y => ∃ i, (passing pz its.size 0)[j]? = some i ∧ Fv i y) s₅ → GenBack h₀ L m (upd oP') K s₅ → Q (.ref a) s₅)) : GenSrc prog w h₀ P L m A env elt x ifs scope cl Q xv s
theorem gen_KL {env : Env} {elt : PySem.Expr} {elts : List PySem.Expr} {x : Str} {px posL : Pos} {ifs : List PySem.Expr} {scope : Scope} {cl : List (Str × Addr)} {pos : Pos} {Q : Value → Shared → Prop} {news0 : List (Addr × Obj)} {oP0 : Obj}
    (N0 : News h₀ L s.heap news0) (hm0 : (P, oP0) ∈ news0) (T : Top p loose mean mg mb h₀) (C : CodeHd h₀ c P)
    (hglob : env.globals = mainGlobals) (hcode : env.code = .ref c) (he : (elts.any fun | .Starred .. => true | _ => false) = false)
    (hh : A.handled = none) (hco : scope.isCoroutine = false) (hclos : closureFor scope env = pure cl) (hcell : ∀ y ∈ scope.names, y.2 ≠ .cell) (h0 : scope.names.lookup (".0" : Str) = some NameKind.local)
    (hx : scope.names.lookup x = some .local) (hkind : scope.kind = .function) (hroom : A.depth < recursionLimit)
    (h : wpAny (model prog w) A (eval (.List elts posL) env) (GenSrc prog w h₀ P L m A env elt x ifs scope cl Q) E s) :
    wpAny (model prog w) A (eval (.GeneratorExp elt [⟨.Name x px, .List elts posL, ifs, 0⟩] scope pos) env) Q E s := by
  obtain ⟨bm, ob, b1, b2, b3, b4, b5, b6⟩ := T.bmain
  have M : BMod h₀ env.globals mg bm ob := hglob ▸ ⟨T.g, b1, b2, b3, b4, b5, b6⟩
  refine gen_evalF (h₀ := h₀) (P := P) M T.nolimit (N0 _ hm0).2.2 hcode hh hco hclos hcell h0 hx hkind hroom (wpAny_mono h (fun xv s₁ hv => ?_) fun _ _ e => e)
  obtain ⟨l, its, nl, news, oP, upd, pz, Fv, rfl, F, N, U, hT, hl, hz, hq1, hq2, hQ⟩ := hv
  have nP : (P, oP) ∈ news := by obtain ⟨pre, post, rfl, _⟩ := U.split; simp
  have n1 := N _ nP
  have n2 := N _ hl
  have hlP : l ≠ P := by
    rintro rfl
    have e := n1.1
    rw [n2.1] at e; cases e
    obtain ⟨ps, e2, _⟩ := hT.data
    cases e2
  have hl1 : s₁.heap.IsList l its := ⟨_, n2.1, rfl, _, rfl⟩
  have hlt : l < s₁.heap.objs.size := Heap.lt_size n2.1
  have hPlt : P < s₁.heap.objs.size := Heap.lt_size n1.1
  refine foldList he hl1 hz ?_ ?_
  · obtain ⟨ps, hC⟩ := isCode_of (C.keeps F.keep) n1.1 hT
    refine ⟨l, its, ps, pz, Fv, _, _, fun _ _ hq => wpAny_pyIter_list hl1 hq, fun A' hA => Walks.list hA _ l (Nat.ne_of_lt hlt) its, fun h' hk => ⟨⟨_, hk _ _ (Nat.ne_of_gt hPlt) (Heap.get?_push_size _ rfl), rfl, rfl⟩, hl1.at fun o e => hk l o hlP (Heap.get?_push_of_some _ e)⟩, rfl, hlt, hC, F.keep, hq1, hq2, fun a s₅ ps' hC5 hk5 hos hG => ?_⟩
    obtain ⟨oP', e1, e2⟩ := tabOk_of hC5
    obtain ⟨F5, N5⟩ := gen_ledger F N U hk5 e1
    exact hQ a s₅ oP' _ F5 N5 e2 hos hG (genBack F N U F5 N5)
  · have up : ∀ b o, s₁.heap.get? b = some o → (s₁.heap.push { cls := .type "tuple", data := .seq its.toList.toArray }).get? b = some o := fun b o e => Heap.get?_push_of_some _ e
    have F := F.keeps up
    have N := N.grown up
    have n1 := N _ nP
    have hsz : (s₁.heap.push { cls := .type "tuple", data := .seq its.toList.toArray }).objs.size = s₁.heap.objs.size + 1 := Heap.size_push _ _
    have ht : (s₁.heap.push { cls := .type "tuple", data := .seq its.toList.toArray }).IsTuple s₁.heap.objs.size its := ⟨_, Heap.get?_push_size _ rfl, rfl, _, congrArg (fun a => Data.seq a _) its.toArray_toList⟩
    obtain ⟨ps, hC⟩ := isCode_of (C.keeps F.keep) n1.1 hT
    have hlt2 : s₁.heap.objs.size < (s₁.heap.push { cls := .type "tuple", data := .seq its.toList.toArray }).objs.size := by rw [hsz]; exact Nat.lt_succ_self _
    refine ⟨s₁.heap.objs.size, its, ps, pz, Fv, _, _, fun _ _ hq => wpAny_pyIter_tuple ht hq, fun A' hA => Walks.tuple hA _ _ (Nat.ne_of_lt hlt2) its, fun h' hk => ⟨⟨_, hk _ _ (Nat.ne_of_gt (Nat.lt_trans hPlt hlt2)) (Heap.get?_push_size _ rfl), rfl, rfl⟩, ht.at fun o e => hk _ o (Nat.ne_of_gt hPlt) (Heap.get?_push_of_some _ e)⟩, rfl, hlt2, hC, F.keep, hq1, hq2, fun a s₅ ps' hC5 hk5 hos hG => ?_⟩
    obtain ⟨oP', e1, e2⟩ := tabOk_of hC5
    obtain ⟨F5, N5⟩ := gen_ledger F N U hk5 e1
    exact hQ a s₅ oP' _ F5 N5 e2 ⟨hos.1, hos.2⟩ hG (genBack F N U F5 N5)
end
theorem for_OF {prog : Program} {w : World} {A : Around} {E : Value → Shared → Prop} {s : Shared} {env : Env} {h₀ h : Heap} {x : Str} {body : List Stmt} {Q : Flow → Shared → Prop} {px pos : Pos} {iter : PySem.Expr} {L : Addr} {m : Str → Option Value} (_F : Fr h₀ L h m) (hx : env.kindOf x = some .local)
    (hp : (env.scope.kind == .class || (env.scope.kind == .module && env.locals != env.globals)) = false)
    (h : wpAny (model prog w) A (eval iter env) (ForG prog w A h₀ L env x body Q E) E s)
    (hs : ∀ x, foldedSetIterable iter env x = pure x := by intro _; rfl)
    (hE : PassesOwn (model prog w) A env E := by passes_own) :
    wpAny (model prog w) A (exec (.For (.Name x px) iter body [] pos) env) Q E s := for_O hx hp L h hs hE
theorem eqAt_strs {A : Around} {s : Shared} (k : Str) (t : Tok) : ∀ {vs : List Value} {ys : List Str}, StrsAre vs ys → ∀ y, y ∈ vs → EqAt A s y (.str k t) (isStrOf k y)
  | _, _, .nil, _, hy => nomatch hy
  | _, _, .cons n u h, y, hy => by
    rcases List.mem_cons.mp hy with rfl | hy
    · exact EqAt.str_str n u k t
    · exact eqAt_strs k t h y hy
theorem in_tupStrs {prog : Program} {w : World} {A : Around} {E : Value → Shared → Prop} {s : Shared} {l : Addr} {vs : List Value} {ks : List Str} {k : Str} {t : Tok} {Q : Value → Shared → Prop} (hl : IsTup s.heap l vs.toArray) (hi : StrsAre vs ks) (hn : ks.any (· == k) = false) (h : Q (.bool false) s) : wpAny (model prog w) A (compareOp .In (.str k t) (.ref l)) Q E s :=
  in_tupleAt (isStrOf k) hl (fun y hy => eqAt_strs k t hi y (by simpa using hy)) (by rw [← Array.any_toList, show vs.toArray.toList = vs from rfl, any_isStrOf k hi, hn]; exact h)
end Mine
end
section -- TopC
open PySem PySem.W PyProof.Rows
set_option Elab.async false
namespace Mine
set_option maxRecDepth 100000
set_option maxHeartbeats 8000000
/-- the head also says that the tables of the defs with a generator expression are empty -/
abbrev myHook (K : Params → Frag) (as : List Addr) (e : ∀ P, as = (K P).map (·.1)) : Hook := kmHook K as e [711, 177, 465, 526]
theorem cutK {P : Prop} (_ : Params → Frag) (_ : List Addr) (_ : True) (hc : P) : P := hc
section
local macro_rules | `(tactic| o_head (kmHook $k $as $_ $_)) => `(tactic| refine cutK $k $as ?hw ?hc)
local macro_rules | `(tactic| w_witness2) => `(tactic| exact True.intro)
open_top hd for PySem.Challenge.rw_jk0048_02.row
end
end Mine
end

section
open PySem PySem.W PySem.Spec PySem.Calls PyProof.Rows PyProof.V
namespace Mine
set_option autoImplicit true
set_option pp.fieldNotation false
set_option pp.structureInstances false
example : (PySem.Challenge.rw_jk0048_02, hd.heap_1) = (PySem.Challenge.rw_jk0048_02, hd.heap_1) := by k_fill; rfl
local macro_rules | `(tactic| walk_at $s:str) => do
  let k := Lean.Syntax.mkStrLit ("!" ++ s.getString)
  `(tactic| k_extra $k)
example : True := by
  k_with "!my a" => (k_dflt k_asm)
  k_with "!my r" => (k_dflt (exact rfl))
  k_with "!my suf" => (first | exact mRefl | ((with_reducible refine msTail ?_); walk_at "my suf") | ((with_reducible refine msR ?_); walk_at "my suf") | ((with_reducible refine msL ?_); walk_at "my suf"))
  k_with "!my mm" => (first | exact mHead | (refine' mTail ?_; walk_at "my mm") | ((with_reducible refine mL ?_); walk_at "my mm") | ((with_reducible refine mR ?_); walk_at "my mm") | ((fail_if_success (with_reducible show _ ∈ _ :: _)); with_reducible assumption))
  k_with "!my mem" => (first | walk_at "my mm" | assumption)
  k_with "!my sub" => (first
      | walk_at "my suf"
      | exact msNil
      | (refine msCons (by walk_at "my mem") ?_; walk_at "my sub")
      | ((with_reducible refine msApp ?_ ?_) <;> walk_at "my sub")
      | (intro p9 h9; simp only [List.mem_append, List.mem_cons] at h9 ⊢; first | (simp only [h9, true_or, or_true]; done) | (rcases h9 with h9 | h9 <;> simp only [h9, true_or, or_true] <;> done)))
  k_with "!my Sub" => (first
      | exact Sub.base (by k_asm)
      | exact Sub.led (by k_asm) (by walk_at "my sub")
      | exact Sub.base2 (by k_asm) (by k_asm))
  k_with "!my Call" => (first
      | exact Sub.call (by k_asm)
      | exact Sub.callLed (by k_asm) (by k_asm) (by walk_at "my sub"))
  k_with "!my inst" => (k_dflt (exact Inst.mono (by assumption) (by walk_at "my Sub")))
  k_with "!my dict" => (k_dflt (exact SDict.mono (by assumption) (by walk_at "my Sub")))
  k_with "!my lst" => (k_dflt (exact LstOf.mono (by assumption) (by walk_at "my Sub")))
  k_with "!my lst9" => (k_dflt (exact LstOf.mono (by assumption) (by walk_at "my Call")))
  k_with "!my tup" => (k_dflt (exact TupOf.tup (TupOf.mono (by assumption) (by walk_at "my Sub"))))
  k_with "!my nl" => (k_dflt (exact News.isList (by k_asm) (by k_mem)))
  k_with "!my has" => (first | exact has_some (by assumption) | exact has_none (by assumption))
  k_with "!my z" => (any_goals ((fail_if_success (with_reducible show wpAny _ _ _ _ _ _)); (fail_if_success (with_reducible intro _)); first
    | ((with_reducible show _ = _); first | k_is | exact rfl | k_asm | k_handed)
    | ((with_reducible show _ < _); k_room)
    | k_asm | walk_at "my inst" | exact BindsTo.of_eq rfl | exact binds_K (by k_in) rfl (by k_is) rfl rfl rfl | exact News.nil | exact KtsTurn.refl | k_mem | decide +kernel))
  k_with "!my w" => ((all_goals ((fail_if_success (with_reducible show _ = _)); (fail_if_success (with_reducible show KtsDicts _ _)))); k_whole)
  k_with "!my fe" => (walk_at "my z"; walk_at "my w"; intros; (try dsimp only))
  k_with "!my ff" => ((rename Below _ _ _ _ => B'); (try k_lift B'); (try k_fold))
  k_with "!my enter" => (refine wpAny_call ?_; (with_reducible apply enterC); k_dflt (walk_at "my fe"; (try k_fold)))
  k_with "!my enterI" => ((with_reducible apply enterC); k_dflt (walk_at "my fe"; (try k_fold)))
  k_with "!my enterCells" => (refine wpAny_call ?_; (with_reducible apply enterCC); k_dflt (walk_at "my fe"; rename_i N' Y' B' X' T' D' G' l1; (try k_lt l1); k_cells Y'; (try simp only [List.cons_append, List.nil_append] at N'); (try dsimp only); (try k_fold)))
  k_with "!my kdef" => ((with_reducible apply code_defZ); k_dflt (walk_at "my fe"; walk_at "my ff"))
  k_with "!my ktsgo" => ((with_reducible apply code_defZS); k_dflt (walk_at "my fe"; walk_at "my ff"))
  k_with "!my g1" => (walk_at "my z"; walk_at "my w")
  k_with "!my for" => (refine Halt.elim ?_; (with_unfolding_all refine forKF (by k_asm) (by k_asm) rfl rfl ?_); k_whole; (try k_fold))
  k_with "!my for0" => (refine Halt.elim ?_; (with_unfolding_all refine forKF (fs := []) (by k_asm) dicts_nil rfl rfl ?_); k_whole; (try k_fold))
  k_with "!my agree" => (repeat' (first | exact Agree.refl | assumption | refine Agree.put (by decide) ?_))
  k_with "!my end2" => (exact ⟨_, _, _, _, _, _, rfl, by first | assumption | exact KtsTurn.refl, by k_asm, by k_asm, by walk_at "my agree", by assumption, by assumption⟩)
  k_with "!my gi" => (with_reducible show wpAny _ _ (subscriptTail _ _ (Value.ref _) (Value.int _ _)) _ _ _)
  k_with "!my i" => (intros; (try dsimp only))
  k_with "!my H" => (k_here; refine Halt.intro ?_)
  k_with "!my units" => (first | units_room | (simp only [units_under_make, units_in1, units_deeper, Around.mark_units]; omega))
  k_with "!my kn" => ((case hk => exact rfl); (case room => k_room); (case units => walk_at "my units"); (case N => k_asm); (any_goals (first | with_reducible assumption | k_updF | walk_at "my lst9" | k_mem | ((with_reducible show _ ≤ _); omega) | ((with_reducible show _ < _); omega) | (intro o9; k_updF))))
  k_with "!my kc" => ((case C => (apply Cx.mk <;> assumption)); walk_at "my kn")
  k_with "!my pa" => (first | with_reducible assumption | exact an1 (by with_reducible assumption) | exact al2 (by with_reducible assumption) | exact an2 (by with_reducible assumption) | exact an3 (by with_reducible assumption) | exact al3 (by with_reducible assumption) | exact an4 (by with_reducible assumption) | exact al4 (by with_reducible assumption) | exact an5 (by with_reducible assumption) | exact al5 (by with_reducible assumption) | exact an6 (by with_reducible assumption) | exact al6 (by with_reducible assumption) | exact an7 (by with_reducible assumption) | exact al7 (by with_reducible assumption) | exact an8 (by with_reducible assumption) | exact al8 (by with_reducible assumption) | exact an9 (by with_reducible assumption) | exact al9 (by with_reducible assumption) | exact an10 (by with_reducible assumption) | exact al10 (by with_reducible assumption))
  k_with "!my pr" => (first
      | walk_at "my pa"
      | (apply an1; walk_at "my pa")
      | (apply an2; walk_at "my pa")
      | (apply al3; walk_at "my pa"))
  k_with "!my lt0" => (first
      | with_reducible assumption
      | exact ltL (by k_asm) (by walk_at "my mem")
      | exact Nat.lt_succ_self _
      | exact Nat.lt_trans (ltL (by k_asm) (by walk_at "my mem")) (by k_asm))
  k_with "!my lt" => (first
      | walk_at "my lt0"
      | (refine Nat.lt_succ_of_lt ?_; walk_at "my lt0")
      | (refine Nat.lt_succ_of_lt ?_; refine Nat.lt_succ_of_lt ?_; walk_at "my lt0"))
  k_with "!my up" => ((repeat (first | with_reducible assumption | exact Nat.lt_succ_self _ | with_reducible refine Nat.lt_succ_of_lt ?_)); first | done | walk_at "my pr")
  k_with "!my lle" => (refine Nat.lt_of_lt_of_le ?_ (Nat.le_of_lt (by with_reducible assumption)); exact ltL (by with_reducible assumption) (by walk_at "my mem"))
  k_with "!getAttr ref" => (k_here; first
      | ((with_reducible apply getI); k_dflt (walk_at "my g1"))
      | ((with_reducible apply propI); k_dflt (walk_at "my g1"; k_enter)))
  k_with "!getMethod ref" => (k_here; (with_reducible apply methI); k_dflt (walk_at "my g1"))
  k_with "!compareOp In str ref" => (k_here; refine inI (by walk_at "my dict") (by walk_at "my has") ?_)
  k_with "!compareOp NotIn str ref" => (k_here; refine notinI (by walk_at "my dict") (by walk_at "my has") ?_; (try simp only [Bool.not_true, Bool.not_false]))
  k_with "!subscriptTail" => (k_here; first
      | ((walk_at "my gi"); (refine itemLI (by walk_at "my lst") (by walk_at "my a") (by omega) (by omega) (by omega) ?_); intros)
      | ((walk_at "my gi"); (refine item_tupleT (by walk_at "my tup") (by decide) (by decide) (by walk_at "my r") (by walk_at "my r") ?_))
      | ((with_reducible show wpAny _ _ (subscriptTail _ _ (Value.ref _) (Value.str _ _)) _ _ _); (refine itemI (by walk_at "my dict") (by k_dflt (first | assumption | exact valueAt_one)) ?_)))
  k_with "!exec For Name Attribute cons nil" => (walk_at "my H")
  k_with "!exec For Name Name cons nil" => (walk_at "my H")
  k_with "!exec For Name Subscript cons nil" => (walk_at "my H")
  k_with "!exec For Name Call cons nil" => (walk_at "my H")
  k_with "!pyIter ref" => (k_here; (with_reducible show wpAny _ _ (pyIter (Value.ref _)) (fun it s₂ => LoopK _ _ _ _ _ _ _ _ _ _ it s₂) _ _); refine Halt.intro ?_)
  k_with "!setItem ref str" => (k_here; (try dsimp only); (refine setK (by walk_at "my a") (by walk_at "my a") (by k_dflt (k_updF)) (by walk_at "my a") (by k_dflt (first | assumption | exact Nat.le_of_ble_eq_true (by with_unfolding_all rfl))) ?_); intro _ _ _ N' hd'; (try dsimp only at N'); (try simp only [stored_at] at hd'))
  k_with "!call builtin:str.encode" => (k_here; (refine call_encodeP (by walk_at "my a") ?_))
  k_with "!binaryOp Add bytes bytes" => (k_here; (with_reducible show wpAny _ _ (binaryOp Operator.Add (Value.bytes _ _) (Value.bytes _ _)) _ _ _); (refine KBy.add_bytes (by (first | omega | (simp only [Array.size_append, List.size_toArray, List.length_cons, List.length_nil] at *; omega))) ?_); intros)
  k_with "!eval Name" => (k_here; first | refine nameE (by kernel_rfl!) (by walk_at "my a") (by walk_at "my r") ?_ | refine nameGE (by kernel_rfl!) (by walk_at "my a") (by walk_at "my a") (by walk_at "my a") (by k_is) ?_)
  k_with "!eval Constant int" => (k_here; refine constI ?_)
  k_with "!eval Constant str" => (k_here; refine constS ?_)
  k_with "!eval Call Attribute" => (k_here; (with_reducible show wpAny _ _ (PySem.eval (Expr.Call (Expr.Attribute (Expr.Name _ _) _ _) (_ :: _) [] _) _) _ _ _); (refine methKS (by kernel_rfl!) (by kernel_rfl!) (by walk_at "my a") (by walk_at "my r") (by walk_at "my a") (by walk_at "my inst") (by k_is) (by k_is) (by k_is) (by walk_at "my r") (by k_is) (by walk_at "my r") (by walk_at "my r") (by walk_at "my r") ?_))
  k_with "!exec If Compare" => (k_here; (refine ifC (by kernel_rfl!) (by walk_at "my a") (by walk_at "my r") (by kernel_rfl!) ?_))
  k_with "!eval Subscript" => (k_here; (refine subS (by kernel_rfl!) (by walk_at "my a") (by walk_at "my r") ?_))
  k_with "!eval Compare" => (k_here; (refine cmpE (by kernel_rfl!) (by walk_at "my a") (by walk_at "my r") (by kernel_rfl!) ?_))
  k_with "!eval BinOp" => (k_here; (refine binS (by kernel_rfl!) (by walk_at "my a") (by walk_at "my r") ?_))
  k_with "!spliced" => (k_here; (with_reducible show wpAny _ _ (spliced (backTo _ (starEach (_ :: _) _))) _ _ _); (refine splS (by kernel_rfl!) (by walk_at "my a") (by walk_at "my r") ?_))
  k_with "!eval Attribute Name" => (k_here; (refine attrN (by kernel_rfl!) (by walk_at "my a") (by walk_at "my r") ?_))
  k_with "!getMethod str" => (k_here; with_reducible refine meth_encode ?_)
  k_with "!call builtin:len" => (k_here; first
      | refine lenL (by walk_at "my lst") (by omega) ?_
      | refine lenI (by walk_at "my dict") (by assumption) ?_
      | refine kda_len (knd := PySem.strKind _ _) (by k_asm) (by k_mem) (by k_asm) (by k_asm) (by assumption) ?_)
  k_with "!call type:list" => (k_here; (refine listD (by walk_at "my r") (by walk_at "my a") (by walk_at "my a") (by walk_at "my dict") (by walk_at "my a") ?_); walk_at "my i")
  k_with "!compareOp NotEq ref ref" => (k_here; (refine ne_strsSame (by walk_at "my nl") (by walk_at "my a") (by walk_at "my nl") (by walk_at "my a") (by walk_at "my a") (by k_dflt (units_room)) ?_))
  k_with "!compareOp Eq ref ref" => (k_here; (refine eqDict (by walk_at "my dict") (by walk_at "my dict") (by k_dflt (units_room)) ?_))
  k_with "!execs cons" => (first
      | (k_here; k_gentoks)
      | (k_here; k_made; walk_at "execs cons")
      | (refine execs_lastK ?_; (try k_fold))
      | ((with_reducible first | refine execs_consA ?_ | refine execs_consE ?_); intro K9 hK9)
      | (refine execs_consK ?_; intro K9 hK9 hO9))
  k_with "!storeName" => (k_here; (refine storeZ (by walk_at "my a") (by walk_at "my a") ?_); intros; (try k_sweep))
  k_with "!callWith ref" => (k_here; (with_reducible show wpAny _ _ (callWith _ (Value.ref _) _ (backTo _ (starEach (_ :: _) _)) []) _ _ _); (refine callWith_K (by walk_at "my a") (by k_is) ?_ (by walk_at "my r") (by walk_at "my r")))
  k_with "!exec Raise some none" => (k_here; (with_reducible show wpAny _ _ (exec (Stmt.Raise (some (Expr.Call (Expr.Name (Str.ofString "ValueError") _) _ _ _)) none _) _) _ _ _); refine Raise_new rfl ?_)
  k_with "!call ref" => (k_here; (fail_if_success k_inElt); kts_any; (refine wpAny_call ?_; walk_at "my ktsgo"))
  trivial
local macro_rules | `(tactic| k_room) => `(tactic| k_extra "!k_room")
example : True := by
  k_with "!k_room" => (first
    | exact room9 (k := 1) (by k_asm) (by decide)
    | exact room9 (k := 2) (by k_asm) (by decide)
    | exact room9 (k := 3) (by k_asm) (by decide)
    | exact room9 (k := 4) (by k_asm) (by decide)
    | exact room9b (by k_asm) (by decide)
    | ktr_room
    | (simp +zetaDelta only [depth_under_make, depth_under_kw, depth_in1, depth_deeper, depth_caller]; ktr_room))
  trivial
local macro_rules | `(tactic| units_room) => `(tactic| k_extra "!units_room")
example : True := by
  k_with "!units_room" => ((simp +zetaDelta only [units_under_make, units_in1, units_deeper, Around.mark_units, units_caller, Nat.add_assoc, Nat.reduceAdd]); first | exact units9 (by with_reducible assumption) (by decide) | decide | ((have hcL' := cLine_is); omega))
  trivial
local macro_rules | `(tactic| k_enter) => `(tactic| k_extra "!k_enter")
example : True := by
  k_with "!k_enter" => ((fail_if_success k_inElt); first | (kts_any; walk_at "my ktsgo") | ((fail_if_success kts_any); walk_at "my kdef"))
  trivial
local macro_rules | `(tactic| k_unfold) => `(tactic| k_extra "!k_unfold")
example : True := by
  k_with "!k_unfold" => (first
    | refine (by with_reducible assumption : ∀ s', wpAny _ _ _ _ _ s' → (_ : Flow → Shared → Prop) Flow.next s') _ ?_
    | refine (by with_reducible assumption : ∀ f s', fmore f = true → (_ : Flow → Shared → Prop) f s' → (_ : Flow → Shared → Prop) f s') _ _ rfl ?_)
  trivial
local macro_rules | `(tactic| k_lt $_:ident) => `(tactic| skip)
local macro_rules | `(tactic| k_ne) => `(tactic| k_extra "!k_ne")
example : True := by
  k_with "!k_ne" => ((try dsimp only); first
    | exact neL (ltL (by with_reducible assumption) (by walk_at "my mm"))
    | exact neR (ltL (by with_reducible assumption) (by walk_at "my mm"))
    | (refine neL ?_; first | walk_at "my lt" | walk_at "my lle")
    | (refine neR ?_; first | walk_at "my lt" | walk_at "my lle")
    | with_reducible assumption
    | exact Ne.symm (by with_reducible assumption)
    | decide
    | walk_at "my pr"
    | (refine Ne.symm ?_; walk_at "my pr")
    | (refine neL ?_; walk_at "my up")
    | (refine neR ?_; walk_at "my up")
    | (refine neN ?_; omega))
  trivial
local macro_rules | `(tactic| k_all) => `(tactic| k_extra "!k_all")
example : True := by
  k_with "!k_all" => (first
    | exact allNeL (by with_reducible assumption) (by walk_at "my suf")
    | exact allNeT (by with_reducible assumption) (by with_reducible assumption) (by walk_at "my suf"))
  trivial

example : True ∧ True := by w_top off; first | (walk1; done) | exact ⟨trivial, trivial⟩
-- C3
theorem c_due {w : World} {loose : List Str} {mean : ExcName → Option Value} {mg mb : Str → Option Value} {dp un : Nat} {gd : Option (List Code)} {cn : Str} {cs : Scope} {a : Addr} {ccd : Value} {cl : List (Str × Addr)} {outer : List Env} {A₀ : Around} {base h₀ : Heap} {L : Addr} {m : Str → Option Value} {s : Shared} {Q E : Value → Shared → Prop}
    {ro kd kl sd : Addr} {Kv Sv : List (Str × Value)} {vs : List Value} {names : List Str} {thr : Int} {tt : Tok} {sig : Str → Str} {ok : Str → Bool}
    (C : Cx (hd.heap_1 w.params) pv loose mean mg mb A₀ base outer h₀ L s.heap m) (hk : cs.kind = .function) (room : dp + 8 < recursionLimit) (units : un + 100 < cLine)
    (hro : TupOf (At (L :: frs outer) s.heap) ro [.ref kl, .int thr tt]) (hkl : LstOf (At (L :: frs outer) s.heap) kl vs) (hvs : StrsAre vs names) (hnl : names.length ≤ 1000) (hnk : ∀ k ∈ names, k.length ≤ 64)
    (hok : ∀ k, ok k = (sig k == Str.ofString "p" ++ Txt.slice k (some 1) none ++ Str.ofString ":load"))
    (hkd : SDict PySem.Challenge.rw_jk0048_02.row.prog w (At (L :: frs outer) s.heap) kd Kv)
    (hsd : SDict PySem.Challenge.rw_jk0048_02.row.prog w (At (L :: frs outer) s.heap) sd Sv) (hS : SigsOk 101 (At (L :: frs outer) s.heap) Sv sig)
    (ret : ∀ r d1 d2 b1 i1 t1 tl h' tk', Ext (L :: frs outer) [] s.heap h' → Made s.heap h' tl → TupOf (Led tl) r [.ref d1, .ref d2, .bool b1, .int i1 t1] → b1 = decide (thr ≤ ((signedBy Kv Sv ok true names).length : Int)) → i1 = max 0 (thr - ((signedBy Kv Sv ok true names).length : Int)) → SDict PySem.Challenge.rw_jk0048_02.row.prog w (Led tl) d1 (signedBy Kv Sv ok true names) → SDict PySem.Challenge.rw_jk0048_02.row.prog w (Led tl) d2 (signedBy Kv Sv ok false names) → Q (.ref r) { s with heap := h', toks := tk' }) :
    wpAny (model PySem.Challenge.rw_jk0048_02.row.prog w) (ktrTop dp un gd cn cs L a ccd cl outer) (call (.ref 690) [.ref ro, .ref kd, .ref sd]) Q E s := by
  obtain ⟨B, F, X, T, XB, TB, D⟩ := C
  walk_at "my enter"
  (rename Grd _ _ _ _ => G)
  (rename KtsDicts _ _ => D9)
  (rename Below _ _ _ _ => B9)
  have hro := hro.mono G.sub; have hkd := hkd.mono G.sub; have hkl := hkl.mono G.sub; have hsd := hsd.mono G.sub; have hS := hS.mono G.sub
  k_steps
  walk_at "my for"
  k_steps
  refine Halt.elim ?_
  (rename News _ _ _ _ => N9)
  refine' loop2 (prog := PySem.Challenge.rw_jk0048_02.row.prog) (w := w) (names := names) ["name", "right"] (signedBy Kv Sv ok true) (signedBy Kv Sv ok false) rfl D9 hkl hvs (by assumption) (News.sub N9 (by intro p hp; exact .tail _ hp)) (by assumption) (by assumption) ?turn ?done
  case turn =>
    clear N9
    intro pre k t m₁ o1 o2 own g h tk TN hpre ha hd1 hd2 hoff F1 N1
    rw [ha.two] at F1
    have Bg := below_turn B9 TN; have Xg := XB.keeps Bg.stays; have Tg := TB.keeps Bg.stays; have Dg := D9.turn TN
    have hkd := hkd.mono (Sub.turn TN); have hsd := hsd.mono (Sub.turn TN); have hS := hS.mono (Sub.turn TN)
    have hkl' : k.length ≤ 64 := hnk k (by obtain ⟨post, e⟩ := hpre; rw [e]; simp)
    have hpl : pre.length ≤ 1000 := by obtain ⟨post, e⟩ := hpre; rw [e] at hnl; simp at hnl; omega
    have hz : ∀ b, (signedBy Kv Sv ok b pre).length ≤ sizeLine := fun b => by rw [sizeLine_eq]; have := signedBy_len Kv Sv ok b pre; omega
    have hz1 := hz true
    have hz2 := hz false
    clear hz
    rw [signedBy_snoc, signedBy_snoc]
    rcases hv : valueAt Kv k with _ | v
    · have hver : verdict Kv Sv ok k = none := by unfold verdict; rw [hv]; rfl
      rw [hver]; dsimp only
      k_steps
      repeat (first | k_unfold | dsimp only)
      walk_at "my end2"
    · rcases hs : valueAt Sv k with _ | sv
      · have hver : verdict Kv Sv ok k = some (v, false) := by unfold verdict; rw [hv, hs]; rfl
        rw [hver]; dsimp only
        k_steps
        repeat (first | k_unfold | dsimp only)
        walk_at "my end2"
      · obtain ⟨sa, rfl, s1, s3, st, hs1⟩ := hS k sv hs
        k_steps
        all_goals (rename (_ == _) = _ => hb; rw [← hok k] at hb)
        all_goals (repeat (first | k_unfold | dsimp only))
        · have hver : verdict Kv Sv ok k = some (v, true) := by unfold verdict; rw [hv, hs]; simp only [Option.map_some, Option.isSome_some, Bool.true_and, hb]
          rw [hver]; dsimp only
          walk_at "my end2"
        · have hver : verdict Kv Sv ok k = some (v, false) := by unfold verdict; rw [hv, hs]; simp only [Option.map_some, Option.isSome_some, Bool.true_and, hb]
          rw [hver]; dsimp only
          walk_at "my end2"
  case done =>
    intro m₁ o1 o2 g h tk TN ha hd1 hd2 F1 N1
    rw [ha.two] at F1
    have Bg := below_turn B9 TN; have Xg := XB.keeps Bg.stays; have Tg := TB.keeps Bg.stays; have Dg := D9.turn TN
    have hro := hro.mono (Sub.turn TN)
    have hz1 : (signedBy Kv Sv ok true names).length ≤ 16777216 := by have := signedBy_len Kv Sv ok true names; omega
    k_steps
    repeat (first | k_unfold | dsimp only)
    exact ret _ _ _ _ _ _ _ _ _ (G.extT TN (by assumption)) (G.madeT TN (by assumption) (fun _ h => h)) ⟨_, _, by k_mem, rfl, rfl⟩ rfl (by split <;> omega) ⟨by assumption, _, by k_mem, by assumption⟩ ⟨by assumption, _, by k_mem, by assumption⟩
example : True ∧ True := by w_top off; first | (walk1; done) | exact ⟨trivial, trivial⟩
-- C4
theorem c_is {w : World} {loose : List Str} {mean : ExcName → Option Value} {mg mb : Str → Option Value} {dp un : Nat} {gd : Option (List Code)} {cn : Str} {cs : Scope} {a : Addr} {ccd : Value} {cl : List (Str × Addr)} {outer : List Env} {A₀ : Around} {base h₀ : Heap} {L : Addr} {m : Str → Option Value} {s : Shared} {Q E : Value → Shared → Prop}
    {x a1 a2 due d1 d2 : Addr} {K1 K2 : List (Str × Value)} {thr i1 : Int} {tt t1 : Tok} {b1 : Bool}
    (C : Cx (hd.heap_1 w.params) pv loose mean mg mb A₀ base outer h₀ L s.heap m) (hk : cs.kind = .function) (room : dp + 8 < recursionLimit) (units : un + 100 < cLine)
    (hx : Inst (At (L :: frs outer) s.heap) x 299 [("threshold", .int thr tt), ("signed", .ref a1), ("unsigned", .ref a2)])
    (hdu : TupOf (At (L :: frs outer) s.heap) due [.ref d1, .ref d2, .bool b1, .int i1 t1])
    (ha1 : SDict PySem.Challenge.rw_jk0048_02.row.prog w (At (L :: frs outer) s.heap) a1 K1) (ha2 : SDict PySem.Challenge.rw_jk0048_02.row.prog w (At (L :: frs outer) s.heap) a2 K2)
    (hd1 : SDict PySem.Challenge.rw_jk0048_02.row.prog w (At (L :: frs outer) s.heap) d1 K1) (hd2 : SDict PySem.Challenge.rw_jk0048_02.row.prog w (At (L :: frs outer) s.heap) d2 K2)
    (hb : b1 = decide (thr ≤ (K1.length : Int))) (hi : i1 = max 0 (thr - (K1.length : Int)))
    (ok1 : ∀ k ∈ K1.map (·.1), PyData.strOk k = true) (ok2 : ∀ k ∈ K2.map (·.1), PyData.strOk k = true) (z1 : K1.length ≤ 16777216) (z2 : K2.length ≤ 16777216)
    (ret : ∀ h' tk', Ext (L :: frs outer) [] s.heap h' → Q (.bool true) { s with heap := h', toks := tk' }) :
    wpAny (model PySem.Challenge.rw_jk0048_02.row.prog w) (ktrTop dp un gd cn cs L a ccd cl outer) (call (.ref 697) [.ref x, .ref due]) Q E s := by
  obtain ⟨B, F, X, T, XB, TB, D⟩ := C
  walk_at "my enter"
  (rename Grd _ _ _ _ => G)
  have hx := hx.mono G.sub; have hdu := hdu.mono G.sub; have ha1 := ha1.mono G.sub; have ha2 := ha2.mono G.sub; have hd1 := hd1.mono G.sub; have hd2 := hd2.mono G.sub
  subst hb hi
  k_steps
  · have e : ((if thr - (K1.length : Int) > 0 then thr - (K1.length : Int) else 0) == max 0 (thr - (K1.length : Int))) = true := by rw [beq_iff_eq]; split <;> omega
    rw [e]
    exact ret _ _ (G.ext0 (by assumption))
  · exfalso
    (rename (_ == _) = false => q)
    simp at q
example : True ∧ True := by w_top off; first | (walk1; done) | exact ⟨trivial, trivial⟩
-- C5
theorem c_next {w : World} {loose : List Str} {mean : ExcName → Option Value} {mg mb : Str → Option Value} {dp un : Nat} {gd : Option (List Code)} {cn : Str} {cs : Scope} {a : Addr} {ccd : Value} {cl : List (Str × Addr)} {outer : List Env} {A₀ : Around} {base h₀ : Heap} {L : Addr} {m : Str → Option Value} {s : Shared} {Q E : Value → Shared → Prop}
    {wd rl : Addr} {o : Obj} {vs : List Value} {n many : Int} {tm : Tok}
    (C : Cx (hd.heap_1 w.params) pv loose mean mg mb A₀ base outer h₀ L s.heap m) (hk : cs.kind = .function) (room : dp + 8 < recursionLimit) (units : un + 100 < cLine)
    (N : News h₀ L s.heap [(wd, o)]) (low : (wd == sysModules) = false) (ho : Draws PySem.Challenge.rw_jk0048_02.row.prog w o rl n) (hn : 0 ≤ n) (hn1 : n ≤ 100000) (hrl : LstOf (At (L :: frs outer) s.heap) rl vs) (hvs : IntsIn vs 0 997) (hvl : vs.length ≤ 144) (hm : 0 < many) (hm1 : many ≤ 1000)
    (ret : ∀ v t o' h' tk', Ext [] [wd] s.heap h' → h'.get? wd = some o' → Draws PySem.Challenge.rw_jk0048_02.row.prog w o' rl (n + 1) → 0 ≤ v → v < many → Q (.int v t) { s with heap := h', toks := tk' }) :
    wpAny (model PySem.Challenge.rw_jk0048_02.row.prog w) (ktrTop dp un gd cn cs L a ccd cl outer) (call (.ref 659) [.ref wd, .int many tm]) Q E s := by
  obtain ⟨B, F, X, T, XB, TB, D⟩ := C
  obtain ⟨ta, hd⟩ := ho
  have hne : rl ≠ wd := by
    rintro rfl
    obtain ⟨o2, k2, e2, e3, e4⟩ := hrl
    have e5 := (N _ (.head _)).1
    rw [e2.1] at e5; cases e5
    obtain ⟨_, _, _, e6, _⟩ := hd
    rw [e4] at e6; cases e6
  walk_at "my enter"
  (rename Grd _ _ _ _ => G)
  have hrl := (show LstOf (fun a o => At (L :: frs outer) s.heap a o ∧ a ∉ [wd]) rl vs from let ⟨o2, k2, a, b, c⟩ := hrl; ⟨o2, k2, ⟨a, by simpa using hne⟩, b, c⟩).mono G.subs
  k_steps
  all_goals (repeat (first | k_unfold | dsimp only))
  all_goals exact ret _ _ _ _ _ (G.extM (by assumption)) (News.get (by assumption) (by k_mem)) ⟨_, by assumption⟩ (Int.fmod_nonneg_of_pos _ hm) (Int.fmod_lt_of_pos _ hm)
theorem c_nextK {w : World} {loose : List Str} {mean : ExcName → Option Value} {mg mb : Str → Option Value} {dp un : Nat} {gd : Option (List Code)} {cn : Str} {cs : Scope} {a : Addr} {ccd : Value} {cl : List (Str × Addr)} {outer : List Env} {A₀ : Around} {base h₀ : Heap} {L : Addr} {m : Str → Option Value} {s : Shared} {Q E : Value → Shared → Prop}
    {wd rl : Addr} {o : Obj} {vs : List Value} {k : Nat} {many : Int} {tm : Tok} {news : List (Addr × Obj)} {upd : Obj → List (Addr × Obj)}
    (B : Below A₀ base outer h₀) (F : Fr h₀ L s.heap m) (X : (hd.heap_1 w.params).In h₀) (T : Top pv loose mean mg mb h₀) (XB : (hd.heap_1 w.params).In base) (TB : Top pv loose mean mg mb base) (D : KtsDicts (frs outer) h₀)
    (hk : cs.kind = .function) (room : dp + 8 < recursionLimit) (units : un + 100 < cLine)
    (N : News h₀ L s.heap news) (U : UpdF wd o news upd) (low : (wd == sysModules) = false) (ho : DrawsU PySem.Challenge.rw_jk0048_02.row.prog w o rl k) (hn1 : k ≤ 10000) (hrl : LstOf (At (L :: frs outer) s.heap) rl vs) (hvs : IntsIn vs 0 997) (hvl : vs.length ≤ 144) (hm : 0 < many) (hm1 : many ≤ 1000)
    (ret : ∀ v t o' h' tk', Fr h₀ L h' m → News h₀ L h' (upd o') → DrawsU PySem.Challenge.rw_jk0048_02.row.prog w o' rl (k + 1) → LstOf (At (L :: frs outer) h') rl vs → 0 ≤ v → v < many → Q (.int v t) { s with heap := h', toks := tk' }) :
    wpAny (model PySem.Challenge.rw_jk0048_02.row.prog w) (ktrTop dp un gd cn cs L a ccd cl outer) (call (.ref 659) [.ref wd, .int many tm]) Q E s := by
  obtain ⟨n, n0, n1, hd⟩ := ho
  have hne : rl ≠ wd := by
    intro hq
    obtain ⟨o2, k2, e2, e3, e4⟩ := hrl
    have e5 := (N (wd, o) (by obtain ⟨pre, post, rfl, _⟩ := U.split; simp)).1
    rw [← hq, e2.1] at e5; cases e5
    obtain ⟨_, _, _, _, e6, _⟩ := hd
    rw [e4] at e6; cases e6
  have N1 : News h₀ L s.heap [(wd, o)] := News.sub N (by obtain ⟨pre, post, rfl, _⟩ := U.split; intro p hp; rw [List.mem_singleton.mp hp]; simp)
  refine c_next ⟨B, F, X, T, XB, TB, D⟩ hk room units N1 low hd n0 (by omega) hrl hvs hvl hm hm1 fun v t o' h' tk' hE hw hd' lo hi => ?_
  obtain ⟨C', _, _⟩ := Cx.after0 ⟨B, F, X, T, XB, TB, D⟩ hE fun a ha => by rw [List.mem_singleton.mp ha]; exact ⟨(N1 _ (.head _)).2.1, (N1 _ (.head _)).2.2⟩
  obtain ⟨o2, k2, e2, e3, e4⟩ := hrl
  exact ret v t o' h' tk' C'.F (news_upd N U hE hw) ⟨n + 1, by omega, by push_cast; omega, hd'⟩ ⟨o2, k2, ⟨hE.keep _ _ e2.1 (by simp) (by simpa using hne), e2.2⟩, e3, e4⟩ lo hi
example : True ∧ True := by w_top off; first | (walk1; done) | exact ⟨trivial, trivial⟩
-- C2
theorem beqL {b c : Array UInt8} {r : Bool} (h : (b.toList != c.toList) = !r) : (b == c) = r := by
  have e : (b.toList == c.toList) = (b == c) := by
    rw [Bool.eq_iff_iff, beq_iff_eq, beq_iff_eq, Array.toList_inj]
  rw [bne, e] at h
  cases hx : (b == c) <;> cases r <;> simp_all
theorem c_gvr {w : World} {loose : List Str} {mean : ExcName → Option Value} {mg mb : Str → Option Value} {dp un : Nat} {gd : Option (List Code)} {cn : Str} {cs : Scope} {a : Addr} {ccd : Value} {cl : List (Str × Addr)} {outer : List Env} {A₀ : Around} {base h₀ : Heap} {L : Addr} {m : Str → Option Value} {s : Shared} {Q E : Value → Shared → Prop}
    {x kd rd ra kl sd : Addr} {R Kv Sv : List (Str × Value)} {rn : Str} {tk tl : Tok} {load : Array UInt8} {vs : List Value} {names : List Str} {thr : Int} {tt : Tok} {pub sig : Str → Str}
    (C : Cx (hd.heap_1 w.params) pv loose mean mg mb A₀ base outer h₀ L s.heap m) (hk : cs.kind = .function) (room : dp + 5 < recursionLimit) (units : un + 64 < cLine)
    (hx : Inst (At (L :: frs outer) s.heap) x 451 [("spec_version", v1), ("expires", v2), ("version", v3), ("unrecognized_fields", v4), ("consistent_snapshot", v5), ("keys", .ref kd), ("roles", .ref rd)])
    (hrd : SDict PySem.Challenge.rw_jk0048_02.row.prog w (At (L :: frs outer) s.heap) rd R) (hrn : valueAt R rn = some (.ref ra))
    (hra : Inst (At (L :: frs outer) s.heap) ra 262 [("keyids", .ref kl), ("threshold", .int thr tt), ("unrecognized_fields", v6)]) (hkl : LstOf (At (L :: frs outer) s.heap) kl vs) (hvs : StrsAre vs names) (hnl : names.length ≤ 1000) (hnk : ∀ k ∈ names, k.length ≤ 64)
    (hkd : SDict PySem.Challenge.rw_jk0048_02.row.prog w (At (L :: frs outer) s.heap) kd Kv) (hK : KeysOk PySem.Challenge.rw_jk0048_02.row.prog w 154 (At (L :: frs outer) s.heap) Kv pub)
    (hsd : SDict PySem.Challenge.rw_jk0048_02.row.prog w (At (L :: frs outer) s.heap) sd Sv) (hpp : ∀ k, Plain (pub k)) (hps : ∀ k, Plain (sig k)) (hload : load.size ≤ 1000) (hS : SigsOk 101 (At (L :: frs outer) s.heap) Sv sig)
    (ret : ∀ r d1 d2 tl h' tk', Ext (L :: frs outer) [] s.heap h' → Made s.heap h' tl → Inst (Led tl) r 299 [("threshold", .int thr tt), ("signed", .ref d1), ("unsigned", .ref d2)] →
      SDict PySem.Challenge.rw_jk0048_02.row.prog w (Led tl) d1 (signedBy Kv Sv (fun k => utf8 (sig k) == utf8 (pub k) ++ #[58] ++ load) true names) →
      SDict PySem.Challenge.rw_jk0048_02.row.prog w (Led tl) d2 (signedBy Kv Sv (fun k => utf8 (sig k) == utf8 (pub k) ++ #[58] ++ load) false names) → Q (.ref r) { s with heap := h', toks := tk' }) :
    wpAny (model PySem.Challenge.rw_jk0048_02.row.prog w) (ktrTop dp un gd cn cs L a ccd cl outer) (call (.ref 362) [.ref x, .str rn tk, .bytes load tl, .ref sd]) Q E s := by
  obtain ⟨B, F, X, T, XB, TB, D⟩ := C
  walk_at "my enter"
  (rename Grd _ _ _ _ => G)
  (rename KtsDicts _ _ => D9)
  (rename Below _ _ _ _ => B9)
  have hx := hx.mono G.sub; have hkd := hkd.mono G.sub; have hrd := hrd.mono G.sub; have hra := hra.mono G.sub; have hkl := hkl.mono G.sub; have hK := hK.mono G.sub; have hsd := hsd.mono G.sub; have hS := hS.mono G.sub
  k_steps
  walk_at "my for"
  k_steps
  refine Halt.elim ?_
  (rename News _ _ _ [(_, _), (_, _)] => N9)
  refine' loop2 (prog := PySem.Challenge.rw_jk0048_02.row.prog) (w := w) (names := names) ["keyid", "key", "sig"] (signedBy Kv Sv (fun k => utf8 (sig k) == utf8 (pub k) ++ #[58] ++ load) true) (signedBy Kv Sv (fun k => utf8 (sig k) == utf8 (pub k) ++ #[58] ++ load) false) rfl D9 hkl hvs (by assumption) N9 (by assumption) (by assumption) ?turn ?done
  case turn =>
    clear N9
    intro pre k t m₁ o1 o2 own g h tk TN hpre ha hd1 hd2 hoff F1 N1
    rw [ha.three] at F1
    have Bg := below_turn B9 TN; have Xg := XB.keeps Bg.stays; have Tg := TB.keeps Bg.stays; have Dg := D9.turn TN
    have hx := hx.mono (Sub.turn TN); have hkd := hkd.mono (Sub.turn TN); have hK := hK.mono (Sub.turn TN); have hsd := hsd.mono (Sub.turn TN); have hS := hS.mono (Sub.turn TN)
    generalize hok : (fun k => utf8 (sig k) == utf8 (pub k) ++ #[58] ++ load) = ok at hd1 hd2 ⊢
    have hkl' : k.length ≤ 64 := hnk k (by obtain ⟨post, e⟩ := hpre; rw [e]; simp)
    have hpl : pre.length ≤ 1000 := by obtain ⟨post, e⟩ := hpre; rw [e] at hnl; simp at hnl; omega
    have hz : ∀ b, (signedBy Kv Sv ok b pre).length ≤ sizeLine := fun b => by rw [sizeLine_eq]; have := signedBy_len Kv Sv ok b pre; omega
    have hz1 := hz true
    have hz2 := hz false
    clear hz
    rw [signedBy_snoc, signedBy_snoc]
    rcases hv : valueAt Kv k with _ | v
    · have hver : verdict Kv Sv ok k = none := by unfold verdict; rw [hv]; rfl
      rw [hver]; dsimp only
      k_steps
      repeat (first | k_unfold | dsimp only)
      walk_at "my end2"
    · obtain ⟨ka, rfl, k1, k2, k3, pd, k5, kt, hk1, hk2⟩ := hK k v hv
      dsimp only
      k_steps
      rcases hs : valueAt Sv k with _ | sv
      · have hver : verdict Kv Sv ok k = some (.ref ka, false) := by unfold verdict; rw [hv, hs]; rfl
        k_steps
        repeat (first | k_unfold | dsimp only)
        rw [hver]; dsimp only
        walk_at "my end2"
      · obtain ⟨sa, rfl, s1, s3, st, hs1⟩ := hS k sv hs
        have hpk := hpp k; have hpk2 := hpk.2; have hsk := hps k; have hsk2 := hsk.2
        k_steps
        · repeat (first | k_unfold | dsimp only)
          (rename (_ != _) = true => hq)
          have hb := beqL (r := false) hq
          have hver : verdict Kv Sv ok k = some (.ref ka, false) := by unfold verdict; rw [hv, hs, ← hok]; simp only [Option.map_some, Option.isSome_some, Bool.true_and, hb]
          rw [hver]; dsimp only
          walk_at "my end2"
        · repeat (first | k_unfold | dsimp only)
          (rename (_ != _) = false => hq)
          have hb := beqL (r := true) hq
          have hver : verdict Kv Sv ok k = some (.ref ka, true) := by unfold verdict; rw [hv, hs, ← hok]; simp only [Option.map_some, Option.isSome_some, Bool.true_and, hb]
          rw [hver]; dsimp only
          walk_at "my end2"
  case done =>
    intro m₁ o1 o2 g h tk TN ha hd1 hd2 F1 N1
    rw [ha.three] at F1
    have Bg := below_turn B9 TN; have Xg := XB.keeps Bg.stays; have Tg := TB.keeps Bg.stays; have Dg := D9.turn TN
    have hra := hra.mono (Sub.turn TN)
    k_steps
    (rename News _ _ _ ((_, _) :: (_, _) :: (_, _) :: _) => NN)
    exact ret _ _ _ _ _ _ (G.extT TN (by assumption)) (G.madeT TN NN (fun _ h => h)) (inst_of (by k_mem) (by k_mem) (by exact ⟨⟨_, rfl⟩, rfl, ⟨_, rfl⟩, rfl, ⟨_, rfl⟩, rfl, trivial⟩)) ⟨by assumption, _, by k_mem, hd1⟩ ⟨by assumption, _, by k_mem, hd2⟩
example : True ∧ True := by w_top off; first | (walk1; done) | exact ⟨trivial, trivial⟩
-- C9
theorem c_draws {w : World} {loose : List Str} {mean : ExcName → Option Value} {mg mb : Str → Option Value} {dp un : Nat} {gd : Option (List Code)} {cn : Str} {cs : Scope} {a : Addr} {ccd : Value} {cl : List (Str × Addr)} {outer : List Env} {A₀ : Around} {base h₀ : Heap} {L : Addr} {m : Str → Option Value} {s : Shared} {Q E : Value → Shared → Prop}
    {sl : Addr} {vs : List Value} {ns : List Int}
    (C : Cx (hd.heap_1 w.params) pv loose mean mg mb A₀ base outer h₀ L s.heap m) (hk : cs.kind = .function) (room : dp + 16 < recursionLimit) (units : un + 200 < cLine)
    (hsl : LstOf (At (L :: frs outer) s.heap) sl vs) (hi : IntsAre vs ns) (hl : vs.length ≤ 1000)
    (ret : ∀ r rl o its nn h' tk', Ext [] [] s.heap h' → Made s.heap h' [(r, o), (rl, W.listOf its nn)] → (r == sysModules) = false → DrawsU PySem.Challenge.rw_jk0048_02.row.prog w o rl 0 → IntsIn its.toList 0 997 → its.size ≤ 144 → Q (.ref r) { s with heap := h', toks := tk' }) :
    wpAny (model PySem.Challenge.rw_jk0048_02.row.prog w) (ktrTop dp un gd cn cs L a ccd cl outer) (call (.ref 652) [.ref sl]) Q E s := by
  obtain ⟨B, F, X, T, XB, TB, D⟩ := C
  walk_at "my enter"
  (rename Grd _ _ _ _ => G)
  (rename KtsDicts _ _ => D9)
  (rename Below _ _ _ _ => B9)
  have hsl := ((hsl.mono G.sub).mono Sub.now).at
  have hsz : vs.toArray.size ≤ 1000 := by simpa using hl
  k_steps
  walk_at "my for0"
  k_steps
  refine Halt.elim ?_
  (rename IntsAre _ (List.take 24 ns) => hI)
  (rename News _ _ _ [(_, _), (_, _)] => N9)
  refine' loopLn1 (fun m₀ d i => RowSt ["cell", "turn"] [] m₀ d (6 * i)) rfl (by assumption) N9 (by k_ne) ?j0 ?turn ?done
  case j0 => exact ⟨.refl, #[], 0, rfl, (fun v hv => by simp at hv), by simp, (fun p hp => nomatch hp)⟩
  case turn =>
    clear N9
    rintro i v m₁ _ own g h tk TN hv ⟨ha, its, nn, rfl, hin, hsz2, hoff⟩ hap F1 N1
    obtain ⟨c0, t0, rfl, hc0⟩ := IntsAre.at hI i v hv
    rw [ha.two] at F1
    have F1 := fr_nil TN F1; have N1 := news_nil TN N1
    clear TN
    have hi24 : i < 24 := by have := (List.getElem?_eq_some_iff.mp hc0).1; rw [List.length_take] at this; omega
    simp only [List.cons_append, List.nil_append] at N1
    k_steps
    walk_at "my for0"
    k_steps
    refine Halt.elim ?_
    (rename News _ _ _ ((_, W.listOf _ _) :: _) => N8)
    have hoO := offApp1 hoff hap
    simp only [List.nil_append] at hoO
    refine' loopR1 (n := 6) (fun m₀ d j m₁ news₁ => RowSt ["cell", "turn"] own m₀ d (6 * i + j) m₁ news₁ ∧ ∃ c t, m₁ "cell" = some (.int c t)) rfl dicts_nil (by assumption) N8 (by assumption) (by decide +kernel) (by decide +kernel) ?j1 ?turn1 ?done1
    case j1 => exact ⟨⟨.refl, its, nn, rfl, hin, by omega, hoO⟩, _, _, rfl⟩
    case turn1 =>
      clear N8
      rintro j t1 m₂ _ own2 g2 h2 tk2 TN2 hj ⟨⟨ha2, its2, nn2, rfl, hin2, hsz3, hoff2⟩, c, tc, hcc⟩ hap2 F2 N2
      rw [ha2.two, hcc] at F2
      have F2 := fr_nil TN2 F2; have N2 := news_nil TN2 N2
      clear TN2
      simp only [List.cons_append] at N2
      have hofo := offApp1 hoff2 hap2
      generalize ho3 : own ++ own2 = o3 at N2 hofo
      have hzz : its2.size ≤ sizeLine := by rw [sizeLine_eq]; omega
      k_steps
      subst ho3
      (rename Fr _ _ _ _ => F3)
      (rename News _ _ _ ((_, W.listOf (Array.push _ _) _) :: _) => N3)
      exact ⟨_, _, _, _, (_, _) :: own, rfl, KtsTurn.refl, F3, N3, apartHead hap2, ⟨⟨by walk_at "my agree", _, _, rfl, hin2.snoc (Int.fmod_nonneg_of_pos _ (by decide)) (Int.fmod_lt_of_pos _ (by decide)), by simp; omega, hoff2⟩, _, _, rfl⟩⟩
    case done1 =>
      rintro m₂ _ g2 h2 tk2 TN2 ⟨⟨ha2, its2, nn2, rfl, hin2, hsz3, hoff2⟩, c, tc, hcc⟩ F2 N2
      rw [ha2.two] at F2
      have F2 := fr_nil TN2 F2; have N2 := news_nil TN2 N2
      clear TN2
      k_steps
      exact ⟨_, _, _, _, [(_, _)], rfl, KtsTurn.refl, F2, N2, apartHead hap, ⟨by walk_at "my agree", _, _, rfl, hin2, by omega, hoff⟩⟩
  case done =>
    rintro m₂ _ g2 h2 tk2 TN2 ⟨ha2, its2, nn2, rfl, hin2, hsz3, hoff2⟩ F2 N2
    rw [ha2.two] at F2
    have F2 := fr_nil TN2 F2; have N2 := news_nil TN2 N2
    clear TN2
    k_steps
    repeat (first | k_unfold | dsimp only)
    (rename News _ _ _ (_ :: (_, W.listOf _ _) :: _) => N3)
    exact ret _ _ _ _ _ _ _ (G.extM (by assumption)) (G.made2 N3 (by simp) (by simp)) (by assumption) ⟨0, Int.le_refl _, Int.le_refl _, _, by assumption⟩ hin2 (by have : its2.size ≤ 6 * 24 := Nat.le_trans hsz3 (Nat.mul_le_mul_left _ (by rw [hI.length, List.length_take]; omega)); omega)
example : True ∧ True := by w_top off; first | (walk1; done) | exact ⟨trivial, trivial⟩
-- C9K
theorem c_drawsK {w : World} {loose : List Str} {mean : ExcName → Option Value} {mg mb : Str → Option Value} {dp un : Nat} {gd : Option (List Code)} {cn : Str} {cs : Scope} {a : Addr} {ccd : Value} {cl : List (Str × Addr)} {outer : List Env} {A₀ : Around} {base h₀ : Heap} {L : Addr} {m : Str → Option Value} {s : Shared} {Q E : Value → Shared → Prop}
    {sl : Addr} {vs : List Value} {ns : List Int} {news : List (Addr × Obj)}
    (C : Cx (hd.heap_1 w.params) pv loose mean mg mb A₀ base outer h₀ L s.heap m) (hk : cs.kind = .function) (room : dp + 16 < recursionLimit) (units : un + 200 < cLine)
    (N : News h₀ L s.heap news) (hsl : LstOf (At (L :: frs outer) s.heap) sl vs) (hi : IntsAre vs ns) (hl : vs.length ≤ 1000)
    (ret : Halt (∀ r rl o its nn h' tk', Fr h₀ L h' m → News h₀ L h' (news ++ [(r, o), (rl, W.listOf its nn)]) → OwnOff [(r, o), (rl, W.listOf its nn)] (news.map (·.1)) → (r == sysModules) = false → DrawsU PySem.Challenge.rw_jk0048_02.row.prog w o rl 0 → IntsIn its.toList 0 997 → its.size ≤ 144 → Q (.ref r) { s with heap := h', toks := tk' })) :
    wpAny (model PySem.Challenge.rw_jk0048_02.row.prog w) (ktrTop dp un gd cn cs L a ccd cl outer) (call (.ref 652) [.ref sl]) Q E s := by
  refine c_draws C hk room units hsl hi hl fun r rl o its nn h' tk' hE hM lo hd h1 h2 => ?_
  obtain ⟨F', N', O'⟩ := led_none C.F N hE hM
  exact ret r rl o its nn h' tk' F' N' O' lo hd h1 h2
example : True ∧ True := by w_top off; first | (walk1; done) | exact ⟨trivial, trivial⟩
-- D1
theorem c_gvrB {w : World} {loose : List Str} {mean : ExcName → Option Value} {mg mb : Str → Option Value} {dp un : Nat} {gd : Option (List Code)} {cn : Str} {cs : Scope} {a : Addr} {ccd : Value} {cl : List (Str × Addr)} {outer : List Env} {A₀ : Around} {base h₀ : Heap} {L : Addr} {m : Str → Option Value} {s : Shared} {Q E : Value → Shared → Prop}
    {x rd kd sd : Addr} {ver : Int} {rs : List RoleSpec} {r : RoleSpec} {Kv Sv : List (Str × Value)} {tk tl : Tok} {sig : Str → Str}
    (C : Cx (hd.heap_1 w.params) pv loose mean mg mb A₀ base outer h₀ L s.heap m) (hk : cs.kind = .function) (room : dp + 8 < recursionLimit) (units : un + 100 < cLine)
    (hR : RootOk PySem.Challenge.rw_jk0048_02.row.prog w (At (L :: frs outer) s.heap) x rd kd ver rs Kv) (hr : r ∈ rs) (hsd : SDict PySem.Challenge.rw_jk0048_02.row.prog w (At (L :: frs outer) s.heap) sd Sv) (hS : SigsOk 101 (At (L :: frs outer) s.heap) Sv sig) (hst : ∀ x, sig x ∈ sigTexts)
    (ret : ∀ v tl h' tk', Ext (L :: frs outer) [] s.heap h' → Made s.heap h' tl → VerRes PySem.Challenge.rw_jk0048_02.row.prog w (Led tl) v r.thr (signedBy Kv Sv (okS sig) true r.names) (signedBy Kv Sv (okS sig) false r.names) → Q (.ref v) { s with heap := h', toks := tk' }) :
    wpAny (model PySem.Challenge.rw_jk0048_02.row.prog w) (ktrTop dp un gd cn cs L a ccd cl outer) (call (.ref 362) [.ref x, .str r.name tk, .bytes loadB tl, .ref sd]) Q E s := by
  obtain ⟨kd2, md, ps, v1, v2, tv, v4, v5, hx, hkd2, hmd, hRR, hrd, hT, hkd, hK, hkn, hkl, hnm⟩ := hR
  obtain ⟨nl, vs0, t0, q1, q2, q3, q4, q5, q6⟩ := hT r hr
  obtain ⟨i, hi⟩ := List.getElem?_of_mem hr
  have hlt : i < ps.length := by rw [hRR.1]; exact (List.getElem?_eq_some_iff.mp hi).1
  have hp : ps[i]? = some ps[i] := List.getElem?_eq_getElem hlt
  obtain ⟨e1, ra, e2, kl, vs, t, v6, w1, w2, w3⟩ := hRR.2 i r _ hi hp
  have hnd : (ps.map (·.1)).Nodup := by rw [hRR.names, hnm]; exact four_nodup
  have hrn : valueAt ps r.name = some (.ref ra) := by
    refine valueAt_mem hnd ?_
    have := List.mem_of_getElem? hp
    rw [show ps[i] = (r.name, .ref ra) from Prod.ext e1 e2] at this
    exact this
  refine c_gvr C hk (by omega) (by omega) hx hmd hrn w1 w2 w3 (by have := q4.2.2.1; omega) (fun k hk' => kNames_len k (q4.2.2.2 k hk')) hkd2 hK hsd plain_pub (fun k => plain_sig _ (hst k)) (by decide) hS fun rr d1 d2 tlr h' tk' hE hM hI hd1 hd2 => ?_
  have hc : ∀ b, signedBy Kv Sv (fun k => utf8 (sig k) == utf8 (pubOf k) ++ #[58] ++ loadB) b r.names = signedBy Kv Sv (okS sig) b r.names := fun b => signedBy_congr fun k hk' => ok_same hst (q4.2.2.2 k hk')
  rw [hc] at hd1 hd2
  exact ret rr tlr h' tk' hE hM ⟨d1, d2, _, hI, hd1, hd2⟩
theorem c_dueB {w : World} {loose : List Str} {mean : ExcName → Option Value} {mg mb : Str → Option Value} {dp un : Nat} {gd : Option (List Code)} {cn : Str} {cs : Scope} {a : Addr} {ccd : Value} {cl : List (Str × Addr)} {outer : List Env} {A₀ : Around} {base h₀ : Heap} {L : Addr} {m : Str → Option Value} {s : Shared} {Q E : Value → Shared → Prop}
    {ro kd sd : Addr} {names : List Str} {thr : Int} {Kv Sv : List (Str × Value)} {sig : Str → Str}
    (C : Cx (hd.heap_1 w.params) pv loose mean mg mb A₀ base outer h₀ L s.heap m) (hk : cs.kind = .function) (room : dp + 8 < recursionLimit) (units : un + 100 < cLine)
    (hro : RoleTup (At (L :: frs outer) s.heap) ro names thr) (hkd : SDict PySem.Challenge.rw_jk0048_02.row.prog w (At (L :: frs outer) s.heap) kd Kv) (hsd : SDict PySem.Challenge.rw_jk0048_02.row.prog w (At (L :: frs outer) s.heap) sd Sv) (hS : SigsOk 101 (At (L :: frs outer) s.heap) Sv sig)
    (ret : ∀ v tl h' tk', Ext (L :: frs outer) [] s.heap h' → Made s.heap h' tl → DueOk PySem.Challenge.rw_jk0048_02.row.prog w (Led tl) v thr (signedBy Kv Sv (okS sig) true names) (signedBy Kv Sv (okS sig) false names) → Q (.ref v) { s with heap := h', toks := tk' }) :
    wpAny (model PySem.Challenge.rw_jk0048_02.row.prog w) (ktrTop dp un gd cn cs L a ccd cl outer) (call (.ref 690) [.ref ro, .ref kd, .ref sd]) Q E s := by
  obtain ⟨nl, vs0, t0, q1, q2, q3, q4, q5, q6⟩ := hro
  refine c_due C hk room units q1 q2 q3 (by have := q4.2.2.1; omega) (fun k hk' => kNames_len k (q4.2.2.2 k hk')) (ok := okS sig) (fun k => rfl) hkd hsd hS fun r d1 d2 b1 i1 t1 tl h' tk' hE hM hT hb hi h1 h2 => ?_
  exact ret r tl h' tk' hE hM ⟨d1, d2, b1, i1, t1, hT, hb, hi, h1, h2⟩
theorem c_isB {w : World} {loose : List Str} {mean : ExcName → Option Value} {mg mb : Str → Option Value} {dp un : Nat} {gd : Option (List Code)} {cn : Str} {cs : Scope} {a : Addr} {ccd : Value} {cl : List (Str × Addr)} {outer : List Env} {A₀ : Around} {base h₀ : Heap} {L : Addr} {m : Str → Option Value} {s : Shared} {Q E : Value → Shared → Prop}
    {x due : Addr} {thr : Int} {K1 K2 : List (Str × Value)}
    (C : Cx (hd.heap_1 w.params) pv loose mean mg mb A₀ base outer h₀ L s.heap m) (hk : cs.kind = .function) (room : dp + 8 < recursionLimit) (units : un + 100 < cLine)
    (hx : VerRes PySem.Challenge.rw_jk0048_02.row.prog w (At (L :: frs outer) s.heap) x thr K1 K2) (hd : DueOk PySem.Challenge.rw_jk0048_02.row.prog w (At (L :: frs outer) s.heap) due thr K1 K2) (h1 : ∀ p ∈ K1, p.1 ∈ kNames) (h2 : ∀ p ∈ K2, p.1 ∈ kNames) (z1 : K1.length ≤ 1000) (z2 : K2.length ≤ 1000)
    (ret : ∀ h' tk', Ext (L :: frs outer) [] s.heap h' → Q (.bool true) { s with heap := h', toks := tk' }) :
    wpAny (model PySem.Challenge.rw_jk0048_02.row.prog w) (ktrTop dp un gd cn cs L a ccd cl outer) (call (.ref 697) [.ref x, .ref due]) Q E s := by
  obtain ⟨a1, a2, tt, p1, p2, p3⟩ := hx
  obtain ⟨d1, d2, b1, i1, t1, q1, q2, q3, q4, q5⟩ := hd
  have ok : ∀ K : List (Str × Value), (∀ p ∈ K, p.1 ∈ kNames) → ∀ k ∈ K.map (·.1), PyData.strOk k = true := fun K h k hk' => by
    obtain ⟨p, hp, rfl⟩ := List.mem_map.mp hk'
    exact kNames_ok _ (h p hp)
  exact c_is C hk room units p1 q1 p2 p3 q4 q5 q2 q3 (ok K1 h1) (ok K2 h2) (by omega) (by omega) ret
example : True ∧ True := by w_top off; first | (walk1; done) | exact ⟨trivial, trivial⟩
-- D1K
theorem c_gvrK {w : World} {loose : List Str} {mean : ExcName → Option Value} {mg mb : Str → Option Value} {dp un : Nat} {gd : Option (List Code)} {cn : Str} {cs : Scope} {a : Addr} {ccd : Value} {cl : List (Str × Addr)} {A₀ : Around} {base h₀ : Heap} {L : Addr} {m : Str → Option Value} {s : Shared} {Q E : Value → Shared → Prop}
    {x rd kd sd : Addr} {ver : Int} {rs : List RoleSpec} {r : RoleSpec} {Kv Sv : List (Str × Value)} {tk tl : Tok} {sig : Str → Str} {news : List (Addr × Obj)}
    (C : Cx (hd.heap_1 w.params) pv loose mean mg mb A₀ base [] h₀ L s.heap m) (hk : cs.kind = .function) (room : dp + 8 < recursionLimit) (units : un + 100 < cLine)
    (N : News h₀ L s.heap news) (hR : RootOk PySem.Challenge.rw_jk0048_02.row.prog w (At [L] s.heap) x rd kd ver rs Kv) (hr : r ∈ rs) (hsd : SDict PySem.Challenge.rw_jk0048_02.row.prog w (At [L] s.heap) sd Sv) (hS : SigsOk 101 (At [L] s.heap) Sv sig) (hst : ∀ x, sig x ∈ sigTexts)
    (ret : Halt (∀ v tl h' tk', Fr h₀ L h' m → News h₀ L h' (news ++ tl) → OwnOff tl (news.map (·.1)) → VerRes PySem.Challenge.rw_jk0048_02.row.prog w (Led tl) v r.thr (signedBy Kv Sv (okS sig) true r.names) (signedBy Kv Sv (okS sig) false r.names) → Q (.ref v) { s with heap := h', toks := tk' })) :
    wpAny (model PySem.Challenge.rw_jk0048_02.row.prog w) (ktrTop dp un gd cn cs L a ccd cl []) (call (.ref 362) [.ref x, .str r.name tk, .bytes loadB tl, .ref sd]) Q E s := by
  refine c_gvrB (outer := []) C hk room units hR hr hsd hS hst fun v tlr h' tk' hE hM hV => ?_
  obtain ⟨F', N', O'⟩ := led_turn C N hE hM
  exact ret v tlr h' tk' F' N' O' hV
theorem c_dueK {w : World} {loose : List Str} {mean : ExcName → Option Value} {mg mb : Str → Option Value} {dp un : Nat} {gd : Option (List Code)} {cn : Str} {cs : Scope} {a : Addr} {ccd : Value} {cl : List (Str × Addr)} {A₀ : Around} {base h₀ : Heap} {L : Addr} {m : Str → Option Value} {s : Shared} {Q E : Value → Shared → Prop}
    {ro kd sd : Addr} {names : List Str} {thr : Int} {Kv Sv : List (Str × Value)} {sig : Str → Str} {news : List (Addr × Obj)}
    (C : Cx (hd.heap_1 w.params) pv loose mean mg mb A₀ base [] h₀ L s.heap m) (hk : cs.kind = .function) (room : dp + 8 < recursionLimit) (units : un + 100 < cLine)
    (N : News h₀ L s.heap news) (hro : RoleTup (At [L] s.heap) ro names thr) (hkd : SDict PySem.Challenge.rw_jk0048_02.row.prog w (At [L] s.heap) kd Kv) (hsd : SDict PySem.Challenge.rw_jk0048_02.row.prog w (At [L] s.heap) sd Sv) (hS : SigsOk 101 (At [L] s.heap) Sv sig)
    (ret : Halt (∀ v tl h' tk', Fr h₀ L h' m → News h₀ L h' (news ++ tl) → OwnOff tl (news.map (·.1)) → DueOk PySem.Challenge.rw_jk0048_02.row.prog w (Led tl) v thr (signedBy Kv Sv (okS sig) true names) (signedBy Kv Sv (okS sig) false names) → Q (.ref v) { s with heap := h', toks := tk' })) :
    wpAny (model PySem.Challenge.rw_jk0048_02.row.prog w) (ktrTop dp un gd cn cs L a ccd cl []) (call (.ref 690) [.ref ro, .ref kd, .ref sd]) Q E s := by
  refine c_dueB (outer := []) C hk room units hro hkd hsd hS fun v tlr h' tk' hE hM hV => ?_
  obtain ⟨F', N', O'⟩ := led_turn C N hE hM
  exact ret v tlr h' tk' F' N' O' hV
theorem c_isK {w : World} {loose : List Str} {mean : ExcName → Option Value} {mg mb : Str → Option Value} {dp un : Nat} {gd : Option (List Code)} {cn : Str} {cs : Scope} {a : Addr} {ccd : Value} {cl : List (Str × Addr)} {A₀ : Around} {base h₀ : Heap} {L : Addr} {m : Str → Option Value} {s : Shared} {Q E : Value → Shared → Prop}
    {x due : Addr} {thr : Int} {K1 K2 : List (Str × Value)} {news : List (Addr × Obj)}
    (C : Cx (hd.heap_1 w.params) pv loose mean mg mb A₀ base [] h₀ L s.heap m) (hk : cs.kind = .function) (room : dp + 8 < recursionLimit) (units : un + 100 < cLine)
    (N : News h₀ L s.heap news) (hx : VerRes PySem.Challenge.rw_jk0048_02.row.prog w (At [L] s.heap) x thr K1 K2) (hd : DueOk PySem.Challenge.rw_jk0048_02.row.prog w (At [L] s.heap) due thr K1 K2) (h1 : ∀ p ∈ K1, p.1 ∈ kNames) (h2 : ∀ p ∈ K2, p.1 ∈ kNames) (z1 : K1.length ≤ 1000) (z2 : K2.length ≤ 1000)
    (ret : ∀ h' tk', Fr h₀ L h' m → News h₀ L h' news → Q (.bool true) { s with heap := h', toks := tk' }) :
    wpAny (model PySem.Challenge.rw_jk0048_02.row.prog w) (ktrTop dp un gd cn cs L a ccd cl []) (call (.ref 697) [.ref x, .ref due]) Q E s := by
  refine c_isB (outer := []) C hk room units hx hd h1 h2 z1 z2 fun h' tk' hE => ?_
  obtain ⟨F', N', O'⟩ := led_turn C N hE (tl := []) Made.nil
  exact ret h' tk' F' (by simpa using N')
-- P50
example : True := by
  k_with "!call ref" => (k_here; (fail_if_success (rename NoHalt => nh9)); (with_reducible refine haltC (by decide) ?_))
  trivial

example : True ∧ True := by w_top off; first | (walk1; done) | exact ⟨trivial, trivial⟩
-- D2
theorem c_gvrN {w : World} {loose : List Str} {mean : ExcName → Option Value} {mg mb : Str → Option Value} {dp un : Nat} {gd : Option (List Code)} {cn : Str} {cs : Scope} {a : Addr} {ccd : Value} {cl : List (Str × Addr)} {outer : List Env} {A₀ : Around} {base h₀ : Heap} {L : Addr} {m : Str → Option Value} {s : Shared} {Q E : Value → Shared → Prop}
    {x rd kd sd : Addr} {ver : Int} {rs : List RoleSpec} {r : RoleSpec} {Kv Sv : List (Str × Value)} {nm : Str} {tk tl : Tok} {sig : Str → Str}
    (C : Cx (hd.heap_1 w.params) pv loose mean mg mb A₀ base outer h₀ L s.heap m) (hk : cs.kind = .function) (room : dp + 8 < recursionLimit) (units : un + 100 < cLine)
    (hR : RootOk PySem.Challenge.rw_jk0048_02.row.prog w (At (L :: frs outer) s.heap) x rd kd ver rs Kv) (hr : r ∈ rs) (hnm : r.name = nm) (hsd : SDict PySem.Challenge.rw_jk0048_02.row.prog w (At (L :: frs outer) s.heap) sd Sv) (hS : SigsOk 101 (At (L :: frs outer) s.heap) Sv sig) (hst : ∀ x, sig x ∈ sigTexts)
    (ret : ∀ v tl h' tk', Ext (L :: frs outer) [] s.heap h' → Made s.heap h' tl → VerRes PySem.Challenge.rw_jk0048_02.row.prog w (Led tl) v r.thr (signedBy Kv Sv (okS sig) true r.names) (signedBy Kv Sv (okS sig) false r.names) → Q (.ref v) { s with heap := h', toks := tk' }) :
    wpAny (model PySem.Challenge.rw_jk0048_02.row.prog w) (ktrTop dp un gd cn cs L a ccd cl outer) (call (.ref 362) [.ref x, .str nm tk, .bytes loadB tl, .ref sd]) Q E s := by
  subst hnm
  exact c_gvrB C hk room units hR hr hsd hS hst ret
theorem c_grvr {w : World} {loose : List Str} {mean : ExcName → Option Value} {mg mb : Str → Option Value} {dp un : Nat} {gd : Option (List Code)} {cn : Str} {cs : Scope} {a : Addr} {ccd : Value} {cl : List (Str × Addr)} {outer : List Env} {A₀ : Around} {base h₀ : Heap} {L : Addr} {m : Str → Option Value} {s : Shared} {Q E : Value → Shared → Prop}
    {x rd kd y rd' kd' sd : Addr} {ver ver' : Int} {rs rs' : List RoleSpec} {r r' : RoleSpec} {Kv Kv' Sv : List (Str × Value)} {tl : Tok} {sig : Str → Str}
    (C : Cx (hd.heap_1 w.params) pv loose mean mg mb A₀ base outer h₀ L s.heap m) (hk : cs.kind = .function) (room : dp + 16 < recursionLimit) (units : un + 200 < cLine)
    (hR : RootOk PySem.Challenge.rw_jk0048_02.row.prog w (At (L :: frs outer) s.heap) x rd kd ver rs Kv) (hr : r ∈ rs) (hnm : r.name = Str.ofString "root") (hR' : RootOk PySem.Challenge.rw_jk0048_02.row.prog w (At (L :: frs outer) s.heap) y rd' kd' ver' rs' Kv') (hr' : r' ∈ rs') (hnm' : r'.name = Str.ofString "root") (hv : ver = ver' + 1) (hv0 : 0 < ver') (hv1 : ver' < 100)
    (hsd : SDict PySem.Challenge.rw_jk0048_02.row.prog w (At (L :: frs outer) s.heap) sd Sv) (hS : SigsOk 101 (At (L :: frs outer) s.heap) Sv sig) (hst : ∀ x, sig x ∈ sigTexts)
    (ret : ∀ v a b tl h' tk', Ext (L :: frs outer) [] s.heap h' → Made s.heap h' tl → Inst (Led tl) v 344 [("first", .ref a), ("second", .ref b)] → VerRes PySem.Challenge.rw_jk0048_02.row.prog w (Led tl) a r'.thr (signedBy Kv' Sv (okS sig) true r'.names) (signedBy Kv' Sv (okS sig) false r'.names) → VerRes PySem.Challenge.rw_jk0048_02.row.prog w (Led tl) b r.thr (signedBy Kv Sv (okS sig) true r.names) (signedBy Kv Sv (okS sig) false r.names) → Q (.ref v) { s with heap := h', toks := tk' }) :
    wpAny (model PySem.Challenge.rw_jk0048_02.row.prog w) (ktrTop dp un gd cn cs L a ccd cl outer) (call (.ref 448) [.ref x, .ref y, .bytes loadB tl, .ref sd]) Q E s := by
  obtain ⟨B, F, X, T, XB, TB, D⟩ := C
  walk_at "my enter"
  (rename Grd _ _ _ _ => G)
  (rename KtsDicts _ _ => D9)
  (rename Below _ _ _ _ => B9)
  have hR := hR.mono G.sub; have hR' := hR'.mono G.sub; have hsd := hsd.mono G.sub; have hS := hS.mono G.sub
  obtain ⟨_, _, _, _, _, tv1, _, _, hx, _⟩ := id hR
  obtain ⟨_, _, _, _, _, tv2, _, _, hy, _⟩ := id hR'
  k_steps
  · exfalso; omega
  refine Halt.elim ?_
  (rename Fr _ _ _ _ => F9); (rename Frag.In _ _ => X9); (rename Top _ _ _ _ _ _ => T9)
  have C9 : Cx _ _ _ _ _ _ _ _ _ _ _ _ _ := ⟨B9, F9, X9, T9, XB, TB, D9⟩
  with_unfolding_all refine' c_gvrN C9 rfl ?room ?units (hR'.mono (Sub.call F9)) hr' hnm' (hsd.mono (Sub.call F9)) (hS.mono (Sub.call F9)) hst ?_
  case room => k_room
  case units => units_room
  intro v1 tl1 h1 tk1 hE1 hM1 hV1
  obtain ⟨g2, TN2, C2, hn2, ht2⟩ := Cx.after C9 hE1 (fun _ h => nomatch h)
  have N2 := ht2 _ hM1
  obtain ⟨B2, F2, X2, T2, _, _, D2⟩ := C2
  have hR := hR.mono (Sub.turn TN2); have hsd := hsd.mono (Sub.turn TN2); have hS := hS.mono (Sub.turn TN2); have hx := hx.mono (Sub.turn TN2)
  clear C9 F9 X9 T9 hE1 hn2 ht2 B9 D9
  k_steps
  refine Halt.elim ?_
  (rename Fr _ _ _ _ => F9); (rename News _ _ _ _ => N9)
  have C9 : Cx _ _ _ _ _ _ _ _ _ _ _ _ _ := ⟨B2, F9, X2, T2, XB, TB, D2⟩
  with_unfolding_all refine' c_gvrN C9 rfl ?room ?units (hR.mono (Sub.call F9)) hr hnm (hsd.mono (Sub.call F9)) (hS.mono (Sub.call F9)) hst ?_
  case room => k_room
  case units => units_room
  intro v2 tl2 h2 tk2 hE2 hM2 hV2
  obtain ⟨g3, TN3, C3, hn3, ht3⟩ := Cx.after C9 hE2 (fun _ h => nomatch h)
  have N3 := News.app (hn3 _ N9 (by simp)) (ht3 _ hM2)
  obtain ⟨B3, F3, X3, T3, _, _, D3⟩ := C3
  clear C9 F9 N9 hE2 hn3 ht3 B2 D2 X2 T2
  generalize htl : tl1 ++ tl2 = tl3 at N3
  k_steps
  subst htl
  (rename Fr g3 _ _ _ => FL); (rename News g3 _ _ _ => NL)
  exact ret _ _ _ _ _ _ (G.extT (TN2.trans TN3) FL) (G.madeT (TN2.trans TN3) NL (fun _ h => h)) (inst_of (.head _) (.tail _ (.head _)) (by exact ⟨⟨_, rfl⟩, rfl, ⟨_, rfl⟩, rfl, trivial⟩)) (hV1.mono (Sub.mem fun p hp => .tail _ (.tail _ (List.mem_append_left _ hp)))) (hV2.mono (Sub.mem fun p hp => .tail _ (.tail _ (List.mem_append_right _ hp))))
theorem c_grvr0 {w : World} {loose : List Str} {mean : ExcName → Option Value} {mg mb : Str → Option Value} {dp un : Nat} {gd : Option (List Code)} {cn : Str} {cs : Scope} {a : Addr} {ccd : Value} {cl : List (Str × Addr)} {outer : List Env} {A₀ : Around} {base h₀ : Heap} {L : Addr} {m : Str → Option Value} {s : Shared} {Q E : Value → Shared → Prop}
    {x rd kd sd : Addr} {ver : Int} {rs : List RoleSpec} {r : RoleSpec} {Kv Sv : List (Str × Value)} {tl : Tok} {sig : Str → Str}
    (C : Cx (hd.heap_1 w.params) pv loose mean mg mb A₀ base outer h₀ L s.heap m) (hk : cs.kind = .function) (room : dp + 16 < recursionLimit) (units : un + 200 < cLine)
    (hR : RootOk PySem.Challenge.rw_jk0048_02.row.prog w (At (L :: frs outer) s.heap) x rd kd ver rs Kv) (hr : r ∈ rs) (hnm : r.name = Str.ofString "root")
    (hsd : SDict PySem.Challenge.rw_jk0048_02.row.prog w (At (L :: frs outer) s.heap) sd Sv) (hS : SigsOk 101 (At (L :: frs outer) s.heap) Sv sig) (hst : ∀ x, sig x ∈ sigTexts)
    (ret : ∀ v a b tl h' tk', Ext (L :: frs outer) [] s.heap h' → Made s.heap h' tl → Inst (Led tl) v 344 [("first", .ref a), ("second", .ref b)] → VerRes PySem.Challenge.rw_jk0048_02.row.prog w (Led tl) a r.thr (signedBy Kv Sv (okS sig) true r.names) (signedBy Kv Sv (okS sig) false r.names) → VerRes PySem.Challenge.rw_jk0048_02.row.prog w (Led tl) b r.thr (signedBy Kv Sv (okS sig) true r.names) (signedBy Kv Sv (okS sig) false r.names) → Q (.ref v) { s with heap := h', toks := tk' }) :
    wpAny (model PySem.Challenge.rw_jk0048_02.row.prog w) (ktrTop dp un gd cn cs L a ccd cl outer) (call (.ref 448) [.ref x, .none, .bytes loadB tl, .ref sd]) Q E s := by
  obtain ⟨B, F, X, T, XB, TB, D⟩ := C
  walk_at "my enter"
  (rename Grd _ _ _ _ => G)
  (rename KtsDicts _ _ => D9)
  (rename Below _ _ _ _ => B9)
  have hR := hR.mono G.sub; have hsd := hsd.mono G.sub; have hS := hS.mono G.sub
  obtain ⟨_, _, _, _, _, tv1, _, _, hx, _⟩ := id hR
  k_steps
  refine Halt.elim ?_
  (rename Fr _ _ _ _ => F9); (rename Frag.In _ _ => X9); (rename Top _ _ _ _ _ _ => T9)
  have C9 : Cx _ _ _ _ _ _ _ _ _ _ _ _ _ := ⟨B9, F9, X9, T9, XB, TB, D9⟩
  with_unfolding_all refine' c_gvrN C9 rfl ?room ?units (hR.mono (Sub.call F9)) hr hnm (hsd.mono (Sub.call F9)) (hS.mono (Sub.call F9)) hst ?_
  case room => k_room
  case units => units_room
  intro v1 tl1 h1 tk1 hE1 hM1 hV1
  obtain ⟨g2, TN2, C2, hn2, ht2⟩ := Cx.after C9 hE1 (fun _ h => nomatch h)
  have N2 := ht2 _ hM1
  obtain ⟨B2, F2, X2, T2, _, _, D2⟩ := C2
  have hR := hR.mono (Sub.turn TN2); have hsd := hsd.mono (Sub.turn TN2); have hS := hS.mono (Sub.turn TN2); have hx := hx.mono (Sub.turn TN2)
  clear C9 F9 X9 T9 hE1 hn2 ht2 B9 D9
  k_steps
  refine Halt.elim ?_
  (rename Fr _ _ _ _ => F9); (rename News _ _ _ _ => N9)
  have C9 : Cx _ _ _ _ _ _ _ _ _ _ _ _ _ := ⟨B2, F9, X2, T2, XB, TB, D2⟩
  with_unfolding_all refine' c_gvrN C9 rfl ?room ?units (hR.mono (Sub.call F9)) hr hnm (hsd.mono (Sub.call F9)) (hS.mono (Sub.call F9)) hst ?_
  case room => k_room
  case units => units_room
  intro v2 tl2 h2 tk2 hE2 hM2 hV2
  obtain ⟨g3, TN3, C3, hn3, ht3⟩ := Cx.after C9 hE2 (fun _ h => nomatch h)
  have N3 := News.app (hn3 _ N9 (by simp)) (ht3 _ hM2)
  obtain ⟨B3, F3, X3, T3, _, _, D3⟩ := C3
  clear C9 F9 N9 hE2 hn3 ht3 B2 D2 X2 T2
  generalize htl : tl1 ++ tl2 = tl3 at N3
  k_steps
  subst htl
  (rename Fr g3 _ _ _ => FL); (rename News g3 _ _ _ => NL)
  exact ret _ _ _ _ _ _ (G.extT (TN2.trans TN3) FL) (G.madeT (TN2.trans TN3) NL (fun _ h => h)) (inst_of (.head _) (.tail _ (.head _)) (by exact ⟨⟨_, rfl⟩, rfl, ⟨_, rfl⟩, rfl, trivial⟩)) (hV1.mono (Sub.mem fun p hp => .tail _ (.tail _ (List.mem_append_left _ hp)))) (hV2.mono (Sub.mem fun p hp => .tail _ (.tail _ (List.mem_append_right _ hp))))
example : True ∧ True := by w_top off; first | (walk1; done) | exact ⟨trivial, trivial⟩
-- R2
theorem c_grvrK {w : World} {loose : List Str} {mean : ExcName → Option Value} {mg mb : Str → Option Value} {dp un : Nat} {gd : Option (List Code)} {cn : Str} {cs : Scope} {a : Addr} {ccd : Value} {cl : List (Str × Addr)} {A₀ : Around} {base h₀ : Heap} {L : Addr} {m : Str → Option Value} {s : Shared} {Q E : Value → Shared → Prop}
    {x rd kd y rd' kd' sd : Addr} {ver ver' : Int} {rs rs' : List RoleSpec} {r r' : RoleSpec} {Kv Kv' Sv : List (Str × Value)} {tl : Tok} {sig : Str → Str} {news : List (Addr × Obj)}
    (C : Cx (hd.heap_1 w.params) pv loose mean mg mb A₀ base [] h₀ L s.heap m) (hk : cs.kind = .function) (room : dp + 16 < recursionLimit) (units : un + 200 < cLine)
    (N : News h₀ L s.heap news) (hR : RootOk PySem.Challenge.rw_jk0048_02.row.prog w (At [L] s.heap) x rd kd ver rs Kv) (hr : r ∈ rs) (hnm : r.name = Str.ofString "root") (hR' : RootOk PySem.Challenge.rw_jk0048_02.row.prog w (At [L] s.heap) y rd' kd' ver' rs' Kv') (hr' : r' ∈ rs') (hnm' : r'.name = Str.ofString "root") (hv : ver = ver' + 1) (hv0 : 0 < ver') (hv1 : ver' < 100)
    (hsd : SDict PySem.Challenge.rw_jk0048_02.row.prog w (At [L] s.heap) sd Sv) (hS : SigsOk 101 (At [L] s.heap) Sv sig) (hst : ∀ x, sig x ∈ sigTexts)
    (ret : ∀ v a b tl h' tk', Fr h₀ L h' m → News h₀ L h' (news ++ tl) → OwnOff tl (news.map (·.1)) → Inst (Led tl) v 344 [("first", .ref a), ("second", .ref b)] → VerRes PySem.Challenge.rw_jk0048_02.row.prog w (Led tl) a r'.thr (signedBy Kv' Sv (okS sig) true r'.names) (signedBy Kv' Sv (okS sig) false r'.names) → VerRes PySem.Challenge.rw_jk0048_02.row.prog w (Led tl) b r.thr (signedBy Kv Sv (okS sig) true r.names) (signedBy Kv Sv (okS sig) false r.names) → Q (.ref v) { s with heap := h', toks := tk' }) :
    wpAny (model PySem.Challenge.rw_jk0048_02.row.prog w) (ktrTop dp un gd cn cs L a ccd cl []) (call (.ref 448) [.ref x, .ref y, .bytes loadB tl, .ref sd]) Q E s := by
  refine c_grvr (outer := []) C hk room units hR hr hnm hR' hr' hnm' hv hv0 hv1 hsd hS hst fun v a b tlr h' tk' hE hM hI hV1 hV2 => ?_
  obtain ⟨F', N', O'⟩ := led_turn C N hE hM
  exact ret v a b tlr h' tk' F' N' O' hI hV1 hV2
theorem c_grvr0K {w : World} {loose : List Str} {mean : ExcName → Option Value} {mg mb : Str → Option Value} {dp un : Nat} {gd : Option (List Code)} {cn : Str} {cs : Scope} {a : Addr} {ccd : Value} {cl : List (Str × Addr)} {A₀ : Around} {base h₀ : Heap} {L : Addr} {m : Str → Option Value} {s : Shared} {Q E : Value → Shared → Prop}
    {x rd kd sd : Addr} {ver : Int} {rs : List RoleSpec} {r : RoleSpec} {Kv Sv : List (Str × Value)} {tl : Tok} {sig : Str → Str} {news : List (Addr × Obj)}
    (C : Cx (hd.heap_1 w.params) pv loose mean mg mb A₀ base [] h₀ L s.heap m) (hk : cs.kind = .function) (room : dp + 16 < recursionLimit) (units : un + 200 < cLine)
    (N : News h₀ L s.heap news) (hR : RootOk PySem.Challenge.rw_jk0048_02.row.prog w (At [L] s.heap) x rd kd ver rs Kv) (hr : r ∈ rs) (hnm : r.name = Str.ofString "root")
    (hsd : SDict PySem.Challenge.rw_jk0048_02.row.prog w (At [L] s.heap) sd Sv) (hS : SigsOk 101 (At [L] s.heap) Sv sig) (hst : ∀ x, sig x ∈ sigTexts)
    (ret : ∀ v a b tl h' tk', Fr h₀ L h' m → News h₀ L h' (news ++ tl) → OwnOff tl (news.map (·.1)) → Inst (Led tl) v 344 [("first", .ref a), ("second", .ref b)] → VerRes PySem.Challenge.rw_jk0048_02.row.prog w (Led tl) a r.thr (signedBy Kv Sv (okS sig) true r.names) (signedBy Kv Sv (okS sig) false r.names) → VerRes PySem.Challenge.rw_jk0048_02.row.prog w (Led tl) b r.thr (signedBy Kv Sv (okS sig) true r.names) (signedBy Kv Sv (okS sig) false r.names) → Q (.ref v) { s with heap := h', toks := tk' }) :
    wpAny (model PySem.Challenge.rw_jk0048_02.row.prog w) (ktrTop dp un gd cn cs L a ccd cl []) (call (.ref 448) [.ref x, .none, .bytes loadB tl, .ref sd]) Q E s := by
  refine c_grvr0 (outer := []) C hk room units hR hr hnm hsd hS hst fun v a b tlr h' tk' hE hM hI hV1 hV2 => ?_
  obtain ⟨F', N', O'⟩ := led_turn C N hE hM
  exact ret v a b tlr h' tk' F' N' O' hI hV1 hV2
theorem ne_bool_same {prog : Program} {w : World} {A : Around} {E : Value → Shared → Prop} {s : Shared} {b : Bool} {Q : Value → Shared → Prop} (h : Q (.bool false) s) : wpAny (model prog w) A (compareOp .NotEq (.bool b) (.bool b)) Q E s :=
  ne_bool (by rw [bne_self_eq_false]; exact h)
theorem sby_len {Kv Sv : List (Str × Value)} {ok : Str → Bool} {b : Bool} {names : List Str} (h : names.length ≤ 4) : (signedBy Kv Sv ok b names).length ≤ 1000 := Nat.le_trans (signedBy_len _ _ _ _ _) (by omega)
theorem names4 {w : World} {H : Addr → Obj → Prop} {x rd kd : Addr} {ver : Int} {rs : List RoleSpec} {r : RoleSpec} {Kv : List (Str × Value)} (hR : RootOk PySem.Challenge.rw_jk0048_02.row.prog w H x rd kd ver rs Kv) (hr : r ∈ rs) : r.names.length ≤ 4 ∧ ∀ k ∈ r.names, k ∈ kNames := by
  obtain ⟨_, _, _, _, _, _, _, _, _, _, _, _, hrd, hRT, hkd, _, _, _, hnm⟩ := id hR
  obtain ⟨nl0, vs0, tt0, q1, q2, q3, q4, q5, q6⟩ := id (hRT r hr)
  exact ⟨q4.2.2.1, q4.2.2.2⟩
theorem and_join {prog : Program} {w : World} {A : Around} {E : Value → Shared → Prop} {s : Shared} {e : PySem.Expr} {env : Env} {b1 b2 : Bool} {K : Value → Shared → Prop} (h : ∀ K' : Value → Shared → Prop, (∀ tk, K' (.bool (b1 && b2)) { s with toks := tk }) → wpAny (model prog w) A (eval e env) K' E s) (k : ∀ tk, K (.bool (b1 && b2)) { s with toks := tk }) : wpAny (model prog w) A (eval e env) K E s := h K k
theorem sub_tail {A r x t1 : List (Addr × Obj)} (B : List (Addr × Obj)) (h : r ++ x = t1) : ∀ p ∈ A ++ (r ++ x), p ∈ B ++ (A ++ t1) := by
  intro p hp
  rw [← h]
  exact List.mem_append_right _ hp
-- P42
example : True := by
  k_with "!truthy ref" => (k_here; (with_reducible show wpAny _ _ (truthy (Value.ref _)) _ _ _); (refine truthI (by walk_at "my a") (by walk_at "my a") (by walk_at "my inst") (by k_is) (by k_is) ?_))
  k_with "!getMethod ref" => (k_here; (with_reducible show wpAny _ _ (getMethod (Value.ref _) (Str.ofString "get") _) _ _ _); refine getMethD (by walk_at "my dict") ?_)
  k_with "!call builtin:dict.get" => (k_here; (with_reducible show wpAny _ _ (call (Value.builtin "dict.get") _) _ _ _); refine callGetD (by walk_at "my dict") (by assumption) ?_; (try dsimp only [Option.getD]))
  trivial

example : True ∧ True := by w_top off; first | (walk1; done) | exact ⟨trivial, trivial⟩
-- E4
theorem c_gvrT {w : World} {loose : List Str} {mean : ExcName → Option Value} {mg mb : Str → Option Value} {dp un : Nat} {gd : Option (List Code)} {cn : Str} {cs : Scope} {a : Addr} {ccd : Value} {cl : List (Str × Addr)} {outer : List Env} {A₀ : Around} {base h₀ : Heap} {L : Addr} {m : Str → Option Value} {s : Shared} {Q E : Value → Shared → Prop}
    {x kd rd ra kl sd td dg : Addr} {R Kv Sv : List (Str × Value)} {rn : Str} {tk tl : Tok} {load : Array UInt8} {vs : List Value} {names : List Str} {thr : Int} {tt : Tok} {pub sig : Str → Str}
    (C : Cx (hd.heap_1 w.params) pv loose mean mg mb A₀ base outer h₀ L s.heap m) (hk : cs.kind = .function) (room : dp + 5 < recursionLimit) (units : un + 64 < cLine)
    (hx : Inst (At (L :: frs outer) s.heap) x 643 [("spec_version", v1), ("expires", v2), ("version", v3), ("unrecognized_fields", v4), ("targets", .ref td), ("delegations", .ref dg)]) (hdg : Inst (At (L :: frs outer) s.heap) dg 565 [("keys", .ref kd), ("roles", .ref rd), ("succinct_roles", .none), ("unrecognized_fields", v5)])
    (hrd : SDict PySem.Challenge.rw_jk0048_02.row.prog w (At (L :: frs outer) s.heap) rd R) (hrn : valueAt R rn = some (.ref ra))
    (hra : Inst (At (L :: frs outer) s.heap) ra 514 [("keyids", .ref kl), ("threshold", .int thr tt), ("unrecognized_fields", v6), ("name", v7), ("terminating", .bool false), ("paths", v8), ("path_hash_prefixes", .none)]) (hkl : LstOf (At (L :: frs outer) s.heap) kl vs) (hvs : StrsAre vs names) (hnl : names.length ≤ 1000) (hnk : ∀ k ∈ names, k.length ≤ 64)
    (hkd : SDict PySem.Challenge.rw_jk0048_02.row.prog w (At (L :: frs outer) s.heap) kd Kv) (hK : KeysOk PySem.Challenge.rw_jk0048_02.row.prog w 154 (At (L :: frs outer) s.heap) Kv pub)
    (hsd : SDict PySem.Challenge.rw_jk0048_02.row.prog w (At (L :: frs outer) s.heap) sd Sv) (hpp : ∀ k, Plain (pub k)) (hps : ∀ k, Plain (sig k)) (hload : load.size ≤ 1000) (hS : SigsOk 101 (At (L :: frs outer) s.heap) Sv sig)
    (ret : ∀ r d1 d2 tl h' tk', Ext (L :: frs outer) [] s.heap h' → Made s.heap h' tl → Inst (Led tl) r 299 [("threshold", .int thr tt), ("signed", .ref d1), ("unsigned", .ref d2)] →
      SDict PySem.Challenge.rw_jk0048_02.row.prog w (Led tl) d1 (signedBy Kv Sv (fun k => utf8 (sig k) == utf8 (pub k) ++ #[58] ++ load) true names) →
      SDict PySem.Challenge.rw_jk0048_02.row.prog w (Led tl) d2 (signedBy Kv Sv (fun k => utf8 (sig k) == utf8 (pub k) ++ #[58] ++ load) false names) → Q (.ref r) { s with heap := h', toks := tk' }) :
    wpAny (model PySem.Challenge.rw_jk0048_02.row.prog w) (ktrTop dp un gd cn cs L a ccd cl outer) (call (.ref 362) [.ref x, .str rn tk, .bytes load tl, .ref sd]) Q E s := by
  obtain ⟨B, F, X, T, XB, TB, D⟩ := C
  walk_at "my enter"
  (rename Grd _ _ _ _ => G)
  (rename KtsDicts _ _ => D9)
  (rename Below _ _ _ _ => B9)
  have hx := hx.mono G.sub; have hdg := hdg.mono G.sub; have hkd := hkd.mono G.sub; have hrd := hrd.mono G.sub; have hra := hra.mono G.sub; have hkl := hkl.mono G.sub; have hK := hK.mono G.sub; have hsd := hsd.mono G.sub; have hS := hS.mono G.sub
  k_steps
  walk_at "my for"
  k_steps
  refine Halt.elim ?_
  (rename News _ _ _ [(_, _), (_, _)] => N9)
  refine' loop2 (prog := PySem.Challenge.rw_jk0048_02.row.prog) (w := w) (names := names) ["keyid", "key", "sig"] (signedBy Kv Sv (fun k => utf8 (sig k) == utf8 (pub k) ++ #[58] ++ load) true) (signedBy Kv Sv (fun k => utf8 (sig k) == utf8 (pub k) ++ #[58] ++ load) false) rfl D9 hkl hvs (by assumption) N9 (by assumption) (by assumption) ?turn ?done
  case turn =>
    clear N9
    intro pre k t m₁ o1 o2 own g h tk TN hpre ha hd1 hd2 hoff F1 N1
    rw [ha.three] at F1
    have Bg := below_turn B9 TN; have Xg := XB.keeps Bg.stays; have Tg := TB.keeps Bg.stays; have Dg := D9.turn TN
    have hx := hx.mono (Sub.turn TN); have hdg := hdg.mono (Sub.turn TN); have hkd := hkd.mono (Sub.turn TN); have hK := hK.mono (Sub.turn TN); have hsd := hsd.mono (Sub.turn TN); have hS := hS.mono (Sub.turn TN)
    generalize hok : (fun k => utf8 (sig k) == utf8 (pub k) ++ #[58] ++ load) = ok at hd1 hd2 ⊢
    have hkl' : k.length ≤ 64 := hnk k (by obtain ⟨post, e⟩ := hpre; rw [e]; simp)
    have hpl : pre.length ≤ 1000 := by obtain ⟨post, e⟩ := hpre; rw [e] at hnl; simp at hnl; omega
    have hz : ∀ b, (signedBy Kv Sv ok b pre).length ≤ sizeLine := fun b => by rw [sizeLine_eq]; have := signedBy_len Kv Sv ok b pre; omega
    have hz1 := hz true
    have hz2 := hz false
    clear hz
    rw [signedBy_snoc, signedBy_snoc]
    rcases hv : valueAt Kv k with _ | v
    · have hver : verdict Kv Sv ok k = none := by unfold verdict; rw [hv]; rfl
      rw [hver]; dsimp only
      k_steps
      repeat (first | k_unfold | dsimp only)
      walk_at "my end2"
    · obtain ⟨ka, rfl, k1, k2, k3, pd, k5, kt, hk1, hk2⟩ := hK k v hv
      dsimp only
      k_steps
      rcases hs : valueAt Sv k with _ | sv
      · have hver : verdict Kv Sv ok k = some (.ref ka, false) := by unfold verdict; rw [hv, hs]; rfl
        k_steps
        repeat (first | k_unfold | dsimp only)
        rw [hver]; dsimp only
        walk_at "my end2"
      · obtain ⟨sa, rfl, s1, s3, st, hs1⟩ := hS k sv hs
        have hpk := hpp k; have hpk2 := hpk.2; have hsk := hps k; have hsk2 := hsk.2
        k_steps
        · repeat (first | k_unfold | dsimp only)
          (rename (_ != _) = true => hq)
          have hb := beqL (r := false) hq
          have hver : verdict Kv Sv ok k = some (.ref ka, false) := by unfold verdict; rw [hv, hs, ← hok]; simp only [Option.map_some, Option.isSome_some, Bool.true_and, hb]
          rw [hver]; dsimp only
          walk_at "my end2"
        · repeat (first | k_unfold | dsimp only)
          (rename (_ != _) = false => hq)
          have hb := beqL (r := true) hq
          have hver : verdict Kv Sv ok k = some (.ref ka, true) := by unfold verdict; rw [hv, hs, ← hok]; simp only [Option.map_some, Option.isSome_some, Bool.true_and, hb]
          rw [hver]; dsimp only
          walk_at "my end2"
  case done =>
    intro m₁ o1 o2 g h tk TN ha hd1 hd2 F1 N1
    rw [ha.three] at F1
    have Bg := below_turn B9 TN; have Xg := XB.keeps Bg.stays; have Tg := TB.keeps Bg.stays; have Dg := D9.turn TN
    have hra := hra.mono (Sub.turn TN)
    k_steps
    (rename News _ _ _ ((_, _) :: (_, _) :: (_, _) :: _) => NN)
    exact ret _ _ _ _ _ _ (G.extT TN (by assumption)) (G.madeT TN NN (fun _ h => h)) (inst_of (by k_mem) (by k_mem) (by exact ⟨⟨_, rfl⟩, rfl, ⟨_, rfl⟩, rfl, ⟨_, rfl⟩, rfl, trivial⟩)) ⟨by assumption, _, by k_mem, hd1⟩ ⟨by assumption, _, by k_mem, hd2⟩
-- P9
example : True := by
  k_with "!my tupK" => (exact tupK (by k_asm) (by k_in) (by k_is))
  k_with "!call builtin:sorted" => (k_here; k_dflt (first
      | refine sortedTup (vs := _) (by k_asm) (by k_asm) (by walk_at "my tupK") (by decide) ?_
      | refine sortedD4 rfl (by k_asm) (by k_asm) (by walk_at "my dict") (by assumption) ?_); walk_at "my i")
  k_with "!subscriptTail" => (k_here; (with_reducible show wpAny _ _ (subscriptTail _ _ (Value.ref _) (Value.int 0 _)) _ _ _); (refine item0 (lstK (by walk_at "my a") (by k_dflt (k_in)) (by k_is)) ?_))
  k_with "!my strs" => (repeat' (first | exact StrsAre.nil | refine StrsAre.cons _ _ ?_))
  k_with "!compareOp NotEq ref ref" => (k_here; (refine ne_strsSame (ns := ["root", "snapshot", "targets", "timestamp"].map Str.ofString) (by walk_at "my nl") (by walk_at "my strs") (by walk_at "my nl") (by walk_at "my strs") (by decide +kernel) (by k_dflt (walk_at "my units")) ?_))
  trivial

-- P10
example : True := by
  k_with "!my enterCls" => ((refine call_clsK (by walk_at "my a") (by walk_at "my a") (by k_dflt (first | k_asm | exact News.nil)) (by k_is) (by k_is) (by k_is) ?_))
  k_with "!my enterKS" => ((with_reducible apply enterKS); k_dflt (walk_at "my fe"))
  trivial

example : True ∧ True := by w_top off; first | (walk1; done) | exact ⟨trivial, trivial⟩
-- C10
theorem c_Root {w : World} {loose : List Str} {mean : ExcName → Option Value} {mg mb : Str → Option Value} {dp un : Nat} {gd : Option (List Code)} {cn : Str} {cs : Scope} {a : Addr} {ccd : Value} {cl : List (Str × Addr)} {outer : List Env} {A₀ : Around} {base h₀ : Heap} {L : Addr} {m : Str → Option Value} {s : Shared} {Q E : Value → Shared → Prop}
    {kd rd : Addr} {R : List (Str × Value)} {v : Int} {t1 t2 t3 : Tok} {oP : Obj}
    (C : Cx (hd.heap_1 w.params) pv loose mean mg mb A₀ base outer h₀ L s.heap m) (hk : cs.kind = .function) (room : dp + 16 < recursionLimit) (units : un + 200 < cLine) (hv : 0 < v) (hv2 : v < 100)
    (N : News h₀ L s.heap [(177, oP)]) (hT : TabOk oP)
    (hrd : SDict PySem.Challenge.rw_jk0048_02.row.prog w (AtO (L :: frs outer) [177] s.heap) rd R) (hRk : R.map (·.1) = [Str.ofString "timestamp", Str.ofString "root", Str.ofString "targets", Str.ofString "snapshot"])
    (ret : ∀ r s' oP' tl v1 v2 v4 v5, Ext [] [177] s.heap s'.heap → s'.heap.get? 177 = some oP' → TabOk oP' → Rst s s' → Made s.heap s'.heap tl → Inst (Led tl) r 451 [("spec_version", v1), ("expires", v2), ("version", .int v t1), ("unrecognized_fields", v4), ("consistent_snapshot", v5), ("keys", .ref kd), ("roles", .ref rd)] → Q (.ref r) s') :
    wpAny (model PySem.Challenge.rw_jk0048_02.row.prog w) (ktrTop dp un gd cn cs L a ccd cl outer) (call (.ref 451) [.int v t1, .str (Str.ofString "1.0") t2, .int 9 t3, .ref kd, .ref rd]) Q E s := by
  obtain ⟨B, F, X, T, XB, TB, D⟩ := C; have X := X; have T := T
  walk_at "my enterCls"
  intro x9 d9 h9 F9 N9 l9 l2 kp lz
  k_lt l9
  k_lt2 l2
  have hd0 := (N9 _ (.tail _ (.head _))).1
  have hrd := hrd.mono (Sub.cls kp lz l2)
  walk_at "my enterKS"
  (rename Grd _ _ _ _ => G)
  have hrd := hrd.mono G.subs
  k_steps
  refine' gen_K (c := 181) (P := 177) ?zF ?zN ?zT ?U ?hT ?C ?zhl ?hglob ?hcode ?zhh ?zhco ?hclos ?hcell ?h0 ?hx ?zhkind ?zhroom (fun _ => true) (fun _ y => y = .bool true) ?h77 ?hq1 ?hq2 ?hQ ?hs
  case h77 => (k_steps; (try all_goals first | exact Str.ofString "" | exact (show Addr from (0 : Nat)) | exact Value.none))
  case zF => k_asm
  case zN => k_asm
  case zT => k_asm
  case U => k_updF
  case hT => assumption
  case C => exact codeHd_of_K (by k_asm) (by kernel_rfl)
  case zhl => k_mem
  case hglob => rfl
  case hcode => rfl
  case zhh => rfl
  case zhco => rfl
  case hclos => rfl
  case hcell => decide
  case h0 => rfl
  case hx => rfl
  case zhkind => rfl
  case zhroom => k_room
  case hs => intro _; rfl
  case hq1 => intros; exact no_ifs
  case hq2 =>
    intro code C A' E' i v t m₂ hA hv hpz hns hm hk
    have hi : i < 2 := (Array.getElem?_eq_some_iff.mp hv).1
    rcases (show i = 0 ∨ i = 1 by omega) with rfl | rfl <;> cases hv <;> clear hk
    all_goals
      refine MethodCall_ (gen_name hns hm ?_)
      refine GM.isdigit ?_
      refine callWith_method0 ?_
      exact SC.isdigit ⟨congrArg _ (by decide +kernel), keeps_refl⟩
  case hQ =>
    intro a s₅ oP' F5 N5 T5 hos G5 GB
    dsimp only at N5 GB
    k_steps
    refine all_K G5 GB (fun i v h => by obtain ⟨_, _, e⟩ := h; exact e) ?_
    intro s' hos2 F6 N6
    clear G5 GB
    k_steps
    all_goals (try (exfalso; (rename 0 = 0 + 1 => q9); cases q9; done))
    all_goals (repeat (first | k_unfold | dsimp only))
    (rename Fr _ _ _ _ => FL)
    (rename News _ _ _ _ => NL)
    have hx := News.get NL (a := _) (o := instObj 451 _) (by k_mem)
    have hd := News.get NL (a := _) (o := dictOf _ _) (by k_mem)
    exact ret _ _ _ _ _ _ _ _ (Ext.cls kp lz l2 (G.extM FL) (Nat.le_of_lt (Nat.lt_of_le_of_lt lz (Heap.lt_size hd0)))) (News.get NL (by k_mem)) T5 ⟨hos2.1.trans hos.1, fun h => hos2.2 (hos.2 h)⟩ (Made.cls kp lz l2 Made.nil hx hd) (inst_of (.head _) (.tail _ (.head _)) (by exact ⟨⟨_, rfl⟩, rfl, ⟨_, rfl⟩, rfl, ⟨_, rfl⟩, rfl, ⟨_, rfl⟩, rfl, ⟨_, rfl⟩, rfl, ⟨_, rfl⟩, rfl, ⟨_, rfl⟩, rfl, trivial⟩))
example : True ∧ True := by w_top off; first | (walk1; done) | exact ⟨trivial, trivial⟩
-- C10K
theorem c_RootK {w : World} {loose : List Str} {mean : ExcName → Option Value} {mg mb : Str → Option Value} {dp un : Nat} {gd : Option (List Code)} {cn : Str} {cs : Scope} {a : Addr} {ccd : Value} {cl : List (Str × Addr)} {outer : List Env} {A₀ : Around} {base h₀ : Heap} {L : Addr} {m : Str → Option Value} {s : Shared} {Q E : Value → Shared → Prop}
    {kd rd : Addr} {R : List (Str × Value)} {v : Int} {t1 t2 t3 : Tok} {oP od : Obj} {news : List (Addr × Obj)} {upd : Obj → List (Addr × Obj)}
    (C : Cx (hd.heap_1 w.params) pv loose mean mg mb A₀ base outer h₀ L s.heap m) (hk : cs.kind = .function) (room : dp + 16 < recursionLimit) (units : un + 200 < cLine) (hv : 0 < v) (hv2 : v < 100)
    (N : News h₀ L s.heap news) (U : UpdF 177 oP news upd) (hT : TabOk oP) (hmd : (rd, od) ∈ news) (hod : od.IsDictOf (PySem.strKind PySem.Challenge.rw_jk0048_02.row.prog w) R) (lo : (rd == sysModules) = false) (hRk : R.map (·.1) = [Str.ofString "timestamp", Str.ofString "root", Str.ofString "targets", Str.ofString "snapshot"])
    (ret : Halt (∀ r s' oP' tl v1 v2 v4 v5, Fr h₀ L s'.heap m → News h₀ L s'.heap (upd oP' ++ tl) → OwnOff tl (news.map (·.1)) → TabOk oP' → Rst s s' → Inst (Led tl) r 451 [("spec_version", v1), ("expires", v2), ("version", .int v t1), ("unrecognized_fields", v4), ("consistent_snapshot", v5), ("keys", .ref kd), ("roles", .ref rd)] → Q (.ref r) s')) :
    wpAny (model PySem.Challenge.rw_jk0048_02.row.prog w) (ktrTop dp un gd cn cs L a ccd cl outer) (call (.ref 451) [.int v t1, .str (Str.ofString "1.0") t2, .int 9 t3, .ref kd, .ref rd]) Q E s := by
  have hm177 : (177, oP) ∈ news := by obtain ⟨pre, post, rfl, _⟩ := U.split; simp
  have N1 : News h₀ L s.heap [(177, oP)] := News.sub N (by intro p hp; rw [List.mem_singleton.mp hp]; exact hm177)
  have hne : rd ≠ 177 := by
    rintro rfl
    have e := (N _ hm177).1
    rw [(N _ hmd).1] at e; cases e
    obtain ⟨ps, e2, _⟩ := hT.data
    obtain ⟨_, _, _, e3, _⟩ := hod
    rw [e2] at e3; cases e3
  have hat : SDict PySem.Challenge.rw_jk0048_02.row.prog w (AtO (L :: frs outer) [177] s.heap) rd R :=
    ⟨lo, od, ⟨Sub.callLed C.D N (fun _ h => h) _ _ hmd, by simpa using hne⟩, hod⟩
  refine c_Root C hk room units hv hv2 N1 hT hat hRk fun r s' oP' tl v1 v2 v4 v5 hE hw hT' hr hM hI => ?_
  obtain ⟨F', N', O'⟩ := led_one C.F N U hE hw hM
  exact ret r s' oP' tl v1 v2 v4 v5 F' N' O' hT' hr hI
example : True ∧ True := by w_top off; first | (walk1; done) | exact ⟨trivial, trivial⟩
section -- E2
local macro_rules | `(tactic| walk_at "compareOp In str ref") => `(tactic| (k_here; k_dflt (refine in_tupStrs (ks := ["root", "timestamp", "snapshot", "targets"].map Str.ofString) (by walk_at "my tupK") (by walk_at "my strs") (by decide) ?_)))
theorem c_Deleg {w : World} {loose : List Str} {mean : ExcName → Option Value} {mg mb : Str → Option Value} {dp un : Nat} {gd : Option (List Code)} {cn : Str} {cs : Scope} {a : Addr} {ccd : Value} {cl : List (Str × Addr)} {outer : List Env} {A₀ : Around} {base h₀ : Heap} {L : Addr} {m : Str → Option Value} {s : Shared} {Q E : Value → Shared → Prop}
    {kd md : Addr} {ps : List (Str × Value)} {oP : Obj}
    (C : Cx (hd.heap_1 w.params) pv loose mean mg mb A₀ base outer h₀ L s.heap m) (hk : cs.kind = .function) (room : dp + 24 < recursionLimit) (units : un + 300 < cLine)
    (N : News h₀ L s.heap [(526, oP)]) (hT : TabOk oP)
    (hmd : SDict PySem.Challenge.rw_jk0048_02.row.prog w (AtO (L :: frs outer) [526] s.heap) md ps) (hps : ps.map (·.1) = ["v", "u", "x"].map Str.ofString)
    (ret : ∀ r s' oP' tl v4, Ext [] [526] s.heap s'.heap → s'.heap.get? 526 = some oP' → TabOk oP' → Rst s s' → Made s.heap s'.heap tl → Inst (Led tl) r 565 [("keys", .ref kd), ("roles", .ref md), ("succinct_roles", .none), ("unrecognized_fields", v4)] → Q (.ref r) s') :
    wpAny (model PySem.Challenge.rw_jk0048_02.row.prog w) (ktrTop dp un gd cn cs L a ccd cl outer) (call (.ref 565) [.ref kd, .ref md]) Q E s := by
  obtain ⟨B, F, X, T, XB, TB, D⟩ := C; have X := X; have T := T
  walk_at "my enterCls"
  intro x9 d9 h9 F9 N9 l9 l2 kp lz
  k_lt l9
  k_lt2 l2
  have hd0 := (N9 _ (.tail _ (.head _))).1
  have hmd := hmd.mono (Sub.cls kp lz l2)
  walk_at "my enterI"
  (rename Grd _ _ _ _ => G)
  have hmd := hmd.mono G.subs
  k_steps
  refine' gen_KL (c := 530) (P := 526) ?N0 ?m0 ?zT ?C ?hglob ?hcode ?he ?zhh ?zhco ?hclos ?hcell ?h0 ?hx ?zhkind ?zhroom ?h77
  case N0 => assumption
  case m0 => k_mem
  case zT => k_asm
  case C => exact codeHd_of_K (by k_asm) (by kernel_rfl)
  case hglob => rfl
  case hcode => rfl
  case he => rfl
  case zhh => rfl
  case zhco => rfl
  case hclos => rfl
  case hcell => decide
  case h0 => rfl
  case hx => rfl
  case zhkind => rfl
  case zhroom => k_room
  case h77 =>
    (rename News _ _ _ [(x9, _), (d9, _), (526, oP)] => N8)
    have lt8 := fun p hp => Heap.lt_size (N8 p hp).1
    k_lt lt8
    k_steps
    refine ⟨_, _, _, _, _, _, (fun i => i == 0), (fun _ y => ∃ t, y = .int 1 t), rfl, by assumption, by assumption, by k_updF, hT, by k_mem, by simp, ?hq1, ?hq2, ?hQ⟩
    case hq1 =>
      intro code C A' E' i v t m₂ hA hv hns hm
      have hi : i < 2 := (Array.getElem?_eq_some_iff.mp hv).1
      rcases (show i = 0 ∨ i = 1 by omega) with rfl | rfl <;> cases hv <;> exact notnone_if hns hm rfl
    case hq2 =>
      intro code C A' E' i v t m₂ hA hv hpz hns hm
      exact wpAny_Constant_int ⟨⟨_, rfl⟩, ⟨t.heap, _, rfl, fun _ _ e => e⟩⟩
    case hQ =>
      intro a s₅ oP' K5 F5 N5 T5 hosA G5 GB
      dsimp only at N5 GB
      k_steps
      refine sum_K G5 GB (fun _ => 1) (fun j v h => by obtain ⟨_, _, t, e⟩ := h; exact .inl ⟨t, e⟩) (k := 1) rfl ?_
      intro s' t' hosA2 F6 N6
      clear G5 GB
      k_steps
      refine Halt.elim ?_
      obtain ⟨lom, om, ⟨hmg, _⟩, hmd2⟩ := id hmd
      refine for_OF F6 rfl rfl ?_
      k_steps
      refine ForG.dict (fun m₀ i m₁ news => Agree ["role"] m₁ m₀ ∧ news = _) rfl rfl (by assumption) N6 (.inl hmg) lom hmd2 ⟨.refl, rfl⟩ ?turn ?fin
      case turn =>
        rintro i k t m₁ _ I oI s₂ hi ⟨v, hkv⟩ ⟨ha, rfl⟩ hr F1 N1 off1 src
        have hk0 : (ps.map (·.1))[i]? = some k := by rw [List.getElem?_map, hkv]; rfl
        have hi3 : i < 3 := by have := congrArg List.length hps; simp only [List.length_map] at this; rw [this] at hi; exact hi
        rw [hps] at hk0
        rw [ha.one] at F1
        rcases (show i = 0 ∨ i = 1 ∨ i = 2 by omega) with rfl | rfl | rfl <;> cases hk0
        all_goals k_steps
        all_goals (repeat (first | k_unfold | dsimp only))
        all_goals (exact ⟨_, _, ⟨rfl, fun h => h⟩, by assumption, by assumption, off1, .inl hmg, by walk_at "my agree", rfl⟩)
      case fin =>
        rintro m₁ _ s2 hr ⟨ha, rfl⟩ F1 N1
        rw [ha.one] at F1
        k_steps
        (rename Fr _ _ _ _ => FL)
        (rename News _ _ _ _ => NL)
        have hx := News.get NL (a := _) (o := instObj 565 _) (by k_mem)
        have hd := News.get NL (a := _) (o := dictOf _ 4) (by k_mem)
        refine ⟨rfl, ?_⟩
        exact ret _ _ oP' _ _ (Ext.cls kp lz l2 (G.extM FL) (Nat.le_of_lt (Nat.lt_of_le_of_lt lz (Heap.lt_size hd0)))) (News.get NL (by k_mem)) T5 ⟨hr.1.trans (hosA2.1.trans hosA.1), fun h => hr.2 (hosA2.2 (hosA.2 h))⟩ (Made.cls kp lz l2 Made.nil hx hd) (inst_of (.head _) (.tail _ (.head _)) (by exact ⟨⟨_, rfl⟩, rfl, ⟨_, rfl⟩, rfl, ⟨_, rfl⟩, rfl, ⟨_, rfl⟩, rfl, trivial⟩))
end
example : True ∧ True := by w_top off; first | (walk1; done) | exact ⟨trivial, trivial⟩
-- E3
theorem c_Targets {w : World} {loose : List Str} {mean : ExcName → Option Value} {mg mb : Str → Option Value} {dp un : Nat} {gd : Option (List Code)} {cn : Str} {cs : Scope} {a : Addr} {ccd : Value} {cl : List (Str × Addr)} {outer : List Env} {A₀ : Around} {base h₀ : Heap} {L : Addr} {m : Str → Option Value} {s : Shared} {Q E : Value → Shared → Prop}
    {td dg : Addr} {t1 t2 t3 : Tok} {oP : Obj}
    (C : Cx (hd.heap_1 w.params) pv loose mean mg mb A₀ base outer h₀ L s.heap m) (hk : cs.kind = .function) (room : dp + 16 < recursionLimit) (units : un + 200 < cLine)
    (N : News h₀ L s.heap [(177, oP)]) (hT : TabOk oP)
    (ret : ∀ r s' oP' tl v1 v2 v3 v4, Ext [] [177] s.heap s'.heap → s'.heap.get? 177 = some oP' → TabOk oP' → Rst s s' → Made s.heap s'.heap tl → Inst (Led tl) r 643 [("spec_version", v1), ("expires", v2), ("version", v3), ("unrecognized_fields", v4), ("targets", .ref td), ("delegations", .ref dg)] → Q (.ref r) s') :
    wpAny (model PySem.Challenge.rw_jk0048_02.row.prog w) (ktrTop dp un gd cn cs L a ccd cl outer) (call (.ref 643) [.int 1 t1, .str (Str.ofString "1.0") t2, .int 9 t3, .ref td, .ref dg]) Q E s := by
  obtain ⟨B, F, X, T, XB, TB, D⟩ := C; have X := X; have T := T
  walk_at "my enterCls"
  intro x9 d9 h9 F9 N9 l9 l2 kp lz
  k_lt l9
  k_lt2 l2
  have hd0 := (N9 _ (.tail _ (.head _))).1
  walk_at "my enterKS"
  (rename Grd _ _ _ _ => G)
  k_steps
  refine' gen_K (c := 181) (P := 177) ?zF ?zN ?zT ?U ?hT ?C ?zhl ?hglob ?hcode ?zhh ?zhco ?hclos ?hcell ?h0 ?hx ?zhkind ?zhroom (fun _ => true) (fun _ y => y = .bool true) ?h77 ?hq1 ?hq2 ?hQ ?hs
  case h77 => (k_steps; (try all_goals first | exact Str.ofString "" | exact (show Addr from (0 : Nat)) | exact Value.none))
  case zF => k_asm
  case zN => k_asm
  case zT => k_asm
  case U => k_updF
  case hT => assumption
  case C => exact codeHd_of_K (by k_asm) (by kernel_rfl)
  case zhl => k_mem
  case hglob => rfl
  case hcode => rfl
  case zhh => rfl
  case zhco => rfl
  case hclos => rfl
  case hcell => decide
  case h0 => rfl
  case hx => rfl
  case zhkind => rfl
  case zhroom => k_room
  case hs => intro _; rfl
  case hq1 => intros; exact no_ifs
  case hq2 =>
    intro code C A' E' i v t m₂ hA hv hpz hns hm hk
    have hi : i < 2 := (Array.getElem?_eq_some_iff.mp hv).1
    rcases (show i = 0 ∨ i = 1 by omega) with rfl | rfl <;> cases hv <;> clear hk
    all_goals
      refine MethodCall_ (gen_name hns hm ?_)
      refine GM.isdigit ?_
      refine callWith_method0 ?_
      exact SC.isdigit ⟨congrArg _ (by decide +kernel), keeps_refl⟩
  case hQ =>
    intro a s₅ oP' F5 N5 T5 hos G5 GB
    dsimp only at N5 GB
    k_steps
    refine all_K G5 GB (fun i v h => by obtain ⟨_, _, e⟩ := h; exact e) ?_
    intro s' hos2 F6 N6
    clear G5 GB
    k_steps
    all_goals (repeat (first | k_unfold | dsimp only))
    (rename Fr _ _ _ _ => FL)
    (rename News _ _ _ _ => NL)
    have hx := News.get NL (a := _) (o := instObj 643 _) (by k_mem)
    have hd := News.get NL (a := _) (o := dictOf _ _) (by k_mem)
    exact ret _ _ _ _ _ _ _ _ (Ext.cls kp lz l2 (G.extM FL) (Nat.le_of_lt (Nat.lt_of_le_of_lt lz (Heap.lt_size hd0)))) (News.get NL (by k_mem)) T5 ⟨hos2.1.trans hos.1, fun h => hos2.2 (hos.2 h)⟩ (Made.cls kp lz l2 Made.nil hx hd) (inst_of (.head _) (.tail _ (.head _)) (by exact ⟨⟨_, rfl⟩, rfl, ⟨_, rfl⟩, rfl, ⟨_, rfl⟩, rfl, ⟨_, rfl⟩, rfl, ⟨_, rfl⟩, rfl, ⟨_, rfl⟩, rfl, trivial⟩))
example : True ∧ True := by w_top off; first | (walk1; done) | exact ⟨trivial, trivial⟩
-- E3K
theorem c_TargetsK {w : World} {loose : List Str} {mean : ExcName → Option Value} {mg mb : Str → Option Value} {dp un : Nat} {gd : Option (List Code)} {cn : Str} {cs : Scope} {a : Addr} {ccd : Value} {cl : List (Str × Addr)} {outer : List Env} {A₀ : Around} {base h₀ : Heap} {L : Addr} {m : Str → Option Value} {s : Shared} {Q E : Value → Shared → Prop}
    {td dg : Addr} {t1 t2 t3 : Tok} {oP : Obj} {news : List (Addr × Obj)} {upd : Obj → List (Addr × Obj)}
    (C : Cx (hd.heap_1 w.params) pv loose mean mg mb A₀ base outer h₀ L s.heap m) (hk : cs.kind = .function) (room : dp + 16 < recursionLimit) (units : un + 200 < cLine)
    (N : News h₀ L s.heap news) (U : UpdF 177 oP news upd) (hT : TabOk oP)
    (ret : Halt (∀ r s' oP' tl v1 v2 v3 v4, Fr h₀ L s'.heap m → News h₀ L s'.heap (upd oP' ++ tl) → OwnOff tl (news.map (·.1)) → TabOk oP' → Rst s s' → Inst (Led tl) r 643 [("spec_version", v1), ("expires", v2), ("version", v3), ("unrecognized_fields", v4), ("targets", .ref td), ("delegations", .ref dg)] → Q (.ref r) s')) :
    wpAny (model PySem.Challenge.rw_jk0048_02.row.prog w) (ktrTop dp un gd cn cs L a ccd cl outer) (call (.ref 643) [.int 1 t1, .str (Str.ofString "1.0") t2, .int 9 t3, .ref td, .ref dg]) Q E s := by
  have hmP : (177, oP) ∈ news := by obtain ⟨pre, post, rfl, _⟩ := U.split; simp
  have N1 : News h₀ L s.heap [(177, oP)] := News.sub N (by intro p hp; rw [List.mem_singleton.mp hp]; exact hmP)
  refine c_Targets C hk room units N1 hT fun r s' oP' tl v1 v2 v3 v4 hE hw hT' hr hM hI => ?_
  obtain ⟨F', N', O'⟩ := led_one C.F N U hE hw hM
  exact ret r s' oP' tl v1 v2 v3 v4 F' N' O' hT' hr hI
theorem c_DelegK {w : World} {loose : List Str} {mean : ExcName → Option Value} {mg mb : Str → Option Value} {dp un : Nat} {gd : Option (List Code)} {cn : Str} {cs : Scope} {a : Addr} {ccd : Value} {cl : List (Str × Addr)} {outer : List Env} {A₀ : Around} {base h₀ : Heap} {L : Addr} {m : Str → Option Value} {s : Shared} {Q E : Value → Shared → Prop}
    {kd md : Addr} {ps : List (Str × Value)} {oP : Obj} {news : List (Addr × Obj)} {upd : Obj → List (Addr × Obj)}
    (C : Cx (hd.heap_1 w.params) pv loose mean mg mb A₀ base outer h₀ L s.heap m) (hk : cs.kind = .function) (room : dp + 24 < recursionLimit) (units : un + 300 < cLine)
    (N : News h₀ L s.heap news) (U : UpdF 526 oP news upd) (hT : TabOk oP) (hmd : SDict PySem.Challenge.rw_jk0048_02.row.prog w (Led news) md ps) (hps : ps.map (·.1) = ["v", "u", "x"].map Str.ofString)
    (ret : Halt (∀ r s' oP' tl v4, Fr h₀ L s'.heap m → News h₀ L s'.heap (upd oP' ++ tl) → OwnOff tl (news.map (·.1)) → TabOk oP' → Rst s s' → Inst (Led tl) r 565 [("keys", .ref kd), ("roles", .ref md), ("succinct_roles", .none), ("unrecognized_fields", v4)] → Q (.ref r) s')) :
    wpAny (model PySem.Challenge.rw_jk0048_02.row.prog w) (ktrTop dp un gd cn cs L a ccd cl outer) (call (.ref 565) [.ref kd, .ref md]) Q E s := by
  have hmP : (526, oP) ∈ news := by obtain ⟨pre, post, rfl, _⟩ := U.split; simp
  have N1 : News h₀ L s.heap [(526, oP)] := News.sub N (by intro p hp; rw [List.mem_singleton.mp hp]; exact hmP)
  obtain ⟨lo, od, hmem, hod⟩ := hmd
  have hne : md ≠ 526 := by
    rintro rfl
    have e := (N _ hmP).1
    rw [(N _ hmem).1] at e; cases e
    obtain ⟨ps, e2, _⟩ := hT.data
    obtain ⟨_, _, _, e3, _⟩ := hod
    rw [e2] at e3; cases e3
  have hat : SDict PySem.Challenge.rw_jk0048_02.row.prog w (AtO (L :: frs outer) [526] s.heap) md ps :=
    ⟨lo, od, ⟨Sub.callLed C.D N (fun _ h => h) _ _ hmem, by simpa using hne⟩, hod⟩
  refine c_Deleg C hk room units N1 hT hat hps fun r s' oP' tl v4 hE hw hT' hr hM hI => ?_
  obtain ⟨F', N', O'⟩ := led_one C.F N U hE hw hM
  exact ret r s' oP' tl v4 F' N' O' hT' hr hI
-- P12
example : True := by
  k_with "!call type:set" => (k_here; (refine setStrs (by walk_at "my a") (by k_dflt (first | k_asm | exact News.nil)) (by walk_at "my r") (LstOf.at (by walk_at "my lst")) (by walk_at "my a") (by walk_at "my a") (by walk_at "my a") ?_); walk_at "my i")
  trivial

example : True ∧ True := by w_top off; first | (walk1; done) | exact ⟨trivial, trivial⟩
-- C11
theorem c_Role {w : World} {loose : List Str} {mean : ExcName → Option Value} {mg mb : Str → Option Value} {dp un : Nat} {gd : Option (List Code)} {cn : Str} {cs : Scope} {a : Addr} {ccd : Value} {cl : List (Str × Addr)} {outer : List Env} {A₀ : Around} {base h₀ : Heap} {L : Addr} {m : Str → Option Value} {s : Shared} {Q E : Value → Shared → Prop}
    {kl : Addr} {vs : List Value} {names : List Str} {thr : Int} {tt : Tok}
    (C : Cx (hd.heap_1 w.params) pv loose mean mg mb A₀ base outer h₀ L s.heap m) (hk : cs.kind = .function) (room : dp + 8 < recursionLimit) (units : un + 100 < cLine) (hkl : LstOf (At (L :: frs outer) s.heap) kl vs) (hvs : StrsAre vs names) (hnd : names.Nodup) (hz : names.length ≤ 100) (h1 : 1 ≤ thr) (h2 : thr ≤ 100)
    (ret : ∀ r tl h' tk' v6, Ext [] [] s.heap h' → Made s.heap h' tl → Inst (Led tl) r 262 [("keyids", .ref kl), ("threshold", .int thr tt), ("unrecognized_fields", v6)] → Q (.ref r) { s with heap := h', toks := tk' }) :
    wpAny (model PySem.Challenge.rw_jk0048_02.row.prog w) (ktrTop dp un gd cn cs L a ccd cl outer) (call (.ref 262) [.ref kl, .int thr tt]) Q E s := by
  obtain ⟨B, F, X, T, XB, TB, D⟩ := C; have X := X; have T := T
  have N0 : News h₀ L s.heap [] := News.nil
  walk_at "my enterCls"
  intro x9 d9 h9 F9 N9 l9 l2 kp lz
  k_lt2 l2
  have hd0 := (N9 _ (.tail _ (.head _))).1
  have hkl := hkl.mono (Sub.trans Sub.off (Sub.cls kp lz l2))
  walk_at "my enterI"
  (rename Grd _ _ _ _ => G)
  have hkl := hkl.mono G.subs
  have hvl := hvs.length
  k_steps
  all_goals (repeat (first | k_unfold | dsimp only))
  · exfalso
    omega
  · (rename Fr _ _ _ _ => FL)
    (rename News _ _ _ _ => NL)
    have hx := News.get NL (a := _) (o := instObj 262 _) (by k_mem)
    have hd := News.get NL (a := _) (o := dictOf _ _) (by k_mem)
    refine ⟨rfl, ?_⟩
    exact ret _ _ _ _ _ (Ext.cls kp lz l2 (G.extM FL) (Nat.le_of_lt (Nat.lt_of_le_of_lt lz (Heap.lt_size hd0)))) (Made.cls kp lz l2 Made.nil hx hd) (inst_of (.head _) (.tail _ (.head _)) (by exact ⟨⟨_, rfl⟩, rfl, ⟨_, rfl⟩, rfl, ⟨_, rfl⟩, rfl, trivial⟩))
example : True ∧ True := by w_top off; first | (walk1; done) | exact ⟨trivial, trivial⟩
-- C11K
theorem c_RoleK {w : World} {loose : List Str} {mean : ExcName → Option Value} {mg mb : Str → Option Value} {dp un : Nat} {gd : Option (List Code)} {cn : Str} {cs : Scope} {a : Addr} {ccd : Value} {cl : List (Str × Addr)} {outer : List Env} {A₀ : Around} {base h₀ : Heap} {L : Addr} {m : Str → Option Value} {s : Shared} {Q E : Value → Shared → Prop}
    {kl : Addr} {vs : List Value} {names : List Str} {thr : Int} {tt : Tok} {news : List (Addr × Obj)}
    (C : Cx (hd.heap_1 w.params) pv loose mean mg mb A₀ base outer h₀ L s.heap m) (hk : cs.kind = .function) (room : dp + 8 < recursionLimit) (units : un + 100 < cLine) (N : News h₀ L s.heap news) (hkl : LstOf (At (L :: frs outer) s.heap) kl vs) (hvs : StrsAre vs names) (hnd : names.Nodup) (hz : names.length ≤ 100) (h1 : 1 ≤ thr) (h2 : thr ≤ 100)
    (ret : Halt (∀ r tl h' tk' v6, Fr h₀ L h' m → News h₀ L h' (news ++ tl) → OwnOff tl (news.map (·.1)) → Inst (Led tl) r 262 [("keyids", .ref kl), ("threshold", .int thr tt), ("unrecognized_fields", v6)] → Q (.ref r) { s with heap := h', toks := tk' })) :
    wpAny (model PySem.Challenge.rw_jk0048_02.row.prog w) (ktrTop dp un gd cn cs L a ccd cl outer) (call (.ref 262) [.ref kl, .int thr tt]) Q E s := by
  refine c_Role C hk room units hkl hvs hnd hz h1 h2 fun r tl h' tk' v6 hE hM hI => ?_
  obtain ⟨F', N', O'⟩ := led_none C.F N hE hM
  exact ret r tl h' tk' v6 F' N' O' hI
example : True ∧ True := by w_top off; first | (walk1; done) | exact ⟨trivial, trivial⟩
-- E1
theorem c_DRole {w : World} {loose : List Str} {mean : ExcName → Option Value} {mg mb : Str → Option Value} {dp un : Nat} {gd : Option (List Code)} {cn : Str} {cs : Scope} {a : Addr} {ccd : Value} {cl : List (Str × Addr)} {outer : List Env} {A₀ : Around} {base h₀ : Heap} {L : Addr} {m : Str → Option Value} {s : Shared} {Q E : Value → Shared → Prop}
    {kl pl : Addr} {vs : List Value} {names : List Str} {nm : Str} {thr : Int} {t0 tt : Tok} {oP : Obj} {nl : Nat}
    (C : Cx (hd.heap_1 w.params) pv loose mean mg mb A₀ base outer h₀ L s.heap m) (hk : cs.kind = .function) (room : dp + 24 < recursionLimit) (units : un + 300 < cLine)
    (N : News h₀ L s.heap [(465, oP), (pl, W.listOf #[] nl)]) (hT : TabOk oP) (hpl : @Ne Nat pl 465)
    (hkl : LstOf (AtO (L :: frs outer) [465, pl] s.heap) kl vs) (hvs : StrsAre vs names) (hnd : names.Nodup) (hz : names.length ≤ 100) (h1 : 1 ≤ thr) (h2 : thr ≤ 100)
    (ret : ∀ r s' oP' tl v6, Ext [] [465, pl] s.heap s'.heap → s'.heap.get? 465 = some oP' → s'.heap.get? pl = some (W.listOf #[] nl) → TabOk oP' → Rst s s' → Made s.heap s'.heap tl → Inst (Led tl) r 514 [("keyids", .ref kl), ("threshold", .int thr tt), ("unrecognized_fields", v6), ("name", .str nm t0), ("terminating", .bool false), ("paths", .ref pl), ("path_hash_prefixes", .none)] → Q (.ref r) s') :
    wpAny (model PySem.Challenge.rw_jk0048_02.row.prog w) (ktrTop dp un gd cn cs L a ccd cl outer) (call (.ref 514) [.str nm t0, .ref kl, .int thr tt, .bool false, .ref pl, .none]) Q E s := by
  obtain ⟨B, F, X, T, XB, TB, D⟩ := C; have X := X; have T := T
  walk_at "my enterCls"
  intro x9 d9 h9 F9 N9 l9 l2 kp lz
  k_lt l9
  k_lt2 l2
  have hd0 := (N9 _ (.tail _ (.head _))).1
  have hkl := hkl.mono (Sub.cls kp lz l2)
  walk_at "my enterKS"
  (rename Grd _ _ _ _ => G)
  have hkl := hkl.mono G.subs
  have hvl := hvs.length
  k_steps
  · exfalso
    omega
  refine' gen_K (c := 469) (P := 465) ?zF ?zN ?zT ?U ?hT ?C ?zhl ?hglob ?hcode ?zhh ?zhco ?hclos ?hcell ?h0 ?hx ?zhkind ?zhroom (fun i => i == 0) (fun _ y => ∃ t, y = .int 1 t) ?h77 ?hq1 ?hq2 ?hQ ?hs
  case h77 => (k_steps; (try all_goals first | exact Str.ofString "" | exact (show Addr from (0 : Nat)) | exact Value.none))
  case zF => k_asm
  case zN => k_asm
  case zT => k_asm
  case U => k_updF
  case hT => assumption
  case C => exact codeHd_of_K (by k_asm) (by kernel_rfl)
  case zhl => k_mem
  case hglob => rfl
  case hcode => rfl
  case zhh => rfl
  case zhco => rfl
  case hclos => rfl
  case hcell => decide
  case h0 => rfl
  case hx => rfl
  case zhkind => rfl
  case zhroom => k_room
  case hs => intro _; rfl
  case hq1 =>
    intro code C A' E' i v t m₂ hA hv hns hm hk
    have hi : i < 2 := (Array.getElem?_eq_some_iff.mp hv).1
    rcases (show i = 0 ∨ i = 1 by omega) with rfl | rfl <;> cases hv <;> exact notnone_if hns hm rfl
  case hq2 =>
    intro code C A' E' i v t m₂ hA hv hpz hns hm hk
    exact wpAny_Constant_int ⟨⟨_, rfl⟩, ⟨t.heap, _, rfl, fun _ _ e => e⟩⟩
  case hQ =>
    intro a s₅ oP' F5 N5 T5 hosA G5 GB
    dsimp only at N5 GB
    k_steps
    refine sum_K G5 GB (fun _ => 1) (fun j v h => by obtain ⟨_, _, t, e⟩ := h; exact .inl ⟨t, e⟩) (k := 1) rfl ?_
    intro s' t' hosA2 F6 N6
    clear G5 GB
    k_steps
    refine' gen_K (c := 469) (P := 465) ?zF ?zN ?zT ?U ?hT ?C ?zhl ?hglob ?hcode ?zhh ?zhco ?hclos ?hcell ?h0 ?hx ?zhkind ?zhroom (fun _ => true) (fun _ y => y = .bool false) ?h77 ?hq1 ?hq2 ?hQ ?hs
    case h77 => (k_steps; (try all_goals first | exact Str.ofString "" | exact (show Addr from (0 : Nat)) | exact Value.none))
    case zF => k_asm
    case zN => k_asm
    case zT => k_asm
    case U => k_updF
    case hT => assumption
    case C => exact codeHd_of_K (by k_asm) (by kernel_rfl)
    case zhl => k_mem
    case hglob => rfl
    case hcode => rfl
    case zhh => rfl
    case zhco => rfl
    case hclos => rfl
    case hcell => decide
    case h0 => rfl
    case hx => rfl
    case zhkind => rfl
    case zhroom => k_room
    case hs => intro _; rfl
    case hq1 => intros; exact no_ifs
    case hq2 =>
      intro code C A' E' i v t m₂ hA hv hpz hns hm hk
      have hi : i < 0 := (Array.getElem?_eq_some_iff.mp hv).1
      exact absurd hi (Nat.not_lt_zero _)
    case hQ =>
      intro a s₅ oP' F5 N5 T5 hos G5 GB
      dsimp only at N5 GB
      k_steps
      refine any_K G5 GB (fun i v h => by obtain ⟨_, _, e⟩ := h; exact e) ?_
      intro s' hos2 F6 N6
      clear G5 GB
      k_steps
      all_goals (repeat (first | k_unfold | dsimp only))
      (rename Fr _ _ _ _ => FL)
      (rename News _ _ _ _ => NL)
      have hx := News.get NL (a := _) (o := instObj 514 _) (by k_mem)
      have hd := News.get NL (a := _) (o := dictOf _ _) (by k_mem)
      exact ret _ _ _ _ _ (Ext.cls kp lz l2 (G.extM FL) (Nat.le_of_lt (Nat.lt_of_le_of_lt lz (Heap.lt_size hd0)))) (News.get NL (by k_mem)) (News.get NL (by k_mem)) T5 ⟨hos2.1.trans (hos.1.trans (hosA2.1.trans hosA.1)), fun h => hos2.2 (hos.2 (hosA2.2 (hosA.2 h)))⟩ (Made.cls kp lz l2 Made.nil hx hd) (inst_of (.head _) (.tail _ (.head _)) (by exact ⟨⟨_, rfl⟩, rfl, ⟨_, rfl⟩, rfl, ⟨_, rfl⟩, rfl, ⟨_, rfl⟩, rfl, ⟨_, rfl⟩, rfl, ⟨_, rfl⟩, rfl, ⟨_, rfl⟩, rfl, trivial⟩))
example : True ∧ True := by w_top off; first | (walk1; done) | exact ⟨trivial, trivial⟩
-- E1K
theorem c_DRoleK {w : World} {loose : List Str} {mean : ExcName → Option Value} {mg mb : Str → Option Value} {dp un : Nat} {gd : Option (List Code)} {cn : Str} {cs : Scope} {a : Addr} {ccd : Value} {cl : List (Str × Addr)} {outer : List Env} {A₀ : Around} {base h₀ : Heap} {L : Addr} {m : Str → Option Value} {s : Shared} {Q E : Value → Shared → Prop}
    {kl pl : Addr} {vs : List Value} {names : List Str} {nm : Str} {thr : Int} {t0 tt : Tok} {oP : Obj} {nl c : Nat} {news : List (Addr × Obj)} {upd : Obj → List (Addr × Obj)}
    (C : Cx (hd.heap_1 w.params) pv loose mean mg mb A₀ base outer h₀ L s.heap m) (hk : cs.kind = .function) (room : dp + 24 < recursionLimit) (units : un + 300 < cLine)
    (N : News h₀ L s.heap news) (U : UpdF 465 oP news upd) (hT : TabOk oP) (hpl : (pl, W.listOf #[] nl) ∈ news) (hkl : (kl, W.listOf vs.toArray c) ∈ news) (hne : @Ne Nat kl pl) (hvs : StrsAre vs names) (hnd : names.Nodup) (hz : names.length ≤ 100) (h1 : 1 ≤ thr) (h2 : thr ≤ 100)
    (ret : Halt (∀ r s' oP' tl v6, Fr h₀ L s'.heap m → News h₀ L s'.heap (upd oP' ++ tl) → OwnOff tl (news.map (·.1)) → TabOk oP' → Rst s s' → Inst (Led tl) r 514 [("keyids", .ref kl), ("threshold", .int thr tt), ("unrecognized_fields", v6), ("name", .str nm t0), ("terminating", .bool false), ("paths", .ref pl), ("path_hash_prefixes", .none)] → Q (.ref r) s')) :
    wpAny (model PySem.Challenge.rw_jk0048_02.row.prog w) (ktrTop dp un gd cn cs L a ccd cl outer) (call (.ref 514) [.str nm t0, .ref kl, .int thr tt, .bool false, .ref pl, .none]) Q E s := by
  obtain ⟨pre, post, hnews, hg, a1, b1⟩ := U.split
  have hPm : (465, oP) ∈ news := by rw [hnews]; simp
  have hseq : ∀ l : Addr, ∀ its n, (l, W.listOf its n) ∈ news → @Ne Nat l 465 := fun l its n hm => by
    rintro rfl
    have e := (N _ hPm).1
    rw [(N _ hm).1] at e; cases e
    obtain ⟨ps, e2, _⟩ := hT.data
    cases e2
  have N1 : News h₀ L s.heap [(465, oP), (pl, W.listOf #[] nl)] := News.sub N (by intro p hp; rcases List.mem_cons.mp hp with rfl | hp; exact hPm; rw [List.mem_singleton.mp hp]; exact hpl)
  have hat : LstOf (AtO (L :: frs outer) [465, pl] s.heap) kl vs :=
    ⟨_, c, ⟨Sub.callLed C.D N (fun _ h => h) _ _ hkl, by simpa using ⟨hseq _ _ _ hkl, hne⟩⟩, rfl, rfl⟩
  refine c_DRole C hk room units N1 hT (hseq _ _ _ hpl) hat hvs hnd hz h1 h2 fun r s' oP' tl v6 hE hw hw2 hT' hr hM hI => ?_
  obtain ⟨F', N', O'⟩ := led_mods (news' := upd oP') C.F N hE hM (fun x hx => by rcases List.mem_cons.mp hx with rfl | hx; exact ⟨_, hPm⟩; rw [List.mem_singleton.mp hx]; exact ⟨_, hpl⟩) fun p hp => by
    rw [hg] at hp
    have old : ∀ q ∈ news, q.1 ≠ 465 → (q ∈ news ∧ q.1 ∉ [465, pl]) ∨ (s'.heap.get? q.1 = some q.2 ∧ ∃ o, (q.1, o) ∈ news) := fun q hq hq4 => by
      by_cases hqp : q.1 = pl
      · right
        have e := (N _ hpl).1
        have e2 := (N q hq).1
        rw [hqp, e] at e2
        rw [hqp, hw2]
        exact ⟨e2, _, hpl⟩
      · exact .inl ⟨hq, by simpa using ⟨hq4, hqp⟩⟩
    rcases List.mem_append.mp hp with hp | hp
    · exact old p (by rw [hnews]; simp [hp]) (a1 p hp)
    · rcases List.mem_cons.mp hp with rfl | hp
      · exact .inr ⟨hw, oP, hPm⟩
      · exact old p (by rw [hnews]; simp [hp]) (b1 p hp)
  exact ret r s' oP' tl v6 F' N' O' hT' hr hI
-- P31
example : True := by
  k_with "!call builtin:dict.update" => (k_here; (with_reducible refine haltU ?_))
  k_with "!compareOp NotEq ref ref" => (k_here; (refine neDict (by walk_at "my dict") (by walk_at "my dict") (by k_dflt (units_room)) ?_))
  k_with "!getMethod ref" => (k_here; (with_reducible show wpAny _ _ (getMethod (Value.ref _) (Str.ofString "update") _) _ _ _); (refine kdl_method (knd := PySem.strKind _ _) PySem.F.slot_dict_update PySem.F.type_dict_update (by walk_at "my a") (by k_dflt (k_mem)) (by walk_at "my a") ?_))
  trivial

example : True ∧ True := by w_top off; first | (walk1; done) | exact ⟨trivial, trivial⟩
section -- R1
set_option hygiene false
local macro_rules | `(tactic| walk_at "call type:dict") => `(tactic| (k_here; (refine dictD (by walk_at "my a") (by k_dflt (first | k_asm | exact News.nil)) (Top.nolimit (by walk_at "my a")) (by walk_at "my dict") (by omega) ?_); walk_at "my i"))

set_option hygiene true
local macro_rules | `(tactic| walk_at "my prop") => `(tactic| (k_dflt (apply propI; walk_at "my g1")))
theorem p_verified {w : World} {loose : List Str} {mean : ExcName → Option Value} {mg mb : Str → Option Value} {dp un : Nat} {gd : Option (List Code)} {cn : Str} {cs : Scope} {a : Addr} {ccd : Value} {cl : List (Str × Addr)} {A₀ : Around} {base h₀ : Heap} {L : Addr} {m : Str → Option Value} {s : Shared} {Q E : Value → Shared → Prop}
    {x a1 a2 : Addr} {thr1 thr2 : Int} {K1 K2 M1 M2 : List (Str × Value)} {ex : Bool} {news : List (Addr × Obj)}
    (C : Cx (hd.heap_1 w.params) pv loose mean mg mb A₀ base [] h₀ L s.heap m) (hk : cs.kind = .function) (room : dp + 8 < recursionLimit) (units : un + 100 < cLine)
    (N : News h₀ L s.heap news) (hx : Inst (Led news) x 344 [("first", .ref a1), ("second", .ref a2)]) (hv1 : VerRes PySem.Challenge.rw_jk0048_02.row.prog w (Led news) a1 thr1 K1 K2) (hv2 : VerRes PySem.Challenge.rw_jk0048_02.row.prog w (Led news) a2 thr2 M1 M2) (z1 : K1.length ≤ 1000) (z2 : M1.length ≤ 1000)
    (ret : ∀ h' tk', Fr h₀ L h' m → News h₀ L h' news → Q (.bool (decide (thr1 ≤ (K1.length : Int)) && decide (thr2 ≤ (M1.length : Int)))) { s with heap := h', toks := tk' }) :
    wpAny (model PySem.Challenge.rw_jk0048_02.row.prog w) (ktrTop dp un gd cn cs L a ccd cl []) (getAttr (.ref x) (Str.ofString "verified") ex) Q E s := by
  obtain ⟨B, F, X, T, XB, TB, D⟩ := C
  obtain ⟨s1, u1, t1, hi1, hs1, hu1⟩ := hv1
  obtain ⟨s2, u2, t2, hi2, hs2, hu2⟩ := hv2
  have z1 : K1.length ≤ 16777216 := by omega
  have z2 : M1.length ≤ 16777216 := by omega
  walk_at "my prop"
  walk_at "my enterI"
  (rename Grd _ _ _ _ => G8)
  k_steps
  · refine handed_on rfl ?_
    have hb := back_frame2 F N G8 KtsTurn.refl (by assumption)
    have hc : thr1 ≤ (K1.length : Int) := by first | assumption | exact of_decide_eq_true (by assumption)
    have hr := fun t => ret _ t hb.1 (hb.2 _ (by assumption))
    simp only [decide_eq_true hc, Bool.true_and] at hr
    exact hr _
  · refine handed_on rfl ?_
    have hb := back_frame2 F N G8 KtsTurn.refl (by assumption)
    have hc : ¬ thr1 ≤ (K1.length : Int) := by first | assumption | exact of_decide_eq_false (by assumption) | (intro h; simp_all)
    have hr := fun t => ret _ t hb.1 (hb.2 _ (by assumption))
    simp only [decide_eq_false hc, Bool.false_and] at hr
    rw [decide_eq_false hc]
    exact hr _
theorem p_signed {w : World} {loose : List Str} {mean : ExcName → Option Value} {mg mb : Str → Option Value} {dp un : Nat} {gd : Option (List Code)} {cn : Str} {cs : Scope} {a : Addr} {ccd : Value} {cl : List (Str × Addr)} {A₀ : Around} {base h₀ : Heap} {L : Addr} {m : Str → Option Value} {s : Shared} {Q E : Value → Shared → Prop}
    {x a1 a2 : Addr} {thr1 thr2 : Int} {K1 K2 M1 M2 : List (Str × Value)} {ex : Bool} {news : List (Addr × Obj)}
    (C : Cx (hd.heap_1 w.params) pv loose mean mg mb A₀ base [] h₀ L s.heap m) (hk : cs.kind = .function) (room : dp + 8 < recursionLimit) (units : un + 100 < cLine)
    (N : News h₀ L s.heap news) (hx : Inst (Led news) x 344 [("first", .ref a1), ("second", .ref a2)]) (hv1 : VerRes PySem.Challenge.rw_jk0048_02.row.prog w (Led news) a1 thr1 K1 K2) (hv2 : VerRes PySem.Challenge.rw_jk0048_02.row.prog w (Led news) a2 thr2 M1 M2) (z1 : K1.length ≤ 1000) (z2 : M1.length ≤ 1000)
    (ret : ∀ d o h' tk', Fr h₀ L h' m → News h₀ L h' ((d, o) :: news) → (∀ p ∈ news, p.1 < d) → (d == sysModules) = false → o.IsDictOf (PySem.strKind PySem.Challenge.rw_jk0048_02.row.prog w) (merged K1 M1) → Q (.ref d) { s with heap := h', toks := tk' }) :
    wpAny (model PySem.Challenge.rw_jk0048_02.row.prog w) (ktrTop dp un gd cn cs L a ccd cl []) (getAttr (.ref x) (Str.ofString "signed") ex) Q E s := by
  obtain ⟨B, F, X, T, XB, TB, D⟩ := C
  obtain ⟨s1, u1, t1, hi1, hs1, hu1⟩ := hv1
  obtain ⟨s2, u2, t2, hi2, hs2, hu2⟩ := hv2
  have z1 : K1.length ≤ 16777216 := by omega
  have z2 : M1.length ≤ 16777216 := by omega
  walk_at "my prop"
  walk_at "my enterI"
  (rename Grd _ _ _ _ => G8)
  k_steps
  refine Halt.elim ?_
  (rename ∀ (p : Addr × Obj), p ∈ _ → p.1 < _ => l9); (rename Obj.IsDictOf _ _ _ => hd9)
  obtain ⟨lo2, o2, mem2, hd2⟩ := id hs2
  refine' updateD ?zF ?zN ?U hd9 ?hm ?hne ?hz ?_
  case zF => k_asm
  case zN => k_asm
  case U => exact UpdF.head (fun p hp => (Nat.ne_of_lt (l9 p hp)))
  case hm => walk_at "my dict"
  case hne => exact Ne.symm (Nat.ne_of_lt (l9 _ mem2))
  case hz => omega
  intro h9 o9 F9 N9 hd9
  try dsimp only at N9
  k_steps
  refine handed_on rfl ?_
  have hb := back_frame2 F N G8 KtsTurn.refl F9
  exact ret _ _ _ _ hb.1 (hb.2 _ N9) l9 (by assumption) hd9
theorem p_unsigned {w : World} {loose : List Str} {mean : ExcName → Option Value} {mg mb : Str → Option Value} {dp un : Nat} {gd : Option (List Code)} {cn : Str} {cs : Scope} {a : Addr} {ccd : Value} {cl : List (Str × Addr)} {A₀ : Around} {base h₀ : Heap} {L : Addr} {m : Str → Option Value} {s : Shared} {Q E : Value → Shared → Prop}
    {x a1 a2 : Addr} {thr1 thr2 : Int} {K1 K2 M1 M2 : List (Str × Value)} {ex : Bool} {news : List (Addr × Obj)}
    (C : Cx (hd.heap_1 w.params) pv loose mean mg mb A₀ base [] h₀ L s.heap m) (hk : cs.kind = .function) (room : dp + 8 < recursionLimit) (units : un + 100 < cLine)
    (N : News h₀ L s.heap news) (hx : Inst (Led news) x 344 [("first", .ref a1), ("second", .ref a2)]) (hv1 : VerRes PySem.Challenge.rw_jk0048_02.row.prog w (Led news) a1 thr1 K1 K2) (hv2 : VerRes PySem.Challenge.rw_jk0048_02.row.prog w (Led news) a2 thr2 M1 M2) (z1 : K2.length ≤ 1000) (z2 : M2.length ≤ 1000)
    (ret : ∀ d o h' tk', Fr h₀ L h' m → News h₀ L h' ((d, o) :: news) → (∀ p ∈ news, p.1 < d) → (d == sysModules) = false → o.IsDictOf (PySem.strKind PySem.Challenge.rw_jk0048_02.row.prog w) (merged K2 M2) → Q (.ref d) { s with heap := h', toks := tk' }) :
    wpAny (model PySem.Challenge.rw_jk0048_02.row.prog w) (ktrTop dp un gd cn cs L a ccd cl []) (getAttr (.ref x) (Str.ofString "unsigned") ex) Q E s := by
  obtain ⟨B, F, X, T, XB, TB, D⟩ := C
  obtain ⟨s1, u1, t1, hi1, hs1, hu1⟩ := hv1
  obtain ⟨s2, u2, t2, hi2, hs2, hu2⟩ := hv2
  have z1 : K2.length ≤ 16777216 := by omega
  have z2 : M2.length ≤ 16777216 := by omega
  walk_at "my prop"
  walk_at "my enterI"
  (rename Grd _ _ _ _ => G8)
  k_steps
  refine Halt.elim ?_
  (rename ∀ (p : Addr × Obj), p ∈ _ → p.1 < _ => l9); (rename Obj.IsDictOf _ _ _ => hd9)
  obtain ⟨lo2, o2, mem2, hd2⟩ := id hu2
  refine' updateD ?zF ?zN ?U hd9 ?hm ?hne ?hz ?_
  case zF => k_asm
  case zN => k_asm
  case U => exact UpdF.head (fun p hp => (Nat.ne_of_lt (l9 p hp)))
  case hm => walk_at "my dict"
  case hne => exact Ne.symm (Nat.ne_of_lt (l9 _ mem2))
  case hz => omega
  intro h9 o9 F9 N9 hd9
  try dsimp only at N9
  k_steps
  refine handed_on rfl ?_
  have hb := back_frame2 F N G8 KtsTurn.refl F9
  exact ret _ _ _ _ hb.1 (hb.2 _ N9) l9 (by assumption) hd9
end
-- P17
example : True := by
  k_with "!call type:list" => (k_here; (refine listL (by walk_at "my a") (by walk_at "my a") (by walk_at "my lst") (by omega) ?_); intro _ _ _ _ _ l1 _; (try k_lt l1); (try dsimp only))
  k_with "!my sub" => (intro p9 h9; rw [List.mem_singleton.mp h9]; k_mem)
  trivial

-- P17
example : True := by
  k_with "!call type:list" => (k_here; (refine listL (by walk_at "my a") (by walk_at "my a") (by walk_at "my lst") (by omega) ?_); intro _ _ _ _ _ l1 _; (try k_lt l1); (try dsimp only))
  k_with "!my sub" => (intro p9 h9; rw [List.mem_singleton.mp h9]; k_mem)
  trivial

example : True ∧ True := by w_top off; first | (walk1; done) | exact ⟨trivial, trivial⟩
-- D3
def lawStmt : Stmt := (PySem.Challenge.pw_jk0048_02.main.body.getLast?).getD (.Pass ⟨0, 0, 0, 0⟩)
def lawBody : List Stmt := match lawStmt with | .FunctionDef _ _ b _ _ _ _ _ _ _ => b | _ => []
def lawScope : Scope := match lawStmt with | .FunctionDef _ _ _ _ _ _ sc _ _ _ => sc | _ => { kind := .function, names := [], isGenerator := false, isCoroutine := false }
def lawFor : Stmt := (lawBody.drop 7).headD (.Pass ⟨0, 0, 0, 0⟩)
def lawForBody : List Stmt := match lawFor with | .For _ _ b _ _ => b | _ => []
def lawInner : Stmt := lawForBody.headD (.Pass ⟨0, 0, 0, 0⟩)
example : lawBody.length = 18 := by decide +kernel
example : lawForBody.length = 2 := by decide +kernel
/-- the cells of the law -/
abbrev cells (L : Addr) (c1 c2 c3 c4 c5 c6 c7 c8 : Obj) : List (Addr × Obj) := [(L + 1 + 1 + 1 + 1 + 1 + 1 + 1 + 1, c8), (L + 1 + 1 + 1 + 1 + 1 + 1 + 1, c7), (L + 1 + 1 + 1 + 1 + 1 + 1, c6), (L + 1 + 1 + 1 + 1 + 1, c5), (L + 1 + 1 + 1 + 1, c4), (L + 1 + 1 + 1, c3), (L + 1 + 1, c2), (L + 1, c1)]
theorem upd711 {g h : Heap} {L : Addr} {c1 c2 c3 c4 c5 c6 c7 c8 o : Obj} {rest : List (Addr × Obj)} (_N : News g L h ((L + 1 + 1 + 1 + 1 + 1 + 1 + 1 + 1, c8) :: (L + 1 + 1 + 1 + 1 + 1 + 1 + 1, c7) :: (L + 1 + 1 + 1 + 1 + 1 + 1, c6) :: (L + 1 + 1 + 1 + 1 + 1, c5) :: (L + 1 + 1 + 1 + 1, c4) :: (L + 1 + 1 + 1, c3) :: (L + 1 + 1, c2) :: (L + 1, c1) :: (711, o) :: rest)) (q : @LT.lt Nat _ 711 L) (off : ∀ p ∈ rest, p.1 ≠ 711) :
    UpdF 711 o ((L + 1 + 1 + 1 + 1 + 1 + 1 + 1 + 1, c8) :: (L + 1 + 1 + 1 + 1 + 1 + 1 + 1, c7) :: (L + 1 + 1 + 1 + 1 + 1 + 1, c6) :: (L + 1 + 1 + 1 + 1 + 1, c5) :: (L + 1 + 1 + 1 + 1, c4) :: (L + 1 + 1 + 1, c3) :: (L + 1 + 1, c2) :: (L + 1, c1) :: (711, o) :: rest)
      fun o' => (L + 1 + 1 + 1 + 1 + 1 + 1 + 1 + 1, c8) :: (L + 1 + 1 + 1 + 1 + 1 + 1 + 1, c7) :: (L + 1 + 1 + 1 + 1 + 1 + 1, c6) :: (L + 1 + 1 + 1 + 1 + 1, c5) :: (L + 1 + 1 + 1 + 1, c4) :: (L + 1 + 1 + 1, c3) :: (L + 1 + 1, c2) :: (L + 1, c1) :: (711, o') :: rest := by
  have e : ∀ k : Nat, @Eq Nat (L + k) 711 → False := fun k e => by omega
  exact .tail (e 8) (.tail (e 7) (.tail (e 6) (.tail (e 5) (.tail (e 4) (.tail (e 3) (.tail (e 2) (.tail (e 1) (.head off))))))))
theorem c_gvrKN {w : World} {loose : List Str} {mean : ExcName → Option Value} {mg mb : Str → Option Value} {dp un : Nat} {gd : Option (List Code)} {cn : Str} {cs : Scope} {a : Addr} {ccd : Value} {cl : List (Str × Addr)} {A₀ : Around} {base h₀ : Heap} {L : Addr} {m : Str → Option Value} {s : Shared} {Q E : Value → Shared → Prop}
    {x rd kd sd : Addr} {ver : Int} {rs : List RoleSpec} {r : RoleSpec} {Kv Sv : List (Str × Value)} {nm : Str} {tk tl : Tok} {sig : Str → Str} {news : List (Addr × Obj)}
    (C : Cx (hd.heap_1 w.params) pv loose mean mg mb A₀ base [] h₀ L s.heap m) (hk : cs.kind = .function) (room : dp + 8 < recursionLimit) (units : un + 100 < cLine)
    (N : News h₀ L s.heap news) (hR : RootOk PySem.Challenge.rw_jk0048_02.row.prog w (At [L] s.heap) x rd kd ver rs Kv) (hr : r ∈ rs) (hnm : r.name = nm) (hsd : SDict PySem.Challenge.rw_jk0048_02.row.prog w (At [L] s.heap) sd Sv) (hS : SigsOk 101 (At [L] s.heap) Sv sig) (hst : ∀ x, sig x ∈ sigTexts)
    (ret : ∀ v tl h' tk', Fr h₀ L h' m → News h₀ L h' (news ++ tl) → OwnOff tl (news.map (·.1)) → VerRes PySem.Challenge.rw_jk0048_02.row.prog w (Led tl) v r.thr (signedBy Kv Sv (okS sig) true r.names) (signedBy Kv Sv (okS sig) false r.names) → Q (.ref v) { s with heap := h', toks := tk' }) :
    wpAny (model PySem.Challenge.rw_jk0048_02.row.prog w) (ktrTop dp un gd cn cs L a ccd cl []) (call (.ref 362) [.ref x, .str nm tk, .bytes loadB tl, .ref sd]) Q E s := by
  subst hnm
  exact c_gvrK C hk room units N hR hr hsd hS hst ret
theorem mapSub {A B : List (Addr × Obj)} (h : ∀ p ∈ A, p ∈ B) : ∀ b ∈ A.map (·.1), b ∈ B.map (·.1) := fun b hb => by
  obtain ⟨p, hp, rfl⟩ := List.mem_map.mp hb
  exact List.mem_map_of_mem (h p hp)
theorem callL {g h : Heap} {L : Addr} {l news : List (Addr × Obj)} (N : News g L h news) (hs : ∀ p ∈ l, p ∈ news) : Sub (Led l) (At [L] h) := Sub.callLed (fs := []) dicts_nil N hs
theorem foldL9 {M : Model} {A : Around} {e : Env} {st : Stmt} {K : Flow → Shared → Prop} {E : Value → Shared → Prop} {s : Shared} (h : let eK := e; let aK := A.deeper eK; wpAny M aK (exec st eK) K E s) : wpAny M (A.deeper e) (exec st e) K E s := h
theorem s_inner {w : World} {loose : List Str} {mean : ExcName → Option Value} {mg mb : Str → Option Value} {g : Heap} {L fa : Addr} {m : Str → Option Value} {s : Shared} {Q : Flow → Shared → Prop} {E : Value → Shared → Prop}
    {x rd kd sd : Addr} {ver : Int} {rs : List RoleSpec} {Kv Sv : List (Str × Value)} {sig : Str → Str} {c1 c2 c3 c4 c5 c6 c7 c8 : Obj} {rest : List (Addr × Obj)} {tb : Tok}
    (B : Below callerA g [] g) (F : Fr g L s.heap (fun z => if z = Str.ofString "known" then some (.ref kd) else m z)) (X : (hd.heap_1 w.params).In g) (T : Top pv loose mean mg mb g)
    (N : News g L s.heap (cells L c1 c2 c3 c4 c5 c6 c7 c8 ++ rest))
    (h2 : c2.data = .cell (some (.ref rd))) (h5 : c5.data = .cell (some (.bytes loadB tb))) (h6 : c6.data = .cell (some (.ref x))) (h7 : c7.data = .cell (some (.ref sd)))
    (hR : RootOk PySem.Challenge.rw_jk0048_02.row.prog w (Led rest) x rd kd ver rs Kv) (hsd : SDict PySem.Challenge.rw_jk0048_02.row.prog w (Led rest) sd Sv) (hS : SigsOk 101 (Led rest) Sv sig) (hst : ∀ x, sig x ∈ sigTexts)
    (hE : PassesOwn (model PySem.Challenge.rw_jk0048_02.row.prog w) (Around.deeper callerA (envOfC (Str.ofString "law") lawScope L fa (.ref 713))) (envOfC (Str.ofString "law") lawScope L fa (.ref 713)) E)
    (ret : ∀ s' m' tl, Rst s s' → Fr g L s'.heap m' → Agree ["name"] m' (fun z => if z = Str.ofString "known" then some (.ref kd) else m z) → News g L s'.heap (cells L c1 c2 c3 c4 c5 c6 c7 c8 ++ (rest ++ tl)) → OwnOff tl ((cells L c1 c2 c3 c4 c5 c6 c7 c8 ++ rest).map (·.1)) → Q .next s') :
    wpAny (model PySem.Challenge.rw_jk0048_02.row.prog w) (Around.deeper callerA (envOfC (Str.ofString "law") lawScope L fa (.ref 713))) (exec lawInner (envOfC (Str.ofString "law") lawScope L fa (.ref 713))) Q E s := by
  with_unfolding_all change wpAny _ (Around.deeper callerA (envOfC _ ⟨_, _, _, _, _⟩ L fa _)) (exec (Stmt.For _ _ _ _ _) (envOfC _ ⟨_, _, _, _, _⟩ L fa _)) _ _ _
  with_unfolding_all change PassesOwn _ (Around.deeper callerA (envOfC _ ⟨_, _, _, _, _⟩ L fa _)) (envOfC _ ⟨_, _, _, _, _⟩ L fa _) E at hE
  refine foldL9 ?_; intro eK aK
  dsimp only at hE ⊢
  have XB := X; have TB := T; have D9 : KtsDicts (frs []) g := dicts_nil
  obtain ⟨_, _, _, _, _, _, _, _, _, _, _, _, hrd, hRT, hkd, _, _, _, hnm⟩ := id hR
  obtain ⟨lo, od, hmem, hod⟩ := id hrd
  refine for_O (h₀ := g) rfl rfl L ?_ (hE := hE)
  simp only [cells, List.cons_append, List.nil_append] at N
  k_steps
  refine ForG.dict (fun m₀ i m₁ news => Agree ["name"] m₁ m₀ ∧ ∃ tl, news = cells L c1 c2 c3 c4 c5 c6 c7 c8 ++ (rest ++ tl) ∧ OwnOff tl ((cells L c1 c2 c3 c4 c5 c6 c7 c8 ++ rest).map (·.1))) rfl rfl (by assumption) N (.inr (by simp [hmem])) lo hod ⟨.refl, [], by simp [cells], fun _ h => nomatch h⟩ ?turn ?fin
  case turn =>
    rintro i k t m₁ _ I oI s₂ hi ⟨v, hkv⟩ ⟨ha, tl, rfl, hoff⟩ hr F1 N1 off1 src1
    obtain ⟨r, hri, hrk, rfl⟩ : ∃ r, rs[i]? = some r ∧ r.name = k ∧ v = .ref r.ro := by
      unfold kvT at hkv; rw [List.getElem?_map] at hkv
      cases hq : rs[i]? with
      | none => rw [hq] at hkv; cases hkv
      | some r => rw [hq] at hkv; cases hkv; exact ⟨r, rfl, rfl, rfl⟩
    have hnd4 : ((kvT rs).map (·.1)).Nodup := by rw [kvT_names, hnm]; exact four_nodup
    have hva : valueAt (kvT rs) k = some (.ref r.ro) := valueAt_mem hnd4 (List.mem_of_getElem? hkv)
    have hrm := List.mem_of_getElem? hri
    have hR := hR.mono (Sub.appL (b := tl)); have hsd := hsd.mono (Sub.appL (b := tl)); have hS := hS.mono (Sub.appL (b := tl)); have hrd := hrd.mono (Sub.appL (b := tl)); have hRT := hRT.mono (Sub.appL (b := tl)); have hkd := hkd.mono (Sub.appL (b := tl))
    rw [ha.one] at F1
    simp only [cells, List.cons_append, List.nil_append] at N1
    generalize htl : rest ++ tl = t1 at N1 hR hsd hS hrd hRT hkd
    obtain ⟨nl0, vs0, tt0, q1, q2, q3, q4, q5, q6⟩ := id (hRT r hrm)
    obtain ⟨_, _, _, _, _, tv9, _, _, hx9, _⟩ := id hR
    k_steps
    refine Halt.elim ?_
    (rename Fr _ _ _ _ => F2); (rename News _ _ _ _ => N2)
    have cl2 := callL N2 (l := t1) (by walk_at "my sub")
    with_unfolding_all refine' c_gvrKN ⟨?zB, ?zF, ?zX, ?zT, ?zXB, ?zTB, ?zD⟩ ?zhk ?room ?units ?zN ?e1 hrm hrk ?e2 ?e3 hst ?_
    case zN => exact N2
    case zB => exact B
    case zF => exact F2
    case zX => exact X
    case zT => exact T
    case zXB => exact XB
    case zTB => exact TB
    case zD => exact D9
    case e1 => exact hR.mono cl2
    case e2 => exact hsd.mono cl2
    case e3 => exact hS.mono cl2
    case zhk => exact rfl
    case room => k_room
    case units => units_room
    intro v1 tl1 h1 tk1 F3 N3 of3 hV
    clear cl2 N2 F2
    simp only [List.cons_append] at N3
    have hR := hR.mono (Sub.appL (b := tl1)); have hsd := hsd.mono (Sub.appL (b := tl1)); have hS := hS.mono (Sub.appL (b := tl1)); have hrd := hrd.mono (Sub.appL (b := tl1)); have hRT := hRT.mono (Sub.appL (b := tl1)); have hkd := hkd.mono (Sub.appL (b := tl1)); have hV := hV.mono (Sub.appR (a := t1))
    generalize htl2 : t1 ++ tl1 = t2 at N3 hR hsd hS hrd hRT hkd hV
    k_steps
    refine Halt.elim ?_
    (rename Fr _ _ _ _ => F2); (rename News _ _ _ _ => N2)
    have cl2 := callL N2 (l := t2) (by walk_at "my sub")
    with_unfolding_all refine' c_dueK ⟨?zB, ?zF, ?zX, ?zT, ?zXB, ?zTB, ?zD⟩ ?zhk ?room ?units ?zN ?e1 ?e2 ?e3 ?e4 ?_
    case zN => exact N2
    case zB => exact B
    case zF => exact F2
    case zX => exact X
    case zT => exact T
    case zXB => exact XB
    case zTB => exact TB
    case zD => exact D9
    case e1 => exact (hRT r hrm).mono cl2
    case e2 => exact hkd.mono cl2
    case e3 => exact hsd.mono cl2
    case e4 => exact hS.mono cl2
    case zhk => exact rfl
    case room => k_room
    case units => units_room
    refine Halt.intro ?_
    intro v2 tl2 h2' tk2 F3 N3 of4 hD
    clear cl2 N2 F2
    simp only [List.cons_append] at N3
    have hV := hV.mono (Sub.appL (b := tl2)); have hD := hD.mono (Sub.appR (a := t2))
    generalize htl3 : t2 ++ tl2 = t3 at N3 hV hD
    k_steps
    refine Halt.elim ?_
    (rename Fr _ _ _ _ => F2); (rename News _ _ _ _ => N2)
    have cl2 := callL N2 (l := t3) (by walk_at "my sub")
    have hnk : ∀ b, ∀ p ∈ signedBy Kv Sv (okS sig) b r.names, p.1 ∈ kNames := fun b => signedBy_names q4.2.2.2
    have hlk : ∀ b, (signedBy Kv Sv (okS sig) b r.names).length ≤ 1000 := fun b => Nat.le_trans (signedBy_len _ _ _ _ _) (by have := q4.2.2.1; omega)
    with_unfolding_all refine' c_isK ⟨?zB, ?zF, ?zX, ?zT, ?zXB, ?zTB, ?zD⟩ ?zhk ?room ?units ?zN ?e1 ?e2 (hnk true) (hnk false) (hlk true) (hlk false) ?_
    case zN => exact N2
    case zB => exact B
    case zF => exact F2
    case zX => exact X
    case zT => exact T
    case zXB => exact XB
    case zTB => exact TB
    case zD => exact D9
    case e1 => exact hV.mono cl2
    case e2 => exact hD.mono cl2
    case zhk => exact rfl
    case room => k_room
    case units => units_room
    intro h3 tk3 F3 N3
    clear cl2 N2 F2
    k_steps
    subst htl3; subst htl2; subst htl
    have sub3 : ∀ p ∈ cells L c1 c2 c3 c4 c5 c6 c7 c8 ++ rest, p ∈ (I, oI) :: (cells L c1 c2 c3 c4 c5 c6 c7 c8 ++ (rest ++ tl)) := fun p hp => List.mem_cons_of_mem _ ((List.mem_append.mp hp).elim (List.mem_append_left _) fun h => List.mem_append_right _ (List.mem_append_left _ h))
    have sub4 : ∀ p ∈ cells L c1 c2 c3 c4 c5 c6 c7 c8 ++ rest, p ∈ (I, oI) :: (cells L c1 c2 c3 c4 c5 c6 c7 c8 ++ (rest ++ tl ++ tl1)) := fun p hp => List.mem_cons_of_mem _ ((List.mem_append.mp hp).elim (List.mem_append_left _) fun h => List.mem_append_right _ (List.mem_append_left _ (List.mem_append_left _ h)))
    refine ⟨_, cells L c1 c2 c3 c4 c5 c6 c7 c8 ++ (rest ++ (tl ++ tl1 ++ tl2)), ⟨rfl, fun h => h⟩, F3, ?n, ?o, .inr (by simp [hmem]), ?ag, tl ++ tl1 ++ tl2, rfl, ?oo⟩
    case n => simpa [cells, List.append_assoc] using N3
    case o =>
      refine off1_of fun p hp => ?_
      have h3 : ∀ q ∈ tl1, q.1 ≠ I := fun q hq => of3 q hq I (List.mem_cons_self)
      have h4 : ∀ q ∈ tl2, q.1 ≠ I := fun q hq => of4 q hq I (List.mem_cons_self)
      have h1 := off1_mem off1
      rcases List.mem_append.mp hp with hp | hp
      · exact h1 p (List.mem_append_left _ hp)
      · rcases List.mem_append.mp hp with hp | hp
        · exact h1 p (List.mem_append_right _ (List.mem_append_left _ hp))
        · rcases List.mem_append.mp hp with hp | hp
          · rcases List.mem_append.mp hp with hp | hp
            · exact h1 p (List.mem_append_right _ (List.mem_append_right _ hp))
            · exact h3 p hp
          · exact h4 p hp
    case ag => walk_at "my agree"
    case oo => exact OwnOff.app (OwnOff.app hoff (OwnOff.sub of3 (mapSub sub3))) (OwnOff.sub of4 (mapSub sub4))
  case fin =>
    rintro m₁ _ s' hr ⟨ha, tl, rfl, hoff⟩ F1 N1
    exact ret s' m₁ tl ⟨hr.1, hr.2⟩ F1 ha N1 hoff
example : True ∧ True := by w_top off; first | (walk1; done) | exact ⟨trivial, trivial⟩
-- D34
theorem mem_X {name : Str} {scope : Scope} {L a b : Addr} {cd : Value} {cl : List (Str × Addr)} {outer : List Env} (hm : b ∈ (envX name scope L a cd cl :: outer).filterMap (·.frame)) : b = L ∨ b ∈ outer.filterMap (·.frame) := by
  obtain ⟨env, he, hf⟩ := List.mem_filterMap.mp hm
  rcases List.mem_cons.mp he with rfl | he
  · exact .inl (Option.some.inj hf).symm
  · exact .inr (List.mem_filterMap.mpr ⟨env, he, hf⟩)
theorem leave_onXN {M : Model} {A : Around} {E : Value → Shared → Prop} {s' : Shared} {base g g₂ : Heap} {outer : List Env} {L a e : Addr} {m : Str → Option Value} {name : Str} {scope : Scope} {cd : Value} {cl : List (Str × Addr)} {Q : Unit → Shared → Prop} {news : List (Addr × Obj)} {cls : Value}
    (R : RaisedSN base g₂ (envX name scope L a cd cl :: outer) e cls news s'.heap) (F : Fr g L g₂ m) (K : Below A base outer g) (hsm : g₂.UpToSlots s'.heap)
    (hQ : ∀ h', RaisedSN base g outer e cls news h' → RaisedN base outer e cls news h' → g.UpToSlots h' → Q () { s' with heap := h' }) :
    wpAny M (A.deeper (envX name scope L a cd cl)) (leaving (envX name scope L a cd cl) (.ref e)) Q E s' := by
  obtain ⟨B, a0, hB, hBG, hl, hfl⟩ := R
  exact wpAny_leaves_onW (Around.frames_deeper K.stack) rfl hfl fun h' x1 x2 =>
    have R : RaisedSN base g outer e cls news h' := ⟨B, a0, hB, fun b o q nm => hBG b o (F.keep b o q) (fun hm => by
      rcases mem_X hm with z | z
      · rw [z, kts_self F] at q
        cases q
      · exact nm z), fun q hq => ⟨(hl q hq).1, kts_none F.keep (hl q hq).2.1, (hl q hq).2.2⟩, x1⟩
    hQ h' R R.toN ((Heap.UpToSlots.of_keeps F.keep).trans (hsm.trans x2))
theorem norm2 {g h : Heap} {L : Addr} {fo co tb : Addr × Obj} {A rest : List (Addr × Obj)} (N : News g L h (fo :: co :: (A ++ tb :: rest))) : News g L h (A ++ tb :: (rest ++ [fo, co])) := fun p hp => N p (by
  simp only [List.mem_append, List.mem_cons, List.not_mem_nil, or_false] at hp ⊢
  rcases hp with h | h | h | h | h <;> simp [h])
theorem off2 {l : List (Addr × Obj)} {fo co : Addr × Obj} (h : ∀ q ∈ l, @LT.lt Nat _ q.1 co.1) (h2 : @LT.lt Nat _ co.1 fo.1) : OwnOff [fo, co] (l.map (·.1)) := fun p hp b hb => by
  obtain ⟨q, hq, rfl⟩ := List.mem_map.mp hb
  have hq := h q hq
  simp only [List.mem_cons, List.not_mem_nil, or_false] at hp
  rcases hp with rfl | rfl
  · exact Nat.ne_of_gt (Nat.lt_trans hq h2)
  · exact Nat.ne_of_gt hq
theorem back_frame {g g4 g' h h' : Heap} {L L' L₂ : Addr} {m m' : Str → Option Value} {l : List (Addr × Obj)} (F : Fr g L h m) (N : News g L h l) (G : Grd h g4 L' (l.map (·.1))) (T : KtsTurn [L] g4 g') (F' : Fr g' L₂ h' m') (N' : News g' L₂ h' l) :
    Fr g L h' m ∧ News g L h' l := by
  have nl : ∀ b o, h.get? b = some o → b ∉ l.map (·.1) → g4.get? b = some o := G.keep
  refine ⟨⟨?_, fun b o e => ?_, F.above⟩, fun p hp => ⟨(N' p hp).1, (N p hp).2⟩⟩
  · obtain ⟨oL, es, ep, e1, r1, r2⟩ := F.ns
    have h4 := nl L oL e1 (fun q => by
      obtain ⟨p, hp, e⟩ := List.mem_map.mp q
      exact (N p hp).2.1 e)
    obtain ⟨sl, e2⟩ := T.frame L oL h4 (.head _)
    exact ⟨_, es, ep, F'.keep _ _ e2, r1, r2⟩
  · have n1 : b ∉ l.map (·.1) := fun q => by
      obtain ⟨p, hp, e'⟩ := List.mem_map.mp q
      have := (N p hp).2.2
      rw [e', e] at this; cases this
    have n2 : b ∉ [L] := fun q => by
      have q := List.mem_singleton.mp q
      have := kts_self F
      rw [← q, e] at this; cases this
    exact F'.keep _ _ (T.other b o (nl b o (F.keep b o e) n1) n2)
def lawRef1 : Stmt := (lawForBody.drop 1).headD (.Pass ⟨0, 0, 0, 0⟩)
example : True ∧ True := by w_top off; first | (walk1; done) | exact ⟨trivial, trivial⟩
-- S1
def lawForTarget : PySem.Expr := match lawFor with | .For t _ _ _ _ => t | _ => .Constant .none 0 ⟨0, 0, 0, 0⟩
def lawForIter : PySem.Expr := match lawFor with | .For _ t _ _ _ => t | _ => .Constant .none 0 ⟨0, 0, 0, 0⟩
def lawForPos : Pos := match lawFor with | .For _ _ _ _ p => p | _ => ⟨0, 0, 0, 0⟩
theorem lawFor_eq : lawFor = .For lawForTarget lawForIter lawForBody [] lawForPos := by with_unfolding_all rfl
theorem lawForBody_eq : lawForBody = [lawInner, lawRef1] := by with_unfolding_all rfl
abbrev lawEnv (L fa : Addr) : Env := envOfC (Str.ofString "law") lawScope L fa (.ref 713)
abbrev lawA (L fa : Addr) : Around := Around.deeper callerA (lawEnv L fa)
/-- the refused lambda's code in the law's table -/
def TabL (i : Nat) (tab : Obj) (tl : List (Addr × Obj)) : Prop :=
  if i = 0 then tab = tabObj #[] else ∃ c' oc vs t, tab = tabObj #[rawInt 420, rawInt 28, .ref c'] ∧ (c', oc) ∈ tl ∧ oc.data = .fields vs ∧ vs[1]? = some (.str (Str.ofString "law.<locals>.<lambda>") t)
example : True ∧ True := by w_top off; first | (walk1; done) | exact ⟨trivial, trivial⟩
-- S8
def lawS8 : Stmt := (lawBody.drop 8).headD (.Pass ⟨0, 0, 0, 0⟩)
def lawS9 : Stmt := (lawBody.drop 9).headD (.Pass ⟨0, 0, 0, 0⟩)
theorem root_role {w : World} {H : Addr → Obj → Prop} {x rd kd : Addr} {ver : Int} {rs : List RoleSpec} {Kv : List (Str × Value)} (hR : RootOk PySem.Challenge.rw_jk0048_02.row.prog w H x rd kd ver rs Kv) : ∃ r ∈ rs, r.name = Str.ofString "root" ∧ valueAt (kvT rs) (Str.ofString "root") = some (.ref r.ro) := by
  obtain ⟨_, _, _, _, _, _, _, _, _, _, _, _, hrd, hRT, hkd, _, _, _, hnm⟩ := id hR
  have hnd4 : ((kvT rs).map (·.1)).Nodup := by rw [kvT_names, hnm]; exact four_nodup
  have h1 : Str.ofString "root" ∈ rs.map (·.name) := by rw [hnm]; exact .tail _ (.head _)
  obtain ⟨r, hr, e⟩ := List.mem_map.mp h1
  exact ⟨r, hr, e, valueAt_mem hnd4 (List.mem_map.mpr ⟨r, hr, by rw [e]⟩)⟩
theorem s8 {w : World} {loose : List Str} {mean : ExcName → Option Value} {mg mb : Str → Option Value} {g : Heap} {L fa : Addr} {m : Str → Option Value} {s : Shared} {Q : Flow → Shared → Prop} {E : Value → Shared → Prop}
    {x rd kd x2 rd2 kd2 sd : Addr} {ver ver2 : Int} {rs rs2 : List RoleSpec} {Kv Kv2 Sv : List (Str × Value)} {sig : Str → Str} {c1 c2 c3 c4 c5 c6 c7 c8 : Obj} {rest : List (Addr × Obj)} {r1 r2 : RoleSpec}
    (B : Below callerA g [] g) (F : Fr g L s.heap m) (hm1 : m (Str.ofString "roles") = some (.ref rd)) (hm2 : m (Str.ofString "keys") = some (.ref kd)) (hm3 : m (Str.ofString "roles2") = some (.ref rd2)) (hm4 : m (Str.ofString "keys2") = some (.ref kd2)) (X : (hd.heap_1 w.params).In g) (T : Top pv loose mean mg mb g)
    (N : News g L s.heap (cells L c1 c2 c3 c4 c5 c6 c7 c8 ++ rest)) (h7 : c7.data = .cell (some (.ref sd)))
    (hR : RootOk PySem.Challenge.rw_jk0048_02.row.prog w (Led rest) x rd kd ver rs Kv) (hR2 : RootOk PySem.Challenge.rw_jk0048_02.row.prog w (Led rest) x2 rd2 kd2 ver2 rs2 Kv2) (hsd : SDict PySem.Challenge.rw_jk0048_02.row.prog w (Led rest) sd Sv) (hS : SigsOk 101 (Led rest) Sv sig)
    (hr1 : r1 ∈ rs) (hv1 : valueAt (kvT rs) (Str.ofString "root") = some (.ref r1.ro)) (hr2 : r2 ∈ rs2) (hv2 : valueAt (kvT rs2) (Str.ofString "root") = some (.ref r2.ro))
    (ret : ∀ h' tk m' f1 f2 tl, Fr g L h' m' → Agree ["first", "second"] m' m → m' (Str.ofString "first") = some (.ref f1) → m' (Str.ofString "second") = some (.ref f2) → News g L h' (cells L c1 c2 c3 c4 c5 c6 c7 c8 ++ (rest ++ tl)) → OwnOff tl ((cells L c1 c2 c3 c4 c5 c6 c7 c8 ++ rest).map (·.1)) →
      DueOk PySem.Challenge.rw_jk0048_02.row.prog w (Led tl) f1 r1.thr (signedBy Kv Sv (okS sig) true r1.names) (signedBy Kv Sv (okS sig) false r1.names) → DueOk PySem.Challenge.rw_jk0048_02.row.prog w (Led tl) f2 r2.thr (signedBy Kv2 Sv (okS sig) true r2.names) (signedBy Kv2 Sv (okS sig) false r2.names) → Q .next { s with heap := h', toks := tk }) :
    wpAny (model PySem.Challenge.rw_jk0048_02.row.prog w) (lawA L fa) (exec lawS8 (lawEnv L fa)) Q E s := by
  have XB := X; have TB := T; have D9 : KtsDicts (frs []) g := dicts_nil
  with_unfolding_all change wpAny _ (Around.deeper callerA (envOfC _ ⟨_, _, _, _, _⟩ L fa _)) (exec (Stmt.Assign _ _ _) (envOfC _ ⟨_, _, _, _, _⟩ L fa _)) _ _ _
  refine foldL9 ?_; intro eK aK
  (try dsimp only)
  rw [← putBack4 hm1 hm2 hm3 hm4] at F
  obtain ⟨_, _, _, _, _, _, _, _, _, _, _, _, hrd, hRT, hkd, _, _, _, hnm⟩ := id hR
  obtain ⟨_, _, _, _, _, _, _, _, _, _, _, _, hrd2, hRT2, hkd2, _, _, _, hnm2⟩ := id hR2
  simp only [cells, List.cons_append, List.nil_append] at N
  k_steps
  refine Halt.elim ?_
  (rename Fr _ _ _ _ => F2); (rename News _ _ _ _ => N2)
  have cl2 := callL N2 (l := rest) (by walk_at "my sub")
  with_unfolding_all refine' c_dueK ⟨?zB, ?zF, ?zX, ?zT, ?zXB, ?zTB, ?zD⟩ ?zhk ?room ?units ?zN ?e1 ?e2 ?e3 ?e4 ?_
  case zN => exact N2
  case zB => exact B
  case zF => exact F2
  case zX => exact X
  case zT => exact T
  case zXB => exact XB
  case zTB => exact TB
  case zD => exact D9
  case e1 => exact (hRT r1 hr1).mono cl2
  case e2 => exact hkd.mono cl2
  case e3 => exact hsd.mono cl2
  case e4 => exact hS.mono cl2
  case zhk => exact rfl
  case room => k_room
  case units => units_room
  refine Halt.intro ?_
  intro f1 tl1 h1 tk1 F3 N3 of1 hD1
  clear cl2 N2 F2
  simp only [List.cons_append] at N3
  have hsd := hsd.mono (Sub.appL (b := tl1)); have hS := hS.mono (Sub.appL (b := tl1)); have hrd2 := hrd2.mono (Sub.appL (b := tl1)); have hRT2 := hRT2.mono (Sub.appL (b := tl1)); have hkd2 := hkd2.mono (Sub.appL (b := tl1))
  generalize htl : rest ++ tl1 = t1 at N3 hsd hS hrd2 hRT2 hkd2
  k_steps
  refine Halt.elim ?_
  (rename Fr _ _ _ _ => F2); (rename News _ _ _ _ => N2)
  have cl2 := callL N2 (l := t1) (by walk_at "my sub")
  with_unfolding_all refine' c_dueK ⟨?zB, ?zF, ?zX, ?zT, ?zXB, ?zTB, ?zD⟩ ?zhk ?room ?units ?zN ?e1 ?e2 ?e3 ?e4 ?_
  case zN => exact N2
  case zB => exact B
  case zF => exact F2
  case zX => exact X
  case zT => exact T
  case zXB => exact XB
  case zTB => exact TB
  case zD => exact D9
  case e1 => exact (hRT2 r2 hr2).mono cl2
  case e2 => exact hkd2.mono cl2
  case e3 => exact hsd.mono cl2
  case e4 => exact hS.mono cl2
  case zhk => exact rfl
  case room => k_room
  case units => units_room
  refine Halt.intro ?_
  intro f2 tl2 h2 tk2 F3 N3 of2 hD2
  clear cl2 N2 F2
  simp only [List.cons_append] at N3
  k_steps
  have ag0 : Agree ["first", "second"] _ m := agree_of (putBack4 hm1 hm2 hm3 hm4)
  (rename Fr _ _ _ _ => F9); (rename News _ _ _ _ => N9)
  exact ret _ _ _ f1 f2 (tl1 ++ tl2) F9 (by walk_at "my agree") (if_pos rfl) ((if_neg (by decide)).trans (if_pos rfl)) (News.sub N9 (sub_front (A := cells L c1 c2 c3 c4 c5 c6 c7 c8) htl)) (OwnOff.app of1 (OwnOff.sub of2 (ad_two (y := []) (A := cells L c1 c2 c3 c4 c5 c6 c7 c8) htl))) (hD1.mono Sub.appL) (hD2.mono Sub.appR)
-- P41
example : True := by
  k_with "!leaving ref" => (k_here; (with_reducible rename KtsDicts _ _ => kdX); refine leave_onXN (by assumption) (by assumption) (by assumption) (by assumption) ?_; intro h' S' R' U'; (try dsimp only at S' R' U' ⊢))
  k_with "!call ref" => (k_here; (with_reducible show wpAny _ _ (call (Value.ref 709) _) _ _ _); walk_at "my enter"; (rename Grd _ _ _ _ => G9))
  trivial
local macro_rules | `(tactic| k_updF) => `(tactic| k_extra "!P41 k_updF")
example : True := by
  k_with "!P41 k_updF" => (with_reducible assumption)
  trivial

example : True ∧ True := by w_top off; first | (walk1; done) | exact ⟨trivial, trivial⟩
-- D4
theorem s_ref1 {w : World} {loose : List Str} {mean : ExcName → Option Value} {mg mb : Str → Option Value} {g : Heap} {L fa : Addr} {m : Str → Option Value} {s : Shared} {Q : Flow → Shared → Prop} {E : Value → Shared → Prop}
    {x rd kd sd : Addr} {ver : Int} {rs : List RoleSpec} {Kv Sv : List (Str × Value)} {sig : Str → Str} {c1 c2 c3 c4 c5 c6 c7 c8 : Obj} {rest : List (Addr × Obj)} {tb : Tok}
    (B : Below callerA g [] g) (F : Fr g L s.heap m) (X : (hd.heap_1 w.params).In g) (T : Top pv loose mean mg mb g)
    (N : News g L s.heap (cells L c1 c2 c3 c4 c5 c6 c7 c8 ++ (711, tabObj #[]) :: rest)) (hlt : @LT.lt Nat _ 711 L) (hoff : OwnOff rest ((711 : Addr) :: (cells L c1 c2 c3 c4 c5 c6 c7 c8).map (·.1)))
    (h5 : c5.data = .cell (some (.bytes loadB tb))) (h6 : c6.data = .cell (some (.ref x))) (h7 : c7.data = .cell (some (.ref sd)))
    (hR : RootOk PySem.Challenge.rw_jk0048_02.row.prog w (Led rest) x rd kd ver rs Kv)
    (hE : PassesOwn (model PySem.Challenge.rw_jk0048_02.row.prog w) (Around.deeper callerA (envOfC (Str.ofString "law") lawScope L fa (.ref 713))) (envOfC (Str.ofString "law") lawScope L fa (.ref 713)) E)
    (ret : ∀ c' oc vs t tl h' tk', Fr g L h' m → News g L h' (cells L c1 c2 c3 c4 c5 c6 c7 c8 ++ (711, tabObj #[rawInt 420, rawInt 28, .ref c']) :: (rest ++ tl)) → OwnOff tl ((cells L c1 c2 c3 c4 c5 c6 c7 c8 ++ (711, tabObj #[]) :: rest).map (·.1)) → (c', oc) ∈ tl → oc.data = .fields vs → vs[1]? = some (.str (Str.ofString "law.<locals>.<lambda>") t) → Q .next { s with heap := h', toks := tk' }) :
    wpAny (model PySem.Challenge.rw_jk0048_02.row.prog w) (Around.deeper callerA (envOfC (Str.ofString "law") lawScope L fa (.ref 713))) (exec lawRef1 (envOfC (Str.ofString "law") lawScope L fa (.ref 713))) Q E s := by
  with_unfolding_all change wpAny _ (Around.deeper callerA (envOfC _ ⟨_, _, _, _, _⟩ L fa _)) (exec (Stmt.If _ _ _ _) (envOfC _ ⟨_, _, _, _, _⟩ L fa _)) _ _ _
  with_unfolding_all change PassesOwn _ (Around.deeper callerA (envOfC _ ⟨_, _, _, _, _⟩ L fa _)) (envOfC _ ⟨_, _, _, _, _⟩ L fa _) E at hE
  refine foldL9 ?_; intro eK aK
  dsimp only at hE ⊢
  have XB := X; have TB := T; have D9 : KtsDicts (frs []) g := dicts_nil
  have hk9 : ScopeKind.function = ScopeKind.function := rfl
  have C711 : CodeHd g 713 711 := codeHd_of_K X (by kernel_rfl)
  obtain ⟨kd2, md, ps, v1, v2, tv, v4, v5, hx, hkd2, hmd, hRR, hrd, hT, hkd, hK, hkn, hkl, hnm⟩ := id hR
  simp only [List.map_cons, List.map_nil] at hoff
  simp only [cells, List.cons_append, List.nil_append] at N
  have U9 := upd711 N hlt (fun p hp => hoff p hp _ (.head _))
  have hno : valueAt ps (Str.ofString "Root") = none := by
    refine valueAt_none ?_
    have hps : ps.map (·.1) = fourNames := by rw [hRR.names, hnm]
    have : (ps.map (·.1)).any (fun k => k = Str.ofString "Root") = false := by rw [hps]; decide +kernel
    rw [List.any_map] at this
    exact this
  have nh : NoHalt := trivial
  k_steps
  · (rename KtsTurn _ _ _ => t9)
    (rename Grd _ _ _ _ => G8)
    have hb := back_frame (by assumption) (by assumption) G8 t9 (by assumption) (by assumption)
    exact ret _ _ _ _ _ _ _ hb.1 (norm2 hb.2) (off2 (by assumption) (by assumption)) (.tail _ (.head _)) (by assumption) (by assumption)
example : True ∧ True := by w_top off; first | (walk1; done) | exact ⟨trivial, trivial⟩
-- D5
theorem norm1 {g h : Heap} {L : Addr} {fo co tb : Addr × Obj} {A rest : List (Addr × Obj)} (N : News g L h (fo :: (A ++ tb :: co :: rest))) : News g L h (A ++ tb :: (rest ++ [fo])) := fun p hp => N p (by
  simp only [List.mem_append, List.mem_cons, List.not_mem_nil, or_false] at hp ⊢
  rcases hp with h | h | h | h <;> simp [h])
theorem allLtS {l tl : List (Addr × Obj)} {d : Addr} (h : ∀ p ∈ l, @LT.lt Nat _ p.1 d) (s : ∀ p ∈ tl, p ∈ l) : ∀ p ∈ tl, @LT.lt Nat _ p.1 d := fun p hp => h p (s p hp)
theorem offOne {l : List (Addr × Obj)} {f' : Addr} {of' : Obj} (h : ∀ q ∈ l, @LT.lt Nat _ q.1 f') : OwnOff [(f', of')] (l.map (·.1)) := fun p hp b hb => by
  obtain ⟨q, hq, rfl⟩ := List.mem_map.mp hb
  rw [List.mem_singleton.mp hp]
  exact Nat.ne_of_gt (h q hq)
theorem s_ref2 {w : World} {loose : List Str} {mean : ExcName → Option Value} {mg mb : Str → Option Value} {g : Heap} {L fa : Addr} {m : Str → Option Value} {s : Shared} {Q : Flow → Shared → Prop} {E : Value → Shared → Prop}
    {x rd kd sd : Addr} {ver : Int} {rs : List RoleSpec} {Kv Sv : List (Str × Value)} {sig : Str → Str} {c1 c2 c3 c4 c5 c6 c7 c8 : Obj} {rest : List (Addr × Obj)} {tb t : Tok} {c' : Addr} {oc : Obj} {vs : Array Value}
    (B : Below callerA g [] g) (F : Fr g L s.heap m) (X : (hd.heap_1 w.params).In g) (T : Top pv loose mean mg mb g)
    (N : News g L s.heap (cells L c1 c2 c3 c4 c5 c6 c7 c8 ++ (711, tabObj #[rawInt 420, rawInt 28, .ref c']) :: rest)) (hlt : @LT.lt Nat _ 711 L) (hoff : OwnOff rest ((711 : Addr) :: (cells L c1 c2 c3 c4 c5 c6 c7 c8).map (·.1)))
    (h5 : c5.data = .cell (some (.bytes loadB tb))) (h6 : c6.data = .cell (some (.ref x))) (h7 : c7.data = .cell (some (.ref sd)))
    (hc' : (c', oc) ∈ rest) (hoc : oc.data = .fields vs) (hvs : vs[1]? = some (.str (Str.ofString "law.<locals>.<lambda>") t))
    (hR : RootOk PySem.Challenge.rw_jk0048_02.row.prog w (Led rest) x rd kd ver rs Kv)
    (hE : PassesOwn (model PySem.Challenge.rw_jk0048_02.row.prog w) (Around.deeper callerA (envOfC (Str.ofString "law") lawScope L fa (.ref 713))) (envOfC (Str.ofString "law") lawScope L fa (.ref 713)) E)
    (ret : ∀ f' of' h' tk', Fr g L h' m → News g L h' (cells L c1 c2 c3 c4 c5 c6 c7 c8 ++ (711, tabObj #[rawInt 420, rawInt 28, .ref c']) :: (rest ++ [(f', of')])) → OwnOff [(f', of')] ((cells L c1 c2 c3 c4 c5 c6 c7 c8 ++ (711, tabObj #[rawInt 420, rawInt 28, .ref c']) :: rest).map (·.1)) → Q .next { s with heap := h', toks := tk' }) :
    wpAny (model PySem.Challenge.rw_jk0048_02.row.prog w) (Around.deeper callerA (envOfC (Str.ofString "law") lawScope L fa (.ref 713))) (exec lawRef1 (envOfC (Str.ofString "law") lawScope L fa (.ref 713))) Q E s := by
  with_unfolding_all change wpAny _ (Around.deeper callerA (envOfC _ ⟨_, _, _, _, _⟩ L fa _)) (exec (Stmt.If _ _ _ _) (envOfC _ ⟨_, _, _, _, _⟩ L fa _)) _ _ _
  with_unfolding_all change PassesOwn _ (Around.deeper callerA (envOfC _ ⟨_, _, _, _, _⟩ L fa _)) (envOfC _ ⟨_, _, _, _, _⟩ L fa _) E at hE
  refine foldL9 ?_; intro eK aK
  dsimp only at hE ⊢
  have XB := X; have TB := T; have D9 : KtsDicts (frs []) g := dicts_nil
  have hk9 : ScopeKind.function = ScopeKind.function := rfl
  have C711 : CodeHd g 713 711 := codeHd_of_K X (by kernel_rfl)
  obtain ⟨kd2, md, ps, v1, v2, tv, v4, v5, hx, hkd2, hmd, hRR, hrd, hT, hkd, hK, hkn, hkl, hnm⟩ := id hR
  simp only [List.map_cons, List.map_nil] at hoff
  have N : News g L s.heap (cells L c1 c2 c3 c4 c5 c6 c7 c8 ++ (711, tabObj #[rawInt 420, rawInt 28, .ref c']) :: (c', oc) :: rest) := fun p hp => N p (by
    simp only [List.mem_append, List.mem_cons] at hp ⊢
    rcases hp with h | h | h | h
    · exact .inl h
    · exact .inr (.inl h)
    · exact .inr (.inr (h ▸ hc'))
    · exact .inr (.inr h))
  simp only [cells, List.cons_append, List.nil_append] at N
  have U9 := upd711 N hlt (List.forall_mem_cons.mpr ⟨hoff _ hc' _ (.head _), fun p hp => hoff p hp _ (.head _)⟩)
  have hno : valueAt ps (Str.ofString "Root") = none := by
    refine valueAt_none ?_
    have hps : ps.map (·.1) = fourNames := by rw [hRR.names, hnm]
    have : (ps.map (·.1)).any (fun k => k = Str.ofString "Root") = false := by rw [hps]; decide +kernel
    rw [List.any_map] at this
    exact this
  have nh : NoHalt := trivial
  k_steps
  · (rename KtsTurn _ _ _ => t9)
    (rename Grd _ _ _ _ => G8)
    have hb := back_frame (by assumption) (by assumption) G8 t9 (by assumption) (by assumption)
    exact ret _ _ _ _ hb.1 (norm1 hb.2) (offOne (allLtS (by assumption) (by walk_at "my sub")))
example : True ∧ True := by w_top off; first | (walk1; done) | exact ⟨trivial, trivial⟩
-- S2
theorem s_assign {w : World} {loose : List Str} {mean : ExcName → Option Value} {mg mb : Str → Option Value} {g : Heap} {L fa T0 : Addr} {m : Str → Option Value} {s : Shared} {Q : Unit → Shared → Prop} {E : Value → Shared → Prop}
    {x rd kd : Addr} {c1 c2 c3 c4 c5 c6 c7 c8 : Obj} {rest : List (Addr × Obj)} {v2 v6 : Option Value}
    (B : Below callerA g [] g) (F : Fr g L s.heap m) (X : (hd.heap_1 w.params).In g) (T : Top pv loose mean mg mb g)
    (N : News g L s.heap (cells L c1 c2 c3 c4 c5 c6 c7 c8 ++ rest)) (hoff : OwnOff rest ((cells L c1 c2 c3 c4 c5 c6 c7 c8).map (·.1)))
    (h2 : c2.data = .cell v2) (h6 : c6.data = .cell v6) (hT : TupOf (Led rest) T0 [.ref x, .ref rd, .ref kd])
    (ret : ∀ h' tk c2' c6', Fr g L h' (fun z => if z = Str.ofString "known" then some (.ref kd) else m z) → News g L h' (cells L c1 c2' c3 c4 c5 c6' c7 c8 ++ rest) → c2'.data = .cell (some (.ref rd)) → c6'.data = .cell (some (.ref x)) → Q () { s with heap := h', toks := tk }) :
    wpAny (model PySem.Challenge.rw_jk0048_02.row.prog w) (lawA L fa) (assign lawForTarget (lawEnv L fa) (.ref T0)) Q E s := by
  have XB := X; have TB := T; have D9 : KtsDicts (frs []) g := dicts_nil
  with_unfolding_all change wpAny _ (Around.deeper callerA (envOfC _ ⟨_, _, _, _, _⟩ L fa _)) (assign (Expr.Tuple _ _ _) (envOfC _ ⟨_, _, _, _, _⟩ L fa _) _) _ _ _
  have hup : IsTup s.heap T0 #[.ref x, .ref rd, .ref kd] := (hT.mono (Sub.led N (fun p hp => List.mem_append_right _ hp))).tup
  dsimp only
  simp only [List.map_cons, List.map_nil] at hoff
  simp only [cells, List.cons_append, List.nil_append] at N
  k_steps
  exact ret _ _ _ _ (by assumption) (by assumption) (by assumption) (by assumption)
theorem adSub {A A' : List (Addr × Obj)} {t t' : Addr × Obj} {r x : List (Addr × Obj)} (hA : A.map (·.1) = A'.map (·.1)) (ht : t.1 = t'.1) : ∀ b ∈ (A ++ t :: r).map (·.1), b ∈ (A' ++ t' :: (r ++ x)).map (·.1) := by
  intro b hb
  rw [List.map_append, List.map_cons] at hb ⊢
  rw [← hA, ← ht, List.map_append]
  simp only [List.mem_append, List.mem_cons] at hb ⊢
  rcases hb with h | h | h
  · exact .inl h
  · exact .inr (.inl h)
  · exact .inr (.inr (.inl h))
theorem offCons {a : Addr × Obj} {r : List (Addr × Obj)} {l : List Addr} (h : ∀ b ∈ l, a.1 ≠ b) (k : OwnOff r l) : OwnOff (a :: r) l := fun p hp b hb => by
  rcases List.mem_cons.mp hp with rfl | hp
  · exact h b hb
  · exact k p hp b hb
theorem ne_cells {c1 c2 c3 c4 c5 c6 c7 c8 : Obj} {L : Addr} (h : @LT.lt Nat _ 711 L) : ∀ b ∈ (cells L c1 c2 c3 c4 c5 c6 c7 c8).map (·.1), (711 : Addr) ≠ b := by
  intro b hb
  simp only [cells, List.map_cons, List.map_nil, List.mem_cons, List.not_mem_nil, or_false] at hb
  rcases hb with rfl | rfl | rfl | rfl | rfl | rfl | rfl | rfl <;> exact (show @Ne Nat _ _ by omega)
theorem s_turn {w : World} {loose : List Str} {mean : ExcName → Option Value} {mg mb : Str → Option Value} {g : Heap} {L fa T0 : Addr} {m : Str → Option Value} {s : Shared} {Q : Flow → Shared → Prop} {E : Value → Shared → Prop}
    {x rd kd sd : Addr} {ver : Int} {rs : List RoleSpec} {Kv Sv : List (Str × Value)} {sig : Str → Str} {c1 c2 c3 c4 c5 c6 c7 c8 tab : Obj} {rest restT : List (Addr × Obj)} {tb : Tok} {i : Nat} {v2 v6 : Option Value}
    (B : Below callerA g [] g) (F : Fr g L s.heap m) (X : (hd.heap_1 w.params).In g) (T : Top pv loose mean mg mb g)
    (N : News g L s.heap (cells L c1 c2 c3 c4 c5 c6 c7 c8 ++ (711, tab) :: rest)) (hlt : @LT.lt Nat _ 711 L) (hoff : OwnOff rest ((711 : Addr) :: (cells L c1 c2 c3 c4 c5 c6 c7 c8).map (·.1)))
    (h2 : c2.data = .cell v2) (h5 : c5.data = .cell (some (.bytes loadB tb))) (h6 : c6.data = .cell v6) (h7 : c7.data = .cell (some (.ref sd)))
    (hTs : ∀ p ∈ restT, p ∈ rest) (hTab : TabL i tab restT) (hT : TupOf (Led rest) T0 [.ref x, .ref rd, .ref kd])
    (hR : RootOk PySem.Challenge.rw_jk0048_02.row.prog w (Led rest) x rd kd ver rs Kv) (hsd : SDict PySem.Challenge.rw_jk0048_02.row.prog w (Led rest) sd Sv) (hS : SigsOk 101 (Led rest) Sv sig) (hst : ∀ x, sig x ∈ sigTexts)
    (hE : PassesOwn (model PySem.Challenge.rw_jk0048_02.row.prog w) (lawA L fa) (lawEnv L fa) E)
    (ret : ∀ s' m' c2' c6' tab' tl, Rst s s' → Fr g L s'.heap m' → Agree ["known", "name"] m' m → News g L s'.heap (cells L c1 c2' c3 c4 c5 c6' c7 c8 ++ (711, tab') :: (rest ++ tl)) → OwnOff tl ((cells L c1 c2 c3 c4 c5 c6 c7 c8 ++ (711, tab) :: rest).map (·.1)) →
      (∃ v, c2'.data = .cell v) → (∃ v, c6'.data = .cell v) → TabL (i + 1) tab' (restT ++ tl) → Q .next s') :
    wpAny (model PySem.Challenge.rw_jk0048_02.row.prog w) (lawA L fa) (assign lawForTarget (lawEnv L fa) (.ref T0)) (fun _ s₃ => wpAny (model PySem.Challenge.rw_jk0048_02.row.prog w) (lawA L fa) (execs lawForBody (lawEnv L fa)) Q E s₃) E s := by
  have up : Sub (Led rest) (Led ((711, tab) :: rest)) := Sub.mem fun _ h => .tail _ h
  refine s_assign B F X T N (offCons (ne_cells hlt) (OwnOff.sub hoff fun b hb => .tail _ hb)) h2 h6 (hT.mono up) fun h' tk c2' c6' F1 N1 h2' h6' => ?_
  rw [lawForBody_eq]
  refine wpAny_execs_cons ?_
  refine s_inner (m := m) B F1 X T N1 h2' h5 h6' h7 (hR.mono up) (hsd.mono up) (hS.mono up) hst hE fun s1 m1 tl1 hr1 F2 ag1 N2 of1 => ?_
  refine wpAny_execs_cons ?_
  rw [List.cons_append] at N2
  have ag : Agree ["known", "name"] m1 m := fun z hz => by
    have h1 := ag1 z (fun h => hz (by simp only [List.mem_singleton] at h; simp [h]))
    rw [h1]
    exact if_neg fun h => hz (by simp [h])
  have o1 : OwnOff tl1 ((711 : Addr) :: (cells L c1 c2' c3 c4 c5 c6' c7 c8).map (·.1)) := OwnOff.sub of1 fun b hb => by
    rw [List.map_append]
    rcases List.mem_cons.mp hb with rfl | hb
    · exact List.mem_append_right _ (.head _)
    · exact List.mem_append_left _ hb
  have hoff2 := OwnOff.app hoff o1
  have hb1 : ∃ v, c2'.data = .cell v := ⟨_, h2'⟩
  have hb2 : ∃ v, c6'.data = .cell v := ⟨_, h6'⟩
  have hR2 := hR.mono (Sub.appL (b := tl1))
  unfold TabL at hTab
  by_cases hi : i = 0
  · rw [if_pos hi] at hTab
    subst hTab
    refine s_ref1 (Sv := Sv) (sig := sig) B F2 X T N2 hlt hoff2 h5 h6' h7 hR2 hE fun c' oc vs t tl2 h2 tk2 F3 N3 of2 hm hd hv => wpAny_execs_nil ?_
    rw [show List.append rest tl1 = rest ++ tl1 from rfl, List.append_assoc] at N3
    refine ret _ m1 c2' c6' _ (tl1 ++ tl2) (Rst.trans ⟨hr1.1, hr1.2⟩ ⟨rfl, fun h => h⟩) F3 ag N3 (OwnOff.app (OwnOff.sub of1 ?_) (OwnOff.sub of2 (adSub rfl rfl))) hb1 hb2 ?_
    · intro b hb; exact hb
    · unfold TabL; rw [if_neg (by omega)]
      exact ⟨c', oc, vs, t, rfl, List.mem_append_right _ (List.mem_append_right _ hm), hd, hv⟩
  · rw [if_neg hi] at hTab
    obtain ⟨c', oc, vs, t, rfl, hm, hd, hv⟩ := hTab
    refine s_ref2 (Sv := Sv) (sig := sig) B F2 X T N2 hlt hoff2 h5 h6' h7 (List.mem_append_left _ (hTs _ hm)) hd hv hR2 hE fun f' of' h2 tk2 F3 N3 of2 => wpAny_execs_nil ?_
    rw [show List.append rest tl1 = rest ++ tl1 from rfl, List.append_assoc] at N3
    refine ret _ m1 c2' c6' _ (tl1 ++ [(f', of')]) (Rst.trans ⟨hr1.1, hr1.2⟩ ⟨rfl, fun h => h⟩) F3 ag N3 (OwnOff.app (OwnOff.sub of1 ?_) (OwnOff.sub of2 (adSub rfl rfl))) hb1 hb2 ?_
    · intro b hb; exact hb
    · unfold TabL; rw [if_neg (by omega)]
      exact ⟨c', oc, vs, t, rfl, List.mem_append_left _ hm, hd, hv⟩
example : True ∧ True := by w_top off; first | (walk1; done) | exact ⟨trivial, trivial⟩
-- S9
theorem s9b {w : World} {loose : List Str} {mean : ExcName → Option Value} {mg mb : Str → Option Value} {g : Heap} {L fa : Addr} {m : Str → Option Value} {s : Shared} {Q : Flow → Shared → Prop} {E : Value → Shared → Prop}
    {x rd kd x2 rd2 kd2 sd c' : Addr} {ver ver2 fo : Int} {rs rs2 : List RoleSpec} {Kv Kv2 : List (Str × Value)} {c1 c2 c3 c4 c5 c6 c7 c8 : Obj} {rest : List (Addr × Obj)} {tb tf : Tok}
    (B : Below callerA g [] g) (F : Fr g L s.heap m) (hm5 : m (Str.ofString "follows") = some (.int fo tf)) (X : (hd.heap_1 w.params).In g) (T : Top pv loose mean mg mb g)
    (N : News g L s.heap (cells L c1 c2 c3 c4 c5 c6 c7 c8 ++ (711, tabObj #[rawInt 420, rawInt 28, .ref c']) :: rest)) (hlt : @LT.lt Nat _ 711 L) (hoff : OwnOff rest ((711 : Addr) :: (cells L c1 c2 c3 c4 c5 c6 c7 c8).map (·.1)))
    (h3 : c3.data = .cell (some (.ref x))) (h4 : c4.data = .cell (some (.ref x2))) (h5 : c5.data = .cell (some (.bytes loadB tb))) (h7 : c7.data = .cell (some (.ref sd)))
    (hR : RootOk PySem.Challenge.rw_jk0048_02.row.prog w (Led rest) x rd kd ver rs Kv) (hR2 : RootOk PySem.Challenge.rw_jk0048_02.row.prog w (Led rest) x2 rd2 kd2 ver2 rs2 Kv2) (hv0 : 0 < ver) (hv1 : ver < 100) (hv2 : ver2 = ver + fo) (hfo : fo = 0 ∨ fo = 2)
    (hE : PassesOwn (model PySem.Challenge.rw_jk0048_02.row.prog w) (lawA L fa) (lawEnv L fa) E)
    (ret : ∀ c9 tl h' tk', Fr g L h' m → News g L h' (cells L c1 c2 c3 c4 c5 c6 c7 c8 ++ (711, tabObj #[rawInt 420, rawInt 28, .ref c', rawInt 423, rawInt 20, .ref c9]) :: (rest ++ tl)) → OwnOff tl ((cells L c1 c2 c3 c4 c5 c6 c7 c8 ++ (711, tabObj #[rawInt 420, rawInt 28, .ref c']) :: rest).map (·.1)) → Q .next { s with heap := h', toks := tk' }) :
    wpAny (model PySem.Challenge.rw_jk0048_02.row.prog w) (lawA L fa) (exec lawS9 (lawEnv L fa)) Q E s := by
  with_unfolding_all change wpAny _ (Around.deeper callerA (envOfC _ ⟨_, _, _, _, _⟩ L fa _)) (exec (Stmt.If _ _ _ _) (envOfC _ ⟨_, _, _, _, _⟩ L fa _)) _ _ _
  with_unfolding_all change PassesOwn _ (Around.deeper callerA (envOfC _ ⟨_, _, _, _, _⟩ L fa _)) (envOfC _ ⟨_, _, _, _, _⟩ L fa _) E at hE
  refine foldL9 ?_; intro eK aK
  dsimp only at hE ⊢
  have XB := X; have TB := T; have D9 : KtsDicts (frs []) g := dicts_nil
  have hk9 : ScopeKind.function = ScopeKind.function := rfl
  have C711 : CodeHd g 713 711 := codeHd_of_K X (by kernel_rfl)
  rw [← putBack hm5] at F
  obtain ⟨kdA, mdA, psA, v1A, v2A, tvA, v4A, v5A, hxA, _⟩ := id hR
  obtain ⟨kdB, mdB, psB, v1B, v2B, tvB, v4B, v5B, hxB, _⟩ := id hR2
  simp only [List.map_cons, List.map_nil] at hoff
  simp only [cells, List.cons_append, List.nil_append] at N
  have U9 := upd711 N hlt (fun p hp => hoff p hp _ (.head _))
  have nh : NoHalt := trivial
  k_steps
  rotate_left
  · exfalso
    omega
  · (rename KtsTurn _ _ _ => t9)
    (rename Grd _ _ _ _ => G8)
    obtain ⟨F8, N8⟩ := back_frame (by assumption) (by assumption) G8 t9 (by assumption) (by assumption)
    rcases hfo with rfl | rfl
    all_goals k_steps
    all_goals
     have F8 := fr_conv (by assumption : Fr g L _ _) (putBack hm5)
     exact ret _ _ _ _ F8 (norm2 (by assumption)) (off2 (by assumption) (by assumption))
example : True ∧ True := by w_top off; first | (walk1; done) | exact ⟨trivial, trivial⟩
section -- S9A
local macro_rules | `(tactic| walk_at "call ref") => `(tactic| (k_here; (with_reducible show wpAny _ _ (call (Value.ref _) []) _ _ _); kn_here; k_dflt (refine wpAny_call ?_; apply enterLam; walk_at "my z"; (try (case hcd => exact codeRec_news (by k_asm) (by k_mem) (by assumption) (by assumption))); walk_at "my w"; intros; (try dsimp only); (try k_fold))))
theorem s9a {w : World} {loose : List Str} {mean : ExcName → Option Value} {mg mb : Str → Option Value} {g : Heap} {L fa : Addr} {m : Str → Option Value} {s : Shared} {Q : Flow → Shared → Prop} {E : Value → Shared → Prop}
    {x rd kd x2 rd2 kd2 sd c' : Addr} {ver ver2 fo : Int} {rs rs2 : List RoleSpec} {Kv Kv2 Sv : List (Str × Value)} {sig : Str → Str} {c1 c2 c3 c4 c5 c6 c7 c8 : Obj} {rest : List (Addr × Obj)} {tb tf : Tok}
    (B : Below callerA g [] g) (F : Fr g L s.heap m) (hm5 : m (Str.ofString "follows") = some (.int fo tf)) (X : (hd.heap_1 w.params).In g) (T : Top pv loose mean mg mb g)
    (N : News g L s.heap (cells L c1 c2 c3 c4 c5 c6 c7 c8 ++ (711, tabObj #[rawInt 420, rawInt 28, .ref c']) :: rest)) (hlt : @LT.lt Nat _ 711 L) (hoff : OwnOff rest ((711 : Addr) :: (cells L c1 c2 c3 c4 c5 c6 c7 c8).map (·.1)))
    (h3 : c3.data = .cell (some (.ref x))) (h4 : c4.data = .cell (some (.ref x2))) (h5 : c5.data = .cell (some (.bytes loadB tb))) (h7 : c7.data = .cell (some (.ref sd)))
    (hR : RootOk PySem.Challenge.rw_jk0048_02.row.prog w (Led rest) x rd kd ver rs Kv) (hR2 : RootOk PySem.Challenge.rw_jk0048_02.row.prog w (Led rest) x2 rd2 kd2 ver2 rs2 Kv2) (hv0 : 0 < ver) (hv1 : ver < 100) (hv2 : ver2 = ver + fo) (hfo : fo = 1) (hsd : SDict PySem.Challenge.rw_jk0048_02.row.prog w (Led rest) sd Sv) (hS : SigsOk 101 (Led rest) Sv sig) (hst : ∀ x, sig x ∈ sigTexts)
    (hE : PassesOwn (model PySem.Challenge.rw_jk0048_02.row.prog w) (lawA L fa) (lawEnv L fa) E)
    (ret : ∀ c9 tl h' tk', Fr g L h' m → News g L h' (cells L c1 c2 c3 c4 c5 c6 c7 c8 ++ (711, tabObj #[rawInt 420, rawInt 28, .ref c', rawInt 423, rawInt 20, .ref c9]) :: (rest ++ tl)) → OwnOff tl ((cells L c1 c2 c3 c4 c5 c6 c7 c8 ++ (711, tabObj #[rawInt 420, rawInt 28, .ref c']) :: rest).map (·.1)) → Q .next { s with heap := h', toks := tk' }) :
    wpAny (model PySem.Challenge.rw_jk0048_02.row.prog w) (lawA L fa) (exec lawS9 (lawEnv L fa)) Q E s := by
  with_unfolding_all change wpAny _ (Around.deeper callerA (envOfC _ ⟨_, _, _, _, _⟩ L fa _)) (exec (Stmt.If _ _ _ _) (envOfC _ ⟨_, _, _, _, _⟩ L fa _)) _ _ _
  with_unfolding_all change PassesOwn _ (Around.deeper callerA (envOfC _ ⟨_, _, _, _, _⟩ L fa _)) (envOfC _ ⟨_, _, _, _, _⟩ L fa _) E at hE
  refine foldL9 ?_; intro eK aK
  dsimp only at hE ⊢
  have XB := X; have TB := T; have D9 : KtsDicts (frs []) g := dicts_nil
  have hk9 : ScopeKind.function = ScopeKind.function := rfl
  have C711 : CodeHd g 713 711 := codeHd_of_K X (by kernel_rfl)
  rw [← putBack hm5] at F
  obtain ⟨kdA, mdA, psA, v1A, v2A, tvA, v4A, v5A, hxA, _⟩ := id hR
  obtain ⟨kdB, mdB, psB, v1B, v2B, tvB, v4B, v5B, hxB, _⟩ := id hR2
  simp only [List.map_cons, List.map_nil] at hoff
  simp only [cells, List.cons_append, List.nil_append] at N
  have U9 := upd711 N hlt (fun p hp => hoff p hp _ (.head _))
  k_steps
  refine Halt.elim ?_
  (rename Below _ _ [_, _] _ => B9); (rename Below _ _ [_] _ => Bref); (rename KtsDicts _ _ => D5); revert D5; (rename KtsDicts _ _ => Dref); intro D5
  (rename Fr _ _ _ _ => F9); (rename News _ _ _ _ => N9); (rename Frag.In _ _ => X9); (rename Top _ _ _ _ _ _ => T9)
  (rename Grd _ _ _ _ => G8)
  revert F9; (rename Fr _ _ _ _ => FG); intro F9
  have C9 : Cx _ _ _ _ _ _ _ _ _ _ _ _ _ := ⟨B9, F9, X9, T9, XB, TB, D5⟩
  have cl : Sub (Led rest) (At _ _) := Sub.callLed D5 N9 (by walk_at "my sub")
  obtain ⟨ra, hra, hna, hva⟩ := root_role hR
  obtain ⟨rb, hrb, hnb, hvb⟩ := root_role hR2
  with_unfolding_all refine' c_grvr C9 rfl ?room ?units (hR2.mono cl) hrb hnb (hR.mono cl) hra hna (by omega) hv0 hv1 (hsd.mono cl) (hS.mono cl) hst ?_
  case room => k_room
  case units => units_room
  intro v a b tl h' tk' hE9 hM hI hV1 hV2
  obtain ⟨g5, TN, C5, hn5, ht5⟩ := Cx.after C9 hE9 (fun _ h => nomatch h)
  have N5 := News.app (hn5 _ N9 (by simp)) (ht5 _ hM)
  obtain ⟨g4, T4, F4, nb⟩ := back_turn Dref FG TN C5.F
  have N4 := nb _ N5
  have B4 := below_turn Bref T4; have X4 := XB.keeps B4.stays; have T5 := TB.keeps B4.stays; have D4 := Dref.turn T4
  have ofT := OwnOff.made N9 hM
  clear C9 F9 N9 hE9 hn5 ht5 B9 C5 TN N5 nb X9 T9 D5 FG cl
  simp only [List.cons_append] at N4
  show qk (.ref v) { s with heap := h', toks := tk' }
  k_steps
  obtain ⟨FB, nb2⟩ := back_frame2 (by assumption) (by assumption) G8 T4 F4
  have NB := nb2 _ N4
  (rename _ < _ => l2)
  clear F4 N4 nb2
  subst hfo
  k_steps
  have N9 := norm2 (A := cells L c1 c2 c3 c4 c5 c6 c7 c8) NB
  rw [List.append_assoc] at N9
  exact ret _ _ _ _ (fr_conv FB (putBack hm5)) N9 (OwnOff.app (OwnOff.sub ofT (fun b hb => .tail _ (.tail _ hb))) (off2 (by assumption) l2))
end
-- P8
example : True := by
  k_with "!call type:dict" => (k_here; (with_reducible refine haltT ?_))
  trivial

-- P51
example : True := by
  k_with "!getAttr ref" => (k_here; (with_reducible refine haltG (by decide) ?_))
  k_with "!eval BoolOp" => (walk_at "my H")
  k_with "!compareOp NotEq bool bool" => (k_here; refine ne_bool_same ?_)
  trivial

example : True ∧ True := by w_top off; first | (walk1; done) | exact ⟨trivial, trivial⟩
-- S10
def lawS10 : Stmt := (lawBody.drop 10).headD (.Pass ⟨0, 0, 0, 0⟩)
theorem s10a {w : World} {loose : List Str} {mean : ExcName → Option Value} {mg mb : Str → Option Value} {g : Heap} {L fa : Addr} {m : Str → Option Value} {s : Shared} {Q : Flow → Shared → Prop} {E : Value → Shared → Prop}
    {x rd kd x2 rd2 kd2 sd f1 f2 : Addr} {ver ver2 : Int} {rs rs2 : List RoleSpec} {Kv Kv2 Sv : List (Str × Value)} {sig : Str → Str} {c1 c2 c3 c4 c5 c6 c7 c8 : Obj} {rest : List (Addr × Obj)} {r1 r2 : RoleSpec} {tb tf : Tok}
    (B : Below callerA g [] g) (F : Fr g L s.heap m) (hm1 : m (Str.ofString "follows") = some (.int 1 tf)) (hm2 : m (Str.ofString "first") = some (.ref f1)) (hm3 : m (Str.ofString "second") = some (.ref f2)) (X : (hd.heap_1 w.params).In g) (T : Top pv loose mean mg mb g)
    (N : News g L s.heap (cells L c1 c2 c3 c4 c5 c6 c7 c8 ++ rest)) (h3 : c3.data = .cell (some (.ref x))) (h4 : c4.data = .cell (some (.ref x2))) (h5 : c5.data = .cell (some (.bytes loadB tb))) (h7 : c7.data = .cell (some (.ref sd)))
    (hR : RootOk PySem.Challenge.rw_jk0048_02.row.prog w (Led rest) x rd kd ver rs Kv) (hR2 : RootOk PySem.Challenge.rw_jk0048_02.row.prog w (Led rest) x2 rd2 kd2 ver2 rs2 Kv2) (hv0 : 0 < ver) (hv1 : ver < 100) (hv2 : ver2 = ver + 1) (hsd : SDict PySem.Challenge.rw_jk0048_02.row.prog w (Led rest) sd Sv) (hS : SigsOk 101 (Led rest) Sv sig) (hst : ∀ x, sig x ∈ sigTexts)
    (hr1 : r1 ∈ rs) (hn1 : r1.name = Str.ofString "root") (hr2 : r2 ∈ rs2) (hn2 : r2.name = Str.ofString "root")
    (hD1 : DueOk PySem.Challenge.rw_jk0048_02.row.prog w (Led rest) f1 r1.thr (signedBy Kv Sv (okS sig) true r1.names) (signedBy Kv Sv (okS sig) false r1.names)) (hD2 : DueOk PySem.Challenge.rw_jk0048_02.row.prog w (Led rest) f2 r2.thr (signedBy Kv2 Sv (okS sig) true r2.names) (signedBy Kv2 Sv (okS sig) false r2.names))
    (ret : ∀ h' tk m' tl, Fr g L h' m' → Agree ["told", "signed", "unsigned"] m' m → News g L h' (cells L c1 c2 c3 c4 c5 c6 c7 c8 ++ (rest ++ tl)) → OwnOff tl ((cells L c1 c2 c3 c4 c5 c6 c7 c8 ++ rest).map (·.1)) → Q .next { s with heap := h', toks := tk }) :
    wpAny (model PySem.Challenge.rw_jk0048_02.row.prog w) (lawA L fa) (exec lawS10 (lawEnv L fa)) Q E s := by
  have XB := X; have TB := T; have D9 : KtsDicts (frs []) g := dicts_nil
  with_unfolding_all change wpAny _ (Around.deeper callerA (envOfC _ ⟨_, _, _, _, _⟩ L fa _)) (exec (Stmt.If _ _ _ _) (envOfC _ ⟨_, _, _, _, _⟩ L fa _)) _ _ _
  refine foldL9 ?_; intro eK aK
  (try dsimp only)
  rw [← putBack3 hm1 hm2 hm3] at F
  have q1 := names4 hR hr1; have q2 := names4 hR2 hr2
  have zA := sby_len (Kv := Kv) (Sv := Sv) (ok := okS sig) (b := true) q1.1; have zB := sby_len (Kv := Kv) (Sv := Sv) (ok := okS sig) (b := false) q1.1
  have zC := sby_len (Kv := Kv2) (Sv := Sv) (ok := okS sig) (b := true) q2.1; have zD := sby_len (Kv := Kv2) (Sv := Sv) (ok := okS sig) (b := false) q2.1
  have nA := signedBy_names (K := Kv) (S := Sv) (ok := okS sig) (b := true) q1.2; have nB := signedBy_names (K := Kv) (S := Sv) (ok := okS sig) (b := false) q1.2
  have nC := signedBy_names (K := Kv2) (S := Sv) (ok := okS sig) (b := true) q2.2; have nD := signedBy_names (K := Kv2) (S := Sv) (ok := okS sig) (b := false) q2.2
  obtain ⟨_, _, _, _, _, tvA, _, _, hxA, _⟩ := id hR
  obtain ⟨_, _, _, _, _, tvB, _, _, hxB, _⟩ := id hR2
  simp only [cells, List.cons_append, List.nil_append] at N
  k_steps
  refine Halt.elim ?_
  (rename Fr _ _ _ _ => F2); (rename News _ _ _ _ => N2)
  have cl2 := callL N2 (l := rest) (by walk_at "my sub")
  with_unfolding_all refine' c_grvrK ⟨B, F2, X, T, XB, TB, D9⟩ rfl ?room ?units N2 (hR2.mono cl2) hr2 hn2 (hR.mono cl2) hr1 hn1 hv2 hv0 hv1 (hsd.mono cl2) (hS.mono cl2) hst ?_
  case room => k_room
  case units => units_room
  intro v a b tl1 h1 tk1 F3 N3 of1 hI hV1 hV2
  generalize signedBy Kv Sv (okS sig) true r1.names = KA at *
  generalize signedBy Kv Sv (okS sig) false r1.names = KB at *
  generalize signedBy Kv2 Sv (okS sig) true r2.names = KC at *
  generalize signedBy Kv2 Sv (okS sig) false r2.names = KD at *
  clear cl2 N2 F2
  simp only [List.cons_append, List.nil_append] at N3
  have hD1 := hD1.mono (Sub.appL (b := tl1)); have hD2 := hD2.mono (Sub.appL (b := tl1)); have hI := hI.mono (Sub.appR (a := rest)); have hV1 := hV1.mono (Sub.appR (a := rest)); have hV2 := hV2.mono (Sub.appR (a := rest))
  generalize htl : rest ++ tl1 = t1 at N3 hD1 hD2 hI hV1 hV2
  obtain ⟨d1, u1, b1, i1, tt1, hT1, hb1, hi1, hs1, hu1⟩ := id hD1
  obtain ⟨d2, u2, b2, i2, tt2, hT2, hb2, hi2, hs2, hu2⟩ := id hD2
  k_steps
  refine Halt.elim ?_
  refine dictD (by assumption) (by assumption) (Top.nolimit (by assumption)) (by walk_at "my dict") (by omega) fun D1 h4 o4 F6 N6 l6 lo6 hd6 => ?_
  obtain ⟨lo2, o2, mem2, hd2⟩ := id hs2
  obtain ⟨lo3, o3, mem3, hd3⟩ := id hu2
  have ne1 : D1 ≠ d2 := Ne.symm (Nat.ne_of_lt (l6 (d2, o2) (by simp only [List.mem_cons, mem2, or_true])))
  k_lt l6
  k_steps
  refine Halt.elim ?_
  refine dictD (by assumption) (by assumption) (Top.nolimit (by assumption)) (by walk_at "my dict") (by omega) fun D2 h5 o5 F7 N7 l7 lo7 hd7 => ?_
  have ne2 : D2 ≠ u2 := Ne.symm (Nat.ne_of_lt (l7 (u2, o3) (by simp only [List.mem_cons, mem3, or_true])))
  k_lt l7
  k_steps
  refine Halt.elim ?_
  refine' updateD ?zF ?zN ?U hd6 ?hm ne1 ?hz ?_
  case zF => k_asm
  case zN => k_asm
  case U => k_updF
  case hm => walk_at "my dict"
  case hz => omega
  intro h9 o9 F9 N9 hd9
  (try dsimp only at N9)
  k_steps
  refine Halt.elim ?_
  refine' updateD ?zF ?zN ?U hd7 ?hm ne2 ?hz ?_
  case zF => k_asm
  case zN => k_asm
  case U => k_updF
  case hm => walk_at "my dict"
  case hz => omega
  intro h10 o10 F10 N10 hd10
  (try dsimp only at N10)
  have hSa : SDict PySem.Challenge.rw_jk0048_02.row.prog w (Led [(D1, o9)]) D1 _ := ⟨lo6, o9, .head _, hd9⟩
  have hSb : SDict PySem.Challenge.rw_jk0048_02.row.prog w (Led [(D2, o10)]) D2 _ := ⟨lo7, o10, .head _, hd10⟩
  subst hb1
  subst hb2
  k_steps
  refine Halt.elim ?_
  with_unfolding_all refine' p_verified ⟨B, F10, X, T, XB, TB, D9⟩ rfl ?room ?units N10 (hI.mono ?u1) (hV1.mono ?u2) (hV2.mono ?u3) zA zC ?_
  case u1 => exact Sub.mem (by walk_at "my sub")
  case u2 => exact Sub.mem (by walk_at "my sub")
  case u3 => exact Sub.mem (by walk_at "my sub")
  case room => k_room
  case units => units_room
  clear F10 N10
  intro h11 tk11 F11 N11
  k_steps
  refine Halt.elim ?_
  refine and_join (b1 := decide (r1.thr ≤ (KA.length : Int))) (b2 := decide (r2.thr ≤ (KC.length : Int))) ?a1 ?a2
  case a1 =>
    intro K' hK'
    refine BoolOp_and ?_
    k_steps
    · refine Halt.elim ?_
      refine BoolOp_one ?_
      k_steps
      have hc : r1.thr ≤ (KA.length : Int) := by first | assumption | exact of_decide_eq_true (by assumption)
      have hh := hK' (tk11 + 1 + 1)
      rw [decide_eq_true hc, Bool.true_and] at hh
      exact hh
    · have hc : ¬ r1.thr ≤ (KA.length : Int) := by first | assumption | exact of_decide_eq_false (by assumption) | (intro h; simp_all)
      have hh := hK' (tk11 + 1)
      rw [decide_eq_false hc, Bool.false_and] at hh
      rw [decide_eq_false hc]
      exact hh
  case a2 =>
    intro tk12
    k_steps
    refine Halt.elim ?_
    with_unfolding_all refine' p_signed ⟨B, F11, X, T, XB, TB, D9⟩ rfl ?room ?units N11 (hI.mono ?u1) (hV1.mono ?u2) (hV2.mono ?u3) zA zC ?_
    case u1 => exact Sub.mem (by walk_at "my sub")
    case u2 => exact Sub.mem (by walk_at "my sub")
    case u3 => exact Sub.mem (by walk_at "my sub")
    case room => k_room
    case units => units_room
    clear F11 N11
    intro d13 o13 h13 tk13 F13 N13 l13 lo13 hd13
    have hSc : SDict PySem.Challenge.rw_jk0048_02.row.prog w (Led [(d13, o13)]) d13 _ := ⟨lo13, o13, .head _, hd13⟩
    k_lt l13
    k_steps
    refine Halt.elim ?_
    with_unfolding_all refine' p_unsigned ⟨B, F13, X, T, XB, TB, D9⟩ rfl ?room ?units N13 (hI.mono ?u1) (hV1.mono ?u2) (hV2.mono ?u3) zB zD ?_
    case u1 => exact Sub.mem (by walk_at "my sub")
    case u2 => exact Sub.mem (by walk_at "my sub")
    case u3 => exact Sub.mem (by walk_at "my sub")
    case room => k_room
    case units => units_room
    clear F13 N13
    intro d14 o14 h14 tk14 F14 N14 l14 lo14 hd14
    have hSd : SDict PySem.Challenge.rw_jk0048_02.row.prog w (Led [(d14, o14)]) d14 _ := ⟨lo14, o14, .head _, hd14⟩
    k_lt l14
    k_steps
    refine Halt.elim ?_
    have cl := callL N14 (l := t1) (by walk_at "my sub")
    with_unfolding_all refine' c_isK ⟨B, F14, X, T, XB, TB, D9⟩ rfl ?room ?units N14 (hV1.mono cl) (hD1.mono cl) nA nB zA zB ?_
    case room => k_room
    case units => units_room
    clear cl F14 N14
    intro h15 tk15 F15 N15
    k_steps
    refine Halt.elim ?_
    have cl := callL N15 (l := t1) (by walk_at "my sub")
    with_unfolding_all refine' c_isK ⟨B, F15, X, T, XB, TB, D9⟩ rfl ?room ?units N15 (hV2.mono cl) (hD2.mono cl) nC nD zC zD ?_
    case room => k_room
    case units => units_room
    clear cl F15 N15
    intro h16 tk16 F16 N16
    k_steps
    have ag0 : Agree ["told", "signed", "unsigned"] _ m := agree_of (putBack3 hm1 hm2 hm3)
    exact ret _ _ _ tl1 F16 (by walk_at "my agree") (News.sub N16 (sub_tail (A := cells L c1 c2 c3 c4 c5 c6 c7 c8) [_, _, _, _, _] htl)) of1
example : True ∧ True := by w_top off; first | (walk1; done) | exact ⟨trivial, trivial⟩
-- S12
theorem s10b {w : World} {loose : List Str} {mean : ExcName → Option Value} {mg mb : Str → Option Value} {g : Heap} {L fa : Addr} {m : Str → Option Value} {s : Shared} {Q : Flow → Shared → Prop} {E : Value → Shared → Prop} {fo : Int} {news : List (Addr × Obj)} {tf : Tok}
    (B : Below callerA g [] g) (F : Fr g L s.heap m) (hm1 : m (Str.ofString "follows") = some (.int fo tf)) (X : (hd.heap_1 w.params).In g) (T : Top pv loose mean mg mb g)
    (N : News g L s.heap news) (hfo : fo = 0 ∨ fo = 2)
    (ret : ∀ tk, Q .next { s with toks := tk }) :
    wpAny (model PySem.Challenge.rw_jk0048_02.row.prog w) (lawA L fa) (exec lawS10 (lawEnv L fa)) Q E s := by
  have XB := X; have TB := T; have D9 : KtsDicts (frs []) g := dicts_nil
  with_unfolding_all change wpAny _ (Around.deeper callerA (envOfC _ ⟨_, _, _, _, _⟩ L fa _)) (exec (Stmt.If _ _ _ _) (envOfC _ ⟨_, _, _, _, _⟩ L fa _)) _ _ _
  refine foldL9 ?_; intro eK aK
  (try dsimp only)
  rw [← putBack hm1] at F
  rcases hfo with rfl | rfl
  all_goals (k_steps; exact ret _)
def lawS11 : Stmt := (lawBody.drop 11).headD (.Pass ⟨0, 0, 0, 0⟩)
def lawS12 : Stmt := (lawBody.drop 12).headD (.Pass ⟨0, 0, 0, 0⟩)
theorem stored_same {K : List (Str × Value)} (hn : (K.map (·.1)).Nodup) {k : Str} {v : Value} (h : (k, v) ∈ K) : stored K k v = K := by
  have hany : K.any (fun kv => kv.1 = k) = true := List.any_eq_true.mpr ⟨_, h, by simp⟩
  unfold stored
  rw [if_pos hany]
  conv => rhs; rw [← List.map_id K]
  refine List.map_congr_left fun p hp => ?_
  by_cases e : p.1 = k
  · rw [if_pos e]
    have h1 := valueAt_mem hn h
    have h2 := valueAt_mem hn (k := p.1) (v := p.2) hp
    rw [e, h1] at h2
    cases h2; rfl
  · rw [if_neg e]; rfl
theorem merged_self {K : List (Str × Value)} (hn : (K.map (·.1)).Nodup) : merged K K = K := by
  unfold merged
  suffices hh : ∀ l : List (Str × Value), (∀ p ∈ l, p ∈ K) → l.foldl (fun acc kv => stored acc kv.1 kv.2) K = K from hh K fun _ h => h
  intro l
  induction l with
  | nil => intro _; rfl
  | cons p r ih =>
    intro h
    rw [List.foldl_cons, stored_same hn (h p (.head _))]
    exact ih fun q hq => h q (.tail _ hq)
theorem s11 {w : World} {loose : List Str} {mean : ExcName → Option Value} {mg mb : Str → Option Value} {g : Heap} {L fa : Addr} {m : Str → Option Value} {s : Shared} {Q : Flow → Shared → Prop} {E : Value → Shared → Prop}
    {x rd kd sd : Addr} {ver : Int} {rs : List RoleSpec} {Kv Sv : List (Str × Value)} {sig : Str → Str} {c1 c2 c3 c4 c5 c6 c7 c8 : Obj} {rest : List (Addr × Obj)} {r1 : RoleSpec} {tb : Tok}
    (B : Below callerA g [] g) (F : Fr g L s.heap m) (X : (hd.heap_1 w.params).In g) (T : Top pv loose mean mg mb g)
    (N : News g L s.heap (cells L c1 c2 c3 c4 c5 c6 c7 c8 ++ rest)) (h3 : c3.data = .cell (some (.ref x))) (h5 : c5.data = .cell (some (.bytes loadB tb))) (h7 : c7.data = .cell (some (.ref sd)))
    (hR : RootOk PySem.Challenge.rw_jk0048_02.row.prog w (Led rest) x rd kd ver rs Kv) (hsd : SDict PySem.Challenge.rw_jk0048_02.row.prog w (Led rest) sd Sv) (hS : SigsOk 101 (Led rest) Sv sig) (hst : ∀ x, sig x ∈ sigTexts)
    (hr1 : r1 ∈ rs) (hn1 : r1.name = Str.ofString "root")
    (ret : ∀ h' tk m' v a b tl, Fr g L h' m' → Agree ["alone"] m' m → m' (Str.ofString "alone") = some (.ref v) → News g L h' (cells L c1 c2 c3 c4 c5 c6 c7 c8 ++ (rest ++ tl)) → OwnOff tl ((cells L c1 c2 c3 c4 c5 c6 c7 c8 ++ rest).map (·.1)) →
      Inst (Led tl) v 344 [("first", .ref a), ("second", .ref b)] → VerRes PySem.Challenge.rw_jk0048_02.row.prog w (Led tl) a r1.thr (signedBy Kv Sv (okS sig) true r1.names) (signedBy Kv Sv (okS sig) false r1.names) → VerRes PySem.Challenge.rw_jk0048_02.row.prog w (Led tl) b r1.thr (signedBy Kv Sv (okS sig) true r1.names) (signedBy Kv Sv (okS sig) false r1.names) → Q .next { s with heap := h', toks := tk }) :
    wpAny (model PySem.Challenge.rw_jk0048_02.row.prog w) (lawA L fa) (exec lawS11 (lawEnv L fa)) Q E s := by
  have XB := X; have TB := T; have D9 : KtsDicts (frs []) g := dicts_nil
  with_unfolding_all change wpAny _ (Around.deeper callerA (envOfC _ ⟨_, _, _, _, _⟩ L fa _)) (exec (Stmt.Assign _ _ _) (envOfC _ ⟨_, _, _, _, _⟩ L fa _)) _ _ _
  refine foldL9 ?_; intro eK aK
  (try dsimp only)
  obtain ⟨_, _, _, _, _, tvA, _, _, hxA, _⟩ := id hR
  simp only [cells, List.cons_append, List.nil_append] at N
  k_steps
  refine Halt.elim ?_
  (rename Fr _ _ _ _ => F2); (rename News _ _ _ _ => N2)
  have cl2 := callL N2 (l := rest) (by walk_at "my sub")
  with_unfolding_all refine' c_grvr0K ⟨B, F2, X, T, XB, TB, D9⟩ rfl ?room ?units N2 (hR.mono cl2) hr1 hn1 (hsd.mono cl2) (hS.mono cl2) hst ?_
  case room => k_room
  case units => units_room
  intro v a b tl1 h1 tk1 F3 N3 of1 hI hV1 hV2
  clear cl2 N2 F2
  simp only [List.cons_append, List.nil_append] at N3
  k_steps
  (rename Fr _ _ _ _ => F9); (rename News _ _ _ _ => N9)
  exact ret _ _ _ v a b tl1 F9 (by walk_at "my agree") (if_pos rfl) N9 of1 hI hV1 hV2
theorem s12 {w : World} {loose : List Str} {mean : ExcName → Option Value} {mg mb : Str → Option Value} {g : Heap} {L fa : Addr} {m : Str → Option Value} {s : Shared} {Q : Flow → Shared → Prop} {E : Value → Shared → Prop}
    {f1 v a b : Addr} {thr : Int} {KA KB : List (Str × Value)} {c1 c2 c3 c4 c5 c6 c7 c8 : Obj} {rest : List (Addr × Obj)}
    (B : Below callerA g [] g) (F : Fr g L s.heap m) (hm1 : m (Str.ofString "alone") = some (.ref v)) (hm2 : m (Str.ofString "first") = some (.ref f1)) (X : (hd.heap_1 w.params).In g) (T : Top pv loose mean mg mb g)
    (N : News g L s.heap (cells L c1 c2 c3 c4 c5 c6 c7 c8 ++ rest)) (zA : KA.length ≤ 1000) (zB : KB.length ≤ 1000) (nA : ∀ p ∈ KA, p.1 ∈ kNames) (nB : ∀ p ∈ KB, p.1 ∈ kNames)
    (hD1 : DueOk PySem.Challenge.rw_jk0048_02.row.prog w (Led rest) f1 thr KA KB) (hI : Inst (Led rest) v 344 [("first", .ref a), ("second", .ref b)]) (hV1 : VerRes PySem.Challenge.rw_jk0048_02.row.prog w (Led rest) a thr KA KB) (hV2 : VerRes PySem.Challenge.rw_jk0048_02.row.prog w (Led rest) b thr KA KB)
    (ret : ∀ h' tk, Fr g L h' m → News g L h' (cells L c1 c2 c3 c4 c5 c6 c7 c8 ++ rest) → Q .next { s with heap := h', toks := tk }) :
    wpAny (model PySem.Challenge.rw_jk0048_02.row.prog w) (lawA L fa) (exec lawS12 (lawEnv L fa)) Q E s := by
  have XB := X; have TB := T; have D9 : KtsDicts (frs []) g := dicts_nil
  with_unfolding_all change wpAny _ (Around.deeper callerA (envOfC _ ⟨_, _, _, _, _⟩ L fa _)) (exec (Stmt.If _ _ _ _) (envOfC _ ⟨_, _, _, _, _⟩ L fa _)) _ _ _
  refine foldL9 ?_; intro eK aK
  (try dsimp only)
  rw [← putBack2 hm1 hm2] at F
  obtain ⟨d1, u1, b1, i1, tt1, hT1, hb1, hi1, hs1, hu1⟩ := id hD1
  subst hb1
  have hmm := merged_self hs1.nodup
  simp only [cells, List.cons_append, List.nil_append] at N
  k_steps
  refine Halt.elim ?_
  (rename Fr _ _ _ _ => F2); (rename News _ _ _ _ => N2)
  have cl := callL N2 (l := rest) (by walk_at "my sub")
  with_unfolding_all refine' c_isK ⟨B, F2, X, T, XB, TB, D9⟩ rfl ?room ?units N2 (hV1.mono cl) (hD1.mono cl) nA nB zA zB ?_
  case room => k_room
  case units => units_room
  clear cl F2 N2
  intro h3 tk3 F3 N3
  k_steps
  refine Halt.elim ?_
  have cl := callL N3 (l := rest) (by walk_at "my sub")
  with_unfolding_all refine' c_isK ⟨B, F3, X, T, XB, TB, D9⟩ rfl ?room ?units N3 (hV2.mono cl) (hD1.mono cl) nA nB zA zB ?_
  case room => k_room
  case units => units_room
  clear cl F3 N3
  intro h4 tk4 F4 N4
  k_steps
  refine Halt.elim ?_
  with_unfolding_all refine' p_verified ⟨B, F4, X, T, XB, TB, D9⟩ rfl ?room ?units N4 (hI.mono ?u1) (hV1.mono ?u2) (hV2.mono ?u3) zA zA ?_
  case u1 => exact Sub.mem (by walk_at "my sub")
  case u2 => exact Sub.mem (by walk_at "my sub")
  case u3 => exact Sub.mem (by walk_at "my sub")
  case room => k_room
  case units => units_room
  clear F4 N4
  rw [Bool.and_self]
  intro h5 tk5 F5 N5
  k_steps
  refine Halt.elim ?_
  with_unfolding_all refine' p_signed ⟨B, F5, X, T, XB, TB, D9⟩ rfl ?room ?units N5 (hI.mono ?u1) (hV1.mono ?u2) (hV2.mono ?u3) zA zA ?_
  case u1 => exact Sub.mem (by walk_at "my sub")
  case u2 => exact Sub.mem (by walk_at "my sub")
  case u3 => exact Sub.mem (by walk_at "my sub")
  case room => k_room
  case units => units_room
  clear F5 N5
  intro d6 o6 h6 tk6 F6 N6 l6 lo6 hd6
  rw [hmm] at hd6
  have hSc : SDict PySem.Challenge.rw_jk0048_02.row.prog w (Led [(d6, o6)]) d6 _ := ⟨lo6, o6, .head _, hd6⟩
  k_lt l6
  k_steps
  (rename Fr _ _ _ _ => F9); (rename News _ _ _ _ => N9)
  exact ret _ _ (fr_conv F9 (putBack2 hm1 hm2)) (News.sub N9 fun p hp => .tail _ hp)
-- P6
example : True := by
  k_with "!call ref" => (k_here; (with_reducible show wpAny _ _ (call (Value.ref 659) _) _ _ _); k_dflt ((with_unfolding_all apply c_nextK); (case B => assumption); (case F => assumption); (case T => assumption); (case D => assumption); walk_at "my kn"); intro _ _ _ _ _ _ N' _ r' _ _; clear r'; (try dsimp only at N'); (try dsimp only))
  k_with "!subscriptTail" => (k_here; (walk_at "my gi"); (refine itemTwo (by walk_at "my nl") (by omega) (by omega) ?_); intros)
  trivial

example : True ∧ True := by w_top off; first | (walk1; done) | exact ⟨trivial, trivial⟩
section -- C6
local macro_rules | `(tactic| walk_at "exec Assign") => `(tactic| (k_here; exfalso; omega))
theorem sigL {dF wd dx : Addr} {oF ow : Obj} {l tlo : List (Addr × Obj)} (h : ∀ p ∈ l, p.1 < dx) (a : (dF, oF) ∈ l) (b : (wd, ow) ∈ l) (c : ∀ p ∈ tlo, p ∈ l) : dF < dx ∧ wd < dx ∧ AllLt dx tlo := ⟨h _ a, h _ b, allLt_of fun p hp => h p (c p hp)⟩
theorem c_sigs {w : World} {loose : List Str} {mean : ExcName → Option Value} {mg mb : Str → Option Value} {dp un : Nat} {gd : Option (List Code)} {cn : Str} {cs : Scope} {a : Addr} {ccd : Value} {cl : List (Str × Addr)} {outer : List Env} {A₀ : Around} {base h₀ : Heap} {L : Addr} {m : Str → Option Value} {s : Shared} {Q E : Value → Shared → Prop}
    {wd rl : Addr} {o : Obj} {vs : List Value} {k : Nat}
    (C : Cx (hd.heap_1 w.params) pv loose mean mg mb A₀ base outer h₀ L s.heap m) (hk : cs.kind = .function) (room : dp + 16 < recursionLimit) (units : un + 200 < cLine)
    (N : News h₀ L s.heap [(wd, o)]) (low : (wd == sysModules) = false) (ho : DrawsU PySem.Challenge.rw_jk0048_02.row.prog w o rl k) (hn1 : k ≤ 5000) (hrl : LstOf (At (L :: frs outer) s.heap) rl vs) (hvs : IntsIn vs 0 997) (hvl : vs.length ≤ 144)
    (ret : ∀ r o' kvs sig tl h' tk', Ext [] [wd] s.heap h' → h'.get? wd = some o' → DrawsU PySem.Challenge.rw_jk0048_02.row.prog w o' rl (k + 14) → Made s.heap h' tl → SDict PySem.Challenge.rw_jk0048_02.row.prog w (Led tl) r kvs → SigsOk 101 (Led tl) kvs sig → (∀ x, sig x ∈ sigTexts) → kvs.length ≤ 7 → Q (.ref r) { s with heap := h', toks := tk' }) :
    wpAny (model PySem.Challenge.rw_jk0048_02.row.prog w) (ktrTop dp un gd cn cs L a ccd cl outer) (call (.ref 683) [.ref wd]) Q E s := by
  obtain ⟨B, F, X, T, XB, TB, D⟩ := C
  have hne := draws_ne N (.head _) ho hrl
  walk_at "my enter"
  (rename Grd _ _ _ _ => G)
  (rename KtsDicts _ _ => D9)
  (rename Below _ _ _ _ => B9)
  have hrl := hrl.enter G (by simpa using hne)
  k_steps
  walk_at "my for0"
  k_steps
  refine Halt.elim ?_
  (rename News _ _ _ [(_, _), (_, _)] => N9)
  refine' loopR1 (n := 7) (SigSt PySem.Challenge.rw_jk0048_02.row.prog w wd rl k ["k", "name", "pick"]) rfl dicts_nil (by assumption) N9 (by assumption) (by decide +kernel) (by decide +kernel) ?j0 ?turn ?done
  case j0 => exact ⟨.refl, _, _, _, fun _ => Str.ofString "p0:load", [], rfl, by assumption, by simpa using ho, (fun k v e => by simp [valueAt] at e), (fun _ => List.Mem.head _), (fun _ h => nomatch h), Nat.le_refl _, by exact ltL (by assumption) (by walk_at "my mem")⟩
  case turn =>
    clear N9
    rintro i t m₁ _ own g h tk TN hi ⟨ha, oF, ow, kvs, sig, tl, rfl, hd1, hdw, hS, hst, hoff, hzl, hlt⟩ hap F1 N1
    rw [ha.three] at F1
    have F1 := fr_nil TN F1; have N1 := news_nil TN N1
    clear TN
    simp only [List.cons_append] at N1
    have hofo := offApp hoff hap
    have hz : kvs.length ≤ sizeLine := by rw [sizeLine_eq]; omega
    generalize htlo : tl ++ own = tlo at N1 hofo
    k_steps
    all_goals (repeat (first | k_unfold | dsimp only))
    · obtain ⟨news', hF, hN, hA, hJ⟩ := sig_end (k := k) (i := i) (ts := ["k", "name", "pick"]) (by assumption) (by assumption) ha (by assumption) (DrawsU.le (by assumption) (by omega)) htlo (by k_mem) (by k_mem) hofo (fun p hp => hap p (.tail _ (.tail _ hp))) (by k_mem) (by k_mem) (by walk_at "my sub") (sigL (by assumption) (by k_mem) (by k_mem) (by walk_at "my sub")) (by assumption) (inst_of (.head _) (.tail _ (.head _)) (by exact ⟨⟨_, rfl⟩, rfl, ⟨_, rfl⟩, rfl, ⟨_, rfl⟩, rfl, trivial⟩)) (by walk_at "my agree") hS hst (sig_text i hi).1 hzl hlt
      exact ⟨_, _, _, _, news', rfl, by first | assumption | exact KtsTurn.refl, hF, hN, hA, hJ⟩
    · obtain ⟨news', hF, hN, hA, hJ⟩ := sig_end (k := k) (i := i) (ts := ["k", "name", "pick"]) (by assumption) (by assumption) ha (by assumption) (DrawsU.le (by assumption) (by omega)) htlo (by k_mem) (by k_mem) hofo (fun p hp => hap p (.tail _ (.tail _ hp))) (by k_mem) (by k_mem) (by walk_at "my sub") (sigL (by assumption) (by k_mem) (by k_mem) (by walk_at "my sub")) (by assumption) (inst_of (.head _) (.tail _ (.head _)) (by exact ⟨⟨_, rfl⟩, rfl, ⟨_, rfl⟩, rfl, ⟨_, rfl⟩, rfl, trivial⟩)) (by walk_at "my agree") hS hst (by (rename _ ∨ _ => q); rcases q with q | q <;> rw [q]; exact (sig_text i hi).2.1; exact (sig_text i hi).2.2) hzl hlt
      exact ⟨_, _, _, _, news', rfl, by first | assumption | exact KtsTurn.refl, hF, hN, hA, hJ⟩
    · obtain ⟨news', hF, hN, hA, hJ⟩ := sig_skip (k := k) (i := i) (ts := ["k", "name", "pick"]) (prog := PySem.Challenge.rw_jk0048_02.row.prog) (w := w) (by assumption) (by assumption) ha htlo hoff hofo (fun p hp => hap p (.tail _ (.tail _ hp))) (by walk_at "my agree") hd1 (DrawsU.le (by assumption) (by omega)) hS hst hzl hlt
      exact ⟨_, _, _, _, news', rfl, by first | assumption | exact KtsTurn.refl, hF, hN, hA, hJ⟩
  case done =>
    rintro m₁ _ g h tk TN ⟨ha, oF, ow, kvs, sig, tl, rfl, hd1, hdw, hS, hst, hoff, hzl, hlt⟩ F1 N1
    rw [ha.three] at F1
    have F1 := fr_nil TN F1; have N1 := news_nil TN N1
    clear TN
    k_steps
    repeat (first | k_unfold | dsimp only)
    exact ret _ _ _ _ _ _ _ (G.extM (by assumption)) (News.get (by assumption) (by k_mem)) hdw (G.madeM (by assumption) (tl := (_, oF) :: tl) (by walk_at "my sub") (fun p hp q => (List.mem_cons.mp hp).elim (fun e => (by rw [e] at q; exact absurd (List.mem_singleton.mp q) (Nat.ne_of_gt hlt))) fun e => hoff p e wd (by simp) (List.mem_singleton.mp q))) ⟨by assumption, _, .head _, hd1⟩ (hS.mono (Sub.mem fun p hp => .tail _ hp)) hst hzl
end
example : True ∧ True := by w_top off; first | (walk1; done) | exact ⟨trivial, trivial⟩
-- C6K
theorem c_sigsK {w : World} {loose : List Str} {mean : ExcName → Option Value} {mg mb : Str → Option Value} {dp un : Nat} {gd : Option (List Code)} {cn : Str} {cs : Scope} {a : Addr} {ccd : Value} {cl : List (Str × Addr)} {outer : List Env} {A₀ : Around} {base h₀ : Heap} {L : Addr} {m : Str → Option Value} {s : Shared} {Q E : Value → Shared → Prop}
    {wd rl : Addr} {o : Obj} {vs : List Value} {k : Nat} {news : List (Addr × Obj)} {upd : Obj → List (Addr × Obj)}
    (C : Cx (hd.heap_1 w.params) pv loose mean mg mb A₀ base outer h₀ L s.heap m) (hk : cs.kind = .function) (room : dp + 16 < recursionLimit) (units : un + 200 < cLine)
    (N : News h₀ L s.heap news) (U : UpdF wd o news upd) (low : (wd == sysModules) = false) (ho : DrawsU PySem.Challenge.rw_jk0048_02.row.prog w o rl k) (hn1 : k ≤ 5000) (hrl : LstOf (At (L :: frs outer) s.heap) rl vs) (hvs : IntsIn vs 0 997) (hvl : vs.length ≤ 144)
    (ret : Halt (∀ r kvs sig tl o' h' tk', Fr h₀ L h' m → News h₀ L h' (upd o' ++ tl) → OwnOff tl (news.map (·.1)) → DrawsU PySem.Challenge.rw_jk0048_02.row.prog w o' rl (k + 14) → SDict PySem.Challenge.rw_jk0048_02.row.prog w (Led tl) r kvs → SigsOk 101 (Led tl) kvs sig → (∀ x, sig x ∈ sigTexts) → kvs.length ≤ 7 → Q (.ref r) { s with heap := h', toks := tk' })) :
    wpAny (model PySem.Challenge.rw_jk0048_02.row.prog w) (ktrTop dp un gd cn cs L a ccd cl outer) (call (.ref 683) [.ref wd]) Q E s := by
  have N1 : News h₀ L s.heap [(wd, o)] := News.sub N (by obtain ⟨pre, post, rfl, _⟩ := U.split; intro p hp; rw [List.mem_singleton.mp hp]; simp)
  refine c_sigs C hk room units N1 low ho hn1 hrl hvs hvl fun r o' kvs sig tl h' tk' hE hw hd hM h1 h2 h3 h4 => ?_
  obtain ⟨F', N', O'⟩ := led_one C.F N U hE hw hM
  exact ret r kvs sig tl o' h' tk' F' N' O' hd h1 h2 h3 h4
example : True ∧ True := by w_top off; first | (walk1; done) | exact ⟨trivial, trivial⟩
section -- C7
local macro_rules | `(tactic| walk_at "CompSrc") => `(tactic| walk_at "my H")
local macro_rules | `(tactic| walk_at "KCtEl") => `(tactic| refine Halt.intro ?_)
local macro_rules | `(tactic| walk_at "KPfDone") => `(tactic| refine Halt.intro ?_)
theorem c_role {w : World} {loose : List Str} {mean : ExcName → Option Value} {mg mb : Str → Option Value} {dp un : Nat} {gd : Option (List Code)} {cn : Str} {cs : Scope} {a : Addr} {ccd : Value} {cl : List (Str × Addr)} {outer : List Env} {A₀ : Around} {base h₀ : Heap} {L : Addr} {m : Str → Option Value} {s : Shared} {Q E : Value → Shared → Prop}
    {wd rl : Addr} {o : Obj} {vs : List Value} {k : Nat}
    (C : Cx (hd.heap_1 w.params) pv loose mean mg mb A₀ base outer h₀ L s.heap m) (hk : cs.kind = .function) (room : dp + 16 < recursionLimit) (units : un + 200 < cLine)
    (N : News h₀ L s.heap [(wd, o)]) (low : (wd == sysModules) = false) (ho : DrawsU PySem.Challenge.rw_jk0048_02.row.prog w o rl k) (hn1 : k ≤ 5000) (hrl : LstOf (At (L :: frs outer) s.heap) rl vs) (hvs : IntsIn vs 0 997) (hvl : vs.length ≤ 144)
    (ret : ∀ r nl vs' names thr t tl o' h' tk', Ext [] [wd] s.heap h' → h'.get? wd = some o' → DrawsU PySem.Challenge.rw_jk0048_02.row.prog w o' rl (k + 3) → Made s.heap h' tl → TupOf (Led tl) r [.ref nl, .int thr t] → LstOf (Led tl) nl vs' → StrsAre vs' names → RoleNames names → 1 ≤ thr → thr ≤ (names.length : Int) → Q (.ref r) { s with heap := h', toks := tk' }) :
    wpAny (model PySem.Challenge.rw_jk0048_02.row.prog w) (ktrTop dp un gd cn cs L a ccd cl outer) (call (.ref 671) [.ref wd]) Q E s := by
  obtain ⟨B, F, X, T, XB, TB, D⟩ := C
  have hne := draws_ne N (.head _) ho hrl
  walk_at "my enterCells"
  (rename Grd _ _ _ _ => G)
  (rename KtsDicts _ _ => D9)
  (rename Below _ _ _ _ => B9)
  have hrl := hrl.enter G (by simpa using hne)
  k_steps
  refine Halt.elim ?_
  (rename _ < 7 => hb7)
  k_dflt (refine LCg.CompSrc.range (by rfl) (by k_asm) (by k_asm) (by assumption) (by exact small_one (by l_bnd) (by l_bnd) (by l_bnd) (by l_bnd)) (by exact rangeSize_nat _ _) (by rw [PySem.sizeLine_eq]; omega) ?_)
  intro g'
  refine' kct_range (rn hb7) (fun k' t' I' oI' C' oC' D' m' ys' h' tk' E' hlo' hhi' hC' hx' F' N' off' ne' => ?el) ?fin
  case el =>
    simp only [LCg.Off3, and_true] at off'
    show KPfMark → _
    intro hMark'
    k_steps
    refine Halt.elim ?_
    trace_state
    exact kct_el rfl rfl rfl
  case fin =>
    refine Halt.elim ?_
    intro ys hc hl
    have hst := StrsAre.ofCarried (ss := (rangeKs 0 _).map (rn hb7)) (by rw [List.map_map]; exact hc)
    have hyl := hst.length
    rw [List.length_map, hl] at hyl
    have hnl := hst.length
    k_steps
    (rename News _ _ _ [(_, _), (_, _), (_, _), (_, _)] => NL)
    (rename DrawsU _ _ _ _ _ => hdw)
    exact ret _ _ _ _ _ _ _ _ _ _ (G.extM (by assumption)) (News.get NL (by k_mem)) (DrawsU.le hdw (by omega)) (G.made2 NL (draws_ne2 NL (by k_mem) (.head _) hdw rfl) (draws_ne2 NL (by k_mem) (.tail _ (.head _)) hdw rfl)) ⟨_, _, .head _, rfl, rfl⟩ ⟨_, _, .tail _ (.head _), rfl, rfl⟩ hst (rn_ok (by assumption) hb7 _ (by omega) (by omega)) (by omega) (by rw [← hnl]; omega)
end
example : True ∧ True := by w_top off; first | (walk1; done) | exact ⟨trivial, trivial⟩
-- C7K
theorem c_roleK {w : World} {loose : List Str} {mean : ExcName → Option Value} {mg mb : Str → Option Value} {dp un : Nat} {gd : Option (List Code)} {cn : Str} {cs : Scope} {a : Addr} {ccd : Value} {cl : List (Str × Addr)} {outer : List Env} {A₀ : Around} {base h₀ : Heap} {L : Addr} {m : Str → Option Value} {s : Shared} {Q E : Value → Shared → Prop}
    {wd rl : Addr} {o : Obj} {vs : List Value} {k : Nat} {news : List (Addr × Obj)} {upd : Obj → List (Addr × Obj)}
    (C : Cx (hd.heap_1 w.params) pv loose mean mg mb A₀ base outer h₀ L s.heap m) (hk : cs.kind = .function) (room : dp + 16 < recursionLimit) (units : un + 200 < cLine)
    (N : News h₀ L s.heap news) (U : UpdF wd o news upd) (low : (wd == sysModules) = false) (ho : DrawsU PySem.Challenge.rw_jk0048_02.row.prog w o rl k) (hn1 : k ≤ 5000) (hrl : LstOf (At (L :: frs outer) s.heap) rl vs) (hvs : IntsIn vs 0 997) (hvl : vs.length ≤ 144)
    (ret : Halt (∀ r names thr tl o' h' tk', Fr h₀ L h' m → News h₀ L h' (upd o' ++ tl) → OwnOff tl (news.map (·.1)) → DrawsU PySem.Challenge.rw_jk0048_02.row.prog w o' rl (k + 3) → RoleTup (Led tl) r names thr → Q (.ref r) { s with heap := h', toks := tk' })) :
    wpAny (model PySem.Challenge.rw_jk0048_02.row.prog w) (ktrTop dp un gd cn cs L a ccd cl outer) (call (.ref 671) [.ref wd]) Q E s := by
  have N1 : News h₀ L s.heap [(wd, o)] := News.sub N (by obtain ⟨pre, post, rfl, _⟩ := U.split; intro p hp; rw [List.mem_singleton.mp hp]; simp)
  refine c_role C hk room units N1 low ho hn1 hrl hvs hvl fun r nl vs' names thr t tl o' h' tk' hE hw hd hM h1 h2 h3 h4 h5 h6 => ?_
  obtain ⟨F', N', O'⟩ := led_one C.F N U hE hw hM
  exact ret r names thr tl o' h' tk' F' N' O' hd ⟨nl, vs', t, h1, h2, h3, h4, h5, h6⟩
example : True ∧ True := by w_top off; first | (walk1; done) | exact ⟨trivial, trivial⟩
section -- C8
local macro_rules | `(tactic| walk_at "CompSrcT") => `(tactic| walk_at "my H")
theorem keyL {I C D c1 c2 wd pd : Addr} {oI oC oD o1 o2 ow : Obj} {l tl : List (Addr × Obj)} (h : ∀ p ∈ l, p.1 < pd) (a : (I, oI) ∈ l) (b : (C, oC) ∈ l) (c : (D, oD) ∈ l) (d : (c1, o1) ∈ l) (e : (c2, o2) ∈ l) (f : (wd, ow) ∈ l) (t : ∀ p ∈ tl, p ∈ l) : I < pd ∧ C < pd ∧ D < pd ∧ c1 < pd ∧ c2 < pd ∧ wd < pd ∧ AllLt pd tl := ⟨h _ a, h _ b, h _ c, h _ d, h _ e, h _ f, allLt_of fun p hp => h p (t p hp)⟩
theorem c_keys {w : World} {loose : List Str} {mean : ExcName → Option Value} {mg mb : Str → Option Value} {dp un : Nat} {gd : Option (List Code)} {cn : Str} {cs : Scope} {a : Addr} {ccd : Value} {cl : List (Str × Addr)} {outer : List Env} {A₀ : Around} {base h₀ : Heap} {L : Addr} {m : Str → Option Value} {s : Shared} {Q E : Value → Shared → Prop}
    {wd rl : Addr} {o : Obj} {vs : List Value} {k : Nat} {tn : Int} {tt : Tok}
    (C : Cx (hd.heap_1 w.params) pv loose mean mg mb A₀ base outer h₀ L s.heap m) (hk : cs.kind = .function) (room : dp + 16 < recursionLimit) (units : un + 200 < cLine)
    (N : News h₀ L s.heap [(wd, o)]) (low : (wd == sysModules) = false) (ho : DrawsU PySem.Challenge.rw_jk0048_02.row.prog w o rl k) (hn1 : k ≤ 5000) (hrl : LstOf (At (L :: frs outer) s.heap) rl vs) (hvs : IntsIn vs 0 997) (hvl : vs.length ≤ 144) (ht0 : 0 ≤ tn) (ht1 : tn ≤ 10)
    (ret : ∀ r kvs o' tl h' tk', Ext [] [wd] s.heap h' → h'.get? wd = some o' → DrawsU PySem.Challenge.rw_jk0048_02.row.prog w o' rl (k + 7) → Made s.heap h' tl → SDict PySem.Challenge.rw_jk0048_02.row.prog w (Led tl) r kvs → KeysOk PySem.Challenge.rw_jk0048_02.row.prog w 154 (Led tl) kvs pubOf → (∀ p ∈ kvs, p.1 ∈ kNames) → kvs.length ≤ 7 → Q (.ref r) { s with heap := h', toks := tk' }) :
    wpAny (model PySem.Challenge.rw_jk0048_02.row.prog w) (ktrTop dp un gd cn cs L a ccd cl outer) (call (.ref 676) [.ref wd, .int tn tt]) Q E s := by
  obtain ⟨B, F, X, T, XB, TB, D⟩ := C
  have hne := draws_ne N (.head _) ho hrl
  walk_at "my enterCells"
  (rename Grd _ _ _ _ => G)
  (rename KtsDicts _ _ => D9)
  (rename Below _ _ _ _ => B9)
  have hrl := hrl.enter G (by simpa using hne)
  k_steps
  refine Halt.elim ?_
  k_dflt (refine LCt.CompSrcT.range (by rfl) (by k_asm) (by k_asm) (by assumption) (by decide +kernel) (by rfl) (by exact Nat.le_of_ble_eq_true rfl) ?_)
  intro g'
  refine' keys_rest (n := 7) ho ?turn ?fin
  case turn =>
    rintro i ys _ v I oI C oC D9' m₂ h tk E' hi ⟨ow, ps, tl, rfl, hdw, hyl, hpa, hko, hkn, hpl, hoff⟩ ⟨t9, rfl⟩ hC hx F1 N1 off ne
    have off0 := off
    simp only [LCg.Off3] at off
    k_steps
    all_goals (repeat (first | k_unfold | dsimp only))
    · obtain ⟨news', hN, hO, hJ⟩ := key_end (prog := PySem.Challenge.rw_jk0048_02.row.prog) (w := w) (by assumption) (by k_mem) (by k_mem) (by k_mem) (by exact inst_of (.head _) (.tail _ (.head _)) ⟨⟨_, rfl⟩, rfl, ⟨_, rfl⟩, rfl, ⟨_, rfl⟩, rfl, ⟨_, rfl⟩, rfl, ⟨_, rfl⟩, rfl, trivial⟩) (by k_mem) (by assumption) (by assumption) (pubOf_k i hi) (k_name i hi) (by k_mem) (by k_mem) (by k_mem) (by k_mem) (by k_mem) (by assumption) (by k_mem) (by walk_at "my sub") off0 (keyL (by assumption) (by k_mem) (by k_mem) (by k_mem) (by k_mem) (by k_mem) (by k_mem) (by walk_at "my sub")) (by walk_at "my lt") (by walk_at "my lt") (by walk_at "my lt") hyl hpa hko hkn hpl hoff
      exact ⟨_, _, news', rfl, by k_asm, hN, hO, trivial, hJ⟩
    · obtain ⟨news', hN, hO, hJ⟩ := key_skip (prog := PySem.Challenge.rw_jk0048_02.row.prog) (w := w) (by assumption) off0 (by assumption) hyl hpa hko hkn hpl hoff
      exact ⟨_, _, news', rfl, by k_asm, hN, hO, trivial, hJ⟩
  case fin =>
    rintro ys _ ⟨ow, ps, tl, rfl, hdw, hyl, hpa, hko, hkn, hpl, hoff⟩
    k_steps
    refine Halt.elim ?_
    (rename News _ _ _ (_ :: _ :: _ :: _) => NL)
    refine dictP rfl (by assumption) NL (Top.nolimit (by assumption)) (.head _) (fun j v p h1 h2 => ?pa) hyl (by omega) fun D2 h2 oD tk2 F2 N2 l2 lo2 hd2 => ?_
    case pa => obtain ⟨t, k', e, q⟩ := hpa j v p h1 h2; exact ⟨t, k', e, q.mono (Sub.led NL (by walk_at "my sub"))⟩
    k_steps
    have hwd := l2 (wd, ow) (by simp)
    exact ret D2 _ ow ((D2, oD) :: tl) h2 tk2 (G.extM F2) (News.get N2 (by k_mem)) hdw
      (G.madeM N2 (by walk_at "my sub") (fun p hp q => (List.mem_cons.mp hp).elim (fun e => by rw [e] at q; exact absurd (List.mem_singleton.mp q) (Nat.ne_of_gt hwd)) fun e => hoff p e wd (by simp) (List.mem_singleton.mp q)))
      ⟨lo2, oD, .head _, hd2⟩
      (fun k v e => (storedAll_from e).elim (fun hm => let ⟨a, e1, q⟩ := hko _ hm; ⟨a, e1, q.mono (Sub.mem fun p hp => .tail _ hp)⟩) fun e => by simp [valueAt] at e)
      (storedAll_names (fun p hp => nomatch hp) hkn) (Nat.le_trans (storedAll_len (acc := [])) (by simpa using hpl))
end
example : True ∧ True := by w_top off; first | (walk1; done) | exact ⟨trivial, trivial⟩
-- C8K
theorem c_keysK {w : World} {loose : List Str} {mean : ExcName → Option Value} {mg mb : Str → Option Value} {dp un : Nat} {gd : Option (List Code)} {cn : Str} {cs : Scope} {a : Addr} {ccd : Value} {cl : List (Str × Addr)} {outer : List Env} {A₀ : Around} {base h₀ : Heap} {L : Addr} {m : Str → Option Value} {s : Shared} {Q E : Value → Shared → Prop}
    {wd rl : Addr} {o : Obj} {vs : List Value} {k : Nat} {tn : Int} {tt : Tok} {news : List (Addr × Obj)} {upd : Obj → List (Addr × Obj)}
    (C : Cx (hd.heap_1 w.params) pv loose mean mg mb A₀ base outer h₀ L s.heap m) (hk : cs.kind = .function) (room : dp + 16 < recursionLimit) (units : un + 200 < cLine)
    (N : News h₀ L s.heap news) (U : UpdF wd o news upd) (low : (wd == sysModules) = false) (ho : DrawsU PySem.Challenge.rw_jk0048_02.row.prog w o rl k) (hn1 : k ≤ 5000) (hrl : LstOf (At (L :: frs outer) s.heap) rl vs) (hvs : IntsIn vs 0 997) (hvl : vs.length ≤ 144) (ht0 : 0 ≤ tn) (ht1 : tn ≤ 10)
    (ret : Halt (∀ r kvs tl o' h' tk', Fr h₀ L h' m → News h₀ L h' (upd o' ++ tl) → OwnOff tl (news.map (·.1)) → DrawsU PySem.Challenge.rw_jk0048_02.row.prog w o' rl (k + 7) → SDict PySem.Challenge.rw_jk0048_02.row.prog w (Led tl) r kvs → KeysOk PySem.Challenge.rw_jk0048_02.row.prog w 154 (Led tl) kvs pubOf → (∀ p ∈ kvs, p.1 ∈ kNames) → kvs.length ≤ 7 → Q (.ref r) { s with heap := h', toks := tk' })) :
    wpAny (model PySem.Challenge.rw_jk0048_02.row.prog w) (ktrTop dp un gd cn cs L a ccd cl outer) (call (.ref 676) [.ref wd, .int tn tt]) Q E s := by
  have N1 : News h₀ L s.heap [(wd, o)] := News.sub N (by obtain ⟨pre, post, rfl, _⟩ := U.split; intro p hp; rw [List.mem_singleton.mp hp]; simp)
  refine c_keys C hk room units N1 low ho hn1 hrl hvs hvl ht0 ht1 fun r kvs o' tl h' tk' hE hw hd hM h1 h2 h3 h4 => ?_
  obtain ⟨F', N', O'⟩ := led_one C.F N U hE hw hM
  exact ret r kvs tl o' h' tk' F' N' O' hd h1 h2 h3 h4
-- P16
example : True := by
  k_with "!eval ListComp" => (k_here; (refine ListComp_O (by walk_at "my a") (by k_dflt (with_unfolding_all rfl)) (by decide) (by walk_at "my r") (by decide) (by walk_at "my r") ?_ (by k_dflt (intro _; rfl))))
  trivial

example : True ∧ True := by w_top off; first | (walk1; done) | exact ⟨trivial, trivial⟩
section -- C12
local macro_rules | `(tactic| walk_at "exec For Name Tuple cons nil") => `(tactic| walk_at "my H")
local macro_rules | `(tactic| walk_at "exec For Name Constant cons nil") => `(tactic| walk_at "my H")
theorem c_lawroot {w : World} {loose : List Str} {mean : ExcName → Option Value} {mg mb : Str → Option Value} {dp un : Nat} {gd : Option (List Code)} {cn : Str} {cs : Scope} {a : Addr} {ccd : Value} {cl : List (Str × Addr)} {outer : List Env} {A₀ : Around} {base h₀ : Heap} {L : Addr} {m : Str → Option Value} {s : Shared} {Q E : Value → Shared → Prop}
    {wd rl : Addr} {o oP : Obj} {vs : List Value} {k : Nat} {tn ver : Int} {tt tv : Tok}
    (C : Cx (hd.heap_1 w.params) pv loose mean mg mb A₀ base outer h₀ L s.heap m) (hk : cs.kind = .function) (room : dp + 24 < recursionLimit) (units : un + 300 < cLine)
    (N : News h₀ L s.heap [(177, oP), (wd, o)]) (hT : TabOk oP) (low : (wd == sysModules) = false) (ho : DrawsU PySem.Challenge.rw_jk0048_02.row.prog w o rl k) (hn1 : k ≤ 4000) (hrl : LstOf (At (L :: frs outer) s.heap) rl vs) (hvs : IntsIn vs 0 997) (hvl : vs.length ≤ 144) (ht0 : 0 ≤ tn) (ht1 : tn ≤ 10) (hv0 : 0 < ver) (hv1 : ver < 100)
    (ret : ∀ r s' x rd kd rs Kv oP' o' tl, Ext [] [177, wd] s.heap s'.heap → s'.heap.get? 177 = some oP' → TabOk oP' → s'.heap.get? wd = some o' → DrawsU PySem.Challenge.rw_jk0048_02.row.prog w o' rl (k + 19) → Rst s s' → Made s.heap s'.heap tl → TupOf (Led tl) r [.ref x, .ref rd, .ref kd] → RootOk PySem.Challenge.rw_jk0048_02.row.prog w (Led tl) x rd kd ver rs Kv → Q (.ref r) s') :
    wpAny (model PySem.Challenge.rw_jk0048_02.row.prog w) (ktrTop dp un gd cn cs L a ccd cl outer) (call (.ref 702) [.ref wd, .int tn tt, .int ver tv]) Q E s := by
  obtain ⟨B, F, X, T, XB, TB, D⟩ := C
  have hne := draws_ne N (.tail _ (.head _)) ho hrl
  have hne2 := tab_ne N (.head _) hT hrl
  have h177 := tab_neD N (.head _) (.tail _ (.head _)) hT ho
  walk_at "my enterCells"
  (rename Grd _ _ _ _ => G)
  (rename KtsDicts _ _ => D9)
  (rename Below _ _ _ _ => B9)
  have hrl := hrl.enter G (by simpa using ⟨hne2, hne⟩)
  k_steps
  walk_at "my for0"
  k_steps
  refine Halt.elim ?_
  (rename News _ _ _ ((_, _) :: _) => N9)
  refine' loopT3 (fun d c9 oc m₀ => LrSt PySem.Challenge.rw_jk0048_02.row.prog w wd rl c9 oc oP k fourNames m₀ d) rfl rfl N9 (by assumption) ?ne ?j0 ?turn ?done
  case ne => k_all
  case j0 => exact ⟨.refl, _, _, [], [], rfl, by assumption, by simpa using ho, (fun _ h => nomatch h), rfl, (fun _ h => nomatch h)⟩
  case turn =>
    clear N9
    rintro i v m₁ _ own g h tk TN hv ⟨ha, oF, ow, rs, tl, rfl, hd1, hdw, hR, hnm, hoff⟩ hap F1 N1
    have hs4 : ∃ name t, fourNames[i]? = some name ∧ v = .str name t := by
      have hlt : i < 4 := (List.getElem?_eq_some_iff.mp hv).1
      rcases (show i = 0 ∨ i = 1 ∨ i = 2 ∨ i = 3 by omega) with rfl | rfl | rfl | rfl <;> cases hv <;> exact ⟨_, _, rfl, rfl⟩
    obtain ⟨name, tn9, hname, rfl⟩ := hs4
    have hi4 : i < 4 := (List.getElem?_eq_some_iff.mp hv).1
    rw [ha.one] at F1
    have F1 := fr_nil TN F1; have N1 := news_nil TN N1
    clear TN
    simp only [List.cons_append] at N1
    have hofo := offApp4 hoff hap
    generalize htlo : tl ++ own = tlo at N1 hofo
    have hrsl : rs.length = min i 4 := by rw [← List.length_map (f := RoleSpec.name), hnm, List.length_take]; rfl
    have hz : (kvT rs).length ≤ sizeLine := by rw [sizeLine_eq]; unfold kvT; rw [List.length_map]; omega
    k_steps
    refine Halt.elim ?_; (with_unfolding_all apply c_roleK); walk_at "my kc"; refine Halt.elim ?_
    intro r1 names1 thr1 tl1 o1 h1 tk1 F2 N2 of2 dw2 rt2
    try dsimp only at N2
    simp only [List.cons_append] at N2
    have of3 := OwnOff.app hofo (OwnOff.sub of2 (by walk_at "my sub"))
    generalize ht2 : tlo ++ tl1 = t2 at N2 of3
    k_steps
    repeat (first | k_unfold | dsimp only)
    subst ht2
    (rename Fr _ _ _ _ => F3)
    (rename News _ _ _ _ => N3)
    obtain ⟨news', hF, hN, hA, hJ⟩ := lr_end F3 N3 htlo hoff hap of2 ha (by walk_at "my agree") (by assumption) dw2 hR hnm rt2 four_nodup hname
    exact ⟨_, _, _, _, news', rfl, KtsTurn.refl, hF, hN, hA, hJ⟩
  case done =>
    rintro m₁ _ g h tk TN ⟨ha, oF, ow, rs, tl, rfl, hd1, hdw, hR, hnm, hoff⟩ F1 N1
    rw [ha.one] at F1
    have F1 := fr_nil TN F1; have N1 := news_nil TN N1
    clear TN
    have h4a : 4 = rs.length := by rw [← List.length_map (f := RoleSpec.name), hnm]; rfl
    have hdw : DrawsU PySem.Challenge.rw_jk0048_02.row.prog w ow rl (k + 12) := hdw
    k_steps
    refine Halt.elim ?_; (with_unfolding_all apply c_keysK); walk_at "my kc"; refine Halt.elim ?_
    intro kd Kv tl1 o1 h1 tk1 F2 N2 of2 dw2 hkd hKv hkn hkl
    try dsimp only at N2
    simp only [List.cons_append] at N2
    have of3 := OwnOff.app hoff (OwnOff.sub of2 (by walk_at "my sub"))
    have hR2 := hR.mono (Sub.appL (b := tl1)); have hkd := hkd.mono (Sub.appR (a := tl)); have hKv := hKv.mono (Sub.appR (a := tl))
    generalize ht2 : tl ++ tl1 = t2 at N2 of3 hR2 hkd hKv
    clear ht2 of2 hR N1 F1
    k_steps
    (rename News _ _ _ ((_, oF) :: (_, _) :: (177, oP) :: (wd, o1) :: t2) => N8)
    have lo8 : (_ == sysModules) = false := (by assumption)
    refine CompG.dict (fun i ys news => CrSt [(_, oF), (_, _), (177, oP), (wd, o1)] t2 rs i ys news) rfl (by assumption) N8 (.inr (.head _)) lo8 hd1 (by unfold kvT; rw [List.length_map]; omega) ⟨[], t2, rfl, PairsAt.nil, RolesR.nil, (fun _ h => h), of3⟩ ?turn2 ?fin2
    case turn2 =>
      clear N8
      rintro i ys _ kk tt9 I oI C oC D s2m s₂ E' hi ⟨ps, tl3, rfl, hP3, hR3, ht3, hof3⟩ hkv hC hx hr2 F3 N3 off3 src3 ne3
      obtain ⟨vv, hkv⟩ := hkv
      obtain ⟨r, hri, hrk, rfl⟩ : ∃ r, rs[i]? = some r ∧ r.name = kk ∧ vv = .ref r.ro := by
        unfold kvT at hkv; rw [List.getElem?_map] at hkv
        cases hq : rs[i]? with
        | none => rw [hq] at hkv; cases hkv
        | some r => rw [hq] at hkv; cases hkv; exact ⟨r, rfl, rfl, rfl⟩
      have hnd4 : ((kvT rs).map (·.1)).Nodup := by rw [kvT_names, hnm]; exact four_nodup
      have hva : valueAt (kvT rs) kk = some (.ref r.ro) := valueAt_mem hnd4 (List.mem_of_getElem? hkv)
      have hdF : SDict PySem.Challenge.rw_jk0048_02.row.prog w (Led [(_, oF)]) _ (kvT rs) := ⟨lo8, oF, .head _, hd1⟩
      obtain ⟨nl, vsn, tth, q1, q2, q3, q4, q5, q6⟩ := (hR2 r (List.mem_of_getElem? hri)).mono (Sub.mem ht3)
      have hnd9 := q4.1
      have hz9 : r.names.length ≤ 100 := by have := q4.2.2.1; omega
      have hth : r.thr ≤ 100 := by omega
      have hvl9 : vsn.length ≤ 100000 := by have := q3.length; omega
      have off0 := off3
      simp only [LCg.Off3, List.cons_append, List.nil_append] at off3 N3
      k_steps
      refine Halt.elim ?_; (with_unfolding_all apply c_RoleK); walk_at "my kc"; refine Halt.elim ?_
      intro rr tlr h4 tk4 v6 F4 N4 of4 hI4
      simp only [List.cons_append] at N4
      have lt4 := fun p hp => Heap.lt_size (N4 p hp).1
      k_lt lt4
      k_steps
      repeat (first | k_unfold | dsimp only)
      (rename Fr _ _ _ _ => F5)
      (rename News _ _ _ _ => N5)
      (rename LstOf (Led [_]) _ _ => ll5)
      refine cr_end (r := r) ⟨rfl, fun h => h⟩ F5 N5 ?sub off0 (.inr (.head _)) hri hrk hP3 hR3 ht3 hof3 ⟨_, _, .head _, rfl, rfl⟩ hI4 ll5 q3 ?ofn ?lT
      case sub => walk_at "my sub"
      case ofn => exact OwnOff.sub of4 (by walk_at "my sub")
      case lT =>
        (repeat' (first | exact List.forall_mem_nil _ | refine List.forall_mem_cons.mpr ⟨⟨?_, ?_⟩, ?_⟩)) <;> k_ne
    case fin2 =>
      rintro D ys _ s' hr2 ⟨ps, tl3, rfl, hP3, hR3, ht3, hof3⟩ F3 N3 off1
      have hkvl : (kvT rs).length = rs.length := by unfold kvT; rw [List.length_map]
      rw [hkvl, List.take_length] at hR3
      simp only [List.cons_append, List.nil_append] at N3
      simp only [LCg.Off1, List.cons_append, List.nil_append] at off1
      simp only [List.map_cons, List.map_nil] at hof3
      have hkd := hkd.mono (Sub.mem ht3); have hKv := hKv.mono (Sub.mem ht3); have hR2 := hR2.mono (Sub.mem ht3)
      k_steps
      refine Halt.elim ?_
      refine dictP rfl F3 N3 (Top.nolimit (by assumption)) (.head _) (fun j v p h1 h2 => (hP3.2 j v p h1 h2).mono (Sub.led N3 (by walk_at "my sub"))) hP3.1 (by have := hR3.1; omega) fun D2 h2 oD tk2 F4 N4 l2 lo2 hd2 => ?_
      have hps : ps.map (·.1) = fourNames := by rw [hR3.names, hnm]; rfl
      have hRk : ps.map (·.1) = [Str.ofString "timestamp", Str.ofString "root", Str.ofString "targets", Str.ofString "snapshot"] := hps
      rw [storedAll_nodup (by rw [List.nil_append, hps]; exact four_nodup), List.nil_append] at hd2
      k_lt l2
      clear F3 N3
      k_steps
      refine dictD (by assumption) (by assumption) (Top.nolimit (by assumption)) (by walk_at "my dict") (by omega) fun D4 h4 o4 F6 N6 l6 lo6 hd6 => ?_
      k_lt l6
      k_steps
      refine Halt.elim ?_; (with_unfolding_all apply c_RootK); walk_at "my kc"; refine Halt.elim ?_
      intro rr s9 oP9 tl9 v1 v2 v4 v5 F9 N9 of9 hT9 hr9 hI9
      try dsimp only at N9
      simp only [List.cons_append] at N9
      have lt9 := fun p hp => Heap.lt_size (N9 p hp).1
      k_lt lt9
      k_steps
      (rename Fr _ _ _ _ => FL)
      (rename News _ _ _ (_ :: (D4, o4) :: _) => NL)
      have hfin := lr_fin (prog := PySem.Challenge.rw_jk0048_02.row.prog) (w := w) (wd := wd) (show Grd s.heap _ _ [177, wd] from G) NL ?n1 ?n2 ?n3 ?n4 ?n5 ?n6 ?n7 ?n8
        (OwnOff.sub hof3 (by walk_at "my sub"))
        (OwnOff.sub of9 (by walk_at "my sub"))
        hI9 lo6 hd6 lo2 hd2 hR3 lo8 hd1 hR2 hkd hKv hkn hkl (by rw [hnm]; rfl)
      case n1 => k_ne
      case n2 => k_ne
      case n3 => k_ne
      case n4 => k_ne
      case n5 => k_ne
      case n6 => k_ne
      case n7 => k_ne
      case n8 => k_ne
      obtain ⟨tlF, hM, hTu, hRo⟩ := hfin
      exact ret _ _ _ _ _ _ _ _ _ _ (G.extM FL) (News.get NL (by k_mem)) hT9 (News.get NL (by k_mem)) dw2 ⟨hr9.1.trans hr2.1, fun h => hr9.2 (hr2.2 h)⟩ hM hTu hRo
end
example : True ∧ True := by w_top off; first | (walk1; done) | exact ⟨trivial, trivial⟩
-- C12K
theorem c_lawrootK {w : World} {loose : List Str} {mean : ExcName → Option Value} {mg mb : Str → Option Value} {dp un : Nat} {gd : Option (List Code)} {cn : Str} {cs : Scope} {a : Addr} {ccd : Value} {cl : List (Str × Addr)} {outer : List Env} {A₀ : Around} {base h₀ : Heap} {L : Addr} {m : Str → Option Value} {s : Shared} {Q E : Value → Shared → Prop}
    {wd rl : Addr} {o oP : Obj} {vs : List Value} {k : Nat} {tn ver : Int} {tt tv : Tok} {news : List (Addr × Obj)} {upd : Obj → List (Addr × Obj)} {upd2 : Obj → Obj → List (Addr × Obj)}
    (C : Cx (hd.heap_1 w.params) pv loose mean mg mb A₀ base outer h₀ L s.heap m) (hk : cs.kind = .function) (room : dp + 24 < recursionLimit) (units : un + 300 < cLine)
    (N : News h₀ L s.heap news) (U : UpdF wd o news upd) (U2 : ∀ o', UpdF 177 oP (upd o') (upd2 o')) (hT : TabOk oP) (low : (wd == sysModules) = false) (ho : DrawsU PySem.Challenge.rw_jk0048_02.row.prog w o rl k) (hn1 : k ≤ 4000) (hrl : LstOf (At (L :: frs outer) s.heap) rl vs) (hvs : IntsIn vs 0 997) (hvl : vs.length ≤ 144) (ht0 : 0 ≤ tn) (ht1 : tn ≤ 10) (hv0 : 0 < ver) (hv1 : ver < 100)
    (ret : Halt (∀ r s' x rd kd rs Kv oP' o' tl, Fr h₀ L s'.heap m → News h₀ L s'.heap (upd2 o' oP' ++ tl) → OwnOff tl (news.map (·.1)) → TabOk oP' → DrawsU PySem.Challenge.rw_jk0048_02.row.prog w o' rl (k + 19) → Rst s s' → TupOf (Led tl) r [.ref x, .ref rd, .ref kd] → RootOk PySem.Challenge.rw_jk0048_02.row.prog w (Led tl) x rd kd ver rs Kv → Q (.ref r) s')) :
    wpAny (model PySem.Challenge.rw_jk0048_02.row.prog w) (ktrTop dp un gd cn cs L a ccd cl outer) (call (.ref 702) [.ref wd, .int tn tt, .int ver tv]) Q E s := by
  obtain ⟨pre, post, hnews, hg, a1, b1⟩ := U.split
  have hwm : (wd, o) ∈ news := by rw [hnews]; simp
  have hPm : (177, oP) ∈ upd o := by obtain ⟨p2, q2, e2, _⟩ := (U2 o).split; rw [e2]; simp
  have huo : upd o = news := by rw [hg, hnews]
  rw [huo] at hPm
  have N1 : News h₀ L s.heap [(177, oP), (wd, o)] := News.sub N (by intro p hp; rcases List.mem_cons.mp hp with rfl | hp; exact hPm; rw [List.mem_singleton.mp hp]; exact hwm)
  refine c_lawroot C hk room units N1 hT low ho hn1 hrl hvs hvl ht0 ht1 hv0 hv1 fun r s' x rd kd rs Kv oP' o' tl hE hP hT' hw hd hr hM hTu hRo => ?_
  have hne : @Ne Nat 177 wd := tab_neD N hPm hwm hT ho
  obtain ⟨F', N', O'⟩ := led_mods (news' := upd2 o' oP') C.F N hE hM (fun x hx => by rcases List.mem_cons.mp hx with rfl | hx; exact ⟨_, hPm⟩; rw [List.mem_singleton.mp hx]; exact ⟨_, hwm⟩) fun p hp => by
    obtain ⟨p2, q2, e2, hg2, a2, b2⟩ := (U2 o').split
    rw [hg2] at hp
    have old : ∀ q ∈ upd o', q.1 ≠ 177 → (q ∈ news ∧ q.1 ∉ [177, wd]) ∨ (s'.heap.get? q.1 = some q.2 ∧ ∃ o, (q.1, o) ∈ news) := fun q hq hq7 => by
      rw [hg] at hq
      rcases List.mem_append.mp hq with hq | hq
      · exact .inl ⟨by rw [hnews]; simp [hq], by simpa using ⟨hq7, a1 q hq⟩⟩
      · rcases List.mem_cons.mp hq with rfl | hq
        · exact .inr ⟨hw, o, hwm⟩
        · exact .inl ⟨by rw [hnews]; simp [hq], by simpa using ⟨hq7, b1 q hq⟩⟩
    rcases List.mem_append.mp hp with hp | hp
    · exact old p (by rw [e2]; simp [hp]) (a2 p hp)
    · rcases List.mem_cons.mp hp with rfl | hp
      · exact .inr ⟨hP, oP, hPm⟩
      · exact old p (by rw [e2]; simp [hp]) (b2 p hp)
  exact ret r s' x rd kd rs Kv oP' o' tl F' N' O' hT' hd hr hTu hRo
example : True ∧ True := by w_top off; first | (walk1; done) | exact ⟨trivial, trivial⟩
-- S13
def lawS13 : Stmt := (lawBody.drop 13).headD (.Pass ⟨0, 0, 0, 0⟩)
def vux : List Str := ["v", "u", "x"].map Str.ofString
theorem vux_nodup : vux.Nodup := by decide +kernel
/-- the law's last rules so far -/
inductive VrSt (prog : Program) (w : World) (front rest : List (Addr × Obj)) (wd rl : Addr) (k i : Nat) (ys : List Value) (news : List (Addr × Obj)) : Prop
  | mk (ow : _) (rs : _) (tl : _)
    (q91 : news = (wd, ow) :: (front ++ (rest ++ tl)))
    (q92 : PairsAt (Led tl) ys (kvT rs))
    (q93 : DrawsU prog w ow rl (k + 3 * i))
    (q94 : RolesT (Led tl) rs)
    (q95 : rs.map (·.name) = vux.take i)
    (q96 : OwnOff tl (wd :: (front ++ rest).map (·.1))) : VrSt prog w front rest wd rl k i ys news
theorem ad_cons {wd : Addr} {A R : List (Addr × Obj)} : ∀ b ∈ wd :: A.map (·.1), b ∈ wd :: (A ++ R).map (·.1) := fun b hb => by
  rw [List.map_append]
  rcases List.mem_cons.mp hb with rfl | hb
  · exact .head _
  · exact .tail _ (List.mem_append_left _ hb)
theorem vr_sub {A R1 tl t1 tn : List (Addr × Obj)} {i c d x q : Addr × Obj} (h : R1 ++ tl = t1) : ∀ p ∈ i :: c :: d :: (x :: (A ++ (R1 ++ ((tl ++ tn) ++ [q])))), p ∈ q :: i :: c :: d :: x :: (A ++ (t1 ++ tn)) := by
  subst h
  walk_at "my sub"
theorem vf_sub {A rest R1 tl t1 : List (Addr × Obj)} {d4 d2 x d1 : Addr × Obj} (hR : R1 = d1 :: rest) (h : R1 ++ tl = t1) : ∀ p ∈ x :: (A ++ (rest ++ (d1 :: (tl ++ [d4])))), p ∈ d4 :: d2 :: x :: (A ++ t1) := by
  subst h hR
  walk_at "my sub"
theorem vf_ad {A rest R1 tl : List (Addr × Obj)} {d1 : Addr × Obj} {wd : Addr} {ow : Obj} (hR : R1 = d1 :: rest) : ∀ b ∈ ((wd, ow) :: (A ++ rest)).map (·.1), b ∈ wd :: (A ++ R1).map (·.1) := by
  subst hR
  simp only [List.map_cons, List.map_append]
  walk_at "my sub"
theorem vr_ad {A R1 tl t1 : List (Addr × Obj)} {I C D wd : Addr} {o1 o2 o3 o4 : Obj} (h : R1 ++ tl = t1) : ∀ b ∈ [I, C, D] ++ wd :: (A ++ R1).map (·.1), b ∈ ((I, o1) :: (C, o2) :: (D, o3) :: (wd, o4) :: (A ++ t1)).map (·.1) := by
  subst h
  simp only [List.map_cons, List.map_append]
  walk_at "my sub"
theorem vr_end {prog : Program} {w : World} {h₀ : Heap} {L I C D d T wd rl ro : Addr} {oI oC oD od oT ow0 o1 : Obj} {m : Str → Option Value} {s₁ s₂ : Shared} {all front R1 tl tn : List (Addr × Obj)} {rs : List RoleSpec} {i k : Nat} {ys : List Value} {name : Str} {tk : Tok} {names : List Str} {thr : Int}
    (hr : Rst s₁ s₂) (F : Fr h₀ L s₂.heap m) (N : News h₀ L s₂.heap all) (sub : ∀ p ∈ (I, oI) :: (C, oC) :: (D, oD) :: ((wd, o1) :: (front ++ (R1 ++ ((tl ++ tn) ++ [(T, oT)])))), p ∈ all) (off : LCg.Off3 I C D ((wd, ow0) :: (front ++ (R1 ++ tl)))) (src : (d, od) ∈ R1)
    (hname : vux[i]? = some name) (hP : PairsAt (Led tl) ys (kvT rs)) (hR : RolesT (Led tl) rs) (hnm : rs.map (·.name) = vux.take i) (hoff : OwnOff tl (wd :: (front ++ R1).map (·.1)))
    (oT' : TupOf (Led [(T, oT)]) T [.str name tk, .ref ro]) (hro : RoleTup (Led tn) ro names thr) (hdw : DrawsU prog w o1 rl (k + 3 * i + 3))
    (ofn : OwnOff tn ([I, C, D] ++ wd :: (front ++ R1).map (·.1))) (lT : ∀ b ∈ [I, C, D] ++ wd :: (front ++ R1).map (·.1), T ≠ b) :
    TurnO h₀ L m I oI C oC D oD d od s₁ (fun y news' => VrSt prog w front R1 wd rl k (i + 1) (ys ++ [y]) news') (.ref T) s₂ := by
  have hT1 : OwnOff [(T, oT)] ([I, C, D] ++ wd :: (front ++ R1).map (·.1)) := fun p hp b hb => by rw [List.mem_singleton.mp hp]; exact lT b hb
  have hi : i < vux.length := (List.getElem?_eq_some_iff.mp hname).1
  have hge : vux[i] = name := (List.getElem?_eq_some_iff.mp hname).2
  have sL : ∀ b ∈ wd :: (front ++ R1).map (·.1), b ∈ [I, C, D] ++ wd :: (front ++ R1).map (·.1) := fun b hb => List.mem_append_right _ hb
  refine ⟨(wd, o1) :: (front ++ (R1 ++ ((tl ++ tn) ++ [(T, oT)]))), hr, F, News.sub N sub, ?_, .inr (.tail _ (List.mem_append_right _ (List.mem_append_left _ src))), o1, rs ++ [⟨name, ro, names, thr⟩], (tl ++ tn) ++ [(T, oT)], rfl, ?_, hdw, ?_, ?_, ?_⟩
  · have offm := off.mem
    refine LCg.Off3.of fun p hp => ?_
    have nn : OwnOff (tn ++ [(T, oT)]) [I, C, D] := OwnOff.app (OwnOff.sub ofn fun b hb => List.mem_append_left _ hb) (OwnOff.sub hT1 fun b hb => List.mem_append_left _ hb)
    have n3 : ∀ p ∈ tn ++ [(T, oT)], p.1 ≠ I ∧ p.1 ≠ C ∧ p.1 ≠ D := fun p hp => ⟨nn p hp I (.head _), nn p hp C (.tail _ (.head _)), nn p hp D (.tail _ (.tail _ (.head _)))⟩
    simp only [List.mem_append, List.mem_cons] at hp
    rcases hp with hp | hp | hp | (hp | hp) | hp
    · rw [hp]; exact offm (wd, ow0) (.head _)
    · exact offm p (.tail _ (List.mem_append_left _ hp))
    · exact offm p (.tail _ (List.mem_append_right _ (List.mem_append_left _ hp)))
    · exact offm p (.tail _ (List.mem_append_right _ (List.mem_append_right _ hp)))
    · exact n3 p (List.mem_append_left _ hp)
    · exact n3 p (List.mem_append_right _ (by simpa using hp))
  · have h1 := hP.mono (Sub.trans (Sub.appL (b := tn)) (Sub.appL (b := [(T, oT)])))
    have h2 := PairsAt.snoc h1 (oT'.mono (Sub.appR (a := tl ++ tn)))
    unfold kvT
    rw [List.map_append]
    exact h2
  · intro r hr
    rcases List.mem_append.mp hr with hr | hr
    · exact (hR r hr).mono (Sub.trans (Sub.appL (b := tn)) (Sub.appL (b := [(T, oT)])))
    · rw [List.mem_singleton.mp hr]
      exact hro.mono (Sub.trans (Sub.appR (a := tl)) (Sub.appL (b := [(T, oT)])))
  · rw [List.map_append, hnm, List.take_succ_eq_append_getElem hi, hge]; rfl
  · exact OwnOff.app (OwnOff.app hoff (OwnOff.sub ofn sL)) (OwnOff.sub hT1 sL)
theorem s13 {w : World} {loose : List Str} {mean : ExcName → Option Value} {mg mb : Str → Option Value} {g : Heap} {L fa wd rl : Addr} {m : Str → Option Value} {s : Shared} {Q : Flow → Shared → Prop} {E : Value → Shared → Prop}
    {c1 c2 c3 c4 c5 c6 c7 c8 ow : Obj} {rest : List (Addr × Obj)} {v2 : Option Value} {k : Nat} {vs : List Value}
    (B : Below callerA g [] g) (F : Fr g L s.heap m) (X : (hd.heap_1 w.params).In g) (T : Top pv loose mean mg mb g)
    (N : News g L s.heap ((wd, ow) :: (cells L c1 c2 c3 c4 c5 c6 c7 c8 ++ rest))) (hw : NeAll wd ((cells L c1 c2 c3 c4 c5 c6 c7 c8).map (·.1))) (hoff : OwnOff rest (wd :: (cells L c1 c2 c3 c4 c5 c6 c7 c8).map (·.1)))
    (h1 : c1.data = .cell (some (.ref wd))) (h2 : c2.data = .cell v2) (low : (wd == sysModules) = false) (hdw : DrawsU PySem.Challenge.rw_jk0048_02.row.prog w ow rl k) (hk : k ≤ 4000) (hrl : LstOf (Led rest) rl vs) (hvs : IntsIn vs 0 997) (hvl : vs.length ≤ 144)
    (ret : ∀ s' c2' ow' rd3 rs3 tl, Rst s s' → Fr g L s'.heap m → News g L s'.heap ((wd, ow') :: (cells L c1 c2' c3 c4 c5 c6 c7 c8 ++ (rest ++ tl))) → OwnOff tl (((wd, ow) :: (cells L c1 c2 c3 c4 c5 c6 c7 c8 ++ rest)).map (·.1)) →
      c2'.data = .cell (some (.ref rd3)) → DrawsU PySem.Challenge.rw_jk0048_02.row.prog w ow' rl (k + 9) → SDict PySem.Challenge.rw_jk0048_02.row.prog w (Led tl) rd3 (kvT rs3) → RolesT (Led tl) rs3 → rs3.map (·.name) = vux → Q .next s') :
    wpAny (model PySem.Challenge.rw_jk0048_02.row.prog w) (lawA L fa) (exec lawS13 (lawEnv L fa)) Q E s := by
  have XB := X; have TB := T; have D9 : KtsDicts (frs []) g := dicts_nil
  with_unfolding_all change wpAny _ (Around.deeper callerA (envOfC _ ⟨_, _, _, _, _⟩ L fa _)) (exec (Stmt.Assign _ _ _) (envOfC _ ⟨_, _, _, _, _⟩ L fa _)) _ _ _
  refine foldL9 ?_; intro eK aK
  (try dsimp only)
  simp only [List.map_cons, List.map_nil, NeAll, and_true] at hw
  simp only [List.map_cons, List.map_nil] at hoff
  have hN := N
  simp only [cells, List.cons_append, List.nil_append] at N
  k_steps
  rename_i D1 h1' F1 N1 l1
  obtain ⟨lw, lD⟩ := allLt_of l1
  have lD := allLtMem lD
  obtain ⟨oD, hoc, ⟨t1, t2, t3, n9, hod⟩, N2⟩ : ∃ oD : Obj, oD.cls = .type "tuple" ∧ (∃ t1 t2 t3 n, oD.data = .seq #[.str (Str.ofString "v") t1, .str (Str.ofString "u") t2, .str (Str.ofString "x") t3] n) ∧ News g L h1' ((D1, oD) :: (wd, ow) :: (cells L c1 c2 c3 c4 c5 c6 c7 c8 ++ rest)) := ⟨_, rfl, ⟨_, _, _, _, rfl⟩, N1⟩
  clear N1
  have hRl : LstOf (Led ((D1, oD) :: rest)) rl vs := hrl.mono (Sub.mem fun p hp => .tail _ hp)
  have hoR : OwnOff ((D1, oD) :: rest) (wd :: (cells L c1 c2 c3 c4 c5 c6 c7 c8).map (·.1)) := offCons (fun b hb => by
    rcases List.mem_cons.mp hb with rfl | hb
    · exact Nat.ne_of_gt lw
    · obtain ⟨p, hp, rfl⟩ := List.mem_map.mp hb
      exact Nat.ne_of_gt (lD p (List.mem_append_left _ hp))) hoff
  obtain ⟨R1, hR1⟩ : ∃ R1, R1 = (D1, oD) :: rest := ⟨_, rfl⟩
  have mD1 : (D1, oD) ∈ R1 := hR1 ▸ .head _
  rw [← hR1] at hRl hoR
  refine CompG.tup (VrSt PySem.Challenge.rw_jk0048_02.row.prog w (cells L c1 c2 c3 c4 c5 c6 c7 c8) R1 wd rl k) rfl F1 (News.sub N2 ?sub0) (.inr ?mem0) hoc hod (by simp) ⟨ow, [], [], by rw [List.append_nil], PairsAt.nil, by simpa using hdw, (fun _ h => nomatch h), rfl, (fun _ h => nomatch h)⟩ ?turn ?fin
  case sub0 => rw [hR1]; intro p hp; simp only [List.mem_append, List.mem_cons] at hp ⊢; rcases hp with h | h | h | h <;> simp only [h, true_or, or_true]
  case mem0 => exact .tail _ (List.mem_append_right _ mD1)
  case turn =>
    clear N2 F1
    rintro i ys _ v I oI C oC D m₂ s₂ E' hi ⟨ow1, rs, tl, rfl, hP, hdw1, hR, hnm, hoft⟩ hv hC hx hr2 F3 N3 off3 src3 ne3
    obtain ⟨name, tn9, hname, rfl⟩ : ∃ name t, vux[i]? = some name ∧ v = .str name t := by
      have hlt : i < 3 := hi
      rcases (show i = 0 ∨ i = 1 ∨ i = 2 by omega) with rfl | rfl | rfl <;> cases hv <;> exact ⟨_, _, rfl, rfl⟩
    have hi3 : i < 3 := hi
    have off0 := off3
    have hofT := OwnOff.app hoR (OwnOff.sub hoft ad_cons)
    have hRl2 := hRl.mono (Sub.appL (b := tl))
    generalize htl : R1 ++ tl = t1 at N3 hofT hRl2 off3
    simp only [List.map_cons, List.map_nil] at hofT
    simp only [LCg.Off3, cells, List.cons_append, List.nil_append] at N3 off3
    k_steps
    refine Halt.elim ?_; (with_unfolding_all apply c_roleK); walk_at "my kc"; refine Halt.elim ?_
    intro r names thr tn o1 h4 tk4 F4 N4 of4 dw4 rt4
    (try dsimp only at N4)
    simp only [List.cons_append] at N4
    k_steps
    repeat (first | k_unfold | dsimp only)
    (rename Fr _ _ _ _ => F5); (rename News _ _ _ _ => N5); (rename ∀ p ∈ ((I, oI) :: _ : List (Addr × Obj)), p.1 < _ => l5)
    have lall : ∀ p ∈ ((I, oI) :: (C, oC) :: (D, LCg.lst ys) :: (wd, o1) :: (cells L c1 c2 c3 c4 c5 c6 c7 c8 ++ (t1 ++ tn)) : List (Addr × Obj)), p.1 < _ := l5
    refine vr_end ⟨rfl, fun h => h⟩ F5 N5 (vr_sub (A := cells L c1 c2 c3 c4 c5 c6 c7 c8) htl) off0 mD1 hname hP hR hnm hoft ⟨_, _, .head _, rfl, rfl⟩ rt4 dw4 (OwnOff.sub of4 (vr_ad (A := cells L c1 c2 c3 c4 c5 c6 c7 c8) htl)) fun b hb => ?_
    have hb := vr_ad (o1 := oI) (o2 := oC) (o3 := LCg.lst ys) (o4 := o1) htl b hb
    obtain ⟨p, hp, rfl⟩ := List.mem_map.mp hb
    refine Nat.ne_of_gt (lall p ?_)
    refine List.Sublist.subset ?_ hp
    exact .cons₂ _ (.cons₂ _ (.cons₂ _ (.cons₂ _ (List.Sublist.append_left (List.sublist_append_left _ _) _))))
  case fin =>
    clear N2 F1
    rintro D2 ys _ s' hr2 ⟨ow1, rs, tl, rfl, hP, hdw1, hR, hnm, hoft⟩ F3 N3 off1
    have hnm : rs.map (·.name) = vux := hnm
    have hrl3 : rs.length = 3 := by rw [← List.length_map (f := RoleSpec.name), hnm]; rfl
    have hofT := OwnOff.app hoR (OwnOff.sub hoft ad_cons)
    have hPL := hP.mono (Sub.appR (a := R1))
    generalize htl : R1 ++ tl = t1 at N3 hofT off1 hPL
    simp only [List.map_cons, List.map_nil] at hofT
    simp only [LCg.Off1, cells, List.cons_append, List.nil_append] at N3 off1
    k_steps
    refine Halt.elim ?_
    refine dictP rfl F3 N3 (Top.nolimit (by assumption)) (.head _) (fun j v p h1 h2 => (hPL.2 j v p h1 h2).mono (Sub.led N3 (by walk_at "my sub"))) hP.1 (by unfold kvT; rw [List.length_map]; omega) fun D4 h4 oD4 tk4 F4 N4 l4 lo4 hd4 => ?_
    have hps : (kvT rs).map (·.1) = vux := by rw [kvT_names, hnm]
    rw [storedAll_nodup (by rw [List.nil_append, hps]; exact vux_nodup), List.nil_append] at hd4
    clear F3 N3
    k_lt l4
    k_steps
    (rename Fr _ _ _ _ => F5); (rename News _ _ _ _ => N5)
    have l4' : ∀ p ∈ ((D2, LCg.lst ys) :: (wd, ow1) :: (cells L c1 c2 c3 c4 c5 c6 c7 c8 ++ t1) : List (Addr × Obj)), p.1 < _ := l4
    have NF := News.sub N5 (vf_sub (A := cells L c1 _ c3 c4 c5 c6 c7 c8) hR1 htl)
    refine ret _ _ ow1 D4 rs ((D1, oD) :: (tl ++ [(D4, oD4)])) ⟨hr2.1, hr2.2⟩ F5 NF (offCons ?o1 (OwnOff.app (OwnOff.sub hoft (vf_ad (tl := tl) hR1)) ?o2)) (by assumption) hdw1 ⟨lo4, oD4, .tail _ (List.mem_append_right _ (.head _)), hd4⟩ (hR.mono (Sub.trans Sub.appL (Sub.mem fun p hp => .tail _ hp))) hnm
    case o1 =>
      intro b hb
      obtain ⟨p, hp, rfl⟩ := List.mem_map.mp hb
      rcases List.mem_cons.mp hp with rfl | hp
      · exact Nat.ne_of_gt lw
      · exact Nat.ne_of_gt (lD p hp)
    case o2 =>
      intro q hq b hb
      rw [List.mem_singleton.mp hq]
      obtain ⟨p, hp, rfl⟩ := List.mem_map.mp (vf_ad (tl := tl) hR1 b hb |> fun h => (show b ∈ ((wd, ow1) :: (cells L c1 c2 c3 c4 c5 c6 c7 c8 ++ R1)).map (·.1) from h))
      refine Nat.ne_of_gt (l4' p (.tail _ ?_))
      rw [← htl]
      rcases List.mem_cons.mp hp with rfl | hp
      · exact .head _
      · rcases List.mem_append.mp hp with hp | hp
        · exact .tail _ (List.mem_append_left _ hp)
        · exact .tail _ (List.mem_append_right _ (List.mem_append_left _ hp))
section -- group P40
local macro_rules | `(tactic| k_lt $h:ident) => `(tactic| (replace $h := allLt_of $h; simp only [AllLt, and_true] at $h:ident))
local macro_rules | `(tactic| k_ne) => `(tactic| k_extra "!P40 k_ne")
example : True := by
  k_with "!P40 k_ne" => ((try dsimp only); first
    | exact neL (ltL (by with_reducible assumption) (by walk_at "my mm"))
    | exact neR (ltL (by with_reducible assumption) (by walk_at "my mm"))
    | walk_at "my pr"
    | (refine Ne.symm ?_; walk_at "my pr")
    | (refine neL ?_; first | walk_at "my pr" | walk_at "my lle" | walk_at "my up")
    | (refine neR ?_; first | walk_at "my pr" | walk_at "my lle" | walk_at "my up")
    | (refine neN ?_; omega))
  trivial

example : True ∧ True := by w_top off; first | (walk1; done) | exact ⟨trivial, trivial⟩
-- S3
theorem reI {A R0 tl tl' : List (Addr × Obj)} {t i : Addr × Obj} : ∀ p ∈ i :: (A ++ t :: (R0 ++ (tl ++ tl'))), p ∈ A ++ t :: (i :: (R0 ++ tl) ++ tl') := by
  intro p hp
  simp only [List.mem_append, List.mem_cons] at hp ⊢
  rcases hp with h | h | h | h | h | h <;> simp only [h, true_or, or_true]
theorem reI2 {A r : List (Addr × Obj)} {t i : Addr × Obj} : ∀ p ∈ A ++ t :: (i :: r), p ∈ i :: (A ++ t :: r) := by
  intro p hp
  simp only [List.mem_append, List.mem_cons] at hp ⊢
  rcases hp with h | h | h | h <;> simp only [h, true_or, or_true]
theorem reR0 {A r : List (Addr × Obj)} {t i j k : Addr × Obj} : ∀ p ∈ A ++ t :: (r ++ [i, j, k]), p ∈ k :: j :: i :: (A ++ t :: r) := by
  walk_at "my sub"
theorem offTurn {A A' R0 tl tl' : List (Addr × Obj)} {t t' : Addr × Obj} {I : Addr} (hA : A'.map (·.1) = A.map (·.1)) (ht : t'.1 = t.1) (o1 : ∀ p ∈ A ++ t :: (R0 ++ tl), p.1 ≠ I) (of4 : ∀ p ∈ tl', p.1 ≠ I) : ∀ p ∈ A' ++ t' :: (R0 ++ (tl ++ tl')), p.1 ≠ I := by
  intro p hp
  simp only [List.mem_append, List.mem_cons] at hp
  rcases hp with h | h | h | h | h
  · have hp1 : p.1 ∈ A.map (·.1) := hA ▸ List.mem_map_of_mem (f := fun (q : Addr × Obj) => q.1) h
    obtain ⟨q, hq, e⟩ := List.mem_map.mp hp1
    exact e ▸ o1 q (List.mem_append_left _ hq)
  · rw [h, ht]; exact o1 t (List.mem_append_right _ (.head _))
  · exact o1 p (List.mem_append_right _ (.tail _ (List.mem_append_left _ h)))
  · exact o1 p (List.mem_append_right _ (.tail _ (List.mem_append_right _ h)))
  · exact of4 p h
theorem adTurn {A A' r x y : List (Addr × Obj)} {t t' i : Addr × Obj} (hA : A.map (·.1) = A'.map (·.1)) (ht : t.1 = t'.1) : ∀ b ∈ (A ++ t :: r).map (·.1), b ∈ (A' ++ t' :: (i :: (r ++ x ++ y))).map (·.1) := by
  intro b hb
  rw [List.map_append, List.map_cons] at hb ⊢
  rw [← hA, ← ht, List.map_cons, List.map_append, List.map_append]
  simp only [List.mem_append, List.mem_cons] at hb ⊢
  rcases hb with h | h | h <;> simp only [h, true_or, or_true]
theorem s_for2 {w : World} {loose : List Str} {mean : ExcName → Option Value} {mg mb : Str → Option Value} {g : Heap} {L fa : Addr} {m : Str → Option Value} {s : Shared} {Q : Flow → Shared → Prop} {E : Value → Shared → Prop}
    {x rd kd x2 rd2 kd2 sd : Addr} {ver ver2 : Int} {rs rs2 : List RoleSpec} {Kv Kv2 Sv : List (Str × Value)} {sig : Str → Str} {c1 c2 c3 c4 c5 c6 c7 c8 : Obj} {rest : List (Addr × Obj)} {tb : Tok} {T0 T1 D : Addr} {o0 o1 oD : Obj} {n0 n1 nD : Nat}
    (B : Below callerA g [] g) (F : Fr g L s.heap m) (X : (hd.heap_1 w.params).In g) (T : Top pv loose mean mg mb g)
    (N : News g L s.heap ((D, oD) :: (T1, o1) :: (T0, o0) :: (cells L c1 c2 c3 c4 c5 c6 c7 c8 ++ (711, tabObj #[]) :: rest)))
    (e0 : o0.cls = .type "tuple") (d0 : o0.data = .seq #[.ref x, .ref rd, .ref kd] n0) (e1 : o1.cls = .type "tuple") (d1 : o1.data = .seq #[.ref x2, .ref rd2, .ref kd2] n1) (eD : oD.cls = .type "tuple") (dD : oD.data = .seq #[.ref T0, .ref T1] nD)
    (la : ∀ p ∈ cells L c1 c2 c3 c4 c5 c6 c7 c8 ++ (711, tabObj #[]) :: rest, p.1 < T0) (l1 : @LT.lt Nat _ T0 T1) (l2 : @LT.lt Nat _ T1 D) (hlt : @LT.lt Nat _ 711 L) (hoff : OwnOff rest ((711 : Addr) :: (cells L c1 c2 c3 c4 c5 c6 c7 c8).map (·.1)))
    (h2 : c2.data = .cell none) (h3 : c3.data = .cell (some (.ref x))) (h4 : c4.data = .cell (some (.ref x2))) (h5 : c5.data = .cell (some (.bytes loadB tb))) (h6 : c6.data = .cell none) (h7 : c7.data = .cell (some (.ref sd)))
    (hR : RootOk PySem.Challenge.rw_jk0048_02.row.prog w (Led rest) x rd kd ver rs Kv) (hR2 : RootOk PySem.Challenge.rw_jk0048_02.row.prog w (Led rest) x2 rd2 kd2 ver2 rs2 Kv2) (hsd : SDict PySem.Challenge.rw_jk0048_02.row.prog w (Led rest) sd Sv) (hS : SigsOk 101 (Led rest) Sv sig) (hst : ∀ x, sig x ∈ sigTexts)
    (hE : PassesOwn (model PySem.Challenge.rw_jk0048_02.row.prog w) (lawA L fa) (lawEnv L fa) E)
    (ret : ∀ s' m' c2' c6' c' oc vs t tl, Rst s s' → Fr g L s'.heap m' → Agree ["known", "name"] m' m → News g L s'.heap (cells L c1 c2' c3 c4 c5 c6' c7 c8 ++ (711, tabObj #[rawInt 420, rawInt 28, .ref c']) :: (rest ++ tl)) → OwnOff tl ((cells L c1 c2 c3 c4 c5 c6 c7 c8 ++ (711, tabObj #[]) :: rest).map (·.1)) →
      (∃ v, c2'.data = .cell v) → (∃ v, c6'.data = .cell v) → (c', oc) ∈ rest ++ tl → oc.data = .fields vs → vs[1]? = some (.str (Str.ofString "law.<locals>.<lambda>") t) → Q .next s') :
    ForT PySem.Challenge.rw_jk0048_02.row.prog w (lawA L fa) g L (lawEnv L fa) lawForTarget lawForBody Q E (.ref D) s := by
  have lad : ∀ b ∈ (cells L c1 c2 c3 c4 c5 c6 c7 c8 ++ (711, tabObj #[]) :: rest).map (·.1), @LT.lt Nat _ b T0 := fun b hb => by
    obtain ⟨p, hp, rfl⟩ := List.mem_map.mp hb
    exact la p hp
  have off3 : OwnOff [(T0, o0), (T1, o1), (D, oD)] ((cells L c1 c2 c3 c4 c5 c6 c7 c8 ++ (711, tabObj #[]) :: rest).map (·.1)) := fun p hp b hb => by
    have hl := lad b hb
    simp only [List.mem_cons, List.not_mem_nil, or_false] at hp
    rcases hp with rfl | rfl | rfl
    · exact Nat.ne_of_gt hl
    · exact Nat.ne_of_gt (Nat.lt_trans hl l1)
    · exact Nat.ne_of_gt (Nat.lt_trans hl (Nat.lt_trans l1 l2))
  have cad : ∀ b ∈ (711 : Addr) :: (cells L c1 c2 c3 c4 c5 c6 c7 c8).map (·.1), b ∈ (cells L c1 c2 c3 c4 c5 c6 c7 c8 ++ (711, tabObj #[]) :: rest).map (·.1) := fun b hb => by
    rw [List.map_append, List.map_cons]
    rcases List.mem_cons.mp hb with rfl | hb
    · exact List.mem_append_right _ (.head _)
    · exact List.mem_append_left _ hb
  generalize hR0 : rest ++ [(T0, o0), (T1, o1), (D, oD)] = R0
  have m0 : (T0, o0) ∈ R0 := by rw [← hR0]; simp
  have m1 : (T1, o1) ∈ R0 := by rw [← hR0]; simp
  have mD : (D, oD) ∈ R0 := by rw [← hR0]; simp
  have up : Sub (Led rest) (Led R0) := Sub.mem fun p hp => by rw [← hR0]; simp [hp]
  have hoff0 : OwnOff R0 ((711 : Addr) :: (cells L c1 c2 c3 c4 c5 c6 c7 c8).map (·.1)) := by rw [← hR0]; exact OwnOff.app hoff (OwnOff.sub off3 cad)
  have hR := hR.mono up; have hR2 := hR2.mono up; have hsd := hsd.mono up; have hS := hS.mono up
  have tT : ∀ (i : Nat) (v : Value), #[Value.ref T0, Value.ref T1][i]? = some v → ∃ T' x rd kd ver rs Kv, v = .ref T' ∧ TupOf (Led R0) T' [Value.ref x, Value.ref rd, Value.ref kd] ∧ RootOk PySem.Challenge.rw_jk0048_02.row.prog w (Led R0) x rd kd ver rs Kv := fun i v hv => by
    have hi : i < 2 := (Array.getElem?_eq_some_iff.mp hv).1
    rcases (show i = 0 ∨ i = 1 by omega) with rfl | rfl <;> cases hv
    · exact ⟨T0, x, rd, kd, ver, rs, Kv, rfl, ⟨o0, n0, m0, e0, d0⟩, hR⟩
    · exact ⟨T1, x2, rd2, kd2, ver2, rs2, Kv2, rfl, ⟨o1, n1, m1, e1, d1⟩, hR2⟩
  refine ⟨D, oD, #[.ref T0, .ref T1], nD, m, cells L c1 c2 c3 c4 c5 c6 c7 c8 ++ (711, tabObj #[]) :: R0,
    fun i m₁ news => Agree ["known", "name"] m₁ m ∧ ∃ c2' c6' tab tl, news = cells L c1 c2' c3 c4 c5 c6' c7 c8 ++ (711, tab) :: (R0 ++ tl) ∧ OwnOff tl ((cells L c1 c2 c3 c4 c5 c6 c7 c8 ++ (711, tabObj #[]) :: rest).map (·.1)) ∧ (∃ v, c2'.data = .cell v) ∧ (∃ v, c6'.data = .cell v) ∧ TabL i tab (R0 ++ tl),
    rfl, rfl, rfl, eD, dD, F, ?n0, .inr ?s0, ⟨.refl, c2, c6, tabObj #[], [], by rw [List.append_nil], fun _ h => (nomatch h), ⟨_, h2⟩, ⟨_, h6⟩, ?t0⟩, ?turn, ?fin⟩
  case n0 => rw [← hR0]; exact News.sub N reR0
  case s0 => exact List.mem_append_right _ (.tail _ mD)
  case t0 => unfold TabL; rw [if_pos rfl]
  case turn =>
    rintro i v m₁ _ I oI s₂ hv ⟨ag, c2', c6', tab, tl, rfl, oft, ⟨v2, h2'⟩, ⟨v6, h6'⟩, hTab⟩ hr F2 N2 off1 src
    obtain ⟨T', x', rd', kd', ver', rs', Kv', rfl, hT', hR'⟩ := tT i v hv
    have o1 := off1_mem off1
    have N3 : News g L s₂.heap (cells L c1 c2' c3 c4 c5 c6' c7 c8 ++ (711, tab) :: ((I, oI) :: (R0 ++ tl))) := News.sub N2 reI2
    have up2 : Sub (Led R0) (Led ((I, oI) :: (R0 ++ tl))) := Sub.mem fun p hp => .tail _ (List.mem_append_left _ hp)
    have offI : OwnOff ((I, oI) :: (R0 ++ tl)) ((711 : Addr) :: (cells L c1 c2' c3 c4 c5 c6' c7 c8).map (·.1)) := by
      refine offCons (fun b hb => ?_) (OwnOff.app hoff0 (OwnOff.sub oft cad))
      rcases List.mem_cons.mp hb with rfl | hb
      · exact (o1 (711, tab) (List.mem_append_right _ (.head _))).symm
      · obtain ⟨p, hp, rfl⟩ := List.mem_map.mp hb
        exact (o1 p (List.mem_append_left _ hp)).symm
    refine s_turn (restT := R0 ++ tl) (i := i) B F2 X T N3 hlt offI h2' h5 h6' h7 (fun p hp => .tail _ hp) hTab (hT'.mono up2) (hR'.mono up2) (hsd.mono up2) (hS.mono up2) hst hE ?_
    intro s' m' c2'' c6'' tab' tl' hr' F4 ag' N4 of4 hc2 hc6 hTab'
    have ag2 : Agree ["known", "name"] m' m := fun z hz => (ag' z hz).trans (ag z hz)
    have adI : I ∈ (cells L c1 c2' c3 c4 c5 c6' c7 c8 ++ (711, tab) :: (I, oI) :: (R0 ++ tl)).map (·.1) := by simp
    have N5 : News g L s'.heap ((I, oI) :: (cells L c1 c2'' c3 c4 c5 c6'' c7 c8 ++ (711, tab') :: (R0 ++ (tl ++ tl')))) := News.sub N4 reI
    refine ⟨m', _, ⟨hr'.1, hr'.2⟩, F4, N5, ?o1, .inr (List.mem_append_right _ (.tail _ (List.mem_append_left _ mD))), ag2, c2'', c6'', tab', tl ++ tl', rfl, OwnOff.app oft (OwnOff.sub of4 ?sub), hc2, hc6, ?tab⟩
    case sub => rw [← hR0]; exact adTurn rfl rfl
    case tab => rw [← List.append_assoc]; exact hTab'
    case o1 => exact off1_of (offTurn (A := cells L c1 c2' c3 c4 c5 c6' c7 c8) (t := (711, tab)) rfl rfl o1 fun p h => of4 p h I adI)
  case fin =>
    rintro m₁ _ s' hr ⟨ag, c2', c6', tab, tl, rfl, oft, hc2, hc6, hTab⟩ F2 N2
    unfold TabL at hTab
    rw [if_neg (by simp)] at hTab
    obtain ⟨c', oc, vs, t, rfl, hm, hd, hv⟩ := hTab
    rw [← hR0, List.append_assoc] at N2 hm
    exact ret s' m₁ c2' c6' c' oc vs t _ hr F2 ag N2 (OwnOff.app off3 oft) hc2 hc6 hm hd hv
theorem s_for {w : World} {loose : List Str} {mean : ExcName → Option Value} {mg mb : Str → Option Value} {g : Heap} {L fa : Addr} {m : Str → Option Value} {s : Shared} {Q : Flow → Shared → Prop} {E : Value → Shared → Prop}
    {x rd kd x2 rd2 kd2 sd : Addr} {ver ver2 : Int} {rs rs2 : List RoleSpec} {Kv Kv2 Sv : List (Str × Value)} {sig : Str → Str} {c1 c2 c3 c4 c5 c6 c7 c8 : Obj} {rest : List (Addr × Obj)} {tb : Tok}
    (B : Below callerA g [] g) (F : Fr g L s.heap m) (hm1 : m (Str.ofString "roles") = some (.ref rd)) (hm2 : m (Str.ofString "keys") = some (.ref kd)) (hm3 : m (Str.ofString "roles2") = some (.ref rd2)) (hm4 : m (Str.ofString "keys2") = some (.ref kd2)) (X : (hd.heap_1 w.params).In g) (T : Top pv loose mean mg mb g)
    (N : News g L s.heap (cells L c1 c2 c3 c4 c5 c6 c7 c8 ++ (711, tabObj #[]) :: rest)) (hlt : @LT.lt Nat _ 711 L) (hoff : OwnOff rest ((711 : Addr) :: (cells L c1 c2 c3 c4 c5 c6 c7 c8).map (·.1)))
    (h2 : c2.data = .cell none) (h3 : c3.data = .cell (some (.ref x))) (h4 : c4.data = .cell (some (.ref x2))) (h5 : c5.data = .cell (some (.bytes loadB tb))) (h6 : c6.data = .cell none) (h7 : c7.data = .cell (some (.ref sd)))
    (hR : RootOk PySem.Challenge.rw_jk0048_02.row.prog w (Led rest) x rd kd ver rs Kv) (hR2 : RootOk PySem.Challenge.rw_jk0048_02.row.prog w (Led rest) x2 rd2 kd2 ver2 rs2 Kv2) (hsd : SDict PySem.Challenge.rw_jk0048_02.row.prog w (Led rest) sd Sv) (hS : SigsOk 101 (Led rest) Sv sig) (hst : ∀ x, sig x ∈ sigTexts)
    (hE : PassesOwn (model PySem.Challenge.rw_jk0048_02.row.prog w) (lawA L fa) (lawEnv L fa) E)
    (ret : ∀ s' m' c2' c6' c' oc vs t tl, Rst s s' → Fr g L s'.heap m' → Agree ["known", "name"] m' m → News g L s'.heap (cells L c1 c2' c3 c4 c5 c6' c7 c8 ++ (711, tabObj #[rawInt 420, rawInt 28, .ref c']) :: (rest ++ tl)) → OwnOff tl ((cells L c1 c2 c3 c4 c5 c6 c7 c8 ++ (711, tabObj #[]) :: rest).map (·.1)) →
      (∃ v, c2'.data = .cell v) → (∃ v, c6'.data = .cell v) → (c', oc) ∈ rest ++ tl → oc.data = .fields vs → vs[1]? = some (.str (Str.ofString "law.<locals>.<lambda>") t) → Q .next s') :
    wpAny (model PySem.Challenge.rw_jk0048_02.row.prog w) (lawA L fa) (exec lawFor (lawEnv L fa)) Q E s := by
  rw [lawFor_eq]
  rw [← putBack4 hm1 hm2 hm3 hm4] at F
  refine for_T (h₀ := g) L ?_ (hE := hE)
  have XB := X; have TB := T; have D9 : KtsDicts (frs []) g := dicts_nil
  with_unfolding_all change wpAny _ (Around.deeper callerA (envOfC _ ⟨_, _, _, _, _⟩ L fa _)) (eval (Expr.Tuple _ _ _) (envOfC _ ⟨_, _, _, _, _⟩ L fa _)) _ _ _
  have hN := N
  simp only [cells, List.cons_append, List.nil_append] at N
  k_steps
  (rename Fr _ _ _ _ => F1); (rename News _ _ _ _ => N1)
  (rename ∀ (p : Addr × Obj), p ∈ _ → p.1 < _ => la); (rename _ < _ ∧ AllLt _ _ => lb); (rename _ < _ ∧ _ < _ ∧ AllLt _ _ => lc)
  have F1 := fr_conv F1 (putBack4 hm1 hm2 hm3 hm4)
  have lb2 := allLtMem lb.2; have lc2 := allLtMem lc.2.2
  obtain ⟨lb1, _⟩ := lb; obtain ⟨lc1, lc3, _⟩ := lc
  exact s_for2 B F1 X T N1 rfl rfl rfl rfl rfl rfl la lb1 lc1 hlt hoff h2 h3 h4 h5 h6 h7 hR hR2 hsd hS hst hE (fun s' m' c2' c6' c' oc vs t tl hr => ret s' m' c2' c6' c' oc vs t tl ⟨hr.1, hr.2⟩)
example : True ∧ True := by w_top off; first | (walk1; done) | exact ⟨trivial, trivial⟩
-- S14
def lawS14 : Stmt := (lawBody.drop 14).headD (.Pass ⟨0, 0, 0, 0⟩)
/-- a delegated role as the project keeps it -/
inductive DRoleObj (H : Addr → Obj → Prop) (ra : Addr) (names : List Str) (thr : Int) : Prop
  | mk (kl : _) (vs : _) (t : _) (v6 : _) (v7 : _) (v8 : _)
    (q91 : Inst H ra 514 [("keyids", .ref kl), ("threshold", .int thr t), ("unrecognized_fields", v6), ("name", v7), ("terminating", .bool false), ("paths", v8), ("path_hash_prefixes", .none)])
    (q92 : LstOf H kl vs)
    (q93 : StrsAre vs names) : DRoleObj H ra names thr
theorem DRoleObj.mono {H H' : Addr → Obj → Prop} {ra : Addr} {names : List Str} {thr : Int} (h : DRoleObj H ra names thr) (s : Sub H H') : DRoleObj H' ra names thr :=
  let ⟨kl, vs, t, v6, v7, v8, a, b, c⟩ := h; ⟨kl, vs, t, v6, v7, v8, a.mono s, b.mono s, c⟩
def DRolesR (H : Addr → Obj → Prop) (rs : List RoleSpec) (ps : List (Str × Value)) : Prop :=
  ps.length = rs.length ∧ ∀ (i : Nat) (r : RoleSpec) (p : Str × Value), rs[i]? = some r → ps[i]? = some p → p.1 = r.name ∧ ∃ ra, p.2 = .ref ra ∧ DRoleObj H ra r.names r.thr
theorem DRolesR.mono {H H' : Addr → Obj → Prop} {rs : List RoleSpec} {ps : List (Str × Value)} (h : DRolesR H rs ps) (s : Sub H H') : DRolesR H' rs ps :=
  ⟨h.1, fun i r p a b => let ⟨e, ra, q, k⟩ := h.2 i r p a b; ⟨e, ra, q, k.mono s⟩⟩
theorem DRolesR.nil {H : Addr → Obj → Prop} : DRolesR H [] [] := ⟨rfl, fun _ _ _ h => nomatch h⟩
theorem DRolesR.snoc {H : Addr → Obj → Prop} {rs : List RoleSpec} {ps : List (Str × Value)} {r : RoleSpec} {ra : Addr} (h : DRolesR H rs ps) (x : DRoleObj H ra r.names r.thr) : DRolesR H (rs ++ [r]) (ps ++ [(r.name, .ref ra)]) := by
  refine ⟨by simp [h.1], fun i r' p a b => ?_⟩
  by_cases hi : i < rs.length
  · rw [List.getElem?_append_left hi] at a
    rw [List.getElem?_append_left (by rw [h.1]; exact hi)] at b
    exact h.2 i r' p a b
  · have h1 : rs.length ≤ i := Nat.not_lt.mp hi
    rw [List.getElem?_append_right h1] at a
    rw [List.getElem?_append_right (by rw [h.1]; exact h1), h.1] at b
    cases hq : i - rs.length with
    | zero => rw [hq] at a b; cases a; cases b; exact ⟨rfl, ra, rfl, x⟩
    | succ n => rw [hq] at a; cases a
theorem DRolesR.names {H : Addr → Obj → Prop} {rs : List RoleSpec} {ps : List (Str × Value)} (h : DRolesR H rs ps) : ps.map (·.1) = rs.map (·.name) := by
  refine List.ext_getElem? fun i => ?_
  rw [List.getElem?_map, List.getElem?_map]
  cases hr : rs[i]? with
  | none =>
    have : ps[i]? = none := by rw [List.getElem?_eq_none_iff, h.1]; exact List.getElem?_eq_none_iff.mp hr
    rw [this]; rfl
  | some r =>
    have hi : i < ps.length := by rw [h.1]; exact (List.getElem?_eq_some_iff.mp hr).1
    have hp : ps[i]? = some ps[i] := List.getElem?_eq_getElem hi
    rw [hp]
    exact congrArg some (h.2 i r _ hr hp).1
theorem turn_off {I C D wd : Addr} {ow0 o1 : Obj} {front R1 tl Xs : List (Addr × Obj)} (off : LCg.Off3 I C D ((wd, ow0) :: (front ++ (R1 ++ tl)))) (ofX : OwnOff Xs ([I, C, D] ++ wd :: (front ++ R1).map (·.1))) : LCg.Off3 I C D ((wd, o1) :: (front ++ (R1 ++ (tl ++ Xs)))) := by
  have offm := off.mem
  refine LCg.Off3.of fun p hp => ?_
  have nn : OwnOff Xs [I, C, D] := OwnOff.sub ofX fun b hb => List.mem_append_left _ hb
  simp only [List.mem_append, List.mem_cons] at hp
  rcases hp with hp | hp | hp | hp | hp
  · rw [hp]; exact offm (wd, ow0) (.head _)
  · exact offm p (.tail _ (List.mem_append_left _ hp))
  · exact offm p (.tail _ (List.mem_append_right _ (List.mem_append_left _ hp)))
  · exact offm p (.tail _ (List.mem_append_right _ (List.mem_append_right _ hp)))
  · exact ⟨nn p hp I (.head _), nn p hp C (.tail _ (.head _)), nn p hp D (.tail _ (.tail _ (.head _)))⟩
/-- the project's delegated roles so far -/
inductive DrSt (rs : List RoleSpec) (front rest : List (Addr × Obj)) (i : Nat) (ys : List Value) (news : List (Addr × Obj)) : Prop
  | mk (oP : _) (ps : _) (tl : _)
    (q91 : news = (465, oP) :: (front ++ (rest ++ tl)))
    (q92 : TabOk oP)
    (q93 : PairsAt (Led tl) ys ps)
    (q94 : DRolesR (Led tl) (rs.take i) ps)
    (q95 : OwnOff tl (465 :: (front ++ rest).map (·.1))) : DrSt rs front rest i ys news
theorem dr_end {h₀ : Heap} {L I C D d T rr : Addr} {oI oC oD od oP0 oP' : Obj} {m : Str → Option Value} {s₁ s₂ : Shared} {all front R1 tl Xs : List (Addr × Obj)} {rs : List RoleSpec} {r : RoleSpec} {i : Nat} {ys : List Value} {k : Str} {tk : Tok} {ps : List (Str × Value)}
    (hr : Rst s₁ s₂) (F : Fr h₀ L s₂.heap m) (N : News h₀ L s₂.heap all) (sub : ∀ p ∈ (I, oI) :: (C, oC) :: (D, oD) :: ((465, oP') :: (front ++ (R1 ++ (tl ++ Xs)))), p ∈ all) (off : LCg.Off3 I C D ((465, oP0) :: (front ++ (R1 ++ tl)))) (src : (d, od) ∈ R1)
    (hT : TabOk oP') (hri : rs[i]? = some r) (hk : r.name = k) (hP : PairsAt (Led tl) ys ps) (hR : DRolesR (Led tl) (rs.take i) ps) (hoff : OwnOff tl (465 :: (front ++ R1).map (·.1)))
    (oT' : TupOf (Led Xs) T [.str k tk, .ref rr]) (hI : DRoleObj (Led Xs) rr r.names r.thr) (ofX : OwnOff Xs ([I, C, D] ++ (465 : Addr) :: (front ++ R1).map (·.1))) :
    TurnO h₀ L m I oI C oC D oD d od s₁ (fun y news' => DrSt rs front R1 (i + 1) (ys ++ [y]) news') (.ref T) s₂ := by
  subst hk
  have hi : i < rs.length := (List.getElem?_eq_some_iff.mp hri).1
  have hge : rs[i] = r := (List.getElem?_eq_some_iff.mp hri).2
  refine ⟨(465, oP') :: (front ++ (R1 ++ (tl ++ Xs))), hr, F, News.sub N sub, turn_off off ofX, .inr (.tail _ (List.mem_append_right _ (List.mem_append_left _ src))), oP', ps ++ [(r.name, .ref rr)], tl ++ Xs, rfl, hT, (hP.mono Sub.appL).snoc (oT'.mono Sub.appR), ?_, OwnOff.app hoff (OwnOff.sub ofX fun b hb => List.mem_append_right _ hb)⟩
  rw [List.take_succ_eq_append_getElem hi, hge]
  exact (hR.mono Sub.appL).snoc (hI.mono Sub.appR)
theorem dr_sub {A R1 tl t1 tn : List (Addr × Obj)} {i c d x q1 q2 q3 : Addr × Obj} (h : R1 ++ tl = t1) : ∀ p ∈ i :: c :: d :: (x :: (A ++ (R1 ++ (tl ++ (q1 :: q2 :: q3 :: tn))))), p ∈ q1 :: q2 :: q3 :: i :: c :: d :: x :: (A ++ (t1 ++ tn)) := by
  subst h
  walk_at "my sub"
theorem dv_sub {A rest tl t1 : List (Addr × Obj)} {d4 d2 x : Addr × Obj} (h : rest ++ tl = t1) : ∀ p ∈ x :: (A ++ (rest ++ (tl ++ [d4]))), p ∈ d4 :: d2 :: x :: (A ++ t1) := by
  subst h
  walk_at "my sub"
theorem ne_of_all {T I C D wd : Addr} {o1 o2 o3 o4 : Obj} {A R1 tl t1 : List (Addr × Obj)} {B : List (Addr × Obj)} (h : R1 ++ tl = t1) (l : ∀ p ∈ B, @LT.lt Nat _ p.1 T) (hs : ∀ p ∈ (I, o1) :: (C, o2) :: (D, o3) :: (wd, o4) :: (A ++ t1), p ∈ B) : ∀ b ∈ [I, C, D] ++ wd :: (A ++ R1).map (·.1), T ≠ b := fun b hb => by
  have hb := vr_ad (o1 := o1) (o2 := o2) (o3 := o3) (o4 := o4) h b hb
  obtain ⟨p, hp, rfl⟩ := List.mem_map.mp hb
  exact Nat.ne_of_gt (l p (hs p hp))
theorem s14 {w : World} {loose : List Str} {mean : ExcName → Option Value} {mg mb : Str → Option Value} {g : Heap} {L fa rd3 : Addr} {m : Str → Option Value} {s : Shared} {Q : Flow → Shared → Prop} {E : Value → Shared → Prop}
    {c1 c2 c3 c4 c5 c6 c7 c8 oP : Obj} {rest : List (Addr × Obj)} {rs3 : List RoleSpec}
    (B : Below callerA g [] g) (F : Fr g L s.heap m) (X : (hd.heap_1 w.params).In g) (T : Top pv loose mean mg mb g)
    (N : News g L s.heap ((465, oP) :: (cells L c1 c2 c3 c4 c5 c6 c7 c8 ++ rest))) (hlt : @LT.lt Nat _ 711 L) (hoff : OwnOff rest ((465 : Addr) :: (cells L c1 c2 c3 c4 c5 c6 c7 c8).map (·.1)))
    (h2 : c2.data = .cell (some (.ref rd3))) (hT : TabOk oP) (hrd3 : SDict PySem.Challenge.rw_jk0048_02.row.prog w (Led rest) rd3 (kvT rs3)) (hRT : RolesT (Led rest) rs3) (hnm : rs3.map (·.name) = vux)
    (ret : ∀ s' m' oP' md ps tl, Rst s s' → Fr g L s'.heap m' → Agree ["made"] m' m → m' (Str.ofString "made") = some (.ref md) → News g L s'.heap ((465, oP') :: (cells L c1 c2 c3 c4 c5 c6 c7 c8 ++ (rest ++ tl))) → OwnOff tl (((465, oP) :: (cells L c1 c2 c3 c4 c5 c6 c7 c8 ++ rest)).map (·.1)) →
      TabOk oP' → SDict PySem.Challenge.rw_jk0048_02.row.prog w (Led tl) md ps → DRolesR (Led tl) rs3 ps → Q .next s') :
    wpAny (model PySem.Challenge.rw_jk0048_02.row.prog w) (lawA L fa) (exec lawS14 (lawEnv L fa)) Q E s := by
  have XB := X; have TB := T; have D9 : KtsDicts (frs []) g := dicts_nil
  with_unfolding_all change wpAny _ (Around.deeper callerA (envOfC _ ⟨_, _, _, _, _⟩ L fa _)) (exec (Stmt.Assign _ _ _) (envOfC _ ⟨_, _, _, _, _⟩ L fa _)) _ _ _
  refine foldL9 ?_; intro eK aK
  (try dsimp only)
  obtain ⟨lo3, o3, mem3, hd3⟩ := id hrd3
  have hN := N
  simp only [cells, List.cons_append, List.nil_append] at N
  k_steps
  refine CompG.dict (DrSt rs3 (cells L c1 c2 c3 c4 c5 c6 c7 c8) rest) rfl (by assumption) hN (.inr (.tail _ (List.mem_append_right _ mem3))) lo3 hd3 (by unfold kvT; rw [List.length_map, ← List.length_map (f := RoleSpec.name), hnm]; decide) ⟨oP, [], [], by rw [List.append_nil], hT, PairsAt.nil, DRolesR.nil, (fun _ h => nomatch h)⟩ ?turn ?fin
  case turn =>
    clear hN
    rintro i ys _ kk tt9 I oI C oC D m₂ s₂ E' hi ⟨oP1, ps, tl, rfl, hT1, hP, hR, hoft⟩ ⟨vv, hkv⟩ hC hx hr2 F3 N3 off3 src3 ne3
    obtain ⟨r, hri, hrk, rfl⟩ : ∃ r, rs3[i]? = some r ∧ r.name = kk ∧ vv = .ref r.ro := by
      unfold kvT at hkv; rw [List.getElem?_map] at hkv
      cases hq : rs3[i]? with
      | none => rw [hq] at hkv; cases hkv
      | some r => rw [hq] at hkv; cases hkv; exact ⟨r, rfl, rfl, rfl⟩
    have hnd4 : ((kvT rs3).map (·.1)).Nodup := by rw [kvT_names, hnm]; exact vux_nodup
    have hva : valueAt (kvT rs3) kk = some (.ref r.ro) := valueAt_mem hnd4 (List.mem_of_getElem? hkv)
    have off0 := off3
    have hofT := OwnOff.app hoff (OwnOff.sub hoft ad_cons)
    obtain ⟨nl, vsn, tth, q1, q2, q3, q4, q5, q6⟩ := (hRT r (List.mem_of_getElem? hri)).mono (Sub.appL (b := tl))
    have hrd3' := hrd3.mono (Sub.appL (b := tl))
    have hz9 : r.names.length ≤ 100 := by have := q4.2.2.1; omega
    have hth : r.thr ≤ 100 := by have := q4.2.2.1; omega
    have hvl9 : vsn.length ≤ 100000 := by have := q3.length; omega
    generalize htl : rest ++ tl = t1 at N3 hofT off3 q1 q2 hrd3'
    simp only [List.map_cons, List.map_nil] at hofT
    simp only [LCg.Off3, cells, List.cons_append, List.nil_append] at N3 off3
    k_steps
    refine Halt.elim ?_
    (rename LstOf (Led [_]) _ _ => ll5); (rename _ < _ ∧ _ ∧ _ => lp)
    revert lp; (rename _ < _ ∧ _ ∧ _ => lk); intro lp
    with_unfolding_all refine' c_DRoleK ⟨?zB, ?zF, ?zX, ?zT, ?zXB, ?zTB, ?zD⟩ ?zhk ?room ?units ?zN ?U hT1 ?m1 ?m2 ?ne q3 q4.1 hz9 q5 hth ?_
    case zB => exact B
    case zF => assumption
    case zX => exact X
    case zT => exact T
    case zXB => exact XB
    case zTB => exact TB
    case zD => exact D9
    case zhk => exact rfl
    case room => k_room
    case units => walk_at "my units"
    case zN => assumption
    case U => k_updF
    case m1 => k_mem
    case m2 => k_mem
    case ne => omega
    refine Halt.intro ?_
    intro rr s4 oP4 tn v6 F4 N4 of4 hT4 hr4 hI4
    (try dsimp only at N4)
    simp only [List.cons_append] at N4
    have lt4 := fun p hp => Heap.lt_size (N4 p hp).1
    k_steps
    repeat (first | k_unfold | dsimp only)
    (rename Fr _ _ _ _ => F5); (rename News _ _ _ _ => N5)
    (rename _ < _ ∧ _ ∧ _ => lT)
    have aT := allLtMem (l := (_, oI) :: (_, oI) :: (I, oI) :: (C, oC) :: (D, LCg.lst ys) :: (465, oP4) :: (cells L c1 c2 c3 c4 c5 c6 c7 c8 ++ (t1 ++ tn))) lT
    have aP := allLtMem (l := (_, oI) :: (I, oI) :: (C, oC) :: (D, LCg.lst ys) :: (465, oP4) :: (cells L c1 c2 c3 c4 c5 c6 c7 c8 ++ t1)) lp
    have aK := allLtMem (l := (I, oI) :: (C, oC) :: (D, LCg.lst ys) :: (465, oP4) :: (cells L c1 c2 c3 c4 c5 c6 c7 c8 ++ t1)) lk
    refine dr_end (Xs := _ :: _ :: _ :: tn) ⟨hr4.1, hr4.2⟩ F5 N5 (dr_sub (A := cells L c1 c2 c3 c4 c5 c6 c7 c8) htl) off0 mem3 hT4 hri hrk hP hR hoft ⟨_, _, .head _, rfl, rfl⟩ ⟨_, vsn, tth, v6, _, _, hI4.mono (Sub.mem fun p hp => .tail _ (.tail _ (.tail _ hp))), ll5.mono (Sub.mem fun p hp => by rw [List.mem_singleton.mp hp]; exact .tail _ (.tail _ (.head _))), q3⟩ (offCons ?x1 (offCons ?x2 (offCons ?x3 (OwnOff.sub of4 fun b hb => .tail _ (.tail _ (vr_ad (A := cells L c1 c2 c3 c4 c5 c6 c7 c8) htl b hb))))))
    case x1 => exact ne_of_all htl aT fun p hp => (List.Sublist.subset (.cons _ (.cons _ (.cons₂ _ (.cons₂ _ (.cons₂ _ (.cons₂ _ (List.Sublist.append_left (List.sublist_append_left _ _) _))))))) hp)
    case x2 => exact ne_of_all htl aP fun p hp => .tail _ hp
    case x3 => exact ne_of_all htl aK fun p hp => hp
  case fin =>
    clear hN
    rintro D2 ys _ s' hr2 ⟨oP1, ps, tl, rfl, hT1, hP, hR, hoft⟩ F3 N3 off1
    have hkvl : (kvT rs3).length = rs3.length := by unfold kvT; rw [List.length_map]
    rw [hkvl, List.take_length] at hR
    have hrl3 : rs3.length = 3 := by rw [← List.length_map (f := RoleSpec.name), hnm]; rfl
    have hofT := OwnOff.app hoff (OwnOff.sub hoft ad_cons)
    have hPL := hP.mono (Sub.appR (a := rest))
    generalize htl : rest ++ tl = t1 at N3 hofT off1 hPL
    simp only [List.map_cons, List.map_nil] at hofT
    simp only [LCg.Off1, cells, List.cons_append, List.nil_append] at N3 off1
    k_steps
    refine Halt.elim ?_
    refine dictP rfl F3 N3 (Top.nolimit (by assumption)) (.head _) (fun j v p h1 h2 => (hPL.2 j v p h1 h2).mono (Sub.led N3 (by walk_at "my sub"))) hP.1 (by have := hR.1; omega) fun D4 h4 oD4 tk4 F4 N4 l4 lo4 hd4 => ?_
    have hps : ps.map (·.1) = vux := by rw [hR.names, hnm]
    rw [storedAll_nodup (by rw [List.nil_append, hps]; exact vux_nodup), List.nil_append] at hd4
    clear F3 N3
    k_lt l4
    k_steps
    (rename Fr _ _ _ _ => F5); (rename News _ _ _ _ => N5)
    have l4' := allLtMem (l := (D2, LCg.lst ys) :: (465, oP1) :: (cells L c1 c2 c3 c4 c5 c6 c7 c8 ++ t1)) l4
    refine ret _ _ oP1 D4 ps (tl ++ [(D4, oD4)]) ⟨hr2.1, hr2.2⟩ F5 (by walk_at "my agree") (if_pos rfl) (News.sub N5 (dv_sub (A := cells L c1 c2 c3 c4 c5 c6 c7 c8) htl)) (OwnOff.app (OwnOff.sub hoft fun b hb => hb) ?o2) hT1 ⟨lo4, oD4, List.mem_append_right _ (.head _), hd4⟩ (hR.mono Sub.appL)
    case o2 =>
      intro q hq b hb
      rw [List.mem_singleton.mp hq]
      obtain ⟨p, hp, rfl⟩ := List.mem_map.mp (show b ∈ ((465, oP1) :: (cells L c1 c2 c3 c4 c5 c6 c7 c8 ++ rest)).map (·.1) from hb)
      refine Nat.ne_of_gt (l4' p (.tail _ ?_))
      rw [← htl]
      exact List.Sublist.subset (.cons₂ _ (List.Sublist.append_left (List.sublist_append_left _ _) _)) hp
end -- group
-- P22
example : True := by
  k_with "!my mems" => (repeat' (first | exact sub_nil | refine sub_cons (by first | (walk_at "my mem"; done) | simp only [List.map_cons, List.map_nil, List.mem_cons, List.mem_append, true_or, or_true]) ?_))
  trivial

example : True ∧ True := by w_top off; first | (walk1; done) | exact ⟨trivial, trivial⟩
-- S15
def lawS15 : Stmt := (lawBody.drop 15).headD (.Pass ⟨0, 0, 0, 0⟩)
/-- targets as the law builds them -/
inductive TargOk (prog : Program) (w : World) (H : Addr → Obj → Prop) (x : Addr) (rs : List RoleSpec) (Kv : List (Str × Value)) : Prop
  | mk (v1 : _) (v2 : _) (v3 : _) (v4 : _) (td : _) (dg : _) (kd : _) (md : _) (v5 : _) (ps : _)
    (q91 : Inst H x 643 [("spec_version", v1), ("expires", v2), ("version", v3), ("unrecognized_fields", v4), ("targets", .ref td), ("delegations", .ref dg)])
    (q92 : Inst H dg 565 [("keys", .ref kd), ("roles", .ref md), ("succinct_roles", .none), ("unrecognized_fields", v5)])
    (q93 : SDict prog w H kd Kv)
    (q94 : SDict prog w H md ps)
    (q95 : DRolesR H rs ps)
    (q96 : KeysOk prog w 154 H Kv pubOf)
    (q97 : (∀ p ∈ Kv, p.1 ∈ kNames))
    (q98 : rs.map (·.name) = vux)
    (q99 : RolesT H rs) : TargOk prog w H x rs Kv
theorem TargOk.mono {prog : Program} {w : World} {H H' : Addr → Obj → Prop} {x : Addr} {rs : List RoleSpec} {Kv : List (Str × Value)} (h : TargOk prog w H x rs Kv) (s : Sub H H') : TargOk prog w H' x rs Kv :=
  let ⟨v1, v2, v3, v4, td, dg, kd, md, v5, ps, a, b, c, d, e, f, g, i, j⟩ := h; ⟨v1, v2, v3, v4, td, dg, kd, md, v5, ps, a.mono s, b.mono s, c.mono s, d.mono s, e.mono s, f.mono s, g, i, j.mono s⟩
theorem t_sub {A rest tn1 tn2 t1 t2 : List (Addr × Obj)} {a b d1 d2 : Addr × Obj} (h : rest ++ tn1 = t1) (h2 : t1 ++ tn2 = t2) : ∀ p ∈ a :: b :: (A ++ (rest ++ (tn1 ++ (tn2 ++ [d1])))), p ∈ d1 :: d2 :: a :: b :: (A ++ t2) := by
  subst h2 h
  walk_at "my sub"
theorem t_ad {A rest tn1 t1 : List (Addr × Obj)} {a b : Addr × Obj} (h : rest ++ tn1 = t1) : ∀ x ∈ (a :: b :: (A ++ rest)).map (·.1), x ∈ (a :: b :: (A ++ t1)).map (·.1) := by
  subst h
  simp only [List.map_cons, List.map_append]
  walk_at "my sub"
theorem s15 {w : World} {loose : List Str} {mean : ExcName → Option Value} {mg mb : Str → Option Value} {g : Heap} {L fa kd md : Addr} {m : Str → Option Value} {s : Shared} {Q : Flow → Shared → Prop} {E : Value → Shared → Prop}
    {c1 c2 c3 c4 c5 c6 c7 c8 o1 o5 : Obj} {rest R0 : List (Addr × Obj)} {rs3 : List RoleSpec} {Kv ps : List (Str × Value)} {v8 : Option Value}
    (B : Below callerA g [] g) (F : Fr g L s.heap m) (hm1 : m (Str.ofString "keys") = some (.ref kd)) (hm2 : m (Str.ofString "made") = some (.ref md)) (X : (hd.heap_1 w.params).In g) (T : Top pv loose mean mg mb g)
    (N : News g L s.heap ((177, o1) :: (526, o5) :: (cells L c1 c2 c3 c4 c5 c6 c7 c8 ++ rest))) (hlt : @LT.lt Nat _ 711 L) (hoff : OwnOff rest ((177 : Addr) :: (526 : Addr) :: (cells L c1 c2 c3 c4 c5 c6 c7 c8).map (·.1)))
    (h8 : c8.data = .cell v8) (hT1 : TabOk o1) (hT5 : TabOk o5) (hsR : ∀ p ∈ R0, p ∈ rest) (hkd0 : SDict PySem.Challenge.rw_jk0048_02.row.prog w (Led R0) kd Kv) (hK : KeysOk PySem.Challenge.rw_jk0048_02.row.prog w 154 (Led R0) Kv pubOf) (hkn : ∀ p ∈ Kv, p.1 ∈ kNames) (hkl : Kv.length ≤ 7) (hmd0 : SDict PySem.Challenge.rw_jk0048_02.row.prog w (Led R0) md ps) (hDR : DRolesR (Led R0) rs3 ps) (hRT : RolesT (Led R0) rs3) (hnm : rs3.map (·.name) = vux)
    (ret : ∀ s' c8' o1' o5' tg tl, Rst s s' → Fr g L s'.heap m → News g L s'.heap ((177, o1') :: (526, o5') :: (cells L c1 c2 c3 c4 c5 c6 c7 c8' ++ (rest ++ tl))) → OwnOff tl (((177, o1) :: (526, o5) :: (cells L c1 c2 c3 c4 c5 c6 c7 c8 ++ rest)).map (·.1)) →
      c8'.data = .cell (some (.ref tg)) → TabOk o1' → TabOk o5' → TargOk PySem.Challenge.rw_jk0048_02.row.prog w (Led (R0 ++ tl)) tg rs3 Kv → Q .next s') :
    wpAny (model PySem.Challenge.rw_jk0048_02.row.prog w) (lawA L fa) (exec lawS15 (lawEnv L fa)) Q E s := by
  have XB := X; have TB := T; have D9 : KtsDicts (frs []) g := dicts_nil
  with_unfolding_all change wpAny _ (Around.deeper callerA (envOfC _ ⟨_, _, _, _, _⟩ L fa _)) (exec (Stmt.Assign _ _ _) (envOfC _ ⟨_, _, _, _, _⟩ L fa _)) _ _ _
  refine foldL9 ?_; intro eK aK
  (try dsimp only)
  have hkd := hkd0.mono (Sub.mem hsR); have hmd := hmd0.mono (Sub.mem hsR)
  rw [← putBack2 hm1 hm2] at F
  simp only [List.map_cons, List.map_nil] at hoff
  simp only [cells, List.cons_append, List.nil_append] at N
  have hps : ps.map (·.1) = ["v", "u", "x"].map Str.ofString := by rw [hDR.names, hnm]; rfl
  k_steps
  refine Halt.elim ?_
  refine dictD (by assumption) (by assumption) (Top.nolimit (by assumption)) (by walk_at "my dict") (by omega) fun D1 h4 o4 F6 N6 l6 lo6 hd6 => ?_
  have lD := l6
  k_lt l6
  k_steps
  refine Halt.elim ?_
  with_unfolding_all refine' c_DelegK (ps := ps) ⟨?zB, ?zF, ?zX, ?zT, ?zXB, ?zTB, ?zD⟩ ?zhk ?room ?units ?zN ?U hT5 ?md hps ?_
  case zB => exact B
  case zF => assumption
  case zX => exact X
  case zT => exact T
  case zXB => exact XB
  case zTB => exact TB
  case zD => exact D9
  case zhk => exact rfl
  case room => k_room
  case units => walk_at "my units"
  case zN => assumption
  case U => k_updF
  case md => exact hmd.mono (Sub.mem (by walk_at "my sub"))
  refine Halt.intro ?_
  intro dg s4 o5' tn1 v5 F4 N4 of4 hT5' hr4 hI4
  (try dsimp only at N4)
  simp only [List.cons_append] at N4
  simp only [List.map_cons, List.map_nil] at of4
  have hofT := OwnOff.app hoff (OwnOff.sub of4 (by walk_at "my mems"))
  generalize htl : rest ++ tn1 = t1 at N4 hofT
  k_steps
  refine Halt.elim ?_
  with_unfolding_all refine' c_TargetsK ⟨?zB, ?zF, ?zX, ?zT, ?zXB, ?zTB, ?zD⟩ ?zhk ?room ?units ?zN ?U hT1 ?_
  case zB => exact B
  case zF => assumption
  case zX => exact X
  case zT => exact T
  case zXB => exact XB
  case zTB => exact TB
  case zD => exact D9
  case zhk => exact rfl
  case room => k_room
  case units => walk_at "my units"
  case zN => assumption
  case U => k_updF
  refine Halt.intro ?_
  intro tg s5 o1' tn2 v1 v2 v3 v4 F5 N5 of5 hT1' hr5 hI5
  (try dsimp only at N5)
  simp only [List.cons_append] at N5
  simp only [List.map_cons, List.map_nil] at of5
  have hofT2 := OwnOff.app hofT (OwnOff.sub of5 (by walk_at "my mems"))
  generalize htl2 : t1 ++ tn2 = t2 at N5 hofT2
  k_steps
  (rename Fr _ _ _ _ => F9); (rename News _ _ _ _ => N9)
  have NF := News.sub N9 (t_sub (A := cells L c1 c2 c3 c4 c5 c6 c7 _) htl htl2)
  have u2 : Sub (Led tn2) (Led (R0 ++ (tn1 ++ (tn2 ++ [(D1, o4)])))) := Sub.mem fun p hp => List.mem_append_right _ (List.mem_append_right _ (List.mem_append_left _ hp))
  have u1 : Sub (Led tn1) (Led (R0 ++ (tn1 ++ (tn2 ++ [(D1, o4)])))) := Sub.mem fun p hp => List.mem_append_right _ (List.mem_append_left _ hp)
  have u0 : Sub (Led R0) (Led (R0 ++ (tn1 ++ (tn2 ++ [(D1, o4)])))) := Sub.appL
  have mD : (D1, o4) ∈ R0 ++ (tn1 ++ (tn2 ++ [(D1, o4)])) := by simp
  refine ret _ _ o1' o5' tg (tn1 ++ (tn2 ++ [(D1, o4)])) ⟨hr5.1.trans hr4.1, fun h => hr5.2 (hr4.2 h)⟩ (fr_conv F9 (putBack2 hm1 hm2)) NF (OwnOff.app (OwnOff.sub of4 fun b hb => .tail _ (.tail _ hb)) (OwnOff.app (OwnOff.sub of5 fun b hb => .tail _ (.tail _ (t_ad (A := cells L c1 c2 c3 c4 c5 c6 c7 c8) htl b hb))) ?o3)) (by assumption) hT1' hT5' ⟨v1, v2, v3, v4, _, dg, D1, md, v5, ps, hI5.mono u2, hI4.mono u1, ⟨lo6, o4, mD, hd6⟩, hmd0.mono u0, hDR.mono u0, hK.mono u0, hkn, hnm, hRT.mono u0⟩
  case o3 =>
    intro q hq b hb
    rw [List.mem_singleton.mp hq]
    obtain ⟨p, hp, rfl⟩ := List.mem_map.mp hb
    exact Nat.ne_of_gt (lD p (.tail _ hp))
example : True ∧ True := by w_top off; first | (walk1; done) | exact ⟨trivial, trivial⟩
-- S16
def lawS16 : Stmt := (lawBody.drop 16).headD (.Pass ⟨0, 0, 0, 0⟩)
theorem c_gvrTK {w : World} {loose : List Str} {mean : ExcName → Option Value} {mg mb : Str → Option Value} {dp un : Nat} {gd : Option (List Code)} {cn : Str} {cs : Scope} {a : Addr} {ccd : Value} {cl : List (Str × Addr)} {A₀ : Around} {base h₀ : Heap} {L : Addr} {m : Str → Option Value} {s : Shared} {Q E : Value → Shared → Prop}
    {x sd : Addr} {rs : List RoleSpec} {r : RoleSpec} {Kv Sv : List (Str × Value)} {nm : Str} {tk tl : Tok} {sig : Str → Str} {news : List (Addr × Obj)}
    (C : Cx (hd.heap_1 w.params) pv loose mean mg mb A₀ base [] h₀ L s.heap m) (hk : cs.kind = .function) (room : dp + 8 < recursionLimit) (units : un + 100 < cLine)
    (N : News h₀ L s.heap news) (hR : TargOk PySem.Challenge.rw_jk0048_02.row.prog w (At [L] s.heap) x rs Kv) (hr : r ∈ rs) (hnm : r.name = nm) (hsd : SDict PySem.Challenge.rw_jk0048_02.row.prog w (At [L] s.heap) sd Sv) (hS : SigsOk 101 (At [L] s.heap) Sv sig) (hst : ∀ x, sig x ∈ sigTexts)
    (ret : ∀ v tl h' tk', Fr h₀ L h' m → News h₀ L h' (news ++ tl) → OwnOff tl (news.map (·.1)) → VerRes PySem.Challenge.rw_jk0048_02.row.prog w (Led tl) v r.thr (signedBy Kv Sv (okS sig) true r.names) (signedBy Kv Sv (okS sig) false r.names) → Q (.ref v) { s with heap := h', toks := tk' }) :
    wpAny (model PySem.Challenge.rw_jk0048_02.row.prog w) (ktrTop dp un gd cn cs L a ccd cl []) (call (.ref 362) [.ref x, .str nm tk, .bytes loadB tl, .ref sd]) Q E s := by
  subst hnm
  obtain ⟨v1, v2, v3, v4, td, dg, kd, md, v5, ps, hx, hdg, hkd, hmd, hDR, hK, hkn, hnmv, hRT⟩ := hR
  obtain ⟨nl, vs0, t0, q1, q2, q3, q4, q5, q6⟩ := hRT r hr
  obtain ⟨i, hi⟩ := List.getElem?_of_mem hr
  have hlt : i < ps.length := by rw [hDR.1]; exact (List.getElem?_eq_some_iff.mp hi).1
  have hp : ps[i]? = some ps[i] := List.getElem?_eq_getElem hlt
  obtain ⟨e1, ra, e2, kl, vs, t, v6, v7, v8, w1, w2, w3⟩ := hDR.2 i r _ hi hp
  have hnd : (ps.map (·.1)).Nodup := by rw [hDR.names, hnmv]; exact vux_nodup
  have hrn : valueAt ps r.name = some (.ref ra) := by
    refine valueAt_mem hnd ?_
    have := List.mem_of_getElem? hp
    rw [show ps[i] = (r.name, .ref ra) from Prod.ext e1 e2] at this
    exact this
  refine c_gvrT (outer := []) C hk (by omega) (by omega) hx hdg hmd hrn w1 w2 w3 (by have := q4.2.2.1; omega) (fun k hk' => kNames_len k (q4.2.2.2 k hk')) hkd hK hsd plain_pub (fun k => plain_sig _ (hst k)) (by decide) hS fun rr d1 d2 tlr h' tk' hE hM hI hd1 hd2 => ?_
  have hc : ∀ b, signedBy Kv Sv (fun k => utf8 (sig k) == utf8 (pubOf k) ++ #[58] ++ loadB) b r.names = signedBy Kv Sv (okS sig) b r.names := fun b => signedBy_congr fun k hk' => ok_same hst (q4.2.2.2 k hk')
  rw [hc] at hd1 hd2
  obtain ⟨F', N', O'⟩ := led_turn C N hE hM
  exact ret rr tlr h' tk' F' N' O' ⟨d1, d2, _, hI, hd1, hd2⟩
theorem s16 {w : World} {loose : List Str} {mean : ExcName → Option Value} {mg mb : Str → Option Value} {g : Heap} {L fa : Addr} {m : Str → Option Value} {s : Shared} {Q : Flow → Shared → Prop} {E : Value → Shared → Prop}
    {x rd kd sd : Addr} {rs : List RoleSpec} {Kv Sv : List (Str × Value)} {sig : Str → Str} {c1 c2 c3 c4 c5 c6 c7 c8 : Obj} {rest : List (Addr × Obj)} {tb : Tok}
    (B : Below callerA g [] g) (F : Fr g L s.heap (fun z => if z = Str.ofString "keys" then some (.ref kd) else m z)) (X : (hd.heap_1 w.params).In g) (T : Top pv loose mean mg mb g)
    (N : News g L s.heap (cells L c1 c2 c3 c4 c5 c6 c7 c8 ++ rest))
    (h2 : c2.data = .cell (some (.ref rd))) (h5 : c5.data = .cell (some (.bytes loadB tb))) (h8 : c8.data = .cell (some (.ref x))) (h7 : c7.data = .cell (some (.ref sd)))
    (hR : TargOk PySem.Challenge.rw_jk0048_02.row.prog w (Led rest) x rs Kv) (hrd : SDict PySem.Challenge.rw_jk0048_02.row.prog w (Led rest) rd (kvT rs)) (hRT : RolesT (Led rest) rs) (hkd : SDict PySem.Challenge.rw_jk0048_02.row.prog w (Led rest) kd Kv) (hnm : rs.map (·.name) = vux) (hsd : SDict PySem.Challenge.rw_jk0048_02.row.prog w (Led rest) sd Sv) (hS : SigsOk 101 (Led rest) Sv sig) (hst : ∀ x, sig x ∈ sigTexts)
    (hE : PassesOwn (model PySem.Challenge.rw_jk0048_02.row.prog w) (Around.deeper callerA (envOfC (Str.ofString "law") lawScope L fa (.ref 713))) (envOfC (Str.ofString "law") lawScope L fa (.ref 713)) E)
    (ret : ∀ s' m' tl, Rst s s' → Fr g L s'.heap m' → Agree ["name"] m' (fun z => if z = Str.ofString "keys" then some (.ref kd) else m z) → News g L s'.heap (cells L c1 c2 c3 c4 c5 c6 c7 c8 ++ (rest ++ tl)) → OwnOff tl ((cells L c1 c2 c3 c4 c5 c6 c7 c8 ++ rest).map (·.1)) → Q .next s') :
    wpAny (model PySem.Challenge.rw_jk0048_02.row.prog w) (Around.deeper callerA (envOfC (Str.ofString "law") lawScope L fa (.ref 713))) (exec lawS16 (envOfC (Str.ofString "law") lawScope L fa (.ref 713))) Q E s := by
  with_unfolding_all change wpAny _ (Around.deeper callerA (envOfC _ ⟨_, _, _, _, _⟩ L fa _)) (exec (Stmt.For _ _ _ _ _) (envOfC _ ⟨_, _, _, _, _⟩ L fa _)) _ _ _
  with_unfolding_all change PassesOwn _ (Around.deeper callerA (envOfC _ ⟨_, _, _, _, _⟩ L fa _)) (envOfC _ ⟨_, _, _, _, _⟩ L fa _) E at hE
  refine foldL9 ?_; intro eK aK
  dsimp only at hE ⊢
  have XB := X; have TB := T; have D9 : KtsDicts (frs []) g := dicts_nil
  obtain ⟨lo, od, hmem, hod⟩ := id hrd
  refine for_O (h₀ := g) rfl rfl L ?_ (hE := hE)
  simp only [cells, List.cons_append, List.nil_append] at N
  k_steps
  refine ForG.dict (fun m₀ i m₁ news => Agree ["name"] m₁ m₀ ∧ ∃ tl, news = cells L c1 c2 c3 c4 c5 c6 c7 c8 ++ (rest ++ tl) ∧ OwnOff tl ((cells L c1 c2 c3 c4 c5 c6 c7 c8 ++ rest).map (·.1))) rfl rfl (by assumption) N (.inr (by simp [hmem])) lo hod ⟨.refl, [], by simp [cells], fun _ h => nomatch h⟩ ?turn ?fin
  case turn =>
    rintro i k t m₁ _ I oI s₂ hi ⟨v, hkv⟩ ⟨ha, tl, rfl, hoff⟩ hr F1 N1 off1 src1
    obtain ⟨r, hri, hrk, rfl⟩ : ∃ r, rs[i]? = some r ∧ r.name = k ∧ v = .ref r.ro := by
      unfold kvT at hkv; rw [List.getElem?_map] at hkv
      cases hq : rs[i]? with
      | none => rw [hq] at hkv; cases hkv
      | some r => rw [hq] at hkv; cases hkv; exact ⟨r, rfl, rfl, rfl⟩
    have hnd4 : ((kvT rs).map (·.1)).Nodup := by rw [kvT_names, hnm]; exact vux_nodup
    have hva : valueAt (kvT rs) k = some (.ref r.ro) := valueAt_mem hnd4 (List.mem_of_getElem? hkv)
    have hrm := List.mem_of_getElem? hri
    have hR := hR.mono (Sub.appL (b := tl)); have hsd := hsd.mono (Sub.appL (b := tl)); have hS := hS.mono (Sub.appL (b := tl)); have hrd := hrd.mono (Sub.appL (b := tl)); have hRT := hRT.mono (Sub.appL (b := tl)); have hkd := hkd.mono (Sub.appL (b := tl))
    rw [ha.one] at F1
    simp only [cells, List.cons_append, List.nil_append] at N1
    generalize htl : rest ++ tl = t1 at N1 hR hsd hS hrd hRT hkd
    obtain ⟨nl0, vs0, tt0, q1, q2, q3, q4, q5, q6⟩ := id (hRT r hrm)
    obtain ⟨_, _, _, _, _, _, _, _, _, _, hx9, _⟩ := id hR
    k_steps
    refine Halt.elim ?_
    (rename Fr _ _ _ _ => F2); (rename News _ _ _ _ => N2)
    have cl2 := callL N2 (l := t1) (by walk_at "my sub")
    with_unfolding_all refine' c_gvrTK ⟨?zB, ?zF, ?zX, ?zT, ?zXB, ?zTB, ?zD⟩ ?zhk ?room ?units ?zN ?e1 hrm hrk ?e2 ?e3 hst ?_
    case zN => exact N2
    case zB => exact B
    case zF => exact F2
    case zX => exact X
    case zT => exact T
    case zXB => exact XB
    case zTB => exact TB
    case zD => exact D9
    case e1 => exact hR.mono cl2
    case e2 => exact hsd.mono cl2
    case e3 => exact hS.mono cl2
    case zhk => exact rfl
    case room => k_room
    case units => units_room
    intro v1 tl1 h1 tk1 F3 N3 of3 hV
    clear cl2 N2 F2
    simp only [List.cons_append] at N3
    have hR := hR.mono (Sub.appL (b := tl1)); have hsd := hsd.mono (Sub.appL (b := tl1)); have hS := hS.mono (Sub.appL (b := tl1)); have hrd := hrd.mono (Sub.appL (b := tl1)); have hRT := hRT.mono (Sub.appL (b := tl1)); have hkd := hkd.mono (Sub.appL (b := tl1)); have hV := hV.mono (Sub.appR (a := t1))
    generalize htl2 : t1 ++ tl1 = t2 at N3 hR hsd hS hrd hRT hkd hV
    k_steps
    refine Halt.elim ?_
    (rename Fr _ _ _ _ => F2); (rename News _ _ _ _ => N2)
    have cl2 := callL N2 (l := t2) (by walk_at "my sub")
    with_unfolding_all refine' c_dueK ⟨?zB, ?zF, ?zX, ?zT, ?zXB, ?zTB, ?zD⟩ ?zhk ?room ?units ?zN ?e1 ?e2 ?e3 ?e4 ?_
    case zN => exact N2
    case zB => exact B
    case zF => exact F2
    case zX => exact X
    case zT => exact T
    case zXB => exact XB
    case zTB => exact TB
    case zD => exact D9
    case e1 => exact (hRT r hrm).mono cl2
    case e2 => exact hkd.mono cl2
    case e3 => exact hsd.mono cl2
    case e4 => exact hS.mono cl2
    case zhk => exact rfl
    case room => k_room
    case units => units_room
    refine Halt.intro ?_
    intro v2 tl2 h2' tk2 F3 N3 of4 hD
    clear cl2 N2 F2
    simp only [List.cons_append] at N3
    have hV := hV.mono (Sub.appL (b := tl2)); have hD := hD.mono (Sub.appR (a := t2))
    generalize htl3 : t2 ++ tl2 = t3 at N3 hV hD
    k_steps
    refine Halt.elim ?_
    (rename Fr _ _ _ _ => F2); (rename News _ _ _ _ => N2)
    have cl2 := callL N2 (l := t3) (by walk_at "my sub")
    have hnk : ∀ b, ∀ p ∈ signedBy Kv Sv (okS sig) b r.names, p.1 ∈ kNames := fun b => signedBy_names q4.2.2.2
    have hlk : ∀ b, (signedBy Kv Sv (okS sig) b r.names).length ≤ 1000 := fun b => Nat.le_trans (signedBy_len _ _ _ _ _) (by have := q4.2.2.1; omega)
    with_unfolding_all refine' c_isK ⟨?zB, ?zF, ?zX, ?zT, ?zXB, ?zTB, ?zD⟩ ?zhk ?room ?units ?zN ?e1 ?e2 (hnk true) (hnk false) (hlk true) (hlk false) ?_
    case zN => exact N2
    case zB => exact B
    case zF => exact F2
    case zX => exact X
    case zT => exact T
    case zXB => exact XB
    case zTB => exact TB
    case zD => exact D9
    case e1 => exact hV.mono cl2
    case e2 => exact hD.mono cl2
    case zhk => exact rfl
    case room => k_room
    case units => units_room
    intro h3 tk3 F3 N3
    clear cl2 N2 F2
    k_steps
    subst htl3; subst htl2; subst htl
    have sub3 : ∀ p ∈ cells L c1 c2 c3 c4 c5 c6 c7 c8 ++ rest, p ∈ (I, oI) :: (cells L c1 c2 c3 c4 c5 c6 c7 c8 ++ (rest ++ tl)) := fun p hp => List.mem_cons_of_mem _ ((List.mem_append.mp hp).elim (List.mem_append_left _) fun h => List.mem_append_right _ (List.mem_append_left _ h))
    have sub4 : ∀ p ∈ cells L c1 c2 c3 c4 c5 c6 c7 c8 ++ rest, p ∈ (I, oI) :: (cells L c1 c2 c3 c4 c5 c6 c7 c8 ++ (rest ++ tl ++ tl1)) := fun p hp => List.mem_cons_of_mem _ ((List.mem_append.mp hp).elim (List.mem_append_left _) fun h => List.mem_append_right _ (List.mem_append_left _ (List.mem_append_left _ h)))
    refine ⟨_, cells L c1 c2 c3 c4 c5 c6 c7 c8 ++ (rest ++ (tl ++ tl1 ++ tl2)), ⟨rfl, fun h => h⟩, F3, ?n, ?o, .inr (by simp [hmem]), ?ag, tl ++ tl1 ++ tl2, rfl, ?oo⟩
    case n => simpa [cells, List.append_assoc] using N3
    case o =>
      refine off1_of fun p hp => ?_
      have h3 : ∀ q ∈ tl1, q.1 ≠ I := fun q hq => of3 q hq I (List.mem_cons_self)
      have h4 : ∀ q ∈ tl2, q.1 ≠ I := fun q hq => of4 q hq I (List.mem_cons_self)
      have h1 := off1_mem off1
      rcases List.mem_append.mp hp with hp | hp
      · exact h1 p (List.mem_append_left _ hp)
      · rcases List.mem_append.mp hp with hp | hp
        · exact h1 p (List.mem_append_right _ (List.mem_append_left _ hp))
        · rcases List.mem_append.mp hp with hp | hp
          · rcases List.mem_append.mp hp with hp | hp
            · exact h1 p (List.mem_append_right _ (List.mem_append_right _ hp))
            · exact h3 p hp
          · exact h4 p hp
    case ag => walk_at "my agree"
    case oo => exact OwnOff.app (OwnOff.app hoff (OwnOff.sub of3 (mapSub sub3))) (OwnOff.sub of4 (mapSub sub4))
  case fin =>
    rintro m₁ _ s' hr ⟨ha, tl, rfl, hoff⟩ F1 N1
    exact ret s' m₁ tl ⟨hr.1, hr.2⟩ F1 ha N1 hoff
example : True ∧ True := by w_top off; first | (walk1; done) | exact ⟨trivial, trivial⟩
-- S17
def lawS17 : Stmt := (lawBody.drop 17).headD (.Pass ⟨0, 0, 0, 0⟩)
theorem s17 {w : World} {loose : List Str} {mean : ExcName → Option Value} {mg mb : Str → Option Value} {g : Heap} {L fa : Addr} {m : Str → Option Value} {s : Shared} {Q : Flow → Shared → Prop} {E : Value → Shared → Prop}
    {x sd c' c9 : Addr} {rs : List RoleSpec} {Kv : List (Str × Value)} {c1 c2 c3 c4 c5 c6 c7 c8 : Obj} {rest : List (Addr × Obj)} {tb : Tok}
    (B : Below callerA g [] g) (F : Fr g L s.heap m) (X : (hd.heap_1 w.params).In g) (T : Top pv loose mean mg mb g)
    (N : News g L s.heap (cells L c1 c2 c3 c4 c5 c6 c7 c8 ++ (711, tabObj #[rawInt 420, rawInt 28, .ref c', rawInt 423, rawInt 20, .ref c9]) :: rest)) (hlt : @LT.lt Nat _ 711 L) (hoff : OwnOff rest ((711 : Addr) :: (cells L c1 c2 c3 c4 c5 c6 c7 c8).map (·.1)))
    (h5 : c5.data = .cell (some (.bytes loadB tb))) (h7 : c7.data = .cell (some (.ref sd))) (h8 : c8.data = .cell (some (.ref x)))
    (hR : TargOk PySem.Challenge.rw_jk0048_02.row.prog w (Led rest) x rs Kv)
    (hE : PassesOwn (model PySem.Challenge.rw_jk0048_02.row.prog w) (lawA L fa) (lawEnv L fa) E)
    (ret : ∀ c0 tl h' tk', Fr g L h' m → News g L h' (cells L c1 c2 c3 c4 c5 c6 c7 c8 ++ (711, tabObj #[rawInt 420, rawInt 28, .ref c', rawInt 423, rawInt 20, .ref c9, rawInt 443, rawInt 24, .ref c0]) :: (rest ++ tl)) → Q (.ret (.bool true)) { s with heap := h', toks := tk' }) :
    wpAny (model PySem.Challenge.rw_jk0048_02.row.prog w) (lawA L fa) (exec lawS17 (lawEnv L fa)) Q E s := by
  with_unfolding_all change wpAny _ (Around.deeper callerA (envOfC _ ⟨_, _, _, _, _⟩ L fa _)) (exec (Stmt.Return _ _) (envOfC _ ⟨_, _, _, _, _⟩ L fa _)) _ _ _
  with_unfolding_all change PassesOwn _ (Around.deeper callerA (envOfC _ ⟨_, _, _, _, _⟩ L fa _)) (envOfC _ ⟨_, _, _, _, _⟩ L fa _) E at hE
  refine foldL9 ?_; intro eK aK
  dsimp only at hE ⊢
  have XB := X; have TB := T; have D9 : KtsDicts (frs []) g := dicts_nil
  have hk9 : ScopeKind.function = ScopeKind.function := rfl
  have C711 : CodeHd g 713 711 := codeHd_of_K X (by kernel_rfl)
  obtain ⟨v1, v2, v3, v4, td, dg, kd, md, v5, ps, hx, hdg, hkd, hmd, hDR, hK, hkn, hnmv, hRT⟩ := id hR
  simp only [List.map_cons, List.map_nil] at hoff
  simp only [cells, List.cons_append, List.nil_append] at N
  have U9 := upd711 N hlt (fun p hp => hoff p hp _ (.head _))
  have hno : valueAt ps (Str.ofString "w") = none := by
    refine valueAt_none ?_
    have hps : ps.map (·.1) = vux := by rw [hDR.names, hnmv]
    have : (ps.map (·.1)).any (fun k => k = Str.ofString "w") = false := by rw [hps]; decide +kernel
    rw [List.any_map] at this
    exact this
  have nh : NoHalt := trivial
  k_steps
  repeat (first | k_unfold | dsimp only)
  (rename KtsTurn _ _ _ => t9)
  (rename Grd _ _ _ _ => G8)
  have hb := back_frame (by assumption) (by assumption) G8 t9 (by assumption) (by assumption)
  exact ret _ _ _ _ hb.1 (norm2 hb.2)
example : True ∧ True := by w_top off; first | (walk1; done) | exact ⟨trivial, trivial⟩
-- U0
theorem lawTail_eq : lawBody.drop 7 = [lawFor, lawS8, lawS9, lawS10, lawS11, lawS12, lawS13, lawS14, lawS15, lawS16, lawS17] := by with_unfolding_all rfl
abbrev cad (L : Addr) : List Addr := [L + 1 + 1 + 1 + 1 + 1 + 1 + 1 + 1, L + 1 + 1 + 1 + 1 + 1 + 1 + 1, L + 1 + 1 + 1 + 1 + 1 + 1, L + 1 + 1 + 1 + 1 + 1, L + 1 + 1 + 1 + 1, L + 1 + 1 + 1, L + 1 + 1, L + 1]
abbrev AD (L wd : Addr) : List Addr := (711 : Addr) :: wd :: (177 : Addr) :: (465 : Addr) :: (526 : Addr) :: cad L
abbrev can (L : Addr) (c1 c2 c3 c4 c5 c6 c7 c8 tab : Obj) (wd : Addr) (ow o1 o4 o5 : Obj) (R : List (Addr × Obj)) : List (Addr × Obj) := cells L c1 c2 c3 c4 c5 c6 c7 c8 ++ (711, tab) :: (wd, ow) :: (177, o1) :: (465, o4) :: (526, o5) :: R
theorem ad_can {L wd : Addr} {c1 c2 c3 c4 c5 c6 c7 c8 tab ow o1 o4 o5 : Obj} {R : List (Addr × Obj)} : ∀ b ∈ AD L wd, b ∈ (can L c1 c2 c3 c4 c5 c6 c7 c8 tab wd ow o1 o4 o5 R).map (·.1) := by
  show ∀ b ∈ (711 : Addr) :: wd :: (177 : Addr) :: (465 : Addr) :: (526 : Addr) :: cad L, b ∈ cad L ++ ((711 : Addr) :: wd :: (177 : Addr) :: (465 : Addr) :: (526 : Addr) :: R.map (·.1))
  walk_at "my sub"
theorem nemem {a : Addr} : ∀ {l : List Addr}, NeAll a l → ∀ b ∈ l, a ≠ b
  | [], _ => fun _ h => nomatch h
  | _ :: _, h => List.forall_mem_cons.mpr ⟨h.1, nemem h.2⟩
theorem low_cad {x L : Addr} (hlt : @LT.lt Nat _ x L) : NeAll x (cad L) := by
  refine ⟨?_, ?_, ?_, ?_, ?_, ?_, ?_, ?_, trivial⟩ <;> (refine Nat.ne_of_lt ?_; repeat' (first | exact hlt | refine Nat.lt_succ_of_lt ?_))
theorem l177 {L : Addr} (h : @LT.lt Nat _ 711 L) : @LT.lt Nat _ 177 L := Nat.lt_trans (by decide) h
theorem l465 {L : Addr} (h : @LT.lt Nat _ 711 L) : @LT.lt Nat _ 465 L := Nat.lt_trans (by decide) h
theorem l526 {L : Addr} (h : @LT.lt Nat _ 711 L) : @LT.lt Nat _ 526 L := Nat.lt_trans (by decide) h
theorem off_1 {L wd : Addr} {ow o1 o4 o5 : Obj} {R : List (Addr × Obj)} (hlt : @LT.lt Nat _ 711 L) (hwd : NeAll wd ((711 : Addr) :: (177 : Addr) :: (465 : Addr) :: (526 : Addr) :: cad L)) (hoR : OwnOff R (AD L wd)) : OwnOff ((wd, ow) :: (177, o1) :: (465, o4) :: (526, o5) :: R) ((711 : Addr) :: cad L) :=
  offCons (nemem ⟨hwd.1, hwd.2.2.2.2⟩) (offCons (nemem ⟨(by dsimp only; decide), low_cad (l177 hlt)⟩) (offCons (nemem ⟨(by dsimp only; decide), low_cad (l465 hlt)⟩) (offCons (nemem ⟨(by dsimp only; decide), low_cad (l526 hlt)⟩) (OwnOff.sub hoR (by walk_at "my sub")))))
theorem off_13 {L wd : Addr} {tab o1 o4 o5 : Obj} {R : List (Addr × Obj)} (hlt : @LT.lt Nat _ 711 L) (hwd : NeAll wd ((711 : Addr) :: (177 : Addr) :: (465 : Addr) :: (526 : Addr) :: cad L)) (hoR : OwnOff R (AD L wd)) : OwnOff ((711, tab) :: (177, o1) :: (465, o4) :: (526, o5) :: R) (wd :: cad L) :=
  offCons (nemem ⟨Ne.symm hwd.1, low_cad hlt⟩) (offCons (nemem ⟨Ne.symm hwd.2.1, low_cad (l177 hlt)⟩) (offCons (nemem ⟨Ne.symm hwd.2.2.1, low_cad (l465 hlt)⟩) (offCons (nemem ⟨Ne.symm hwd.2.2.2.1, low_cad (l526 hlt)⟩) (OwnOff.sub hoR (by walk_at "my sub")))))
theorem off_14 {L wd : Addr} {tab ow o1 o5 : Obj} {R : List (Addr × Obj)} (hlt : @LT.lt Nat _ 711 L) (hwd : NeAll wd ((711 : Addr) :: (177 : Addr) :: (465 : Addr) :: (526 : Addr) :: cad L)) (hoR : OwnOff R (AD L wd)) : OwnOff ((711, tab) :: (wd, ow) :: (177, o1) :: (526, o5) :: R) ((465 : Addr) :: cad L) :=
  offCons (nemem ⟨(by dsimp only; decide), low_cad hlt⟩) (offCons (nemem ⟨hwd.2.2.1, hwd.2.2.2.2⟩) (offCons (nemem ⟨(by dsimp only; decide), low_cad (l177 hlt)⟩) (offCons (nemem ⟨(by dsimp only; decide), low_cad (l526 hlt)⟩) (OwnOff.sub hoR (by walk_at "my sub")))))
theorem off_15 {L wd : Addr} {tab ow o4 : Obj} {R : List (Addr × Obj)} (hlt : @LT.lt Nat _ 711 L) (hwd : NeAll wd ((711 : Addr) :: (177 : Addr) :: (465 : Addr) :: (526 : Addr) :: cad L)) (hoR : OwnOff R (AD L wd)) : OwnOff ((711, tab) :: (wd, ow) :: (465, o4) :: R) ((177 : Addr) :: (526 : Addr) :: cad L) :=
  offCons (nemem ⟨(by dsimp only; decide), (by dsimp only; decide), low_cad hlt⟩) (offCons (nemem ⟨hwd.2.1, hwd.2.2.2.1, hwd.2.2.2.2⟩) (offCons (nemem ⟨(by dsimp only; decide), (by dsimp only; decide), low_cad (l465 hlt)⟩) (OwnOff.sub hoR (by walk_at "my sub"))))
theorem p13 {A R : List (Addr × Obj)} {t v a b c : Addr × Obj} : ∀ p ∈ v :: (A ++ (t :: a :: b :: c :: R)), p ∈ A ++ t :: v :: a :: b :: c :: R := by walk_at "my sub"
theorem p13' {A R : List (Addr × Obj)} {t v a b c : Addr × Obj} : ∀ p ∈ A ++ t :: v :: a :: b :: c :: R, p ∈ v :: (A ++ (t :: a :: b :: c :: R)) := by walk_at "my sub"
theorem p14 {A R : List (Addr × Obj)} {t v a b c : Addr × Obj} : ∀ p ∈ b :: (A ++ (t :: v :: a :: c :: R)), p ∈ A ++ t :: v :: a :: b :: c :: R := by walk_at "my sub"
theorem p14' {A R : List (Addr × Obj)} {t v a b c : Addr × Obj} : ∀ p ∈ A ++ t :: v :: a :: b :: c :: R, p ∈ b :: (A ++ (t :: v :: a :: c :: R)) := by walk_at "my sub"
theorem p15 {A R : List (Addr × Obj)} {t v a b c : Addr × Obj} : ∀ p ∈ a :: c :: (A ++ (t :: v :: b :: R)), p ∈ A ++ t :: v :: a :: b :: c :: R := by walk_at "my sub"
theorem p15' {A R : List (Addr × Obj)} {t v a b c : Addr × Obj} : ∀ p ∈ A ++ t :: v :: a :: b :: c :: R, p ∈ a :: c :: (A ++ (t :: v :: b :: R)) := by walk_at "my sub"
theorem p18 {A R y : List (Addr × Obj)} {t v a b c : Addr × Obj} : ∀ p ∈ [t, a, b, c], p ∈ A ++ t :: ((v :: a :: b :: c :: R) ++ y) := by walk_at "my sub"
theorem s9c {w : World} {loose : List Str} {mean : ExcName → Option Value} {mg mb : Str → Option Value} {g : Heap} {L fa : Addr} {m : Str → Option Value} {s : Shared} {Q : Flow → Shared → Prop} {E : Value → Shared → Prop}
    {x rd kd x2 rd2 kd2 sd c' : Addr} {ver ver2 fo : Int} {rs rs2 : List RoleSpec} {Kv Kv2 Sv : List (Str × Value)} {sig : Str → Str} {c1 c2 c3 c4 c5 c6 c7 c8 : Obj} {rest : List (Addr × Obj)} {tb tf : Tok}
    (B : Below callerA g [] g) (F : Fr g L s.heap m) (hm5 : m (Str.ofString "follows") = some (.int fo tf)) (X : (hd.heap_1 w.params).In g) (T : Top pv loose mean mg mb g)
    (N : News g L s.heap (cells L c1 c2 c3 c4 c5 c6 c7 c8 ++ (711, tabObj #[rawInt 420, rawInt 28, .ref c']) :: rest)) (hlt : @LT.lt Nat _ 711 L) (hoff : OwnOff rest ((711 : Addr) :: (cells L c1 c2 c3 c4 c5 c6 c7 c8).map (·.1)))
    (h3 : c3.data = .cell (some (.ref x))) (h4 : c4.data = .cell (some (.ref x2))) (h5 : c5.data = .cell (some (.bytes loadB tb))) (h7 : c7.data = .cell (some (.ref sd)))
    (hR : RootOk PySem.Challenge.rw_jk0048_02.row.prog w (Led rest) x rd kd ver rs Kv) (hR2 : RootOk PySem.Challenge.rw_jk0048_02.row.prog w (Led rest) x2 rd2 kd2 ver2 rs2 Kv2) (hv0 : 0 < ver) (hv1 : ver < 100) (hv2 : ver2 = ver + fo) (hfo : fo = 0 ∨ fo = 1 ∨ fo = 2) (hsd : SDict PySem.Challenge.rw_jk0048_02.row.prog w (Led rest) sd Sv) (hS : SigsOk 101 (Led rest) Sv sig) (hst : ∀ x, sig x ∈ sigTexts)
    (hE : PassesOwn (model PySem.Challenge.rw_jk0048_02.row.prog w) (lawA L fa) (lawEnv L fa) E)
    (ret : ∀ c9 tl h' tk', Fr g L h' m → News g L h' (cells L c1 c2 c3 c4 c5 c6 c7 c8 ++ (711, tabObj #[rawInt 420, rawInt 28, .ref c', rawInt 423, rawInt 20, .ref c9]) :: (rest ++ tl)) → OwnOff tl ((cells L c1 c2 c3 c4 c5 c6 c7 c8 ++ (711, tabObj #[rawInt 420, rawInt 28, .ref c']) :: rest).map (·.1)) → Q .next { s with heap := h', toks := tk' }) :
    wpAny (model PySem.Challenge.rw_jk0048_02.row.prog w) (lawA L fa) (exec lawS9 (lawEnv L fa)) Q E s := by
  rcases hfo with h | h | h
  · exact s9b B F hm5 X T N hlt hoff h3 h4 h5 h7 hR hR2 hv0 hv1 hv2 (.inl h) hE ret
  · exact s9a B F hm5 X T N hlt hoff h3 h4 h5 h7 hR hR2 hv0 hv1 hv2 h hsd hS hst hE ret
  · exact s9b B F hm5 X T N hlt hoff h3 h4 h5 h7 hR hR2 hv0 hv1 hv2 (.inr h) hE ret
theorem s10c {w : World} {loose : List Str} {mean : ExcName → Option Value} {mg mb : Str → Option Value} {g : Heap} {L fa : Addr} {m : Str → Option Value} {s : Shared} {Q : Flow → Shared → Prop} {E : Value → Shared → Prop}
    {x rd kd x2 rd2 kd2 sd f1 f2 : Addr} {ver ver2 fo : Int} {rs rs2 : List RoleSpec} {Kv Kv2 Sv : List (Str × Value)} {sig : Str → Str} {c1 c2 c3 c4 c5 c6 c7 c8 : Obj} {rest : List (Addr × Obj)} {r1 r2 : RoleSpec} {tb tf : Tok}
    (B : Below callerA g [] g) (F : Fr g L s.heap m) (hm1 : m (Str.ofString "follows") = some (.int fo tf)) (hm2 : m (Str.ofString "first") = some (.ref f1)) (hm3 : m (Str.ofString "second") = some (.ref f2)) (X : (hd.heap_1 w.params).In g) (T : Top pv loose mean mg mb g)
    (N : News g L s.heap (cells L c1 c2 c3 c4 c5 c6 c7 c8 ++ rest)) (h3 : c3.data = .cell (some (.ref x))) (h4 : c4.data = .cell (some (.ref x2))) (h5 : c5.data = .cell (some (.bytes loadB tb))) (h7 : c7.data = .cell (some (.ref sd)))
    (hR : RootOk PySem.Challenge.rw_jk0048_02.row.prog w (Led rest) x rd kd ver rs Kv) (hR2 : RootOk PySem.Challenge.rw_jk0048_02.row.prog w (Led rest) x2 rd2 kd2 ver2 rs2 Kv2) (hv0 : 0 < ver) (hv1 : ver < 100) (hv2 : ver2 = ver + fo) (hfo : fo = 0 ∨ fo = 1 ∨ fo = 2) (hsd : SDict PySem.Challenge.rw_jk0048_02.row.prog w (Led rest) sd Sv) (hS : SigsOk 101 (Led rest) Sv sig) (hst : ∀ x, sig x ∈ sigTexts)
    (hr1 : r1 ∈ rs) (hn1 : r1.name = Str.ofString "root") (hr2 : r2 ∈ rs2) (hn2 : r2.name = Str.ofString "root")
    (hD1 : DueOk PySem.Challenge.rw_jk0048_02.row.prog w (Led rest) f1 r1.thr (signedBy Kv Sv (okS sig) true r1.names) (signedBy Kv Sv (okS sig) false r1.names)) (hD2 : DueOk PySem.Challenge.rw_jk0048_02.row.prog w (Led rest) f2 r2.thr (signedBy Kv2 Sv (okS sig) true r2.names) (signedBy Kv2 Sv (okS sig) false r2.names))
    (ret : ∀ h' tk m' tl, Fr g L h' m' → Agree ["told", "signed", "unsigned"] m' m → News g L h' (cells L c1 c2 c3 c4 c5 c6 c7 c8 ++ (rest ++ tl)) → OwnOff tl ((cells L c1 c2 c3 c4 c5 c6 c7 c8 ++ rest).map (·.1)) → Q .next { s with heap := h', toks := tk }) :
    wpAny (model PySem.Challenge.rw_jk0048_02.row.prog w) (lawA L fa) (exec lawS10 (lawEnv L fa)) Q E s := by
  rcases hfo with h | h | h
  · exact s10b B F hm1 X T N (.inl h) fun tk => ret s.heap tk m [] F .refl (by rw [List.append_nil]; exact N) fun _ h => nomatch h
  · subst h
    exact s10a B F hm1 hm2 hm3 X T N h3 h4 h5 h7 hR hR2 hv0 hv1 hv2 hsd hS hst hr1 hn1 hr2 hn2 hD1 hD2 ret
  · exact s10b B F hm1 X T N (.inr h) fun tk => ret s.heap tk m [] F .refl (by rw [List.append_nil]; exact N) fun _ h => nomatch h
example : True ∧ True := by w_top off; first | (walk1; done) | exact ⟨trivial, trivial⟩
-- U1
theorem s_rest {w : World} {loose : List Str} {mean : ExcName → Option Value} {mg mb : Str → Option Value} {g : Heap} {L fa wd rl : Addr} {m : Str → Option Value} {s : Shared} {Q K : Flow → Shared → Prop} {E : Value → Shared → Prop}
    {x rd kd x2 rd2 kd2 sd : Addr} {ver ver2 fo : Int} {rs rs2 : List RoleSpec} {Kv Kv2 Sv : List (Str × Value)} {sig : Str → Str} {c1 c2 c3 c4 c5 c6 c7 c8 ow o1 o4 o5 : Obj} {R : List (Addr × Obj)} {tb tf : Tok} {k : Nat} {vs : List Value}
    (B : Below callerA g [] g) (F : Fr g L s.heap m) (hm1 : m (Str.ofString "roles") = some (.ref rd)) (hm2 : m (Str.ofString "keys") = some (.ref kd)) (hm3 : m (Str.ofString "roles2") = some (.ref rd2)) (hm4 : m (Str.ofString "keys2") = some (.ref kd2)) (hm5 : m (Str.ofString "follows") = some (.int fo tf)) (X : (hd.heap_1 w.params).In g) (T : Top pv loose mean mg mb g)
    (N : News g L s.heap (can L c1 c2 c3 c4 c5 c6 c7 c8 (tabObj #[]) wd ow o1 o4 o5 R)) (hlt : @LT.lt Nat _ 711 L)
    (hoR : OwnOff R (AD L wd)) (hwd : NeAll wd ((711 : Addr) :: (177 : Addr) :: (465 : Addr) :: (526 : Addr) :: cad L))
    (h1 : c1.data = .cell (some (.ref wd))) (h2 : c2.data = .cell none) (h3 : c3.data = .cell (some (.ref x))) (h4 : c4.data = .cell (some (.ref x2))) (h5 : c5.data = .cell (some (.bytes loadB tb))) (h6 : c6.data = .cell none) (h7 : c7.data = .cell (some (.ref sd))) (h8 : c8.data = .cell none)
    (low : (wd == sysModules) = false) (hT1 : TabOk o1) (hT4 : TabOk o4) (hT5 : TabOk o5) (hdw : DrawsU PySem.Challenge.rw_jk0048_02.row.prog w ow rl k) (hk : k ≤ 4000) (hrl : LstOf (Led R) rl vs) (hvs : IntsIn vs 0 997) (hvl : vs.length ≤ 144)
    (hR : RootOk PySem.Challenge.rw_jk0048_02.row.prog w (Led R) x rd kd ver rs Kv) (hR2 : RootOk PySem.Challenge.rw_jk0048_02.row.prog w (Led R) x2 rd2 kd2 ver2 rs2 Kv2) (hsd : SDict PySem.Challenge.rw_jk0048_02.row.prog w (Led R) sd Sv) (hS : SigsOk 101 (Led R) Sv sig) (hst : ∀ x, sig x ∈ sigTexts)
    (hv0 : 0 < ver) (hv1 : ver < 100) (hv2 : ver2 = ver + fo) (hfo : fo = 0 ∨ fo = 1 ∨ fo = 2)
    (hE : PassesOwn (model PySem.Challenge.rw_jk0048_02.row.prog w) (lawA L fa) (lawEnv L fa) E)
    (hK : ∀ s', wpAny (model PySem.Challenge.rw_jk0048_02.row.prog w) (lawA L fa) (execs [lawS8, lawS9, lawS10, lawS11, lawS12, lawS13, lawS14, lawS15, lawS16, lawS17] (lawEnv L fa)) Q E s' → K .next s')
    (ret : ∀ s' m' tab o1' o4' o5', Rst s s' → Fr g L s'.heap m' → News g L s'.heap [(711, tab), (177, o1'), (465, o4'), (526, o5')] → TabOk tab → TabOk o1' → TabOk o4' → TabOk o5' → Q (.ret (.bool true)) s') :
    wpAny (model PySem.Challenge.rw_jk0048_02.row.prog w) (lawA L fa) (exec lawFor (lawEnv L fa)) K E s := by
  have uR : ∀ {ow o1 o4 o5 : Obj} {R : List (Addr × Obj)}, Sub (Led R) (Led ((wd, ow) :: (177, o1) :: (465, o4) :: (526, o5) :: R)) := fun {_ _ _ _ _} => Sub.mem fun p hp => .tail _ (.tail _ (.tail _ (.tail _ hp)))
  have uT : ∀ {tab ow o1 o4 o5 : Obj} {R : List (Addr × Obj)}, Sub (Led R) (Led ((711, tab) :: (wd, ow) :: (177, o1) :: (465, o4) :: (526, o5) :: R)) := fun {_ _ _ _ _ _} => Sub.mem fun p hp => .tail _ (.tail _ (.tail _ (.tail _ (.tail _ hp))))
  have hoff1 : ∀ {ow o1 o4 o5 : Obj} {R : List (Addr × Obj)}, OwnOff R (AD L wd) → OwnOff ((wd, ow) :: (177, o1) :: (465, o4) :: (526, o5) :: R) ((711 : Addr) :: cad L) := fun {_ _ _ _ _} hoR => off_1 hlt hwd hoR
  refine s_for B F hm1 hm2 hm3 hm4 X T N hlt (hoff1 hoR) h2 h3 h4 h5 h6 h7 (hR.mono uR) (hR2.mono uR) (hsd.mono uR) (hS.mono uR) hst hE ?_
  intro sA mA c2A c6A cA ocA vsA tA tlA hrA FA agA NA ofA hc2A hc6A _ _ _
  refine hK sA (wpAny_execs_cons ?_)
  obtain ⟨r1, hr1, hn1, hva1⟩ := root_role hR
  obtain ⟨r2, hr2, hn2, hva2⟩ := root_role hR2
  obtain ⟨v2A, hc2A⟩ := hc2A
  have lA : ∀ z v, z ∉ [Str.ofString "known", Str.ofString "name"] → m z = some v → mA z = some v := fun z v hz h => (agA z hz).trans h
  have hoA := OwnOff.app hoR (OwnOff.sub ofA ad_can)
  have hRA := hR.mono (Sub.appL (b := tlA)); have hR2A := hR2.mono (Sub.appL (b := tlA)); have hsdA := hsd.mono (Sub.appL (b := tlA)); have hSA := hS.mono (Sub.appL (b := tlA)); have hrlA := hrl.mono (Sub.appL (b := tlA))
  have NA : News g L sA.heap (can L c1 c2A c3 c4 c5 c6A c7 c8 (tabObj #[rawInt 420, rawInt 28, .ref cA]) wd ow o1 o4 o5 (R ++ tlA)) := NA
  generalize R ++ tlA = RA at NA hoA hRA hR2A hsdA hSA hrlA
  refine s8 B FA (lA _ _ (by decide) hm1) (lA _ _ (by decide) hm2) (lA _ _ (by decide) hm3) (lA _ _ (by decide) hm4) X T NA h7 (hRA.mono uT) (hR2A.mono uT) (hsdA.mono uT) (hSA.mono uT) hr1 hva1 hr2 hva2 ?_
  intro hB tkB mB f1 f2 tlB FB agB hf1 hf2 NB ofB hD1 hD2
  refine wpAny_execs_cons ?_
  have lB : ∀ z v, z ∉ [Str.ofString "first", Str.ofString "second"] → mA z = some v → mB z = some v := fun z v hz h => (agB z hz).trans h
  have hoB := OwnOff.app hoA (OwnOff.sub ofB ad_can)
  have hRB := hRA.mono (Sub.appL (b := tlB)); have hR2B := hR2A.mono (Sub.appL (b := tlB)); have hsdB := hsdA.mono (Sub.appL (b := tlB)); have hSB := hSA.mono (Sub.appL (b := tlB)); have hrlB := hrlA.mono (Sub.appL (b := tlB))
  have hD1 := hD1.mono (Sub.appR (a := RA)); have hD2 := hD2.mono (Sub.appR (a := RA))
  have NB : News g L hB (can L c1 c2A c3 c4 c5 c6A c7 c8 (tabObj #[rawInt 420, rawInt 28, .ref cA]) wd ow o1 o4 o5 (RA ++ tlB)) := NB
  generalize RA ++ tlB = RB at NB hoB hRB hR2B hsdB hSB hrlB hD1 hD2
  have hf5 := lB _ _ (by decide) (lA _ _ (by decide) hm5)
  refine s9c B FB hf5 X T NB hlt (hoff1 hoB) h3 h4 h5 h7 (hRB.mono uR) (hR2B.mono uR) hv0 hv1 hv2 hfo (hsdB.mono uR) (hSB.mono uR) hst hE ?_
  intro cC tlC hC tkC FC NC ofC
  refine wpAny_execs_cons ?_
  have hoC := OwnOff.app hoB (OwnOff.sub ofC ad_can)
  have hRC := hRB.mono (Sub.appL (b := tlC)); have hR2C := hR2B.mono (Sub.appL (b := tlC)); have hsdC := hsdB.mono (Sub.appL (b := tlC)); have hSC := hSB.mono (Sub.appL (b := tlC)); have hrlC := hrlB.mono (Sub.appL (b := tlC))
  have hD1 := hD1.mono (Sub.appL (b := tlC)); have hD2 := hD2.mono (Sub.appL (b := tlC))
  have NC : News g L hC (can L c1 c2A c3 c4 c5 c6A c7 c8 (tabObj #[rawInt 420, rawInt 28, .ref cA, rawInt 423, rawInt 20, .ref cC]) wd ow o1 o4 o5 (RB ++ tlC)) := NC
  generalize RB ++ tlC = RC at NC hoC hRC hR2C hsdC hSC hrlC hD1 hD2
  refine s10c B FC hf5 hf1 hf2 X T NC h3 h4 h5 h7 (hRC.mono uT) (hR2C.mono uT) hv0 hv1 hv2 hfo (hsdC.mono uT) (hSC.mono uT) hst hr1 hn1 hr2 hn2 (hD1.mono uT) (hD2.mono uT) ?_
  intro hDD tkD mD tlD FD agD ND ofD
  refine wpAny_execs_cons ?_
  have lD : ∀ z v, z ∉ [Str.ofString "told", Str.ofString "signed", Str.ofString "unsigned"] → mB z = some v → mD z = some v := fun z v hz h => (agD z hz).trans h
  have hoD := OwnOff.app hoC (OwnOff.sub ofD ad_can)
  have hRD := hRC.mono (Sub.appL (b := tlD)); have hsdD := hsdC.mono (Sub.appL (b := tlD)); have hSD := hSC.mono (Sub.appL (b := tlD)); have hrlD := hrlC.mono (Sub.appL (b := tlD)); have hD1 := hD1.mono (Sub.appL (b := tlD))
  have ND : News g L hDD (can L c1 c2A c3 c4 c5 c6A c7 c8 (tabObj #[rawInt 420, rawInt 28, .ref cA, rawInt 423, rawInt 20, .ref cC]) wd ow o1 o4 o5 (RC ++ tlD)) := ND
  generalize RC ++ tlD = RD at ND hoD hRD hsdD hSD hrlD hD1
  refine s11 B FD X T ND h3 h5 h7 (hRD.mono uT) (hsdD.mono uT) (hSD.mono uT) hst hr1 hn1 ?_
  intro hE' tkE mE va aa ba tlE FE agE hal NE ofE hIE hV1 hV2
  refine wpAny_execs_cons ?_
  have lE : ∀ z v, z ∉ [Str.ofString "alone"] → mD z = some v → mE z = some v := fun z v hz h => (agE z hz).trans h
  have hoE := OwnOff.app hoD (OwnOff.sub ofE ad_can)
  have hRE := hRD.mono (Sub.appL (b := tlE)); have hsdE := hsdD.mono (Sub.appL (b := tlE)); have hSE := hSD.mono (Sub.appL (b := tlE)); have hrlE := hrlD.mono (Sub.appL (b := tlE)); have hD1 := hD1.mono (Sub.appL (b := tlE))
  have hIE := hIE.mono (Sub.appR (a := RD)); have hV1 := hV1.mono (Sub.appR (a := RD)); have hV2 := hV2.mono (Sub.appR (a := RD))
  have NE : News g L hE' (can L c1 c2A c3 c4 c5 c6A c7 c8 (tabObj #[rawInt 420, rawInt 28, .ref cA, rawInt 423, rawInt 20, .ref cC]) wd ow o1 o4 o5 (RD ++ tlE)) := NE
  generalize RD ++ tlE = RE at NE hoE hRE hsdE hSE hrlE hD1 hIE hV1 hV2
  have q1 := names4 hR hr1
  refine s12 B FE hal (lE _ _ (by decide) (lD _ _ (by decide) hf1)) X T NE (sby_len q1.1) (sby_len q1.1) (signedBy_names q1.2) (signedBy_names q1.2) (hD1.mono uT) (hIE.mono uT) (hV1.mono uT) (hV2.mono uT) ?_
  intro hF tkF FF NF
  refine wpAny_execs_cons ?_
  generalize htab : tabObj #[rawInt 420, rawInt 28, .ref cA, rawInt 423, rawInt 20, .ref cC] = tab at NF
  have u13 : Sub (Led RE) (Led ((711, tab) :: (177, o1) :: (465, o4) :: (526, o5) :: RE)) := Sub.mem fun p hp => .tail _ (.tail _ (.tail _ (.tail _ hp)))
  refine s13 B FF X T (News.sub NF p13) hwd.2.2.2.2 (off_13 hlt hwd hoE) h1 hc2A low hdw hk (hrlE.mono u13) hvs hvl ?_
  intro sG c2G owG rd3 rs3 tlG hrG FG NG ofG hc2G hdwG hrd3 hRT3 hnm3
  refine wpAny_execs_cons ?_
  have hoG := OwnOff.app hoE (OwnOff.sub ofG fun b hb => mapSub p13' b (ad_can (tab := tab) (ow := ow) (o1 := o1) (o4 := o4) (o5 := o5) b hb))
  have hRG := hRE.mono (Sub.appL (b := tlG)); have hsdG := hsdE.mono (Sub.appL (b := tlG)); have hSG := hSE.mono (Sub.appL (b := tlG)); have hrd3 := hrd3.mono (Sub.appR (a := RE)); have hRT3 := hRT3.mono (Sub.appR (a := RE))
  have NG : News g L sG.heap (can L c1 c2G c3 c4 c5 c6A c7 c8 tab wd owG o1 o4 o5 (RE ++ tlG)) := News.sub NG p13'
  generalize RE ++ tlG = RG at NG hoG hRG hsdG hSG hrd3 hRT3
  have u14 : Sub (Led RG) (Led ((711, tab) :: (wd, owG) :: (177, o1) :: (526, o5) :: RG)) := Sub.mem fun p hp => .tail _ (.tail _ (.tail _ (.tail _ hp)))
  refine s14 B FG X T (News.sub NG p14) hlt (off_14 hlt hwd hoG) hc2G hT4 (hrd3.mono u14) (hRT3.mono u14) hnm3 ?_
  intro sH mH o4H md ps tlH hrH FH agH hmd NH ofH hT4H hmdH hDRH
  refine wpAny_execs_cons ?_
  have lH : ∀ z v, z ∉ [Str.ofString "made"] → mE z = some v → mH z = some v := fun z v hz h => (agH z hz).trans h
  have hoH := OwnOff.app hoG (OwnOff.sub ofH fun b hb => mapSub p14' b (ad_can (tab := tab) (ow := owG) (o1 := o1) (o4 := o4) (o5 := o5) b hb))
  have hRH := hRG.mono (Sub.appL (b := tlH)); have hsdH := hsdG.mono (Sub.appL (b := tlH)); have hSH := hSG.mono (Sub.appL (b := tlH)); have hrd3 := hrd3.mono (Sub.appL (b := tlH)); have hRT3 := hRT3.mono (Sub.appL (b := tlH)); have hmdH := hmdH.mono (Sub.appR (a := RG)); have hDRH := hDRH.mono (Sub.appR (a := RG))
  have NH : News g L sH.heap (can L c1 c2G c3 c4 c5 c6A c7 c8 tab wd owG o1 o4H o5 (RG ++ tlH)) := News.sub NH p14'
  generalize RG ++ tlH = RH at NH hoH hRH hsdH hSH hrd3 hRT3 hmdH hDRH
  have hkeys := lH _ _ (by decide) (lE _ _ (by decide) (lD _ _ (by decide) (lB _ _ (by decide) (lA _ _ (by decide) hm2))))
  obtain ⟨_, _, _, _, _, _, _, _, _, _, _, _, _, _, hkdH, hKH, hknH, hklH, _⟩ := id hRH
  refine s15 B FH hkeys hmd X T (News.sub NH p15) hlt (off_15 hlt hwd hoH) h8 hT1 hT5 (R0 := RH) (fun p hp => .tail _ (.tail _ (.tail _ hp))) hkdH hKH hknH hklH hmdH hDRH hRT3 hnm3 ?_
  intro sI c8I o1I o5I tg tlI hrI FI NI ofI hc8I hT1I hT5I hTg
  refine wpAny_execs_cons ?_
  have hoI := OwnOff.app hoH (OwnOff.sub ofI fun b hb => mapSub p15' b (ad_can (tab := tab) (ow := owG) (o1 := o1) (o4 := o4H) (o5 := o5) b hb))
  have hsdI := hsdH.mono (Sub.appL (b := tlI)); have hSI := hSH.mono (Sub.appL (b := tlI)); have hrd3 := hrd3.mono (Sub.appL (b := tlI)); have hRT3 := hRT3.mono (Sub.appL (b := tlI)); have hkdI := hkdH.mono (Sub.appL (b := tlI))
  have NI : News g L sI.heap (can L c1 c2G c3 c4 c5 c6A c7 c8I tab wd owG o1I o4H o5I (RH ++ tlI)) := News.sub NI p15'
  generalize RH ++ tlI = RI at NI hoI hsdI hSI hrd3 hRT3 hkdI hTg
  rw [← putBack hkeys] at FI
  refine s16 (m := mH) B FI X T NI hc2G h5 hc8I h7 (hTg.mono uT) (hrd3.mono uT) (hRT3.mono uT) (hkdI.mono uT) hnm3 (hsdI.mono uT) (hSI.mono uT) hst hE ?_
  intro sJ mJ tlJ hrJ FJ _ NJ ofJ
  refine wpAny_execs_cons ?_
  have hoJ := OwnOff.app hoI (OwnOff.sub ofJ ad_can)
  have NJ : News g L sJ.heap (can L c1 c2G c3 c4 c5 c6A c7 c8I tab wd owG o1I o4H o5I (RI ++ tlJ)) := NJ
  have hTg := hTg.mono (Sub.appL (b := tlJ))
  generalize RI ++ tlJ = RJ at NJ hoJ hTg
  subst htab
  refine s17 B FJ X T NJ hlt (hoff1 hoJ) h5 h7 hc8I (hTg.mono uR) hE ?_
  intro c0 tlK hK' tkK FK NK
  have r1 : Rst s sG := Rst.trans hrA ⟨hrG.1, hrG.2⟩
  have r2 : Rst s sI := Rst.trans r1 (Rst.trans hrH hrI)
  exact ret _ _ _ o1I o4H o5I (Rst.trans r2 ⟨hrJ.1, hrJ.2⟩) FK (News.sub NK p18) ⟨_, rfl, trivial⟩ hT1I hT4H hT5I
-- P21
example : True := by
  k_with "!subscriptTail" => (k_here; (walk_at "my gi"); (refine itemMenu5 (by walk_at "my nl") (by omega) (by omega) ?_); intros)
  trivial

section -- group P40
local macro_rules | `(tactic| k_lt $h:ident) => `(tactic| (replace $h := allLt_of $h; simp only [AllLt, and_true] at $h:ident))
local macro_rules | `(tactic| k_ne) => `(tactic| k_extra "!P40 k_ne")
example : True := by
  k_with "!P40 k_ne" => ((try dsimp only); first
    | exact neL (ltL (by with_reducible assumption) (by walk_at "my mm"))
    | exact neR (ltL (by with_reducible assumption) (by walk_at "my mm"))
    | walk_at "my pr"
    | (refine Ne.symm ?_; walk_at "my pr")
    | (refine neL ?_; first | walk_at "my pr" | walk_at "my lle" | walk_at "my up")
    | (refine neR ?_; first | walk_at "my pr" | walk_at "my lle" | walk_at "my up")
    | (refine neN ?_; omega))
  trivial

example : True ∧ True := by w_top off; first | (walk1; done) | exact ⟨trivial, trivial⟩
section -- Z4
local macro_rules | `(tactic| walk_at "exec For Tuple Tuple cons nil") => `(tactic| walk_at "my H")
theorem pz {A R : List (Addr × Obj)} {l t v a b c r : Addr × Obj} : ∀ p ∈ A ++ t :: v :: a :: b :: c :: r :: R, p ∈ l :: (A ++ (t :: a :: b :: c :: v :: r :: R)) := by walk_at "my sub"
theorem post9 (args : List WData) : (PySem.Challenge.rw_jk0048_02).row.toRowW.claim.post args (.bool true) args = true :=
  postW_of (r := (PySem.Challenge.rw_jk0048_02).row.toRowW) (X := true == true) (by rfl) (by exact w_eq_bool (w_res rfl) w_lit) rfl
theorem neSub {a : Addr} {l l' : List Addr} (h : NeAll a l) (s : ∀ b ∈ l', b ∈ l) : ∀ b ∈ l', a ≠ b := fun b hb => nemem h b (s b hb)
theorem offAll {tl : List (Addr × Obj)} {l : List Addr} {b : Addr} (o : OwnOff tl l) (m : b ∈ l) : ∀ p ∈ tl, p.1 ≠ b := fun p hp => o p hp b m
set_option hygiene false
local macro_rules | `(tactic| walk_at "my uq") => `(tactic| ((repeat (first | with_reducible assumption | exact Nat.lt_succ_self _ | with_reducible refine Nat.lt_succ_of_lt ?_)); done))
local macro_rules | `(tactic| k_ne) => `(tactic| ((try dsimp only); first
  | with_reducible assumption
  | exact Ne.symm (by with_reducible assumption)
  | (refine neL ?_; walk_at "my uq")
  | (refine neR ?_; walk_at "my uq")
  | exact nemem (by with_reducible assumption) _ (by walk_at "my mem")
  | exact Ne.symm (nemem (by with_reducible assumption) _ (by walk_at "my mem"))
  | decide))
local macro_rules | `(tactic| k_all) => `(tactic| exact offAll (by with_reducible assumption) (by walk_at "my mem"))
set_option hygiene true
theorem z4.tw357486453476387696 : True := .intro
theorem z4.tw6901756815901495085 : True := .intro
theorem z4.tw17326586937076621943 : True := .intro
theorem z4.tw14325803318444786505 : True := .intro
theorem z4.tw13478197870710415288 : True := .intro
theorem z4.tw10751780003949411278 : True := .intro
theorem z4.tw274047420093191056 : True := .intro
theorem z4.tw11011557005195377906 : True := .intro
theorem z4.tw5260973426680975934 : True := .intro
theorem z4.tw7885806072048249191 : True := .intro
theorem z4.tw6445637130481608960 : True := .intro
theorem z4.tw8081593748619899744 : True := .intro
theorem z4.tw14614750933339961424 : True := .intro
theorem z4.tw5231208795663875009 : True := .intro
theorem z4.tw501848734134994009 : True := .intro
theorem z4.tw8239021129137874753 : True := .intro
theorem z4.tw5509742047274791858 : True := .intro
theorem z4.tw16397313666410330224 : True := .intro
theorem z4.tw11051340382231342347 : True := .intro
theorem z4.tw2085099904304853238 : True := .intro
theorem z4.tw8147455102693530828 : True := .intro
theorem z4.tw17211114080592350620 : True := .intro
theorem z4.tw8158422547231740859 : True := .intro
theorem z4.tw8943063407739680668 : True := .intro
theorem z4.tw5674009687216505247 : True := .intro
theorem z4.tw14746016771878228131 : True := .intro
theorem z4.tw1197264890451786004 : True := .intro
theorem z4.tw16521032273938709509 : True := .intro
theorem z4.tw4153943365241419054 : True := .intro
theorem z4.tw7365584250340426135 : True := .intro
theorem z4.tw2681537158330307455 : True := .intro
theorem z4.tw4297177639196445491 : True := .intro
theorem z4.tw1848118986907622487 : True := .intro
theorem z4.tw5760474070360288205 : True := .intro
theorem z4.tw14050694408269643968 : True := .intro
theorem z4.tw178990912015036863 : True := .intro
theorem z4.tw5201241357425809357 : True := .intro
theorem z4.tw17247725523732332618 : True := .intro
theorem z4.tw16725122227498604573 : True := .intro
theorem z4.tw4729580420037082256 : True := .intro
theorem z4.tw1527223176643551730 : True := .intro
theorem z4.tw9901597763475847933 : True := .intro
theorem z4.tw3084702229320058188 : True := .intro
theorem z4.tw6074683829980198278 : True := .intro
theorem z4.tw11118919074989241467 : True := .intro
theorem z4.tw14423184408340687571 : True := .intro
theorem z4.tw6120756597604355778 : True := .intro
theorem z4.tw1537784147896285590 : True := .intro
theorem z4.tw2004840942161127855 : True := .intro
theorem z4.tw2456052365655287467 : True := .intro
theorem z4.tw7775157863487824770 : True := .intro
theorem z4.tw10292122581319744577 : True := .intro
theorem z4.tw16371916551043390080 : True := .intro
theorem z4.tw4705314498236599916 : True := .intro
theorem z4.tw3073847708324265046 : True := .intro
theorem z4.tw14990607961423471147 : True := .intro
theorem z4.tw15558555558122440270 : True := .intro
theorem z4.tw6120425119505450889 : True := .intro
theorem z4.tw6798285392575865872 : True := .intro
theorem z4.tw3857743447152419328 : True := .intro
theorem z4.tw9661019346820011392 : True := .intro
theorem z4.tw10096184675063063765 : True := .intro
theorem z4.tw6234472727230909157 : True := .intro
theorem z4.tw12346431138805088758 : True := .intro
theorem z4.tw10651437879270027276 : True := .intro
theorem z4.tw12029625131143226207 : True := .intro
theorem z4.tw14168940676926103488 : True := .intro
theorem z4.tw8840025482048126490 : True := .intro
theorem z4.tw5683357135431938591 : True := .intro
theorem z4.tw16461888733738936474 : True := .intro
theorem z4.tw4527656561843210471 : True := .intro
theorem z4.tw8419846545666687835 : True := .intro
theorem z4.tw1893517385280223875 : True := .intro
theorem z4.tw14287965750205456279 : True := .intro
theorem z4.tw1068691684781599303 : True := .intro
theorem z4.tw8667752664588350708 : True := .intro
theorem z4.tw9323303972081374642 : True := .intro
theorem z4.tw8789020743317999586 : True := .intro
theorem z4.tw12189203078803188708 : True := .intro
theorem z4.tw4944830982914608555 : True := .intro
theorem z4.tw9022586634719318287 : True := .intro
theorem z4.tw11002351259355006682 : True := .intro
theorem z4.tw15660639747394489309 : True := .intro
theorem z4.tw4275464770447153953 : True := .intro
theorem z4.tw10431765193803219287 : True := .intro
theorem z4.tw3343395819886882110 : True := .intro
theorem z4.tw5192839264974642469 : True := .intro
theorem z4.tw12246187381006582038 : True := .intro
theorem z4.tw10604784935004893934 : True := .intro
theorem z4.tw184871281300263090 : True := .intro
theorem z4.tw4386802894624812504 : True := .intro
theorem z4.tw18211326894588156499 : True := .intro
theorem z4.tw7057645383714317784 : True := .intro
theorem z4.tw10884727546226116528 : True := .intro
theorem z4.tw16111877814610640384 : True := .intro
theorem z4.tw13241079784902785663 : True := .intro
theorem z4.tw15028248805751306779 : True := .intro
theorem z4.tw14038261332202959056 : True := .intro
theorem z4.tw1760258873606149517 : True := .intro
theorem z4.tw17978020616762915635 : True := .intro
theorem z4.tw17461467254774379846 : True := .intro
theorem z4.tw1580844971268917367 : True := .intro
theorem z4.tw3753127617443546944 : True := .intro
theorem z4.tw242646264071176788 : True := .intro
theorem z4.tw16701698185549302720 : True := .intro
theorem z4.tw4176905712899630726 : True := .intro
theorem z4.tw14160391687621669090 : True := .intro
theorem z4.tw11444787854182074264 : True := .intro
theorem z4.tw12794616600319911153 : True := .intro
theorem z4.tw1604695047191023438 : True := .intro
theorem z4.tw6375971491555050267 : True := .intro
theorem z4.tw6893903157210217511 : True := .intro
theorem z4.tw5475738996321445380 : True := .intro
theorem z4.tw1250633700902075724 : True := .intro
theorem z4.tw16536839745870650492 : True := .intro
theorem z4.tw797947904606931806 : True := .intro
theorem z4.tw2435545169222028856 : True := .intro
theorem z4.tw7968361710468403171 : True := .intro
theorem z4.tw17959952673068572433 : True := .intro
theorem z4.tw17828237328566836614 : True := .intro
theorem z4.tw17128946118931081633 : True := .intro
theorem z4.tw11693149051772947974 : True := .intro
theorem z4.tw8383007906010527739 : True := .intro
theorem z4.tw278829412139607160 : True := .intro
theorem z4.tw11292562995654308552 : True := .intro
theorem z4.tw4233908743705597500 : True := .intro
theorem z4.tw17485340481210572762 : True := .intro
theorem z4.tw10818921843336829312 : True := .intro
theorem z4.tw17715129218116524106 : True := .intro
theorem z4.tw8785135803365503019 : True := .intro
theorem z4.tw11514469220152214732 : True := .intro
theorem z4.tw12135172695630899971 : True := .intro
theorem z4.tw9773828802873837862 : True := .intro
theorem z4.tw7827915065402601134 : True := .intro
theorem z4.tw15419773849846981591 : True := .intro
theorem z4.tw5937940539752901799 : True := .intro
theorem z4.tw15680177645667295192 : True := .intro
theorem z4.tw2163712382967702440 : True := .intro
theorem z4.tw9708602009450913314 : True := .intro
theorem z4.tw7690433668341527461 : True := .intro
theorem z4.tw16389878557693560159 : True := .intro
theorem z4.tw300669217196677383 : True := .intro
theorem z4.tw8190008702642879129 : True := .intro
theorem z4.tw9916103151316917480 : True := .intro
theorem z4.tw8466981015638095061 : True := .intro
theorem z4.tw3312515117474076905 : True := .intro
theorem z4.tw4945000062133985217 : True := .intro
theorem z4.tw8951319025343316136 : True := .intro
theorem z4.tw12795489998394572708 : True := .intro
theorem z4.tw349389862248468527 : True := .intro
theorem z4.tw19328354824180908 : True := .intro
theorem z4.tw13579056533035263209 : True := .intro
theorem z4.tw8669189780204843222 : True := .intro
theorem z4.tw2572708405429341133 : True := .intro
theorem z4.tw7938439692744420286 : True := .intro
theorem z4.tw13522111850734841780 : True := .intro
theorem z4.tw7404318815724226651 : True := .intro
theorem z4.tw10401515736593481425 : True := .intro
theorem z4.tw8536495479526905529 : True := .intro
theorem z4.tw17087740790071971243 : True := .intro
theorem z4.tw36875495441196509 : True := .intro
theorem z4.tw6071346215891787043 : True := .intro
theorem z4.tw14023593658932899650 : True := .intro
theorem z4.tw14411287949515789648 : True := .intro
theorem z4.tw3743148561478943993 : True := .intro
theorem z4.tw9019452253575585685 : True := .intro
theorem z4.tw10713402106848848885 : True := .intro
theorem z4.tw8193721765056288498 : True := .intro
theorem z4.tw10478381490654699211 : True := .intro
theorem z4.tw4622539489578857224 : True := .intro
theorem z4.tw14817022698346018149 : True := .intro
theorem z4.tw12379367434086699453 : True := .intro
theorem z4.tw10375281454976882512 : True := .intro
theorem z4.tw14043446379637482273 : True := .intro
theorem z4.tw7775131953591944156 : True := .intro
theorem z4.tw5369479870678862254 : True := .intro
theorem z4.tw861708376126732211 : True := .intro
theorem z4.tw13423554405259221055 : True := .intro
theorem z4.tw351499869675197682 : True := .intro
theorem z4.tw13546328962979901115 : True := .intro
theorem z4.tw12937720657849138215 : True := .intro
theorem z4.tw6942430974079268997 : True := .intro
theorem z4.tw8475233787928808815 : True := .intro
theorem z4.tw13768107401659538657 : True := .intro
theorem z4.tw3729268791671962287 : True := .intro
theorem z4.tw16873783301077696548 : True := .intro
theorem z4.tw8637969393327628357 : True := .intro
theorem z4.tw10902082869219322587 : True := .intro
theorem z4.tw1667961980921350684 : True := .intro
theorem z4.tw1970168735755500221 : True := .intro
theorem z4.tw12647808486145445883 : True := .intro
theorem z4.tw8683262049303694100 : True := .intro
theorem z4.tw16441156194724470640 : True := .intro
theorem z4.tw4655147202638516762 : True := .intro
theorem z4.tw18126623968807593449 : True := .intro
theorem z4.tw369502588407235795 : True := .intro
theorem z4.tw14460969525013379065 : True := .intro
theorem z4.tw14145531994305331816 : True := .intro
theorem z4.tw3825658163054494569 : True := .intro
theorem z4.tw17625158126159953792 : True := .intro
theorem z4.tw15970694963024967238 : True := .intro
theorem z4.tw2748529710864349569 : True := .intro
theorem z4.tw8993060922610112379 : True := .intro
theorem z4.tw2395310736791797756 : True := .intro
theorem z4.tw6631816477278437452 : True := .intro
theorem z4.tw8829796811721476713 : True := .intro
theorem z4.tw14559430658449203437 : True := .intro
theorem z4.tw11198415233605033915 : True := .intro
theorem z4.tw4622974736050243721 : True := .intro
theorem z4.tw6544657471072566692 : True := .intro
theorem z4.tw3744950053167025806 : True := .intro
theorem z4.tw13089150552775513866 : True := .intro
theorem z4.tw18352430919934391151 : True := .intro
theorem z4.tw10476115974300233143 : True := .intro
theorem z4.tw8822150981032927859 : True := .intro
theorem z4.tw5696619617313687578 : True := .intro
theorem z4.tw11372564804838650121 : True := .intro
theorem z4.tw9393871616895424976 : True := .intro
theorem z4.tw1536066273411921415 : True := .intro
theorem z4.tw4950591629695750329 : True := .intro
theorem z4.tw11343473622985439468 : True := .intro
theorem z4.tw9163100960116830769 : True := .intro
theorem z4.tw5029901404243712895 : True := .intro
theorem z4.tw11892938254678734265 : True := .intro
theorem z4.tw3729549245906995277 : True := .intro
theorem z4.tw18117997093471707193 : True := .intro
theorem z4.tw7740421594174951757 : True := .intro
theorem z4.tw7181410314832267079 : True := .intro
theorem z4.tw4927271917986563630 : True := .intro
theorem z4.tw427485971996319124 : True := .intro
theorem z4.tw8298970541913478384 : True := .intro
theorem z4.tw16212863035050175498 : True := .intro
theorem z4.tw15028339061751192790 : True := .intro
theorem z4.tw3484881955728676486 : True := .intro
theorem z4.tw4807538596123616071 : True := .intro
theorem z4.tw8298984166794388968 : True := .intro
theorem z4.tw9563759154703953877 : True := .intro
theorem z4.tw5314409061856017506 : True := .intro
theorem z4.tw7252059558443306736 : True := .intro
theorem z4.tw8807628118656683359 : True := .intro
theorem z4.tw7817026867648061976 : True := .intro
theorem z4.tw9731362888025084976 : True := .intro
theorem z4.tw342347489691724568 : True := .intro
theorem z4.tw16136508800371986998 : True := .intro
theorem z4.tw18163534973229502013 : True := .intro
theorem z4.tw8068831244146864389 : True := .intro
theorem z4.tw15617717726248827156 : True := .intro
theorem z4.tw9429168670921402299 : True := .intro
theorem z4.tw12351461371428148689 : True := .intro
theorem z4.tw16159431398652157972 : True := .intro
theorem z4.tw11754973774776096841 : True := .intro
theorem z4.tw9066490727035049838 : True := .intro
theorem z4.tw16503953459936772852 : True := .intro
theorem z4.tw5772841514126642143 : True := .intro
theorem z4.tw7081816711858885183 : True := .intro
theorem z4.tw6193468565777503533 : True := .intro
theorem z4.tw8670270446472444624 : True := .intro
theorem z4.tw10993701581999237198 : True := .intro
theorem z4.tw9295874791931544017 : True := .intro
theorem z4.tw11883955851087573571 : True := .intro
theorem z4.tw5855013328430744336 : True := .intro
theorem z4.tw14279029413842938040 : True := .intro
theorem z4.tw14818571157367103677 : True := .intro
theorem z4.tw7261722212552637451 : True := .intro
theorem z4.tw3647356778018174205 : True := .intro
theorem z4.tw17105169664965085967 : True := .intro
theorem z4.tw11276018529072908918 : True := .intro
theorem z4.tw5135514196629983168 : True := .intro
theorem z4.tw4624670777883157782 : True := .intro
theorem z4.tw4028093737273439386 : True := .intro
theorem z4.tw18224621663082819463 : True := .intro
theorem z4.tw8863104833447661773 : True := .intro
theorem z4.tw16426804423274312859 : True := .intro
theorem z4.tw4501351278146990176 : True := .intro
theorem z4.tw11218621711489843228 : True := .intro
theorem z4.tw4904952926298813914 : True := .intro
theorem z4.tw6884584940220046649 : True := .intro
theorem z4.tw10623862911593575584 : True := .intro
theorem z4.tw4643624550347958426 : True := .intro
theorem z4.tw1549184134333672296 : True := .intro
theorem z4.tw1867856068702791276 : True := .intro
theorem z4.tw5859633744320633922 : True := .intro
theorem z4.tw13872584699793579051 : True := .intro
theorem z4.tw3992345320209230902 : True := .intro
theorem z4.tw55573719350763373 : True := .intro
theorem z4.tw7871916703918596834 : True := .intro
theorem z4.tw13143834517718725951 : True := .intro
theorem z4.tw3586792538402699896 : True := .intro
theorem z4.tw2514840233314034904 : True := .intro
theorem z4.tw14772246896895275043 : True := .intro
theorem z4.tw4015064493090216674 : True := .intro
theorem z4.tw4031270828169478701 : True := .intro
theorem z4.tw15722374694642806391 : True := .intro
theorem z4.tw18098436948684940962 : True := .intro
theorem z4.tw12052184150571927382 : True := .intro
theorem z4.tw14622925420080641025 : True := .intro
theorem z4.tw6666522185381057407 : True := .intro
theorem z4.tw3567052650416593919 : True := .intro
theorem z4.tw2295493997223761353 : True := .intro
theorem z4.tw11894977264731477130 : True := .intro
theorem z4.tw5113486457538796464 : True := .intro
theorem z4.tw3582211822338079057 : True := .intro
theorem z4.tw983810180607474471 : True := .intro
theorem z4.tw18100288430490661601 : True := .intro
theorem z4.tw11910465036759225505 : True := .intro
theorem z4.tw6197869147999682463 : True := .intro
theorem z4.tw12318111689666259826 : True := .intro
theorem z4.tw6736234212516544951 : True := .intro
theorem z4.tw5123628419672568737 : True := .intro
theorem z4.tw13701443687598417341 : True := .intro
theorem z4.tw1578123624098494478 : True := .intro
theorem z4.tw3393493648656810954 : True := .intro
theorem z4.tw11262427944336922177 : True := .intro
theorem z4.tw11997119717314636331 : True := .intro
theorem z4.tw13789263301894008172 : True := .intro
theorem z4.tw2981786595252819559 : True := .intro
theorem z4.tw11867623406220683711 : True := .intro
theorem z4.tw10995871921845975879 : True := .intro
theorem z4.tw17250035212876937748 : True := .intro
theorem z4.tw5472091237281931892 : True := .intro
theorem z4.tw11751570658032668950 : True := .intro
theorem z4.tw14570616851200986787 : True := .intro
theorem z4.tw18332762067699439356 : True := .intro
theorem z4.tw4459790346485361649 : True := .intro
theorem z4.tw7385351416533544742 : True := .intro
theorem z4.tw3930402035606080258 : True := .intro
theorem z4.tw4703114153138019993 : True := .intro
theorem z4.tw6934864609883378583 : True := .intro
theorem z4.tw13614159756282756197 : True := .intro
theorem z4.tw2377056488395283177 : True := .intro
theorem z4.tw6547700752501870905 : True := .intro
theorem z4.tw2522934633212776530 : True := .intro
theorem z4.tw3388710877751187687 : True := .intro
theorem z4.tw477469903231640232 : True := .intro
theorem z4.tw3461762508111818220 : True := .intro
theorem z4.tw976518176754419844 : True := .intro
theorem z4.tw17958921646876560182 : True := .intro
theorem z4.tw5818729683279800287 : True := .intro
theorem z4.tw14797666293674958021 : True := .intro
theorem z4.tw9588467239693619812 : True := .intro
theorem z4.tw1363787416841305962 : True := .intro
theorem z4.tw8463724337028902480 : True := .intro
theorem z4.tw10108966149353259773 : True := .intro
theorem z4.tw11335811435545403678 : True := .intro
theorem z4.tw6294095661782071641 : True := .intro
theorem z4.tw16906266978807427265 : True := .intro
theorem z4.tw1721056204494111404 : True := .intro
theorem z4.tw6247524153613750852 : True := .intro
theorem z4.tw14846714592494820828 : True := .intro
theorem z4.tw365079828290949246 : True := .intro
theorem z4.tw10552459985971852020 : True := .intro
theorem z4.tw17580284073253218913 : True := .intro
theorem z4.tw8919883933525333960 : True := .intro
theorem z4.tw17710966337204914702 : True := .intro
theorem z4.tw8009674077524392391 : True := .intro
theorem z4.tw14963452851474192543 : True := .intro
theorem z4.tw673604026516967028 : True := .intro
theorem z4.tw15068047475259704282 : True := .intro
theorem z4.tw6284254703534840613 : True := .intro
theorem z4.tw10408248409290495422 : True := .intro
theorem z4.tw8579020631016268589 : True := .intro
theorem z4.tw10202150490667266758 : True := .intro
theorem z4.tw14163732852734131787 : True := .intro
theorem z4.tw13355858783617016799 : True := .intro
theorem z4.tw8562672097783913001 : True := .intro
theorem z4.tw2797821357534186382 : True := .intro
theorem z4.tw7286572461810054831 : True := .intro
theorem z4.tw3265281176325670885 : True := .intro
theorem z4.tw3170406380992808190 : True := .intro
theorem z4.tw12665697431482152712 : True := .intro
theorem z4.tw8092147702917063823 : True := .intro
theorem z4.tw13022631638730257336 : True := .intro
theorem z4.tw1223075150260883904 : True := .intro
theorem z4.tw15468018489444599673 : True := .intro
theorem z4.tw11848906681655000667 : True := .intro
theorem z4.tw9746253948023803920 : True := .intro
theorem z4.tw15742204207407332704 : True := .intro
theorem z4.tw92043913689552109 : True := .intro
theorem z4.tw10746755151365959050 : True := .intro
theorem z4.tw8462830224930579160 : True := .intro
theorem z4.tw12950319168028792658 : True := .intro
theorem z4.tw13917836789816698461 : True := .intro
theorem z4.tw10022384025594284258 : True := .intro
theorem z4.tw10365214130527165331 : True := .intro
theorem z4.tw5459816028965405892 : True := .intro
theorem z4.tw15080973877472771672 : True := .intro
theorem z4.tw12697698514371342262 : True := .intro
theorem z4.tw426263544932584068 : True := .intro
theorem z4.tw10676479777805165946 : True := .intro
theorem z4.tw2037196045900532766 : True := .intro
theorem z4.tw13573605236385980110 : True := .intro
theorem z4.tw12720272777135589569 : True := .intro
theorem z4.tw17960907427785969522 : True := .intro
theorem z4.tw10011974068021846515 : True := .intro
theorem z4.tw2583613080231201840 : True := .intro
theorem z4.tw2316191207614671874 : True := .intro
theorem z4.tw9562489703045708760 : True := .intro
theorem z4.tw5221828697293439757 : True := .intro
theorem z4.tw1695640738174674832 : True := .intro
theorem z4.tw9560290969378610520 : True := .intro
theorem z4.tw7504783702023888882 : True := .intro
theorem z4.tw15842811228095081510 : True := .intro
theorem z4.tw349776655294245174 : True := .intro
theorem z4.tw9138849419414519991 : True := .intro
theorem z4.tw5065125534022299753 : True := .intro
theorem z4.tw3170638107015414839 : True := .intro
theorem z4.tw10690979208637031988 : True := .intro
theorem z4.tw4106399466551149614 : True := .intro
theorem z4.tw17684319900359755031 : True := .intro
theorem z4.tw10669097930580388821 : True := .intro
theorem z4.tw11678502529437786106 : True := .intro
theorem z4.tw5329318792002556375 : True := .intro
theorem z4.tw14710246183592889628 : True := .intro
theorem z4.tw12729016782416489095 : True := .intro
theorem z4.tw1004263326927257071 : True := .intro
theorem z4.tw5379518961315583984 : True := .intro
theorem z4.tw12659424223300964218 : True := .intro
theorem z4.tw6151214078707170156 : True := .intro
theorem z4.tw3701163121016929998 : True := .intro
theorem z4.tw9257886465563942613 : True := .intro
theorem z4.tw9394964800500560067 : True := .intro
theorem z4.tw15040612725713398791 : True := .intro
theorem z4.tw12421307455505056921 : True := .intro
theorem z4.tw10259110258160578161 : True := .intro
theorem z4.tw12603318934582162544 : True := .intro
theorem z4.tw11203070529500377089 : True := .intro
theorem z4.tw10101873815445680369 : True := .intro
theorem z4.tw11218911167603129290 : True := .intro
theorem z4.tw13962446841492687519 : True := .intro
theorem z4.tw18193001890909655728 : True := .intro
theorem z4.tw16633512517576168015 : True := .intro
theorem z4.tw12667674642279702209 : True := .intro
theorem z4.tw3331403169924094521 : True := .intro
theorem z4.tw13166945421535230528 : True := .intro
theorem z4.tw14491440048667327659 : True := .intro
theorem z4.tw4416357818498218522 : True := .intro
theorem z4.tw5965625673478915691 : True := .intro
theorem z4.tw5896131734534974296 : True := .intro
theorem z4.tw6951037345217090009 : True := .intro
theorem z4.tw17647925244658688471 : True := .intro
theorem z4.tw9339673510764667038 : True := .intro
theorem z4.tw9074778508163339704 : True := .intro
theorem z4.tw4404222586983894011 : True := .intro
theorem z4.tw4481641478108176687 : True := .intro
theorem z4.tw6450478296475769624 : True := .intro
theorem z4.tw341964996634610416 : True := .intro
theorem z4.tw15712631810261399122 : True := .intro
theorem z4.tw7350157065282520582 : True := .intro
theorem z4.tw9483623227733278817 : True := .intro
theorem z4.tw999128518235543750 : True := .intro
theorem z4.tw14575265837215037287 : True := .intro
theorem z4.tw4997779785339647931 : True := .intro
theorem z4.tw7537052821166781329 : True := .intro
theorem z4.tw17312363244306695797 : True := .intro
theorem z4.tw6922638929879909482 : True := .intro
theorem z4.tw6466189468800620217 : True := .intro
theorem z4.tw8485547367913366605 : True := .intro
theorem z4.tw9122012837678108209 : True := .intro
theorem z4.tw2973385009094303718 : True := .intro
theorem z4.tw2516004901335077854 : True := .intro
theorem z4.tw12774604391180961732 : True := .intro
theorem z4.tw4295338323782509702 : True := .intro
theorem z4.tw4924548465503800329 : True := .intro
theorem z4.tw18045412672053652297 : True := .intro
theorem z4.tw6006637332581949869 : True := .intro
theorem z4.tw3656933047483020625 : True := .intro
theorem z4.tw9506239460195665849 : True := .intro
theorem z4.tw5273794628303666082 : True := .intro
theorem z4.tw16265130691158163149 : True := .intro
theorem z4.tw14796599566306685613 : True := .intro
theorem z4.tw1935511455795457384 : True := .intro
theorem z4.tw17940587589356947253 : True := .intro
theorem z4.tw6077183512115112375 : True := .intro
theorem z4.tw14208371451802444074 : True := .intro
theorem z4.tw5849366672013786978 : True := .intro
theorem z4.tw8561645208882801312 : True := .intro
theorem z4.tw10004345576632820933 : True := .intro
theorem z4.tw16693853986298533634 : True := .intro
theorem z4.tw5521988172615463660 : True := .intro
theorem z4.tw12984955290436728609 : True := .intro
theorem z4.tw14744816468985953458 : True := .intro
theorem z4.tw12829298215136208892 : True := .intro
theorem z4.tw2254822522429638756 : True := .intro
theorem z4.tw4539632698955845917 : True := .intro
theorem z4.tw17858835768048463530 : True := .intro
theorem z4.tw5936871891727035289 : True := .intro
theorem z4.tw10097364290936734151 : True := .intro
theorem z4.tw5328006836074824532 : True := .intro
theorem z4.tw2475393669406689535 : True := .intro
theorem z4.tw6369860087583181699 : True := .intro
theorem z4.tw10455502527541125078 : True := .intro
theorem z4.tw6346442368089456791 : True := .intro
theorem z4.tw5034210645135977423 : True := .intro
theorem z4.tw17493170282685881400 : True := .intro
theorem z4.tw2733594170753901319 : True := .intro
theorem z4.tw8581942432135878744 : True := .intro
theorem z4.tw11736474310892639855 : True := .intro
theorem z4.tw17879028534171472308 : True := .intro
theorem z4.tw14455839994952600018 : True := .intro
theorem z4.tw12302135438633892880 : True := .intro
theorem z4.tw290575100953458834 : True := .intro
theorem z4.tw14007414899773024401 : True := .intro
theorem z4.tw868672917843633803 : True := .intro
theorem z4.tw1202227247361632136 : True := .intro
theorem z4.tw889907815964251714 : True := .intro
theorem z4.tw9971002815532300840 : True := .intro
theorem z4.tw15877399793819457052 : True := .intro
theorem z4.tw1798306409387079072 : True := .intro
theorem z4.tw9572406283810111849 : True := .intro
theorem z4.tw15537725381879435642 : True := .intro
theorem z4.tw5342709170434482867 : True := .intro
theorem z4.tw8870293414690194267 : True := .intro
theorem z4.tw6091603466026899109 : True := .intro
theorem z4.tw2357430463957842653 : True := .intro
theorem z4.tw13532162708591299032 : True := .intro
theorem z4.tw3011732836200491753 : True := .intro
theorem z4.tw3468813441862604562 : True := .intro
theorem z4.tw13816903476356438849 : True := .intro
theorem z4.tw4094028612388448267 : True := .intro
theorem z4.tw13730386549520358749 : True := .intro
theorem z4.tw17831217510594556237 : True := .intro
theorem z4.tw8680369804935328903 : True := .intro
theorem z4.tw15117261401368627276 : True := .intro
theorem z4.tw10218569742779035453 : True := .intro
theorem z4.tw8462777835703456149 : True := .intro
theorem z4.tw3622357453534165320 : True := .intro
theorem z4.tw16496873076718232420 : True := .intro
theorem z4.tw119695764214458598 : True := .intro
theorem z4.tw14687539723292116834 : True := .intro
theorem z4.tw3052230183609575031 : True := .intro
theorem z4.tw16916469076983190309 : True := .intro
theorem z4.tw14801817834931083064 : True := .intro
theorem z4.tw11164061018504639895 : True := .intro
theorem z4.tw16263149669020298151 : True := .intro
theorem z4.tw13581490973591659612 : True := .intro
theorem z4.tw11432049580390581266 : True := .intro
theorem z4.tw10698685892377862082 : True := .intro
theorem z4.tw3790082904192871158 : True := .intro
theorem z4.tw13698242431304911427 : True := .intro
theorem z4.tw6306364512337588325 : True := .intro
theorem z4.tw15877717541618328280 : True := .intro
theorem z4.tw5090927846818676475 : True := .intro
theorem z4.tw17026401997687057191 : True := .intro
theorem z4.tw3091132401850460139 : True := .intro
theorem z4.tw11387736519019285090 : True := .intro
theorem z4.tw13581825885015268624 : True := .intro
theorem z4.tw12400675415349935368 : True := .intro
theorem z4.tw3253146142590034855 : True := .intro
theorem z4.tw8489790389971495732 : True := .intro
theorem z4.tw4031339011964278152 : True := .intro
theorem z4.tw17920023101620852721 : True := .intro
theorem z4.tw7546611362592503235 : True := .intro
theorem z4.tw6532725871470993822 : True := .intro
theorem z4.tw9219318737026982805 : True := .intro
theorem z4.tw6030662433411960088 : True := .intro
theorem z4.tw17035467998259636819 : True := .intro
theorem z4.tw10330453612455602824 : True := .intro
theorem z4.tw6725924021138425677 : True := .intro
theorem z4.tw1674401125393456123 : True := .intro
theorem z4.tw14070140414721199989 : True := .intro
theorem z4.tw10909492962614332177 : True := .intro
theorem z4.tw4373445264721741407 : True := .intro
theorem z4.tw16937505960557822859 : True := .intro
theorem z4.tw4947345408009704878 : True := .intro
theorem z4.tw5773043156315033866 : True := .intro
theorem z4.tw6316017833605083149 : True := .intro
theorem z4.tw18056288816678482556 : True := .intro
theorem z4.tw11668619133421492121 : True := .intro
theorem z4.tw17084740414294769931 : True := .intro
theorem z4.tw16396317883719366126 : True := .intro
theorem z4.tw15860156644173551250 : True := .intro
theorem z4.tw8344427583205537109 : True := .intro
theorem z4.tw1959983143058985272 : True := .intro
theorem z4.tw8453701977701226484 : True := .intro
theorem z4.tw16330953246531037743 : True := .intro
theorem z4.tw8679848720401853812 : True := .intro
theorem z4.tw16269708097142679373 : True := .intro
theorem z4.tw12665842764328045734 : True := .intro
theorem z4.tw1718009028941225139 : True := .intro
theorem z4.tw16192536570408630238 : True := .intro
theorem z4.tw10769159616787658498 : True := .intro
theorem z4.tw7320590045080111657 : True := .intro
theorem z4.tw7020801337242168330 : True := .intro
theorem z4.tw16961067906584735799 : True := .intro
theorem z4.tw14412899507930084867 : True := .intro
theorem z4.tw5216253740344330514 : True := .intro
theorem z4.tw12049146895487158011 : True := .intro
theorem z4.tw2648564976643868886 : True := .intro
theorem z4.tw10688399990442526440 : True := .intro
theorem z4.tw15085538728769090762 : True := .intro
theorem z4.tw10882692788624064341 : True := .intro
theorem z4.tw10344837993442791619 : True := .intro
theorem z4.tw7032832324268659926 : True := .intro
theorem z4.tw15868280090552659446 : True := .intro
theorem z4.tw10032112491698221078 : True := .intro
theorem z4.tw10050819962637405831 : True := .intro
theorem z4.tw17202421139189889782 : True := .intro
theorem z4.tw7992812488933061428 : True := .intro
theorem z4.tw13468019999469073396 : True := .intro
theorem z4.tw11352179055301922388 : True := .intro
theorem z4.tw18209388664481822478 : True := .intro
theorem z4.tw15914242851409738949 : True := .intro
theorem z4.tw112130949042440045 : True := .intro
theorem z4.tw3169919333593916728 : True := .intro
theorem z4.tw4262823912469566852 : True := .intro
theorem z4.tw17319848284785613104 : True := .intro
theorem z4.tw1085447581700719427 : True := .intro
theorem z4.tw16504791111657438245 : True := .intro
theorem z4.tw6815188253956409784 : True := .intro
theorem z4.tw8038058068442029731 : True := .intro
theorem z4.tw112206855567818345 : True := .intro
theorem z4.tw11471880542883810846 : True := .intro
theorem z4.tw16565615314879400511 : True := .intro
theorem z4.tw14072996182931433053 : True := .intro
theorem z4.tw11386142414695456079 : True := .intro
theorem z4.tw5268886374744393455 : True := .intro
theorem z4.tw8788956886398778180 : True := .intro
theorem z4.tw11281960544664031675 : True := .intro
theorem z4.tw14808497610758997558 : True := .intro
theorem z4.tw11488474542810385123 : True := .intro
theorem z4.tw9118491717453757437 : True := .intro
theorem z4.tw9577366731054123044 : True := .intro
theorem z4.tw15861265782056587108 : True := .intro
theorem z4.tw9364310519099894128 : True := .intro
theorem z4.tw3839530443964812871 : True := .intro
theorem z4.tw3110896816313009381 : True := .intro
theorem z4.tw12062258065486268586 : True := .intro
theorem z4.tw13679862917123898152 : True := .intro
theorem z4.tw5889294123890572241 : True := .intro
theorem z4.tw3948145466958229136 : True := .intro
theorem z4.tw7133205846013264902 : True := .intro
theorem z4.tw2653643996071825868 : True := .intro
theorem z4.tw854952038039752342 : True := .intro
theorem z4.tw17837529677186369105 : True := .intro
theorem z4.tw12565771298562248528 : True := .intro
theorem z4.tw10388850482011199533 : True := .intro
theorem z4.tw8806441141540843119 : True := .intro
theorem z4.tw10340933909718160186 : True := .intro
theorem z4.tw13297969344461778755 : True := .intro
theorem z4.tw4026639713967259933 : True := .intro
theorem z4.tw10758551320475323635 : True := .intro
theorem z4.tw5706611734808584647 : True := .intro
theorem z4.tw4280530297309205492 : True := .intro
theorem z4.tw15478234565921940920 : True := .intro
theorem z4.tw6246356114512883106 : True := .intro
theorem z4.tw14287901549154878052 : True := .intro
theorem z4.tw9073082218395959562 : True := .intro
theorem z4.tw16084430194260036149 : True := .intro
theorem z4.tw14494332943525309490 : True := .intro
theorem z4.tw10258788123654249164 : True := .intro
theorem z4.tw8299290205463145696 : True := .intro
theorem z4.tw17196946844169343459 : True := .intro
theorem z4.tw2533910056558546442 : True := .intro
theorem z4.tw8675595882788307920 : True := .intro
theorem z4.tw1489811879656477823 : True := .intro
theorem z4.tw14156289225862361433 : True := .intro
theorem z4.tw12870026530838479925 : True := .intro
theorem z4.tw11995162786085530712 : True := .intro
theorem z4.tw9234705159296117866 : True := .intro
theorem z4.tw11088987864177956032 : True := .intro
theorem z4.tw5572951267697962060 : True := .intro
theorem z4.tw8133743880963008744 : True := .intro
theorem z4.tw10652815769442720837 : True := .intro
theorem z4.tw18314870874980448276 : True := .intro
theorem z4.tw6473232912339144554 : True := .intro
theorem z4.tw5214453833346357847 : True := .intro
theorem z4.tw14513263638097617071 : True := .intro
theorem z4.tw4056117311604167973 : True := .intro
theorem z4.tw434092149720607567 : True := .intro
theorem z4.tw1974515921401718846 : True := .intro
theorem z4.tw5341246609494756399 : True := .intro
theorem z4.tw3184975922118919555 : True := .intro
theorem z4.tw7460332954993325955 : True := .intro
theorem z4.tw16155180168614327924 : True := .intro
theorem z4.tw688653184111516123 : True := .intro
theorem z4.tw4138778565013708323 : True := .intro
theorem z4.tw103098304305685593 : True := .intro
theorem z4.tw12494490405615642408 : True := .intro
theorem z4.tw12358409694947382211 : True := .intro
theorem z4.tw1357387517433182070 : True := .intro
theorem z4.tw13099746612659765028 : True := .intro
theorem z4.tw4985935462790291991 : True := .intro
theorem z4.tw17656213095950065454 : True := .intro
theorem z4.tw6417868950129548955 : True := .intro
theorem z4.tw6632593414917290884 : True := .intro
theorem z4.tw6348151685271844279 : True := .intro
theorem z4.tw16517713263875132291 : True := .intro
theorem z4.tw15411658589789750595 : True := .intro
theorem z4.tw69624901562892943 : True := .intro
theorem z4.tw14490473280621774123 : True := .intro
theorem z4.tw18439121784531382027 : True := .intro
theorem z4.tw17346393754201595445 : True := .intro
theorem z4.tw1163981545898121600 : True := .intro
theorem z4.tw12293131348652617015 : True := .intro
theorem z4.tw650470773915342426 : True := .intro
theorem z4.tw11356512740323137150 : True := .intro
theorem z4.tw3372882694480889756 : True := .intro
theorem z4.tw5045154414074598918 : True := .intro
theorem z4.tw4015079489159275240 : True := .intro
theorem z4.tw6098703788503776165 : True := .intro
theorem z4.tw12228864531627566306 : True := .intro
theorem z4.tw4104391807944388921 : True := .intro
theorem z4.tw4714307122728616202 : True := .intro
theorem z4.tw628532715610175404 : True := .intro
theorem z4.tw12126364256343434405 : True := .intro
theorem z4.tw17896301911121189542 : True := .intro
theorem z4.tw15941352710815248021 : True := .intro
theorem z4.tw8892416152293292341 : True := .intro
theorem z4.tw16227882070128385264 : True := .intro
theorem z4.tw10948307406022990267 : True := .intro
theorem z4.tw223585015563969459 : True := .intro
theorem z4.tw12375645330194217268 : True := .intro
theorem z4.tw2739207801142288674 : True := .intro
theorem z4.tw8842077593721750368 : True := .intro
theorem z4.tw1046989218468672668 : True := .intro
theorem z4.tw9972546786596388154 : True := .intro
theorem z4.tw8046897711613738771 : True := .intro
theorem z4.tw10544953038801485489 : True := .intro
theorem z4.tw13089855271371332556 : True := .intro
theorem z4.tw15518001672856354971 : True := .intro
theorem z4.tw3658248404131242341 : True := .intro
theorem z4.tw15225104088526225344 : True := .intro
theorem z4.tw13704637185960603594 : True := .intro
theorem z4.tw6163048403871281564 : True := .intro
theorem z4.tw12676930772679952876 : True := .intro
theorem z4.tw4690972903947562005 : True := .intro
theorem z4.tw1288405154585887074 : True := .intro
theorem z4.tw3614682089994591253 : True := .intro
theorem z4.tw12730068711952199125 : True := .intro
theorem z4.tw15264358937607328883 : True := .intro
theorem z4.tw167601045239659872 : True := .intro
theorem z4.tw9249046764701609384 : True := .intro
theorem z4.tw8649744368196899182 : True := .intro
theorem z4.tw10672804995270985184 : True := .intro
theorem z4.tw14500090843272217425 : True := .intro
theorem z4.tw7673451346051264822 : True := .intro
theorem z4.tw1535100136355951598 : True := .intro
theorem z4.tw6244049037734142076 : True := .intro
theorem z4.tw4556395415163310391 : True := .intro
theorem z4.tw15309532308923664625 : True := .intro
theorem z4.tw5931441114635713692 : True := .intro
theorem z4.tw836862009480511870 : True := .intro
theorem z4.tw547339592834029731 : True := .intro
theorem z4.tw3171997930131329573 : True := .intro
theorem z4.tw1194901484656659897 : True := .intro
theorem z4.tw12289726434358495551 : True := .intro
theorem z4.tw16775620293118183858 : True := .intro
theorem z4.tw1094312051746332463 : True := .intro
theorem z4.tw14178460199020375871 : True := .intro
theorem z4.tw4278257495287540651 : True := .intro
theorem z4.tw3365672592219871734 : True := .intro
theorem z4.tw11557992400470671826 : True := .intro
theorem z4.tw4970187666091831175 : True := .intro
theorem z4.tw4425908266017885103 : True := .intro
theorem z4.tw10536542564602922947 : True := .intro
theorem z4.tw16668058319856401661 : True := .intro
theorem z4.tw4289891660427428887 : True := .intro
theorem z4.tw14489220145959662996 : True := .intro
theorem z4.tw516731273067052713 : True := .intro
theorem z4.tw2254429979495636881 : True := .intro
theorem z4.tw17880386690102327971 : True := .intro
theorem z4.tw14103530697657379052 : True := .intro
theorem z4.tw2352670023340555669 : True := .intro
theorem z4.tw9109905973207381314 : True := .intro
theorem z4.tw7938912976958782165 : True := .intro
theorem z4.tw10002284997394705294 : True := .intro
theorem z4.tw15007137117822641345 : True := .intro
theorem z4.tw5079132317023484892 : True := .intro
theorem z4.tw9129908488938475841 : True := .intro
theorem z4.tw2773266189396220256 : True := .intro
theorem z4.tw4293510169103112230 : True := .intro
theorem z4.tw4506307360074193439 : True := .intro
theorem z4.tw16233216778464556763 : True := .intro
theorem z4.tw15881952849163978275 : True := .intro
theorem z4.tw12997929947705598643 : True := .intro
theorem z4.tw12823784041258447274 : True := .intro
theorem z4.tw7785408624473676769 : True := .intro
theorem z4.tw2882814577318800991 : True := .intro
theorem z4.tw15630794161185671921 : True := .intro
theorem z4.tw18393241978447455138 : True := .intro
theorem z4.tw17383863109340871242 : True := .intro
theorem z4.tw17512265891154255217 : True := .intro
theorem z4.tw10670356109897962239 : True := .intro
theorem z4.tw12369733382609807962 : True := .intro
theorem z4.tw10920409169690010697 : True := .intro
theorem z4.tw6889121817763446977 : True := .intro
theorem z4.tw15506240933308529201 : True := .intro
theorem z4.tw177239795358821097 : True := .intro
theorem z4.tw1898180566013624616 : True := .intro
theorem z4.tw5476117389709480849 : True := .intro
theorem z4.tw9976937275425834835 : True := .intro
theorem z4.tw13809030925744093340 : True := .intro
theorem z4.tw1615750935025150015 : True := .intro
theorem z4.tw4935199814294860850 : True := .intro
theorem z4.tw2799902693879127758 : True := .intro
theorem z4.tw17826614037914024522 : True := .intro
theorem z4.tw17072630321396039010 : True := .intro
theorem z4.tw9427140346132920170 : True := .intro
theorem z4.tw16291485930893026541 : True := .intro
theorem z4.tw16211162780869063943 : True := .intro
theorem z4.tw7922551654669221479 : True := .intro
theorem z4.tw17261325679364234159 : True := .intro
theorem z4.tw15374085479984205085 : True := .intro
theorem z4.tw628508930321868588 : True := .intro
theorem z4.tw16610495397265707174 : True := .intro
theorem z4.tw9493167792293985685 : True := .intro
theorem z4.tw12342344544958097247 : True := .intro
theorem z4.tw15735373949506201004 : True := .intro
theorem z4.tw14786326654206158477 : True := .intro
theorem z4.tw13807127393952187242 : True := .intro
theorem z4.tw4092503751715594216 : True := .intro
theorem z4.tw5436250533199841244 : True := .intro
theorem z4.tw18360609591043189417 : True := .intro
theorem z4.tw10308147006965414984 : True := .intro
theorem z4.tw330007057672036814 : True := .intro
theorem z4.tw3955679784537870851 : True := .intro
theorem z4.tw7455974236479807488 : True := .intro
theorem z4.tw17888159049698926837 : True := .intro
theorem z4.tw2999330113509167010 : True := .intro
theorem z4.tw1950565785721882189 : True := .intro
theorem z4.tw15249747298182912211 : True := .intro
theorem z4.tw1244044977879390773 : True := .intro
theorem z4.tw11128882458272418937 : True := .intro
theorem z4.tw15768721652905748099 : True := .intro
theorem z4.tw11775441938368330270 : True := .intro
theorem z4.tw17458008611501186038 : True := .intro
theorem z4.tw14785266577936926861 : True := .intro
theorem z4.tw18415949090982199557 : True := .intro
theorem z4.tw13477125581304041822 : True := .intro
theorem z4.tw7811321019842122952 : True := .intro
theorem z4.tw15506258750816586938 : True := .intro
theorem z4.tw16596775890226240135 : True := .intro
theorem z4.tw8212376017264600579 : True := .intro
theorem z4.tw2065546279531294397 : True := .intro
theorem z4.tw11243582857262480397 : True := .intro
theorem z4.tw8133727978144233351 : True := .intro
theorem z4.tw5554669241332538123 : True := .intro
theorem z4.tw3466517362033273486 : True := .intro
theorem z4.tw6222451547770511339 : True := .intro
theorem z4.tw6873104477280703223 : True := .intro
theorem z4.tw18083910104744062250 : True := .intro
theorem z4.tw6637139769152314943 : True := .intro
theorem z4.tw12984518820783704617 : True := .intro
theorem z4.tw6087998616444319415 : True := .intro
theorem z4.tw17561742658246060891 : True := .intro
theorem z4.tw10457870758014023273 : True := .intro
theorem z4.tw2993272618924831055 : True := .intro
theorem z4.tw13752796906252910398 : True := .intro
theorem z4.tw10756478783144797093 : True := .intro
theorem z4.tw320295839796747023 : True := .intro
theorem z4.tw642339620262448691 : True := .intro
theorem z4.tw15779646890554112823 : True := .intro
theorem z4.tw6332395841890895944 : True := .intro
theorem z4.tw10410746663865088338 : True := .intro
theorem z4.tw6763401769165827778 : True := .intro
theorem z4.tw5653076531154469923 : True := .intro
theorem z4.tw12216130999023263150 : True := .intro
theorem z4.tw2729094784663464613 : True := .intro
theorem z4.tw7129798714628420166 : True := .intro
theorem z4.tw6308496325757205048 : True := .intro
theorem z4.tw15996768410589153509 : True := .intro
theorem z4.tw14756194168673934655 : True := .intro
theorem z4.tw13775902917144193395 : True := .intro
theorem z4.tw15117232501085699609 : True := .intro
theorem z4.tw7291709261043756211 : True := .intro
theorem z4.tw15474177067098348322 : True := .intro
theorem z4.tw5657487157718537661 : True := .intro
theorem z4.tw4508654242874733303 : True := .intro
theorem z4.tw6221714498224388059 : True := .intro
theorem z4.tw3874892705711426958 : True := .intro
theorem z4.tw16210704883233756109 : True := .intro
theorem z4.tw11064404783766357169 : True := .intro
theorem z4.tw7260206340842139258 : True := .intro
theorem z4.tw13844115053996178326 : True := .intro
theorem z4.tw7422734982531835896 : True := .intro
theorem z4.tw9550805297113703260 : True := .intro
theorem z4.tw9666828973830141512 : True := .intro
theorem z4.tw11708026700282054488 : True := .intro
theorem z4.tw4095749562605427035 : True := .intro
theorem z4.tw6650592123178896792 : True := .intro
theorem z4.tw10979471987806877124 : True := .intro
theorem z4.tw1716009179821886301 : True := .intro
theorem z4.tw15955530292491069777 : True := .intro
theorem z4.tw3286898128522632019 : True := .intro
theorem z4.tw16651994986642035486 : True := .intro
theorem z4.tw905588084221243310 : True := .intro
theorem z4.tw936635811995335551 : True := .intro
theorem z4.tw5069710100715322586 : True := .intro
theorem z4.tw4690954350244572771 : True := .intro
theorem z4.tw4332119543153447327 : True := .intro
theorem z4.tw5962645903838208317 : True := .intro
theorem z4.tw17191569114794508453 : True := .intro
theorem z4.tw8373647960455745033 : True := .intro
theorem z4.tw12187464101473418173 : True := .intro
theorem z4.tw18194477185342864550 : True := .intro
theorem z4.tw1005411833611054330 : True := .intro
theorem z4.tw3473252291672565225 : True := .intro
theorem z4.tw5708052152364116776 : True := .intro
theorem z4.tw5752351742658026091 : True := .intro
theorem z4.tw4858704236229241337 : True := .intro
theorem z4.tw4001824080176396900 : True := .intro
theorem z4.tw8558942256004506233 : True := .intro
theorem z4.tw5712940740758558916 : True := .intro
theorem z4.tw9294131604582798751 : True := .intro
theorem z4.tw12342386521906596501 : True := .intro
theorem z4.tw12681858811278079260 : True := .intro
theorem z4.tw8027092727684241345 : True := .intro
theorem z4.tw6184541450873805072 : True := .intro
theorem z4.tw17745387500421276301 : True := .intro
theorem z4.tw3691118047661092617 : True := .intro
theorem z4.tw18137891776589922461 : True := .intro
theorem z4.tw9351098518031563251 : True := .intro
theorem z4.tw7903673710016760938 : True := .intro
theorem z4.tw13450950590605050885 : True := .intro
theorem z4.tw18397087346200822813 : True := .intro
theorem z4.tw7572305643966921416 : True := .intro
theorem z4.tw48638489304610936 : True := .intro
theorem z4.tw14756558246644626970 : True := .intro
theorem z4.tw11463229634181930707 : True := .intro
theorem z4.tw8911468074942864653 : True := .intro
theorem z4.tw17981043002860787310 : True := .intro
theorem z4.tw4632049157317635149 : True := .intro
theorem z4.tw561025981641303319 : True := .intro
theorem z4.tw6711050567256654818 : True := .intro
theorem z4.tw16381294872150530237 : True := .intro
theorem z4.tw8661834469622366758 : True := .intro
theorem z4.tw2813538584586685944 : True := .intro
theorem z4.tw17896112452419667519 : True := .intro
theorem z4.tw17941588811275134786 : True := .intro
theorem z4.tw17704772698364415469 : True := .intro
theorem z4.tw8671382844532309478 : True := .intro
theorem z4.tw14600336516791139130 : True := .intro
theorem z4.tw11618174140679561287 : True := .intro
theorem z4.tw10054129320379037508 : True := .intro
theorem z4.tw9569741366846736876 : True := .intro
theorem z4.tw8887907410412220644 : True := .intro
theorem z4.tw12066858957524549622 : True := .intro
theorem z4.tw6727020994220120283 : True := .intro
theorem z4.tw12212849555656937818 : True := .intro
theorem z4.tw8234245740177796711 : True := .intro
theorem z4.tw7272173170775379268 : True := .intro
theorem z4.tw18047033460307846786 : True := .intro
theorem z4.tw709036129470353651 : True := .intro
theorem z4.tw13989107173102792862 : True := .intro
theorem z4.tw6568195794654047408 : True := .intro
theorem z4.tw6436687501600661182 : True := .intro
theorem z4.tw2308419522532055605 : True := .intro
theorem z4.tw1320065563928226602 : True := .intro
theorem z4.tw15514718473431471037 : True := .intro
theorem z4.tw7318543797718486792 : True := .intro
theorem z4.tw7499198187460842346 : True := .intro
theorem z4.tw811032693241880028 : True := .intro
theorem z4.tw5136031091787154123 : True := .intro
local macro_rules | `(tactic| o_head (kmHook $_ $as $p $_)) => `(tactic| o_head (myHook hd.heap_1 $as $p))
set_option Elab.async true
theorem z4 : PySem.Challenge.rw_jk0048_02.Holds := by
  w_on; o_law; k_head; (case hw => w_witness2)
  k_fill
  intro w s₀ s₁ mg mb G Y fa o pm cd doc dV kV ho hd hcd hD hmg hg args vals as hpre hlay hrd hwl hlo
  have KX := km_in_of Y
  have hT8 := km_tabs_of Y
  have X := (Ground.X G).1
  have V := (Ground.X G).2
  refine Ground.open G ?_
  intro T B D TE TW
  try (refine guard_noD D (by decide +kernel) ?_; clear D)
  have hT9 : TabsAt ([(713, 711), (181, 177), (469, 465), (530, 526)] : List (Addr × Addr)) s₁.heap :=
    List.forall_mem_cons.mpr ⟨⟨codeHd_of_K (c := 713) (P := 711) KX (by kernel_rfl), hT8 711 (by k_mem)⟩,
    List.forall_mem_cons.mpr ⟨⟨codeHd_of_K (c := 181) (P := 177) KX (by kernel_rfl), hT8 177 (by k_mem)⟩,
    List.forall_mem_cons.mpr ⟨⟨codeHd_of_K (c := 469) (P := 465) KX (by kernel_rfl), hT8 465 (by k_mem)⟩,
    List.forall_mem_cons.mpr ⟨⟨codeHd_of_K (c := 530) (P := 526) KX (by kernel_rfl), hT8 526 (by k_mem)⟩, fun _ h => nomatch h⟩⟩⟩⟩
  have he9 : cd = PySem.Value.ref 713 := law_code (x := PySem.Str.ofString "law") (c := 713) (P := 711) KX (Top.g T) (by kernel_rfl) hmg ho hd
  subst he9
  clear hmg
  wrow_args hpre hlay hrd hwl hlo
  all_goals (
    first | refine callC_kw (enter_call ?_) | refine enter_call ?_
    w_top on
    refine law_post hT9 hg (fun _ _ => rfl) (post9 _) ?_
    w_call any ho hd hcd hD T F
    clear hd
    kn_ghosts F T
    k_drop
    skip)
  all_goals (try k_fold)
  (rename Below _ _ _ _ => B9); (rename Frag.In _ _ => X9); (rename Top topProg _ _ _ _ _ => T9); (rename Fr _ _ _ _ => F9); (rename News _ _ _ _ => N9); (rename IntsAre _ _ => hI9); (rename Heap.IsList (ghostOf _ _) _ _ => hl9)
  have hlen9 := hI9.length
  (rename ¬ (63 : Int) < _ => hc63)
  have hl8 : LstOf (At (frs []) (ghostOf s₁.heap [(713, 711), (181, 177), (469, 465), (530, 526)])) _ _ := (let ⟨o, a, b, n, c⟩ := hl9; ⟨o, n, ⟨a, by simp⟩, b, c⟩)
  have XB := X9
  have TB := T9
  have D9 : KtsDicts (frs []) (ghostOf s₁.heap [(713, 711), (181, 177), (469, 465), (530, 526)]) := dicts_nil
  (try clear hT9); (try clear hT8); (try clear TW); (try clear TE); (try clear D); (try clear B); (try clear T); (try clear V); (try clear X); (try clear Y); (try clear G)
  have hz1 : @LT.lt Nat _ 711 s₁.heap.objs.size := by omega
  have hz2 : @LT.lt Nat _ 177 s₁.heap.objs.size := Nat.lt_trans (by decide) hz1
  have hz3 : @LT.lt Nat _ 465 s₁.heap.objs.size := Nat.lt_trans (by decide) hz1
  have hz4 : @LT.lt Nat _ 526 s₁.heap.objs.size := Nat.lt_trans (by decide) hz1
  (try dsimp only)
  generalize hg9 : ghostOf s₁.heap [(713, 711), (181, 177), (469, 465), (530, 526)] = g9 at *
  k_steps
  refine Halt.elim ?_; (with_unfolding_all apply c_drawsK); walk_at "my kc"; refine Halt.elim ?_
  intro wd rl ow its nn h1 tk1 F1 N1 of1 low9 hdw hin hits
  have ne1 := OwnOff.neAll of1 (.head _); have ne2 := OwnOff.neAll of1 (.tail _ (.head _))
  have nf1 := ne1; have nf2 := ne2
  have ne3 := draws_ne3 N1 (wd := wd) (o := ow) (by simp) (x := rl) (ox := W.listOf its nn) (by simp) hdw rfl
  simp only [List.map_cons, List.map_nil, NeAll, and_true] at ne1 ne2
  simp only [List.cons_append, List.nil_append] at N1
  have hrl : LstOf (Led [(rl, W.listOf its nn)]) rl its.toList := ⟨_, nn, .head _, rfl, by simp [W.listOf]⟩
  have hvl : its.toList.length ≤ 144 := by simpa using hits
  clear N9 of1
  k_steps
  refine Halt.elim ?_; (with_unfolding_all apply c_sigsK); walk_at "my kc"; refine Halt.elim ?_
  intro sd Sv sig tlS ow2 h2 tk2 F2 N2 of2 hdw2 hsd hS hst hSl
  simp only [List.map_cons, List.map_nil] at of2
  simp only [List.cons_append, List.nil_append] at N2
  have hT0 := tabOk_empty
  k_steps
  refine Halt.elim ?_; (with_unfolding_all apply c_lawrootK); walk_at "my kc"; refine Halt.elim ?_
  intro r1 s3 x1 rd1 kd1 rs1 Kv1 oP1 ow3 tlR F3 N3 of3 hT3 hdw3 hr3 hTu1 hRo1
  have ofA := OwnOff.app of2 (OwnOff.sub of3 fun b hb => List.mem_cons_of_mem _ (List.mem_append_left _ hb))
  try dsimp only at N3
  simp only [List.cons_append] at N3
  have hsd := hsd.mono (Sub.appL (b := tlR)); have hS := hS.mono (Sub.appL (b := tlR)); have hTu1 := hTu1.mono (Sub.appR (a := tlS)); have hRo1 := hRo1.mono (Sub.appR (a := tlS))
  generalize htA : tlS ++ tlR = tA at N3 ofA hsd hS hTu1 hRo1
  clear of3 of2 htA
  have hup1 : IsTup s3.heap r1 #[.ref x1, .ref rd1, .ref kd1] := (hTu1.mono (Sub.led N3 (by walk_at "my sub"))).tup
  k_steps
  refine Halt.elim ?_; (with_unfolding_all apply c_lawrootK); walk_at "my kc"; refine Halt.elim ?_
  intro r2 s5 x2 rd2 kd2 rs2 Kv2 oP2 ow5 tlR F5 N5 of5 hT5 hdw5 hr5 hTu2 hRo2
  have ofB := OwnOff.app ofA (OwnOff.sub of5 (by walk_at "my mems"))
  try dsimp only at N5
  simp only [List.cons_append] at N5
  have hsd := hsd.mono (Sub.appL (b := tlR)); have hS := hS.mono (Sub.appL (b := tlR)); have hRo1 := hRo1.mono (Sub.appL (b := tlR)); have hTu2 := hTu2.mono (Sub.appR (a := tA)); have hRo2 := hRo2.mono (Sub.appR (a := tA))
  generalize htB : tA ++ tlR = tB at N5 ofB hsd hS hRo1 hTu2 hRo2
  clear of5 ofA htB hTu1 hup1
  have hup2 : IsTup s5.heap r2 #[.ref x2, .ref rd2, .ref kd2] := (hTu2.mono (Sub.led N5 (by walk_at "my sub"))).tup
  k_steps
  refine Halt.elim ?_
  (rename Fr _ _ _ _ => F8); (rename News _ _ _ _ => N8)
  have hrlB : LstOf (Led ((rl, W.listOf its nn) :: tB)) rl its.toList := hrl.mono (Sub.mem fun p hp => by rw [List.mem_singleton.mp hp]; exact .head _)
  have uB : Sub (Led tB) (Led ((rl, W.listOf its nn) :: tB)) := Sub.mem fun p hp => .tail _ hp
  with_unfolding_all refine' s_rest (L := s₁.heap.objs.size) (fa := fa) (m := _) (R := (rl, W.listOf its nn) :: tB) B9 F8 ?zm1 ?zm2 ?zm3 ?zm4 ?zm5 X9 T9 (News.sub N8 pz) ?zlt ?zoR ?zwd ?zh1 ?zh2 ?zh3 ?zh4 ?zh5 ?zh6 ?zh7 ?zh8 low9 hT5 tabOk_empty tabOk_empty hdw5 ?zk hrlB hin hvl (hRo1.mono uB) (hRo2.mono uB) (hsd.mono uB) (hS.mono uB) hst ?zv0 ?zv1 ?zv2 ?zfo ?zE ?zK ?zret
  case zm1 => rfl
  case zm2 => rfl
  case zm3 => rfl
  case zm4 => rfl
  case zm5 => rfl
  case zlt => assumption
  case zk => decide
  case zv0 => omega
  case zv1 => omega
  case zv2 => rfl
  case zfo => assumption
  case zh1 => assumption
  case zh2 => assumption
  case zh3 => assumption
  case zh4 => assumption
  case zh5 => assumption
  case zh6 => assumption
  case zh7 => assumption
  case zh8 => assumption
  case zoR => exact offCons (List.forall_mem_cons.mpr ⟨nemem nf2 711 (by walk_at "my mem"), List.forall_mem_cons.mpr ⟨ne3, neSub nf2 (by walk_at "my sub")⟩⟩) (OwnOff.sub ofB (by walk_at "my sub"))
  case zwd => exact neAll_of (neSub nf1 (by walk_at "my sub"))
  case zE => passes_own
  case zK => assumption
  case zret =>
    intro s' m' tab o1' o4' o5' hr F N t1 t2 t3 t4
    refine ⟨_, rfl, rfl, fun b o e => F.keep b o (hg9 ▸ e), ?_, ?_⟩
    · exact Rst.trans (Rst.trans ⟨hr3.1, hr3.2⟩ ⟨hr5.1, hr5.2⟩) ⟨hr.1, hr.2⟩
    · exact List.forall_mem_cons.mpr ⟨⟨_, (N _ (.head _)).1, t1⟩, List.forall_mem_cons.mpr ⟨⟨_, (N _ (.tail _ (.head _))).1, t2⟩, List.forall_mem_cons.mpr ⟨⟨_, (N _ (.tail _ (.tail _ (.head _)))).1, t3⟩, List.forall_mem_cons.mpr ⟨⟨_, (N _ (.tail _ (.tail _ (.tail _ (.head _))))).1, t4⟩, fun _ h => nomatch h⟩⟩⟩⟩
end
end -- group
end Mine
end
theorem PySem.Challenge.cw_jk0048_02_holds : PySem.Challenge.rw_jk0048_02.Holds := by
  exact Mine.z4
