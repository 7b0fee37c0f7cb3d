import PyProof.Rows.All
import Wide.All
import OpenK.AllK
import Wide.FinOn
import KE.IntTextText
import KE.KIntText
import KE.LcTurns
import PySem.Challenge.RW_md0057_01
open PySem PySem.W PyProof.Rows
set_option Elab.async false
set_option maxRecDepth 100000
set_option maxHeartbeats 8000000
set_option linter.all false
set_option compiler.extract_closed false
theorem Mine.flush0 : True := by
  w_top off
  first | walk1 | trivial
section
open PySem PySem.W PyProof.Rows PySem.Calls
set_option maxRecDepth 100000
set_option maxHeartbeats 8000000
namespace Mine

/-- the context of the claim's caller -/
abbrev ctx0 : Ctx := ⟨.builtin "claim.caller" {}, none, none, [], none⟩

/-- from the claim's caller alone -/
def wp0 {α : Type} (M : Model) (t : Sem α) (Q : α → Shared → Prop) (E : Value → Shared → Prop) (s : Shared) : Prop :=
  ∀ p, Sem.wp M ctx0 t (fun a _ s' => Q a s') (fun e _ s' => E e s') p s

theorem wp0_bind {α β : Type} {M : Model} {m : Sem α} {f : α → Sem β} {Q : β → Shared → Prop} {E : Value → Shared → Prop} {s : Shared} (h : wp0 M m (fun a s' => wp0 M (f a) Q E s') E s) : wp0 M (m >>= f) Q E s := fun p => by
  rw [Sem.wp_bind']
  exact Sem.wp_mono M ctx0 m (fun a p' s' h' => h' p') (fun _ _ _ h' => h') p s (h p)
theorem wp0_any {α : Type} {M : Model} {t : Sem α} {Q : α → Shared → Prop} {E : Value → Shared → Prop} {s : Shared} (h : wpAny M callerA t Q E s) : wp0 M t Q E s := fun p => h _ p caller_in
theorem wp0_mono {α : Type} {M : Model} {t : Sem α} {Q Q' : α → Shared → Prop} {E E' : Value → Shared → Prop} {s : Shared} (h : wp0 M t Q E s) (hQ : ∀ a s, Q a s → Q' a s) (hE : ∀ e s, E e s → E' e s) : wp0 M t Q' E' s :=
  fun p => Sem.wp_mono M ctx0 t (fun a _ s => hQ a s) (fun e _ s => hE e s) p s (h p)

theorem ends0 {prog : Program} {w : World} {t : Sem PySem.Fin} {s : Shared} {R : Result → Shared → Prop} (hreg : s.asleep)
    (h : wp0 (model prog w) t (fun fin s' => ∃ f, fin = .done f ∧ (R (.ok f) s' ∧ leftWithCleanup s'.gens = false)) (fun e s' => R (.error e) s' ∧ leftWithCleanup s'.gens = false) s) :
    ∃ n r s' s'', runN (denote table) prog w n s ⟨t, .builtin "claim.caller" {}, default, []⟩ = .halted (outcomeOf r) s' ∧
      schedN (denote table) prog w n (.single s ⟨t, .builtin "claim.caller" {}, default, []⟩) = .halted (outcomeOf r) s' ∧ s'.forget = s''.forget ∧ R r s'' := by
  have h' : Sem.wp (model prog w) ctx0 t (Sem.finPost (model prog w) ctx0 fun r s' => R r s' ∧ leftWithCleanup s'.gens = false) (fun e _ s' => R (.error e) s' ∧ leftWithCleanup s'.gens = false) default s := by
    refine Sem.wp_mono _ ctx0 t (fun fin p' s' x => ?_) (fun _ _ _ x => x) default s (h default)
    obtain ⟨f, rfl, hf⟩ := x
    exact hf
  obtain ⟨n, r, s₁, s₂, hs, hn, hfo, hR⟩ := wp_halts_full hreg h'
  exact ⟨n, r, s₂, s₁, hn, hs, hfo, hR⟩

theorem callFrom0 {c : ClaimW} {tree : List Value → Sem PySem.Fin} {w : World} {s : Shared} {free : Addr → Prop} {gens : Prop} {kept : Heap → Prop} (hz : s.asleep) (hgens : s.gens = #[])
    (hspec : ∀ args, c.pre args = true → WData.layableAll args = true → ∀ ord : List DictEntry → List DictEntry, (∀ l, (ord l).Perm l) →
      ∃ vs s₁, layAllW c.records (classAt s.heap) w.params ord args s = some (vs, s₁) ∧
        wp0 (model c.prog w) (tree vs) (fun fin s' => ∃ f, fin = .done f ∧ (c.Ends s args vs s₁ (.ok f) s' ∧ s'.os = s.os ∧ AllBare s'.gens ∧ kept s'.heap))
          (fun e s' => c.Ends s args vs s₁ (.error e) s' ∧ s'.os = s.os ∧ AllBare s'.gens ∧ kept s'.heap) s₁) :
    c.CallFrom (fun vs => ⟨tree vs, .builtin "claim.caller" {}, default, []⟩) w free gens kept s := fun args hpre hlay ord hord => by
  obtain ⟨vs, s₁, hlaid, hcode⟩ := hspec args hpre hlay ord hord
  have hal := layAllW_rest _ _ _ hlaid
  have hc' : wp0 (model c.prog w) (tree vs) (fun fin s' => ∃ f, fin = .done f ∧ ((c.Ends s args vs s₁ (.ok f) s' ∧ s'.os = s.os ∧ kept s'.heap) ∧ leftWithCleanup s'.gens = false))
      (fun e s' => (c.Ends s args vs s₁ (.error e) s' ∧ s'.os = s.os ∧ kept s'.heap) ∧ leftWithCleanup s'.gens = false) s₁ :=
    wp0_mono hcode (fun fin s' ⟨f, e, h1, h2, h3, h4⟩ => ⟨f, e, ⟨h1, h2, h4⟩, leftWithCleanup_false_of_bare h3⟩) fun e s' ⟨h1, h2, h3, h4⟩ => ⟨⟨h1, h2, h4⟩, leftWithCleanup_false_of_bare h3⟩
  obtain ⟨k, r, s', s'', hrun, hsched, hfo, hcase, hos, hkp⟩ := ends0 (R := fun r s' => c.Ends s args vs s₁ r s' ∧ s'.os = s.os ∧ kept s'.heap) (Shared.asleep_of_life hal.2.2.2 hz) hc'
  obtain ⟨eh, _, _, eo, _⟩ := Shared.forget_eq hfo
  have hE : c.Ends s args vs s₁ r s' := hcase.congr eh
  have hK : kept s'.heap := eh.symm ▸ hkp
  have hO : s'.os = s.os := eo.trans hos
  have hlife : s'.heap.life = s.heap.life := (runN_life _ _ _ hrun).trans hal.2.2.2
  refine ⟨vs, s₁, hlaid, k, _, s', hsched, ?_, (fun _ i x hx => by rw [hgens] at hx; simp at hx), hK, by rw [hlife], Shared.rest_eq hO⟩
  rcases hE with ⟨v, rfl, d1, d2, d3, d4, d5⟩ | ⟨e, ob, cls, rfl, d1, d2, d3, d4, d5⟩
  · exact .inl ⟨v, rfl, d1, d2, d3, fun b o y _ => d4 b o y, d5⟩
  · exact .inr ⟨e, ob, cls, rfl, d1, d2, d3, d4, fun b o y _ => d5 b o y⟩

/-- the walk, from the claim's caller -/
abbrev Walk0 (q : Program) (loose : List Str) (XP : (Str → Option Value) → Heap → Prop) (YP : World → Heap → Prop) (r : RowW) (d : DefRec) (kwd : List (Str × Expr)) : Prop :=
  ∀ (w : World) (s₀ s₁ : Shared) (mg mb : Str → Option Value), Ground q loose r.records XP w s₀ mg mb s₁.heap → YP w s₁.heap → ∀ (a : Addr) (o : Obj) (pm cd doc dV kV : Value), s₁.heap.get? a = some o →
    o.data = .func { docDef d.name d.params d.body d.scope pm cd doc with defaults := dV, kwdefaults := kV } → s₁.heap.CodeRec cd d.name → Dflts mg s₁.heap d.params kwd dV kV → mg d.name = some (.ref a) → s₁.gens = #[] →
    ∀ (args : List WData) (vals : List Value) (as : List Addr), r.claim.pre args = true → WData.layableAll args = true → ReadsAllW r.records (classAt s₀.heap) s₁.heap vals args as → WellAll w.params s₁.heap vals args → (∀ a ∈ as, (a == sysModules) = false) →
      wp0 (model r.prog w) (PySem.call (.ref a) vals) (fun v s' => GoodWG r.claim (classAt s₀.heap) (ExcName.means s₀.heap) args s₁ (.ok (.ret v)) s')
        (fun e s' => GoodWG r.claim (classAt s₀.heap) (ExcName.means s₀.heap) args s₁ (.error e) s') s₁

theorem PySem.W.holds_open {r : OpenRow} {q : Program} {loose : List Str} {Xt : Shared → Bool} {XP : (Str → Option Value) → Heap → Prop} {α : Type} {Yf : Shared → α} {Ya : World → α} {YP : World → Heap → Prop} {d : DefRec} {kwd : List (Str × Expr)} {N : Nat}
    (left : LeftO r.prog q loose Xt Yf Ya N) (hY : ∀ w s, Yf s = Ya w → YP w s.heap) (hYk : ∀ w h h', YP w h → (∀ b o, h.get? b = some o → h'.get? b = some o) → YP w h')
    (hX : ∀ s, Xt s = true → XP (s.heap.nsMap mainGlobals) s.heap) (hXk : ∀ mg h h', XP mg h → (∀ b o, h.get? b = some o → h'.get? b = some o) → XP mg h')
    (hdef : defOf q r.name = some (d, kwd)) (hp : r.prog.theDef r.name = some (d.params, d.body, d.scope)) (hk : kwWritten? d.params.kwonlyargs d.params.kw_defaults = some kwd) (hRf : ∀ s, Xt s = true → RecFacts r.records s.heap) (hwr : (!r.writes || r.records.isEmpty) = true)
    (k1 : r.wellSaid = true) (ok : (chainsOk q && opensWell r.prog && (frees r.toRowW && r.within.isEmpty)) = true) (hb : r.prog.bare) (hw : r.toRowW.promised)
    (walk : Walk0 q loose XP YP r.toRowW d kwd) : r.Holds := by
  obtain ⟨ok, k5⟩ := Bool.and_eq_true_iff.mp ok
  obtain ⟨hch, o1⟩ := Bool.and_eq_true_iff.mp ok
  obtain ⟨k5, k6⟩ := Bool.and_eq_true_iff.mp k5
  obtain ⟨hsame, hu, ha, hap, hm⟩ := frees_parts k5
  have hwi : r.toRowW.claim.within = [] := List.isEmpty_iff.mp k6
  have hi := ident_freeW hu ha hap
  have mk : r.toRowW.claim.makers = [] := by show r.makers.map _ = []; rw [hm]; rfl
  refine ⟨k1, hw, ⟨⟨hb, o1, mk⟩, hw.witness, fun w => ⟨(left.behind hX hch w).1, fun st hst => ?_⟩⟩⟩
  obtain ⟨s₀, hf, hg0, s, hT, hz, hgens, hg, G1, y⟩ := (left.behind (XP := fun mg h => XP mg h ∧ RecFacts r.records h) (fun s hs => ⟨hX s hs, hRf s hs⟩) hch w).2 st hst
  have G0 : Ground q loose [] XP w s (s.heap.nsMap mainGlobals) (s.heap.nsMap builtinsNs) s.heap := ⟨G1.T, G1.B, G1.D, G1.TE, G1.TD, G1.W, G1.X.1, G1.cls, G1.has, G1.apart, G1.once, G1.K⟩
  have RF := G1.X.2
  have hgens : s.gens = #[] := Array.eq_empty_of_size_eq_zero (beq_iff_eq.mp hgens)
  have G : Ground q loose r.records XP w s _ _ s.heap := RF.ground G0
  refine ⟨s₀, hf, hg0, s, hT, fun n hn => ?_, RF.1, RF.2.1, callFrom0 (tree := fun vs => do match ← nsGet mainNs r.name with
      | some f => do ret (← PySem.call f vs)
      | none => unsupported "claim.caller:no-such-global") hz hgens fun args hpre hlay ord hord => ?_⟩
  · obtain rfl : n = r.name := by split at hn <;> simp_all
    exact pinned_of_view hg G0 hdef hp hk
  · obtain ⟨⟨vs, s₁⟩, hlaid⟩ := Option.isSome_iff_exists.mp (layAllW_isSome (P := w.params) (ord := ord) G.has args r.args s (pre_splitW hpre).1)
    have keeps := layAllW_keeps _ _ _ hlaid
    have hal := layAllW_rest _ _ _ hlaid
    obtain ⟨as, hrd, hin, hold⟩ := reads_layAllW hord _ _ _ hlaid hlay s₁.heap (fun _ _ e => e)
    have L : Laid r.records w s s₁ args vs as := ⟨⟨ord, hord, hlaid⟩, hrd, hin, hold, keeps, hal.1.trans hgens, hal.2.2.1⟩
    have G₁ := G.keeps hXk keeps
    obtain ⟨a, o, pm, cd, doc, dV, kV, h1, h2, h3, h4, h5⟩ := G₁.fn hdef
    have W := walk w s s₁ _ _ G₁ (hYk _ _ _ (hY w s y) keeps) a o pm cd doc dV kV h2 h3 h4 h5 (defOf_name hdef ▸ h1) L.gens args vs as hpre hlay L.reads L.well (L.low G.low)
    refine ⟨vs, s₁, hlaid, wp0_bind (wp0_any (wpAny_nsGet G₁.T.g ?_))⟩
    rw [h1]
    refine wp0_bind (wp0_mono W (fun v s' g => wp0_any (wpAny_pure ⟨_, rfl, ?_⟩)) fun e s' g => ?_)
    · have z := g.laid (c := r.toRowW.claim) hsame hwi hi L
      exact ⟨z.1, z.2.1, z.2.2, fun q => ⟨namesKept_of hT hg _ keeps g.2.1.old, noTable hwr q⟩⟩
    · have z := g.laid (c := r.toRowW.claim) hsame hwi hi L
      exact ⟨z.1, z.2.1, z.2.2, fun q => ⟨namesKept_of hT hg _ keeps g.2.1.old, noTable hwr q⟩⟩
end Mine

end
theorem Mine.flush1 : True := by
  w_top off
  first | walk1 | trivial
section
open PySem PySem.W PyProof.Rows PySem.Calls
set_option maxRecDepth 100000
set_option maxHeartbeats 8000000
namespace Mine
open_top hd for PySem.Challenge.rw_md0057_01
end Mine

end
theorem Mine.flush2 : True := by
  w_top off
  first | walk1 | trivial
section
open PySem PySem.W PyProof.Rows PySem.Calls
set_option maxRecDepth 100000
namespace Mine

noncomputable abbrev prog0 : Program := PySem.Challenge.rw_md0057_01.row.prog
noncomputable abbrev lo0 : List Str := (looseW hd.view_39 [Str.ofString "_opponents"] ++ List.map (fun x => x.name) (recsOf hd.view_39) ++
      List.map (fun x => x.fst) (litsOf hd.view_39) ++
    List.map (fun x => x.name) (clssOf hd.view_39 (looseW hd.view_39 [Str.ofString "_opponents"])))
noncomputable abbrev Top0 (mean : ExcName → Option Value) (mg mb : Str → Option Value) (h : Heap) : Prop := Top topProg lo0 mean mg mb h

/-- the frames' addresses -/
abbrev fra (l : List Env) : List Addr := l.filterMap (·.frame)

/-- a later heap: all stays, but the slots of the frames in l may turn -/
structure Ex (l : List Env) (h h' : Heap) : Prop where
  keep : ∀ b o, h.get? b = some o → b ∉ fra l → h'.get? b = some o
  slot : ∀ b o, h.get? b = some o → b ∈ fra l → ∃ sl, h'.get? b = some { o with slots := sl }

theorem Ex.of_stays {l : List Env} {h h' : Heap} (k : h.StaysIn h') : Ex l h h' :=
  ⟨fun b o e _ => k b o e, fun b o e _ => ⟨o.slots, k b o e⟩⟩
theorem Ex.refl {l : List Env} {h : Heap} : Ex l h h := .of_stays fun _ _ e => e
theorem Ex.up {l : List Env} {h h' : Heap} (x : Ex l h h') {b : Addr} {o : Obj} (e : h.get? b = some o) : ∃ sl, h'.get? b = some { o with slots := sl } := by
  by_cases m : b ∈ fra l
  · exact x.slot b o e m
  · exact ⟨o.slots, x.keep b o e m⟩
theorem Ex.trans {l : List Env} {h₁ h₂ h₃ : Heap} (x : Ex l h₁ h₂) (y : Ex l h₂ h₃) : Ex l h₁ h₃ :=
  ⟨fun b o e m => y.keep b o (x.keep b o e m) m, fun b o e m => by
    obtain ⟨s1, h1⟩ := x.slot b o e m
    obtain ⟨s2, h2⟩ := y.slot b _ h1 m
    exact ⟨s2, h2⟩⟩
theorem Ex.ns {l : List Env} {h h' : Heap} (x : Ex l h h') {L : Addr} {m : Str → Option Value} (n : h.Ns L m) : h'.Ns L m := by
  obtain ⟨o, es, ep, ho, hd, hk, hf⟩ := n
  obtain ⟨sl, hs⟩ := x.up ho
  exact ⟨_, es, ep, hs, hd, hk, hf⟩

/-- the frames below are there, the base is kept -/
theorem Below.ex {A : Around} {b0 h h' : Heap} {l : List Env} (B : Below A b0 l h) (x : Ex l h h') : Below A b0 l h' :=
  ⟨B.stack, fun b o e => x.keep b o (B.stays b o e) (fun hm => by rw [(B.frames.mem hm).1] at e; cases e),
    B.frames.of_keeps fun b o e _ => by
      obtain ⟨sl, hs⟩ := x.up e
      exact ⟨_, hs, rfl⟩⟩

/-- an exception of the built-in class cls flies through the frames l; h: the heap as the call found it -/
def Fly (l : List Env) (e : Addr) (cls : String) (h h' : Heap) : Prop :=
  ∃ B a0, (∀ b o, h.get? b = some o → b ∉ fra l → B.get? b = some o) ∧ Heap.FlyingW B l e (.type cls) a0 h'

/-- what a call leaves -/
structure Out (l : List Env) (s s' : Shared) : Prop where
  ex : Ex l s.heap s'.heap
  gens : s'.gens = s.gens
  drawn : s'.drawn = s.drawn
  os : s'.os = s.os

/-- a mark: the walk leaves it alone -/
def Fin (P : Prop) : Prop := P
theorem Fin.mk {P : Prop} (h : P) : Fin P := h
theorem Fin.out {P : Prop} (h : Fin P) : P := h

section
variable {w : World} {A : Around} {s : Shared} {b0 : Heap} {l : List Env} {K : Frag} {p : Program} {loose : List Str} {mean : ExcName → Option Value} {mg mb : Str → Option Value}
    {R : Result → Shared → Prop} {name qual : Str} {params : Arguments} {body : List Stmt} {scope : Scope} {dV kV doc pm cdv ct oc : Value} {an od : Option Addr} {osl : Array (Option Value)} {f : Addr} {args : Args} {binds : List (Str × Value)}

theorem enter {prog : Program} (B : Below A b0 l s.heap) (X : K.In b0) (T : Top p loose mean mg mb b0)
    (ho : K.lookup f = some ⟨oc, od, .func (fnOf name qual params body scope dV kV doc pm an cdv ct), osl⟩) (hcd : codeIn K cdv qual = true) (hroom : A.depth < recursionLimit)
    (hbind : BindsTo s (fnOf name qual params body scope dV kV doc pm an cdv ct) args binds) (hloc : ∀ y ∈ binds, scope.names.lookup y.1 = some .local)
    (h : ∀ L h₁, Fr s.heap L h₁ (fun y => binds.reverse.lookup y) → News s.heap L h₁ [] → K.In s.heap → Top p loose mean mg mb s.heap →
      wpAny (model prog w) (A.deeper (envOf qual scope L f cdv)) (execs body (envOf qual scope L f cdv))
        (fun fl s' => R (.ok (.ret (match fl with | .ret v => v | _ => .none))) s')
        (fun e s' => wpAny (model prog w) (A.deeper (envOf qual scope L f cdv)) (leaving (envOf qual scope L f cdv) e) (fun _ s'' => R (.error e) s'') (fun e' s'' => R (.error e') s'') s')
        { s with heap := h₁, toks := s.toks + binds.length })
    (hco : scope.isCoroutine = false) (hgen : scope.isGenerator = false) (hk : scope.kind = .function)
    (hcell : ∀ x ∈ scope.names, x.2 ≠ .cell) : codeAny (model prog w) A (.call (.ref f) args) R s := by
  have X' : K.In s.heap := X.keeps B.stays
  have T' : Top p loose mean mg mb s.heap := T.keeps B.stays
  refine codeAny_call_def (fd := fnOf name qual params body scope dV kV doc pm an cdv ct) (body := body) (binds := binds) hroom (X' _ _ ho) rfl T'.nolimit (codeRec_of X' hcd) rfl hbind hcell hloc (fun h₁ hns hk₁ => ?_) hco hgen hk
  exact h _ h₁ ⟨hns, hk₁, Nat.le_refl _⟩ News.nil X' T'
end
theorem filled : PySem.Challenge.rw_md0057_01.prog = PySem.Challenge.rw_md0057_01.prog ∧ hd.heap_39 = hd.heap_39 := by
  k_fill
  exact ⟨rfl, rfl⟩
end Mine

end
theorem Mine.flush3 : True := by
  w_top off
  first | walk1 | trivial
section
open PySem PySem.W PyProof.Rows PySem.Calls
set_option maxRecDepth 100000
namespace Mine

theorem fra_cons {env : Env} {l : List Env} {L b : Addr} (hf : env.frame = some L) (h : b ∈ fra (env :: l)) : b = L ∨ b ∈ fra l := by
  obtain ⟨e, he, hb⟩ := List.mem_filterMap.mp h
  rcases List.mem_cons.mp he with rfl | he
  · exact .inl (Option.some.inj (hb.symm.trans hf))
  · exact .inr (List.mem_filterMap.mpr ⟨e, he, hb⟩)
theorem fra_head {env : Env} {l : List Env} {L : Addr} (hf : env.frame = some L) : L ∈ fra (env :: l) :=
  List.mem_filterMap.mpr ⟨env, .head _, hf⟩
theorem fra_tail {env : Env} {l : List Env} {b : Addr} (h : b ∈ fra l) : b ∈ fra (env :: l) := by
  obtain ⟨e, he, hb⟩ := List.mem_filterMap.mp h
  exact List.mem_filterMap.mpr ⟨e, .tail _ he, hb⟩

theorem none_stays {g h : Heap} {b : Addr} (k : g.StaysIn h) (e : h.get? b = none) : g.get? b = none := by
  cases q : g.get? b with
  | none => rfl
  | some o => have := k b o q; rw [e] at this; cases this

/-- the own frame on the frames below -/
structure Own (b0 : Heap) (env : Env) (L : Addr) (g h : Heap) : Prop where
  frame : env.frame = some L
  kind : env.scope.kind = .function
  new : g.get? L = none
  there : ∃ oL es ep, h.get? L = some oL ∧ oL.data = .dict es ep

theorem Own.of_fr {b0 g h : Heap} {L a : Addr} {m : Str → Option Value} {name : Str} {scope : Scope} {cd : Value} {cl : List (Str × Addr)} (F : Fr g L h m) (hk : scope.kind = .function := by rfl) :
    Own b0 (envX name scope L a cd cl) L g h := by
  refine ⟨rfl, hk, ?_, ?_⟩
  · cases q : g.get? L with
    | none => rfl
    | some o => exact absurd (Nat.lt_of_lt_of_le (Heap.lt_size q) F.above) (Nat.lt_irrefl _)
  · obtain ⟨oL, es, ep, hL, hd, _⟩ := F.ns
    exact ⟨oL, es, ep, hL, hd⟩

theorem Own.frames {A : Around} {b0 g h : Heap} {env : Env} {l : List Env} {L : Addr} (O : Own b0 env L g h) (B : Below A b0 l g) (x : Ex l g h) : h.FunFrames b0 (env :: l) := by
  obtain ⟨oL, es, ep, hL, hd⟩ := O.there
  refine ⟨by rw [O.kind]; decide, ⟨L, oL, O.frame, none_stays B.stays O.new, hL, fun vs q => by rw [hd] at q; cases q⟩, (Below.ex B x).frames⟩

section
variable {M : Model} {A : Around} {E : Value → Shared → Prop} {s : Shared} {b0 g h : Heap} {env : Env} {l : List Env} {L e : Addr} {Q : Unit → Shared → Prop}

/-- an exception that has no traceback yet leaves its own frame -/
theorem leave_first {oe : Obj} {vs : Array Value} {a0 : Value} {cls : String} (B : Below A b0 l g) (x : Ex l g h) (O : Own b0 env L g h) (hkeep : h.StaysIn s.heap) (hnew : h.get? e = none)
    (he : s.heap.get? e = some oe) (hc : oe.cls = .type cls) (hd : oe.data = .fields vs) (h1 : vs[1]? = some .none) (h0 : vs[0]? = some a0)
    (hQ : ∀ h', Ex l g h' → Fly l e cls g h' → Q () { s with heap := h' }) : wpAny M (A.deeper env) (leaving env (.ref e)) Q E s := by
  have FF := O.frames B x
  have hin : ∀ en ∈ env :: l, ∀ b, en.frame = some b → b ∈ fra (env :: l) := fun en he b hb => List.mem_filterMap.mpr ⟨en, he, hb⟩
  have hst : (hideAll h (fra (env :: l))).StaysIn h := fun b o q => of_hideAll _ q
  have hen : (hideAll h (fra (env :: l))).get? e = none := none_stays hst hnew
  refine wpAny_leaving_firstW (base := hideAll h (fra (env :: l))) (a0 := a0) (Around.frames_deeper B.stack) ((funFrames_hide FF hin).of_keeps fun b o q _ => ⟨o, hkeep b o q, rfl⟩) O.frame he (fun b o q => hkeep b o (hst b o q)) hen hd h1 h0 fun h' hL => ?_
  obtain ⟨k1, ⟨_, _, k2⟩, k3, k4⟩ := hL
  have toB : ∀ b o, g.get? b = some o → b ∉ fra l → (hideAll h (fra (env :: l))).get? b = some o := fun b o q nm => hideAll_get _ (x.keep b o q nm) fun hm => by
    rcases fra_cons O.frame hm with rfl | hm
    · rw [O.new] at q; cases q
    · exact nm hm
  refine hQ h' ⟨fun b o q nm => k1 b o (toB b o q nm), fun b o q hm => ?_⟩ ⟨_, a0, toB, k1, hen, k2, by rw [← hc]; exact k3⟩
  obtain ⟨sl, hs⟩ := x.slot b o q hm
  obtain ⟨_, o', ho', hnf⟩ := FF.mem (fra_tail hm)
  rw [hs] at ho'; cases ho'
  obtain ⟨sl', hs'⟩ := k4 b _ (hkeep _ _ hs) hnf
  exact ⟨sl', hs'⟩

/-- an exception that flies passes one more frame -/
theorem leave_next {cls : String} (B : Below A b0 l g) (x : Ex l g h) (O : Own b0 env L g h) (x' : Ex (env :: l) h s.heap) (R : Fly (env :: l) e cls h s.heap)
    (hQ : ∀ h', Ex l g h' → Fly l e cls g h' → Q () { s with heap := h' }) : wpAny M (A.deeper env) (leaving env (.ref e)) Q E s := by
  have FF := O.frames B x
  obtain ⟨B', a0, hB, hfl⟩ := R
  refine wpAny_leaves_onW (Around.frames_deeper B.stack) O.frame hfl fun h' hf hs => ?_
  have toB : ∀ b o, g.get? b = some o → b ∉ fra l → B'.get? b = some o := fun b o q nm => hB b o (x.keep b o q nm) fun hm => by
    rcases fra_cons O.frame hm with rfl | hm
    · rw [O.new] at q; cases q
    · exact nm hm
  refine hQ h' ⟨fun b o q nm => hf.1 b o (toB b o q nm), fun b o q hm => ?_⟩ ⟨B', a0, toB, hf⟩
  obtain ⟨sl, hs1⟩ := x.slot b o q hm
  obtain ⟨_, o', ho', hnf⟩ := FF.mem (fra_tail hm)
  rw [hs1] at ho'; cases ho'
  obtain ⟨sl2, hs2⟩ := x'.slot b _ hs1 (fra_tail hm)
  obtain ⟨sl', hs'⟩ := hs b _ hs2 hnf
  exact ⟨sl', hs'⟩
end

/-- the ground anew, behind slots of frames that have turned -/
theorem reground {A : Around} {b0 g h h' : Heap} {env : Env} {l : List Env} {L : Addr} {m : Str → Option Value} (B : Below A b0 l g) (F : Fr g L h m) (hf : env.frame = some L) (x : Ex (env :: l) h h') :
    ∃ g', KtsTurn (fra l) g g' ∧ Fr g' L h' m ∧ Below A b0 l g' ∧ Ex l g h' := by
  have nL : g.get? L = none := by
    cases q : g.get? L with
    | none => rfl
    | some o => exact absurd (Nat.lt_of_lt_of_le (Heap.lt_size q) F.above) (Nat.lt_irrefl _)
  have k1 : ∀ b o, g.get? b = some o → b ∉ fra l → h'.get? b = some o := fun b o q nm => x.keep b o (F.keep b o q) fun hm => by
    rcases fra_cons hf hm with rfl | hm
    · rw [nL] at q; cases q
    · exact nm hm
  have k2 : ∀ b o, g.get? b = some o → b ∈ fra l → ∃ sl, h'.get? b = some { o with slots := sl } := fun b o q hm => x.slot b o (F.keep b o q) (fra_tail hm)
  obtain ⟨T, S⟩ := kts_turn_at (h := h') (fs := fra l) (g := g) (fun b hb => by obtain ⟨_, o, ho, _⟩ := B.frames.mem hb; exact ⟨o, ho⟩) k1 k2
  have xg : Ex l g (ktsHeap h' (fra l) g) := ⟨T.other, T.frame⟩
  exact ⟨_, T, ⟨x.ns F.ns, S, by rw [T.size]; exact F.above⟩, Below.ex B xg, ⟨k1, k2⟩⟩

theorem ex_of_turn {g g' h' : Heap} {l : List Env} (T : KtsTurn (fra l) g g') (k : g'.StaysIn h') : Ex l g h' :=
  ⟨fun b o q nm => k b o (T.other b o q nm), fun b o q hm => by
    obtain ⟨sl, hs⟩ := T.frame b o q hm
    exact ⟨sl, k _ _ hs⟩⟩
theorem news_turn {g g' h h' : Heap} {env : Env} {l : List Env} {L : Addr} {news : List (Addr × Obj)} (T : KtsTurn (fra l) g g') (N : News g L h news) (hf : env.frame = some L)
    (hap : ∀ p ∈ news, p.1 ∉ fra l) (x : Ex (env :: l) h h') : News g' L h' news := fun p hp =>
  ⟨x.keep _ _ (N p hp).1 (fun hm => by
    rcases fra_cons hf hm with q | hm
    · exact (N p hp).2.1 q
    · exact hap p hp hm), (N p hp).2.1, T.none_ _ (N p hp).2.2⟩
theorem news_apart {A : Around} {b0 g h : Heap} {l : List Env} {L : Addr} {news : List (Addr × Obj)} (B : Below A b0 l g) (N : News g L h news) : ∀ p ∈ news, p.1 ∉ fra l := fun p hp hm => by
  obtain ⟨_, o, ho, _⟩ := B.frames.mem hm
  rw [(N p hp).2.2] at ho; cases ho
end Mine

end
theorem Mine.flush4 : True := by
  w_top off
  first | walk1 | trivial
section
open PySem PySem.W PyProof.Rows PySem.Calls
set_option maxRecDepth 100000
namespace Mine

theorem entry_unchain : entryFor table "proto.unchain" = some Builtin.«proto.unchain» := entryFor_of_fast (by kernel_rfl)

section
variable {prog : Program} {w : World} {A : Around} {E : Value → Shared → Prop} {s : Shared} {env : Env}

theorem unchain_end {v : Value} {h0 : Addr} {o : Obj} {vs : Array Value} {R : Result → Shared → Prop} (ho : s.heap.get? h0 = some o) (hd : o.data = .fields vs) (h2 : vs[2]? = some .none)
    (h : R (.ok (.ret .none)) s) : codeAny (model prog w) A (.builtin "proto.unchain" ⟨[v, .ref h0, .ref h0, .bool false], []⟩) R s := by
  refine codeAny_builtin entry_unchain ?_
  unfold Builtin.«proto.unchain»
  refine wpAny_bind (wpAny_field ho hd h2 ?_)
  rw [if_pos (by decide)]
  exact wpAny_pure h

/-- a raise while another exception is handled: the context is set -/
theorem raiseNew_in {α : Type} {h0 e : Addr} {o oe : Obj} {vs ws : Array Value} {Q : α → Shared → Prop} (hh : A.handled = some (.ref h0)) (hne : h0 ≠ e) (ho : s.heap.get? h0 = some o) (hd : o.data = .fields vs) (h2 : vs[2]? = some .none)
    (he : s.heap.get? e = some oe) (hde : oe.data = .fields ws) (hsz : 2 < ws.size)
    (h : E (.ref e) { s with heap := s.heap.update e (Obj.mapFields (·.setIfInBounds 2 (.ref h0))) }) : wpAny (model prog w) A (raiseNew (.ref e) : Sem α) Q E s := by
  unfold raiseNew
  refine wpAny_bind (wpAny_handled ?_)
  rw [hh]
  dsimp only
  rw [if_pos (show (Value.ref h0 != Value.ref e) = true from by simp [hne])]
  refine wpAny_bind (wpAny_holding (wpAny_runValue (unchain_end ho hd h2 ?_)))
  dsimp only
  refine wpAny_bind ?_
  show wpAny _ _ (setField (.ref e) 2 (.ref h0)) _ _ _
  exact wpAny_setField he hde hsz (wpAny_throw h)

/-- what a raise in a handler has made: an exception with its context -/
structure MadeIn (h h' : Heap) (e : Addr) (cls : String) : Prop where
  keeps : h.StaysIn h'
  new : h.get? e = none
  there : ∃ oe vs a0, h'.get? e = some oe ∧ oe.cls = .type cls ∧ oe.data = .fields vs ∧ vs[0]? = some a0 ∧ vs[1]? = some .none

theorem MadeIn.of_new {h h' : Heap} {e h0 : Addr} {cls : String} (x : Heap.NewExc h h' e cls) : MadeIn h (h'.update e (Obj.mapFields (·.setIfInBounds 2 (.ref h0)))) e cls := by
  obtain ⟨ob, t, he, hcls, hd⟩ := x.there
  refine ⟨fun b o q => ?_, x.new, ?_⟩
  · rw [Heap.get?_update_other _ _ (fun z : e = b => by rw [← z, x.new] at q; cases q)]
    exact x.keeps b o q
  · exact ⟨_, _, t, Heap.get?_update_self _ he (Obj.isFreed_of_fields (Obj.data_mapFields hd _)), (Obj.cls_mapFields _ _).trans hcls, Obj.data_mapFields hd _, rfl, rfl⟩

/-- `raise X` in a handler -/
theorem raise_class_in {X N I : String} {x : Str} {np pos : Pos} {Q : Flow → Shared → Prop} {h0 : Addr} {o : Obj} {vs : Array Value} (hh : A.handled = some (.ref h0)) (ho : s.heap.get? h0 = some o) (hd0 : o.data = .fields vs) (h2 : vs[2]? = some .none)
    (hc : ExcClass X N I) (hself : isSubtype (.type X) (.type X) = pure true)
    (hx : wpAny (model prog w) A (eval (.Name x np) env) (fun v s₁ => v = .type X ∧ s₁ = s) E s)
    (h : ∀ h' e, MadeIn s.heap h' e X → E (.ref e) { s with heap := h' }) :
    wpAny (model prog w) A (exec (.Raise (some (.Name x np)) none pos) env) Q E s := by
  show wpAny (model prog w) A (do standAt pos; raiseStmt env (some (do let v ← eval (.Name x np) env; standAt pos; pure v)) none) Q E s
  refine wpAny_bind (wpAny_standAt ?_)
  unfold raiseStmt
  dsimp only
  refine wpAny_bind (wpAny_bind (wpAny_mono hx (fun v s₁ h₁ => wpAny_bind (wpAny_standAt (wpAny_pure ?_))) fun _ _ e => e))
  obtain ⟨rfl, hs₁⟩ := h₁
  subst s₁
  refine wpAny_bind (wpAny_pure ?_)
  dsimp only
  refine wpAny_bind (wpAny_holding ?_)
  unfold excFromValue isExcClass
  refine wpAny_bind (wpAny_bind (wpAny_pure ?_))
  simp only [if_true]
  rw [hc.base]
  refine wpAny_pure ?_
  simp only [if_true]
  refine wpAny_bind (call_exc hc fun h' e hn => ?_)
  obtain ⟨ob, t, he, hcls, hd⟩ := hn.there
  have hT : ({ s with heap := h' } : Shared).TypeIs (.ref e) X := ⟨ob, he, hcls⟩
  refine wpAny_bind (wpAny_isInstance hT hc.base ?_)
  simp only [Bool.not_true, Bool.false_eq_true, if_false]
  refine wpAny_pure ?_
  refine wpAny_bind (m := isType (.type X)) (wpAny_pure ?_)
  simp only [if_true]
  refine wpAny_bind (wpAny_holding ?_)
  unfold raisedFor
  simp only [Bool.false_eq_true, if_false]
  refine wpAny_bind (wpAny_typeOf hT ?_)
  refine wpAny_bind (call_issubclass (issubclass_self hc hself) ?_)
  dsimp only [wants]
  refine wpAny_bind (wpAny_truthy_bool ?_)
  simp only [if_true]
  refine wpAny_pure ?_
  unfold setFlight
  refine wpAny_bind (wpAny_bind (wpAny_field (i := 1) (x := Value.none) he hd rfl ?_))
  rw [if_neg (by decide)]
  refine wpAny_pure ?_
  have hne : h0 ≠ e := fun q => by have := hn.new; rw [← q, ho] at this; cases this
  exact raiseNew_in hh hne (hn.keeps _ _ ho) hd0 h2 he hd (by show 2 < 6; decide) (h _ e (MadeIn.of_new hn))

/-- `raise X(..)` in a handler -/
theorem raise_made_in {cls : String} (F : ExcRaiseFacts cls) {x : Expr} {pos : Pos} {Q : Flow → Shared → Prop} {h0 : Addr} (hh : A.handled = some (.ref h0))
    (h : wpAny (model prog w) A (eval x env) (fun v s₁ => ∃ e h₂, v = .ref e ∧ Heap.NewExc h₂ s₁.heap e cls ∧ (∃ o vs, h₂.get? h0 = some o ∧ o.data = .fields vs ∧ vs[2]? = some .none) ∧
      ∀ h', MadeIn h₂ h' e cls → E (.ref e) { s₁ with heap := h' }) E s) :
    wpAny (model prog w) A (exec (.Raise (some x) none pos) env) Q E s := by
  show wpAny (model prog w) A (do standAt pos; raiseStmt env (some (do let v ← eval x env; standAt pos; pure v)) none) Q E s
  refine wpAny_bind (wpAny_standAt ?_)
  unfold raiseStmt
  dsimp only
  refine wpAny_bind (wpAny_bind (wpAny_mono h (fun v s₁ h₁ => wpAny_bind (wpAny_standAt (wpAny_pure ?_))) fun _ _ e => e))
  obtain ⟨e, h₂, rfl, hn, ⟨o, vs, ho, hd0, h2⟩, hE⟩ := h₁
  obtain ⟨ob, t, he, hcls, hd⟩ := hn.there
  have hT : s₁.TypeIs (.ref e) cls := ⟨ob, he, hcls⟩
  have hnt : ∀ {Q' : Bool → Shared → Prop}, Q' false s₁ → wpAny (model prog w) A (isType (.ref e)) Q' E s₁ := by
    intro Q' hq
    simp only [isType, loadHead]
    refine wpAny_bind (wpAny_loadPart he ?_)
    rw [hd]; exact wpAny_pure hq
  refine wpAny_bind (wpAny_pure ?_)
  dsimp only
  refine wpAny_bind (wpAny_holding ?_)
  unfold excFromValue isExcClass
  refine wpAny_bind (wpAny_bind (hnt ?_))
  simp only [Bool.false_eq_true, if_false]
  refine wpAny_pure ?_
  simp only [Bool.false_eq_true, if_false]
  refine wpAny_bind (wpAny_isInstance hT F.isExc ?_)
  simp only [if_true]
  refine wpAny_pure ?_
  refine wpAny_bind (hnt ?_)
  simp only [Bool.false_eq_true, if_false]
  unfold raisedInstance
  refine wpAny_bind (wpAny_bind (wpAny_typeOf hT (wpAny_bind (m := typeOf (.type cls)) (wpAny_pure ?_))))
  rw [if_pos F.plainMeta]
  refine wpAny_pure ?_
  unfold setFlight
  refine wpAny_bind (wpAny_bind (wpAny_field (i := 1) (x := Value.none) he hd rfl ?_))
  rw [if_neg (by decide)]
  refine wpAny_pure ?_
  have hne : h0 ≠ e := fun q => by have := hn.new; rw [← q, ho] at this; cases this
  exact raiseNew_in hh hne (hn.keeps _ _ ho) hd0 h2 he hd (by show 2 < 6; decide) (hE _ (MadeIn.of_new hn))
end
end Mine

end
theorem Mine.flush5 : True := by
  w_top off
  first | walk1 | trivial
section
open PySem PySem.W PyProof.Rows PySem.Calls
set_option maxRecDepth 100000
namespace Mine

/-- an exception that the own frame's try holds; h: the heap ahead of it; fl: its mark -/
structure Caught (l : List Env) (h h' : Heap) (e : Addr) (cls : String) (fl : Value) : Prop where
  ex : Ex l h h'
  new : h.get? e = none
  there : ∃ oe vs T oT ts, h'.get? e = some oe ∧ oe.cls = .type cls ∧ oe.data = .fields vs ∧ vs[1]? = some (.ref T) ∧ vs[2]? = some .none ∧ T ≠ e ∧ h.get? T = none ∧ h'.get? T = some oT ∧ oT.data = .fields ts ∧ ts[3]? = some fl

section
variable {M : Model} {A : Around} {E : Value → Shared → Prop} {s : Shared} {b0 h : Heap} {env : Env} {l : List Env} {L e : Addr} {Q : Unit → Shared → Prop} {cls : String}

theorem note_new (hfr : A.frames = some (env :: l)) (hl : h.FunFrames b0 (env :: l)) (hf : env.frame = some L) (x : Heap.NewExc h s.heap e cls)
    (hQ : ∀ h', Caught (env :: l) h h' e cls (rawInt L) → Q () { s with heap := h' }) : wpAny M A (noteFrame (.ref e) env) Q E s := by
  obtain ⟨oe, tt, he, hcls, hd⟩ := x.there
  have hl' : s.heap.FunFrames b0 (env :: l) := hl.of_keeps fun b o q _ => ⟨o, x.keeps b o q, rfl⟩
  have hene : e ∉ fra (env :: l) := fun hm => by
    obtain ⟨_, o, ho, _⟩ := hl.mem hm
    rw [x.new] at ho; cases ho
  unfold noteFrame
  simp only [hf]
  refine wpAny_bind (wpAny_field he hd (x := .none) rfl ?_)
  rw [if_neg (by decide)]
  refine wpAny_bind (wpAny_frameOf_fun hfr hl' hf fun h₁ hs₁ => ?_)
  refine wpAny_bind (wpAny_entryPlaceOf fun pl hpl => ?_)
  unfold EntryCells.newEntry newFields
  refine wpAny_bind (wpAny_newObj_type ?_ (hpl.sizeOk5 _ _ _ _ _))
  have he₁ : h₁.get? e = some oe := (hs₁.2.1 e hene).trans he
  have hTe : h₁.objs.size ≠ e := Nat.ne_of_gt (Heap.lt_size he₁)
  refine wpAny_setField (Heap.get?_push_of_some _ he₁) hd (by show 1 < 6; decide) (hQ _ ⟨⟨fun b o q nm => ?_, fun b o q hm => ?_⟩, x.new, ?_⟩)
  · have hb : e ≠ b := fun z => by rw [← z, x.new] at q; cases q
    rw [Heap.get?_update_other _ _ hb]
    exact Heap.get?_push_of_some _ ((hs₁.2.1 b nm).trans (x.keeps b o q))
  · have hb : e ≠ b := fun z => hene (z ▸ hm)
    obtain ⟨sl, hs⟩ := hs₁.2.2 b o (x.keeps b o q)
    refine ⟨sl, ?_⟩
    rw [Heap.get?_update_other _ _ hb]
    exact Heap.get?_push_of_some _ hs
  · have hT0 : h.get? h₁.objs.size = none := by
      cases q : h.get? h₁.objs.size with
      | none => rfl
      | some o =>
        obtain ⟨sl, hs⟩ := hs₁.2.2 _ o (x.keeps _ o q)
        exact absurd (Heap.lt_size hs) (Nat.lt_irrefl _)
    refine ⟨_, _, h₁.objs.size, _, _, Heap.get?_update_self _ (Heap.get?_push_of_some _ he₁) (Obj.isFreed_of_fields (Obj.data_mapFields hd _)), (Obj.cls_mapFields _ _).trans hcls, Obj.data_mapFields hd _, rfl, rfl, hTe, hT0, (Heap.get?_update_other _ _ hTe.symm).trans (Heap.get?_push_size h₁ rfl), rfl, ?_⟩
    first | (simp; done) | (rcases hpl with rfl | ⟨_, _, _, _, _, _, _, rfl⟩ <;> simp)

theorem Caught.lands {fl : Value} (C : Caught l h s.heap e cls fl) (hQ : ∀ h', Caught l h h' e cls .none → Q () { s with heap := h' }) : wpAny M A (setFlight (.ref e) none) Q E s := by
  obtain ⟨ex, new, oe, vs, T, oT, ts, he, hc, hd, h1, h2, hTe, hT0, hT, hdT, h3⟩ := C
  have hsz3 : 3 < ts.size := (Array.getElem?_eq_some_iff.mp h3).1
  have other : ∀ b, b ≠ T → (s.heap.update T (Obj.mapFields (·.setIfInBounds 3 ((none : Option Addr).elim Value.none fun f => rawInt f)))).get? b = s.heap.get? b :=
    fun b hb => Heap.get?_update_other _ _ (Ne.symm hb)
  unfold setFlight
  refine wpAny_bind (wpAny_field he hd h1 ?_)
  rw [if_pos (show (Value.ref T != Value.none) = true from by simp)]
  refine wpAny_setField hT hdT hsz3 (hQ _ ⟨⟨fun b o q nm => ?_, fun b o q hm => ?_⟩, new, ?_⟩)
  · rw [other b (fun z => by rw [z, hT0] at q; cases q)]
    exact ex.keep b o q nm
  · rw [other b (fun z => by rw [z, hT0] at q; cases q)]
    exact ex.slot b o q hm
  · exact ⟨oe, vs, T, _, _, (other e hTe.symm).trans he, hc, hd, h1, h2, hTe, hT0, Heap.get?_update_self _ hT (Obj.isFreed_of_fields (Obj.data_mapFields hdT _)), Obj.data_mapFields hdT _, by simp [hsz3]⟩
end

theorem Caught.mono {l : List Env} {h h' h'' : Heap} {e : Addr} {cls : String} {fl : Value} (C : Caught l h h' e cls fl) (k : h'.StaysIn h'') : Caught l h h'' e cls fl := by
  obtain ⟨ex, new, oe, vs, T, oT, ts, he, hc, hd, h1, h2, hTe, hT0, hT, hdT, h3⟩ := C
  exact ⟨ex.trans (.of_stays k), new, oe, vs, T, oT, ts, k _ _ he, hc, hd, h1, h2, hTe, hT0, k _ _ hT, hdT, h3⟩
theorem Caught.ty {l : List Env} {s : Shared} {h : Heap} {e : Addr} {cls : String} {fl : Value} (C : Caught l h s.heap e cls fl) : s.TypeIs (.ref e) cls := by
  obtain ⟨oe, vs, T, oT, ts, he, hc, _⟩ := C.there
  exact ⟨oe, he, hc⟩
theorem Caught.ctx {l : List Env} {h h' : Heap} {e : Addr} {cls : String} {fl : Value} (C : Caught l h h' e cls fl) : ∃ o vs, h'.get? e = some o ∧ o.data = .fields vs ∧ vs[2]? = some .none := by
  obtain ⟨oe, vs, T, oT, ts, he, hc, hd, h1, h2, _⟩ := C.there
  exact ⟨oe, vs, he, hd, h2⟩
end Mine
namespace Mine
section
variable {prog : Program} {w : World} {A : Around} {E : Value → Shared → Prop} {s : Shared} {b0 g h : Heap} {l : List Env} {L a e : Addr} {m : Str → Option Value} {name : Str} {scope : Scope} {cd : Value}
  {b₀ : Stmt} {suite : List Stmt} {pos : Pos} {rest : List ExceptHandler} {Q : Flow → Shared → Prop} {K : Frag} {t : Expr}
  {p : Program} {loose : List Str} {mean : ExcName → Option Value} {mg mb : Str → Option Value} {cls : String}

theorem fra_there {b0 h : Heap} {l : List Env} (hl : h.FunFrames b0 l) : ∀ b ∈ fra l, ∃ o, h.get? b = some o := fun b hb => by
  obtain ⟨_, o, ho, _⟩ := hl.mem hb
  exact ⟨o, ho⟩

/-- the own frame's try catches what its body has raised -/
theorem catch_own (B : Below A b0 l g) (F : Fr g L h m) (X : K.In b0) (T : Top p loose mean mg mb b0) (x : Heap.NewExc h s.heap e cls)
    (Te : KtsTest prog w K p loose mg mb name scope L a cd (.type cls) t true) (hk : scope.kind = .function)
    (k : ∀ h₆ g', KtsTurn (fra l) g g' → Fr g' L h₆ m → Below A b0 l g' → K.In g' → Top p loose mean mg mb g' → Caught (envOf name scope L a cd :: l) h h₆ e cls .none →
      wpAny (model prog w) ((A.deeper (envOf name scope L a cd)).mark (some (.ref e))) (execs (b₀ :: suite) (envOf name scope L a cd)) Q E { s with heap := h₆ })
    (hE : PassesOwnAt (model prog w) ((A.deeper (envOf name scope L a cd)).mark (some (.ref e))) (A.deeper (envOf name scope L a cd)) (envOf name scope L a cd) E) :
    wpAny (model prog w) (A.deeper (envOf name scope L a cd)) (noteFrame (.ref e) (envOf name scope L a cd))
      (fun _ s₂ => wpAny (model prog w) (A.deeper (envOf name scope L a cd)) (setFlight (.ref e) none) (fun _ s₃ =>
        wpAny (model prog w) (A.deeper (envOf name scope L a cd)) (handleBy (.ref e) (envOf name scope L a cd) (.ExceptHandler (some t) none (b₀ :: suite) pos :: rest)) Q E s₃) E s₂) E s := by
  have O : Own b0 (envOf name scope L a cd) L g h := Own.of_fr (cl := []) F hk
  have FF : h.FunFrames b0 (envOf name scope L a cd :: l) := O.frames B (.of_stays F.keep)
  refine note_new (Around.frames_deeper B.stack) FF rfl x fun h₁ C₁ => ?_
  refine C₁.lands fun h₂ C₂ => ?_
  obtain ⟨g₂, T₂, F₂, B₂, _⟩ := reground (env := envOf name scope L a cd) B F rfl C₂.ex
  obtain ⟨oe, vs, Tb, oT, ts, he, hc, _⟩ := C₂.there
  have LT : Looks (model prog w) h₂ (typeOf (.ref e)) (.type cls) := by
    rw [← hc]; exact (Looks.ld he).andThen .now
  refine wpAny_handleBy_cons (codeAny_handlers_test (Te _ _ _ _ g₂ e m F₂ (X.keeps B₂.stays) (topRead_of (T.keeps B₂.stays)) LT fun h₃ k₃ => ?_)) (by intro q; cases q)
  refine codeAny_handlers_suite ?_
  have C₃ : Caught (envOf name scope L a cd :: l) h h₃ e cls .none := C₂.mono k₃
  refine C₃.lands (s := { s with heap := h₃ }) fun h₄ C₄ => ?_
  obtain ⟨g₄, T₄, F₄, B₄, _⟩ := reground (env := envOf name scope L a cd) B F rfl C₄.ex
  exact wpAny_passesOwnAt hE (k h₄ g₄ T₄ F₄ B₄ (X.keeps B₄.stays) (T.keeps B₄.stays) C₄)

/-- a frame's try catches what a call has raised -/
theorem catch_fly (B : Below A b0 l g) (F : Fr g L h m) (X : K.In b0) (T : Top p loose mean mg mb b0) (x' : Ex (envOf name scope L a cd :: l) h s.heap) (R : Fly (envOf name scope L a cd :: l) e cls h s.heap)
    (Te : KtsTest prog w K p loose mg mb name scope L a cd (.type cls) t true) (hk : scope.kind = .function)
    (k : ∀ h₆ g', KtsTurn (fra l) g g' → Fr g' L h₆ m → Below A b0 l g' → K.In g' → Top p loose mean mg mb g' → Ex (envOf name scope L a cd :: l) h h₆ →
      wpAny (model prog w) ((A.deeper (envOf name scope L a cd)).mark (some (.ref e))) (execs (b₀ :: suite) (envOf name scope L a cd)) Q E { s with heap := h₆ })
    (hE : PassesOwnAt (model prog w) ((A.deeper (envOf name scope L a cd)).mark (some (.ref e))) (A.deeper (envOf name scope L a cd)) (envOf name scope L a cd) E) :
    wpAny (model prog w) (A.deeper (envOf name scope L a cd)) (noteFrame (.ref e) (envOf name scope L a cd))
      (fun _ s₂ => wpAny (model prog w) (A.deeper (envOf name scope L a cd)) (setFlight (.ref e) none) (fun _ s₃ =>
        wpAny (model prog w) (A.deeper (envOf name scope L a cd)) (handleBy (.ref e) (envOf name scope L a cd) (.ExceptHandler (some t) none (b₀ :: suite) pos :: rest)) Q E s₃) E s₂) E s := by
  have O : Own b0 (envOf name scope L a cd) L g h := Own.of_fr (cl := []) F hk
  have FF : h.FunFrames b0 (envOf name scope L a cd :: l) := O.frames B (.of_stays F.keep)
  obtain ⟨Bs, a0, hB, hfl⟩ := R
  have exOf : ∀ h', Heap.FlyingW Bs (envOf name scope L a cd :: l) e (.type cls) a0 h' → s.heap.UpToSlots h' → Ex (envOf name scope L a cd :: l) h h' := fun h' hf hs =>
    ⟨fun b o q nm => hf.1 b o (hB b o q nm), fun b o q hm => by
      obtain ⟨_, o', ho', hnf⟩ := FF.mem hm
      rw [q] at ho'; cases ho'
      obtain ⟨sl, hs1⟩ := x'.slot b o q hm
      obtain ⟨sl', hs'⟩ := hs b _ hs1 hnf
      exact ⟨sl', hs'⟩⟩
  refine wpAny_looks_onW (Around.frames_deeper B.stack) rfl hfl fun h₁ hh₁ hs₁ => ?_
  refine wpAny_landsW hh₁ fun h₂ hf₂ hs₂ => ?_
  have E₂ := exOf h₂ hf₂ (hs₁.trans hs₂)
  obtain ⟨g₂, T₂, F₂, B₂, _⟩ := reground (env := envOf name scope L a cd) B F rfl E₂
  obtain ⟨oe, he, hc⟩ := hf₂.there
  have LT : Looks (model prog w) h₂ (typeOf (.ref e)) (.type cls) := by
    rw [← hc]; exact (Looks.ld he).andThen .now
  refine wpAny_handleBy_cons (codeAny_handlers_test (Te _ _ _ _ g₂ e m F₂ (X.keeps B₂.stays) (topRead_of (T.keeps B₂.stays)) LT fun h₃ k₃ => ?_)) (by intro q; cases q)
  refine codeAny_handlers_suite ?_
  have hf₃ := flying_keeps hf₂ k₃
  refine lands_againW hf₃ fun h₄ hf₄ hs₄ => ?_
  have E₄ := exOf h₄ hf₄ (((hs₁.trans hs₂).trans (Heap.UpToSlots.of_keeps k₃)).trans hs₄)
  obtain ⟨g₄, T₄, F₄, B₄, _⟩ := reground (env := envOf name scope L a cd) B F rfl E₄
  exact wpAny_passesOwnAt hE (k h₄ g₄ T₄ F₄ B₄ (X.keeps B₄.stays) (T.keeps B₄.stays) E₄)
end
end Mine
namespace Mine
theorem leave_new {M : Model} {A : Around} {E : Value → Shared → Prop} {s : Shared} {b0 g h : Heap} {l : List Env} {L a e : Addr} {Q : Unit → Shared → Prop} {m : Str → Option Value} {name : Str} {scope : Scope} {cd : Value} {cls : String}
    (B : Below A b0 l g) (F : Fr g L h m) (x : Heap.NewExc h s.heap e cls)
    (hQ : ∀ h', Ex l g h' → Fly l e cls g h' → Q () { s with heap := h' }) (hk : scope.kind = .function := by rfl) :
    wpAny M (A.deeper (envOf name scope L a cd)) (leaving (envOf name scope L a cd) (.ref e)) Q E s := by
  obtain ⟨oe, t, he, hc, hd⟩ := x.there
  exact leave_first B (.of_stays F.keep) (Own.of_fr (cl := []) F hk) x.keeps x.new he hc hd rfl rfl hQ
end Mine

end
theorem Mine.flush6 : True := by
  w_top off
  first | walk1 | trivial
section
open PySem PySem.W PyProof.Rows PySem.Calls
set_option maxRecDepth 100000
namespace Mine
section
variable {prog : Program} {w : World} {A : Around} {E : Value → Shared → Prop} {s : Shared}

theorem getItem_str_none {x : Str} {t u : Tok} {Q : Value → Shared → Prop} (hA : A.handled = none) (hx : x.length = 0)
    (hE : ∀ h' tk e, Heap.NewExc s.heap h' e "IndexError" → E (.ref e) { s with heap := h', toks := tk }) :
    wpAny (model prog w) A (getItem (.str x t) (.int 0 u)) Q E s := by
  unfold getItem
  refine wpAny_bind (wpAny_pure ?_)
  refine wpAny_bind (wpAny_callSpecial?_slot (name := Str.ofString "__getitem__") (typeIs_str s x t) F.slot_str_getitem
    (wpAny_call_entry F.slot_str_getitem (typeIs_str s x t) F.entry_str_getitem ?_ (F.args_str_getitem_2 _ _)))
  have hn : (seqIndex? 0 x.length).bind (x.cps[·]?) = none := by rw [hx]; rfl
  show wpAny (model prog w) _ (match (seqIndex? 0 x.length).bind (x.cps[·]?) with
          | some c => retStr ⟨#[c]⟩
          | none => (do rule "str.__getitem__.out-of-range"; raiseError "IndexError" "string index out of range")) _ _ s
  rw [hn]
  dsimp only
  exact wpAny_bind (wpAny_rule (by exact_raiseError plainExc_IndexError hA hE))

theorem item_str_none {value slice : Expr} {x : Str} {t u : Tok} {Q : Value → Shared → Prop} (hA : A.handled = none) (hx : x.length = 0)
    (hE : ∀ h' tk e, Heap.NewExc s.heap h' e "IndexError" → E (.ref e) { s with heap := h', toks := tk })
    (hs : subscripted slice false (.str x t) (.int 0 u) = operate [.str x t, .int 0 u] (getItem (.str x t) (.int 0 u)) := by with_unfolding_all rfl) :
    wpAny (model prog w) A (subscriptTail value slice (.str x t) (.int 0 u)) Q E s :=
  tail_any (typeIs_str s x t) F.slot_str_getitem.lookup (getItem_str_none hA hx hE) hs
end
end Mine

end
theorem Mine.flush7 : True := by
  w_top off
  first | walk1 | trivial
section
open PySem PySem.W PyProof.Rows PySem.Calls
set_option maxRecDepth 100000
namespace Mine

/-- a kind of contexts that calls keep -/
structure Closed (G : Ctx → Prop) : Prop where
  enter : ∀ Γ c h p, G Γ → G (Γ.enter c h p)
  goto : ∀ Γ c, G Γ → G (Γ.goto c)

/-- the claim's caller stands below -/
def HC (Γ : Ctx) : Prop := (Γ.below.any fun x => x.1.isCaller) = true
theorem closed_HC : Closed HC := ⟨fun Γ c h p g => by
    show (((Γ.code, p) :: Γ.below).any fun x => x.1.isCaller) = true
    rw [List.any_cons, show (Γ.below.any fun x => x.1.isCaller) = true from g, Bool.or_true], fun Γ c g => g⟩
theorem closed_all : Closed fun _ => True := ⟨fun _ _ _ _ _ => trivial, fun _ _ _ => trivial⟩

def wpG (G : Ctx → Prop) {α : Type} (M : Model) (A : Around) (t : Sem α) (Q : α → Shared → Prop) (E : Value → Shared → Prop) (s : Shared) : Prop :=
  ∀ Γ p, Γ.In A → G Γ → Sem.wp M Γ t (fun a _ s' => Q a s') (fun e _ s' => E e s') p s
def codeG (G : Ctx → Prop) (M : Model) (A : Around) (c : Code) (R : Result → Shared → Prop) (s : Shared) : Prop :=
  ∀ Γ p, Γ.code = c → Γ.Below A → G Γ → wpCode M Γ R p s

section
variable {G : Ctx → Prop} {α β : Type} {M : Model} {A : Around} {E : Value → Shared → Prop} {s : Shared}
theorem wpG_any {t : Sem α} {Q : α → Shared → Prop} (h : wpAny M A t Q E s) : wpG G M A t Q E s := fun Γ p hi _ => h Γ p hi
theorem wpG_all {t : Sem α} {Q : α → Shared → Prop} (h : wpG (fun _ => True) M A t Q E s) : wpAny M A t Q E s := fun Γ p hi => h Γ p hi trivial
theorem codeG_any {c : Code} {R : Result → Shared → Prop} (h : codeAny M A c R s) : codeG G M A c R s := fun Γ p hc hi _ => h Γ p hc hi
theorem codeG_all {c : Code} {R : Result → Shared → Prop} (h : codeG (fun _ => True) M A c R s) : codeAny M A c R s := fun Γ p hc hi => h Γ p hc hi trivial
theorem wpG_bind {m : Sem α} {f : α → Sem β} {Q : β → Shared → Prop} (h : wpG G M A m (fun a s' => wpG G M A (f a) Q E s') E s) : wpG G M A (m >>= f) Q E s := fun Γ p hi hg => by
  rw [Sem.wp_bind']
  exact Sem.wp_mono M Γ m (fun a p' s' h' => h' Γ p' hi hg) (fun _ _ _ h' => h') p s (h Γ p hi hg)
theorem wpG_mono {t : Sem α} {Q Q' : α → Shared → Prop} {E' : Value → Shared → Prop} (h : wpG G M A t Q E s) (hQ : ∀ a s, Q a s → Q' a s) (hE : ∀ e s, E e s → E' e s) : wpG G M A t Q' E' s :=
  fun Γ p hi hg => Sem.wp_mono M Γ t (fun a _ s => hQ a s) (fun e _ s => hE e s) p s (h Γ p hi hg)
theorem wpG_pure {a : α} {Q : α → Shared → Prop} (h : Q a s) : wpG G M A (pure a) Q E s := wpG_any (wpAny_pure h)
theorem wpG_holding {vs : List Value} {m : Sem α} {Q : α → Shared → Prop} (h : wpG G M A m Q E s) : wpG G M A (holding vs m) Q E s := fun Γ p hi hg => by
  rw [Sem.wp_holding]; exact h Γ p hi hg
theorem wpG_onRaise {m : Sem α} {k : Value → Sem Unit} {Q : α → Shared → Prop} (h : wpG G M A m Q (fun e s' => wpG G M A (k e) (fun _ s'' => E e s'') E s') s) : wpG G M A (m.onRaise k) Q E s := fun Γ p hi hg => by
  rw [Sem.wp_onRaise]
  exact Sem.wp_mono M Γ m (fun _ _ _ h' => h') (fun e p' s' h' => h' Γ p' hi hg) p s (h Γ p hi hg)
theorem wpG_attempt {m : Sem α} {Q : Except Value α → Shared → Prop} (h : wpG G M A m (fun a => Q (.ok a)) (fun e => Q (.error e)) s) : wpG G M A m.attempt Q E s := fun Γ p hi hg => by
  rw [Sem.wp_attempt]; exact h Γ p hi hg
theorem wpG_run (cG : Closed G) {c : Code} {h : Option Value} {Q : Flow → Shared → Prop}
    (hc : codeG G M (A.mark h) c (fun r s' => match r with | .ok f => Q f s' | .error e => E e s') s) (hnb : h ≠ some byPass := by intro x; cases x) : wpG G M A (run c h) Q E s :=
  fun Γ p hi hg => by rw [Sem.wp_run]; exact hc _ p rfl (hi.enter c h p hnb) (cG.enter _ _ _ _ hg)
theorem wpG_runValue (cG : Closed G) {c : Code} {Q : Value → Shared → Prop}
    (hc : codeG G M A c (fun r s' => match r with | .ok (.ret v) => Q v s' | .ok _ => False | .error e => E e s') s) : wpG G M A (runValue c) Q E s :=
  fun Γ p hi hg => by rw [Sem.wp_runValue]; exact hc _ p rfl (hi.enter c none p (by intro x; cases x)) (cG.enter _ _ _ _ hg)
theorem wpG_call (cG : Closed G) {f : Value} {pos : List Value} {kw : List (Str × Value)} {Q : Value → Shared → Prop}
    (hc : codeG G M A (.call f ⟨pos, kw⟩) (fun r s' => match r with | .ok (.ret v) => Q v s' | .ok _ => False | .error e => E e s') s) : wpG G M A (call f pos kw) Q E s := wpG_runValue cG hc
theorem codeG_mono {c : Code} {R R' : Result → Shared → Prop} (h : codeG G M A c R s) (hR : ∀ r s, R r s → R' r s) : codeG G M A c R' s :=
  fun Γ p hc hi hg => wpCode_mono hR (h Γ p hc hi hg)
theorem codeG_of_tree (cG : Closed G) {c : Code} {R : Result → Shared → Prop}
    (h : wpG G M (A.under c) (M.den c) (fun fin s' => match fin with | .done f => R (.ok f) s' | .again c' => c'.quiet = true ∧ codeG G M A c' R s')
      (fun e s' => R (.error e) s') s) : codeG G M A c R s := fun Γ p hc hi hg => by
  rw [wpCode_iff_wp, hc]
  refine Sem.wp_mono M Γ _ (fun fin p' s' h' => ?_) (fun _ _ _ h' => h') p s (h Γ p (hc ▸ hi.in) hg)
  cases fin with
  | done f => exact h'
  | again c' => exact ⟨h'.1, h'.2 (Γ.goto c') p' rfl (hi.goto c') (cG.goto _ _ hg)⟩
theorem wp0_call {f : Value} {vs : List Value} {Q : Value → Shared → Prop}
    (hc : codeG HC M callerA (.call f ⟨vs, []⟩) (fun r s' => match r with | .ok (.ret v) => Q v s' | .ok _ => False | .error e => E e s') s) : wp0 M (call f vs) Q E s := fun p => by
  show Sem.wp M ctx0 (runValue _) _ _ p s
  rw [Sem.wp_runValue]
  exact hc _ p rfl (caller_in.enter _ none p (by intro x; cases x)) (by
    show (((ctx0.code, p) :: ctx0.below).any fun x => x.1.isCaller) = true
    rfl)
end

section
variable {G : Ctx → Prop} {prog : Program} {w : World} {A : Around} {R : Result → Shared → Prop} {s : Shared}
theorem codeG_func (cG : Closed G) {body : List Stmt} {env : Env}
    (h : wpG G (model prog w) (A.deeper env) (execs body env) (fun f s' => R (.ok (.ret (match f with | .ret v => v | _ => .none))) s')
      (fun e s' => wpAny (model prog w) (A.deeper env) (leaving env e) (fun _ s'' => R (.error e) s'') (fun e' s'' => R (.error e') s'') s') s) :
    codeG G (model prog w) A (.func body env) R s := by
  refine codeG_of_tree cG ?_
  show wpG G _ (A.deeper env) (do point; match ← (execs body env).onRaise (leaving env) with | .ret v => ret v | _ => ret .none) _ _ s
  refine wpG_bind (wpG_any (wpAny_point (wpG_bind (wpG_onRaise (wpG_mono h (fun f s' h' => ?_) fun _ _ h' => wpG_any h')))))
  cases f <;> exact wpG_pure h'
theorem codeG_exprBody (cG : Closed G) {e : Expr} {env : Env}
    (h : wpG G (model prog w) (A.deeper env) (eval e env) (fun v s' => R (.ok (.ret v)) s')
      (fun e' s' => wpAny (model prog w) (A.deeper env) (leaving env e') (fun _ s'' => R (.error e') s'') (fun e'' s'' => R (.error e'') s'') s') s) :
    codeG G (model prog w) A (.expr e env) R s := by
  refine codeG_of_tree cG ?_
  show wpG G _ (A.deeper env) (do point; ret (← (eval e env).onRaise (leaving env))) _ _ s
  exact wpG_bind (wpG_any (wpAny_point (wpG_bind (wpG_onRaise (wpG_mono h (fun v s' h' => wpG_pure h') fun _ _ h' => wpG_any h')))))
theorem codeG_fn (cG : Closed G) {a : Addr} {args : Args} {o : Obj} {fd : FuncData} {body : List Stmt} (hroom : A.depth < recursionLimit) (ho : s.heap.get? a = some o)
    (hd' : o.data = .func fd) (hco : fd.scope.isCoroutine = false) (hgen : fd.scope.isGenerator = false) (hbody : fd.body = .stmts body) (hcd : s.heap.CodeRec fd.code fd.qualname)
    (h : wpAny (model prog w) A.in1 (bindArgs fd args) (fun binds s₁ =>
      wpAny (model prog w) A.in1 (newFunctionEnv fd.scope fd.globals fd.closure binds (fd.qualname ++ ".<locals>.") (some a) fd.code none fd.builtins)
        (fun env s₂ => s₂.heap.NoLimit ∧ codeG G (model prog w) A (.func body env) R s₂) (fun e s' => R (.error e) s') s₁) (fun e s' => R (.error e) s') s) :
    codeG G (model prog w) A (.call (.ref a) args) R s := by
  refine codeG_of_tree cG (wpG_any ?_)
  show wpAny _ A.in1 (callAny (.ref a) args) _ _ s
  simp only [callAny]
  refine wpAny_bind (wpAny_load ho ?_)
  obtain ⟨c, oc, vs, tq, hc, hoc, hdc, hq⟩ := hcd
  simp only [hd', callFunction, hco, hgen, hbody, hc]
  rw [hc] at h
  refine wpAny_bind (m := field (.ref c) 1) (wpAny_field hoc hdc hq (wpAny_bind (wpAny_pure ?_)))
  exact wpAny_bind (wpAny_mono h (fun binds s₁ h₁ => wpAny_bind (wpAny_mono h₁ (fun env s₂ h₂ => wpAny_bind (wpAny_enterFrame h₂.1 hroom (wpAny_pure ⟨rfl, h₂.2⟩))) fun _ _ x => x)) fun _ _ x => x)
theorem codeG_lam (cG : Closed G) {a : Addr} {args : Args} {o : Obj} {fd : FuncData} {body : Expr} (hroom : A.depth < recursionLimit) (ho : s.heap.get? a = some o)
    (hd' : o.data = .func fd) (hco : fd.scope.isCoroutine = false) (hgen : fd.scope.isGenerator = false) (hbody : fd.body = .expr body) (hcd : s.heap.CodeRec fd.code fd.qualname)
    (h : wpAny (model prog w) A.in1 (bindArgs fd args) (fun binds s₁ =>
      wpAny (model prog w) A.in1 (newFunctionEnv fd.scope fd.globals fd.closure binds (fd.qualname ++ ".<locals>.") (some a) fd.code none fd.builtins)
        (fun env s₂ => s₂.heap.NoLimit ∧ codeG G (model prog w) A (.expr body env) R s₂) (fun e s' => R (.error e) s') s₁) (fun e s' => R (.error e) s') s) :
    codeG G (model prog w) A (.call (.ref a) args) R s := by
  refine codeG_of_tree cG (wpG_any ?_)
  show wpAny _ A.in1 (callAny (.ref a) args) _ _ s
  simp only [callAny]
  refine wpAny_bind (wpAny_load ho ?_)
  obtain ⟨c, oc, vs, tq, hc, hoc, hdc, hq⟩ := hcd
  simp only [hd', callFunction, hco, hgen, hbody, hc]
  rw [hc] at h
  refine wpAny_bind (m := field (.ref c) 1) (wpAny_field hoc hdc hq (wpAny_bind (wpAny_pure ?_)))
  exact wpAny_bind (wpAny_mono h (fun binds s₁ h₁ => wpAny_bind (wpAny_mono h₁ (fun env s₂ h₂ => wpAny_bind (wpAny_enterFrame h₂.1 hroom (wpAny_pure ⟨rfl, h₂.2⟩))) fun _ _ x => x)) fun _ _ x => x)
end
end Mine

end
theorem Mine.flush8 : True := by
  w_top off
  first | walk1 | trivial
section
open PySem PySem.W PyProof.Rows PySem.Calls
set_option maxRecDepth 100000
set_option maxHeartbeats 4000000
namespace Mine
section
variable {prog : Program} {w : World} {A : Around} {E : Value → Shared → Prop} {s : Shared}

theorem codeG_builtin {G : Ctx → Prop} (cG : Closed G) {id : String} {args : Args} {b : Builtin} {R : Result → Shared → Prop} (hb : entryFor table id = some b)
    (h : wpG G (model prog w) (A.under (.builtin id args)) (b args)
      (fun fin s' => match fin with | .done f => R (.ok f) s' | .again c' => c'.quiet = true ∧ codeG G (model prog w) A c' R s') (fun e s' => R (.error e) s') s) :
    codeG G (model prog w) A (.builtin id args) R s := by
  refine codeG_of_tree cG ?_
  show wpG _ _ _ (match entryFor table id with | some b => b args | none => unsupported ((withoutEnding? id "#data").getD id)) _ _ s
  rw [hb]; exact h

theorem callType_raise {G : Ctx → Prop} (cG : Closed G) {x : Str} {t : Tok} {Q : Value → Shared → Prop}
    (h : codeG G (model prog w) A.in1 (.call (.builtin "int.__new__") ⟨[.type "int", .str x t], []⟩) (fun r s' => match r with | .ok _ => False | .error e => E e s') s) :
    wpG G (model prog w) A (call (.type "int") [.str x t]) Q E s := by
  have ft := F.called_int
  obtain ⟨c, tl, hmro⟩ := ft.mro
  have hmade := ft.made
  have h1 := ft.notType
  have h2 := ft.canCreate
  have h3 := F.typeCall_int_1 (.str x t)
  refine wpG_call cG (codeG_of_tree cG ?_)
  show wpG _ _ _ (callAny (.type "int") _) _ _ _
  refine wpG_pure ⟨Code.quiet_builtin _ (by decide +kernel), codeG_builtin cG F.entry_type_call ?_⟩
  rw [Around.under_plain (weight_type_call_type "int" _ []) (units_type_call_type "int" _ [])]
  unfold Builtin.«type.__call__»
  simp only [h1, h2, h3, hmro, hmade, Bool.false_eq_true, if_false, pure_bind, List.isEmpty_cons]
  refine wpG_bind (wpG_holding (wpG_call cG (codeG_mono h fun r s' hr => ?_)))
  cases r with
  | error e => exact hr
  | ok f => exact hr.elim

theorem intNew_raise {G : Ctx → Prop} (cG : Closed G) {x : Str} {t : Tok} {R : Result → Shared → Prop}
    (h : wpG G (model prog w) A.in1 ((int_private% "intFromText") (.str x t) (numTextOf x) 10) (fun _ _ => False) (fun e s' => R (.error e) s') s) :
    codeG G (model prog w) A (.call (.builtin "int.__new__") ⟨[.type "int", .str x t], []⟩) R s := by
  have f1 := F.conv_sub_int
  have f2 := F.madeHere_int
  have f3 := KIN.str_int
  have f4 := KIN.str_idx
  have f5 := KIN.str_trunc
  have f6 : typeOf (.str x t) = pure (.type "str") := rfl
  refine codeG_of_tree cG ?_
  show wpG G _ A.in1 (do checkBuiltinCall "int.__new__" _; again (.builtin "int.__new__" _)) _ _ s
  rw [F.newCall_int_1]
  refine wpG_bind (wpG_pure (wpG_pure ⟨Code.quiet_builtin _ (by decide +kernel), codeG_builtin cG F.entry_int_new ?_⟩))
  rw [Around.under_plainId (by decide +kernel)]
  unfold Builtin.«int.__new__»
  have f0 : isType (Value.type "int") = pure true := rfl
  have f7 : (Value.type "int" == Value.type "int") = true := by decide
  simp only [f0, f1, f2, f7, pure_bind, Bool.not_true, Bool.false_eq_true, if_false, if_true, List.isEmpty_nil, List.length_cons, List.length_nil, List.forIn_nil, List.head?_cons, List.head?_nil, Option.map_none, Bool.and_true, Bool.true_and, Nat.zero_add, gt_iff_lt, Nat.add_zero]
  refine wpG_bind ?_
  refine wpG_bind (wpG_any ?_)
  repeat (any_goals (first | assumption | wp_step))
  dsimp only
  refine wpG_bind (wpG_any ?_)
  repeat (any_goals (first | assumption | wp_step))
  simp only [Option.isSome_none, Bool.false_eq_true, if_false]
  refine wpG_bind (wpG_any ?_)
  repeat (any_goals (first | assumption | wp_step))
  dsimp only
  refine wpG_bind (wpG_any ?_)
  repeat (any_goals (first | assumption | wp_step))
  exact wpG_mono h (fun _ _ x => x.elim) fun _ _ x => x

theorem made_not {own : List String} {codes : List Code} (h : codes.any Code.isCaller = true) : pythonCodeMadeTheCall own codes = false := by
  show (!(codes.any Code.isCaller) && _ && _) = false
  rw [h]; rfl

theorem wpG_ite_pos {α : Type} {G : Ctx → Prop} {M : Model} {c : Prop} [Decidable c] {a b : Sem α} {Q : α → Shared → Prop} (hc : c) (h : wpG G M A a Q E s) : wpG G M A (if c then a else b) Q E s := by rw [if_pos hc]; exact h
theorem wpG_ite_neg {α : Type} {G : Ctx → Prop} {M : Model} {c : Prop} [Decidable c] {a b : Sem α} {Q : α → Shared → Prop} (hc : ¬ c) (h : wpG G M A b Q E s) : wpG G M A (if c then a else b) Q E s := by rw [if_neg hc]; exact h

theorem mark_not {M : Model} {own : List String} {e : Value} {Q : Unit → Shared → Prop} (h : Q () s) : wpG HC M A (markTheRefusal own e) Q E s := fun Γ p hi hg => by
  unfold markTheRefusal
  rw [Sem.wp_bind']
  show Sem.wp M Γ (if pythonCodeMadeTheCall own (((Γ.code, p) :: Γ.below).map (·.1)) = true then _ else _) _ _ p s
  rw [if_neg]
  · exact h
  · rw [made_not]
    · decide
    · rw [List.any_map, List.any_cons]
      have : (Γ.below.any fun x => x.1.isCaller) = true := hg
      rw [show (Γ.below.any (Code.isCaller ∘ fun x => x.1)) = true from this, Bool.or_true]

theorem intText_raise {x : Str} {t : Tok} (hA : A.handled = none) (hx : PySem.intText? x = none) (hl : x.length ≤ 640) (hz : (reprText x).length ≤ sizeLine)
    (hE : ∀ h' tk e, Heap.NewExc s.heap h' e "ValueError" → E (.ref e) { s with heap := h', toks := tk }) :
    wpG HC (model prog w) A ((int_private% "intFromText") (.str x t) (numTextOf x) 10) (fun _ _ => False) E s := by
  have hs : (numSeenOf x).length ≤ 640 := Nat.le_trans (seen_length x) hl
  have tail : wpG HC (model prog w) A (do
      rule "int.__new__.invalid-literal"
      let shown ← pyRepr (.str x t)
      let refusal ← newExc (.type "ValueError") [← mkStr (((s!"invalid literal for int() with base {10}: " : String) ++ ⟨shown.cps.extract 0 200⟩ : Str))]
      markTheRefusal ["int.__new__"] refusal
      raiseNew refusal) (fun (_ : Value) _ => False) E s := by
    refine wpG_bind (wpG_any (wpAny_rule ?_))
    refine wpG_bind (wpG_any (wpAny_pyRepr_str ?_ hz))
    refine wpG_bind (wpG_any (wpAny_mkStr ?_ ?_))
    · refine wpG_bind (wpG_any (wpAny_newExc_plain plainExc_ValueError (fun h' e hm => ?_) (by show 1 ≤ sizeLine; decide)))
      refine wpG_bind (mark_not ?_)
      exact wpG_any (wpAny_raiseNew_none hA (hE h' _ e hm.newExc))
    · rw [Str.length_append, sizeLine_eq]
      have h1 : (Str.ofString (toString "invalid literal for int() with base " ++ toString 10 ++ toString ": ")).length ≤ 100 := by decide +kernel
      have h2 : (⟨(reprText x).cps.extract 0 200⟩ : Str).length ≤ 200 := by show ((reprText x).cps.extract 0 200).size ≤ 200; simp; omega
      omega
  refine wpG_ite_pos hs (wpG_bind (wpG_pure ?_))
  dsimp only
  rcases read0 x hs with ⟨n, h1, _⟩ | ⟨_, h1 | ⟨i, h1, h2⟩⟩
  · rw [hx] at h1; cases h1
  · rw [h1]
    exact tail
  · rw [h1]
    exact wpG_ite_neg h2 tail

/-- int() of a text that is none of a number, below the claim's caller -/
theorem int_fail {x : Str} {t : Tok} {Q : Value → Shared → Prop} (hA : A.handled = none) (hx : PySem.intText? x = none) (hl : x.length ≤ 640) (hz : (reprText x).length ≤ sizeLine)
    (hE : ∀ h' tk e, Heap.NewExc s.heap h' e "ValueError" → E (.ref e) { s with heap := h', toks := tk }) :
    wpG HC (model prog w) A (call (.type "int") [.str x t]) Q E s :=
  callType_raise closed_HC (intNew_raise closed_HC (intText_raise hA hx hl hz hE))
end
end Mine

end
theorem Mine.flush9 : True := by
  w_top off
  first | walk1 | trivial
section
open PySem PySem.W PyProof.Rows PySem.Calls
set_option maxRecDepth 100000
namespace Mine

structure Same (s s' : Shared) : Prop where
  gens : s'.gens = s.gens
  drawn : s'.drawn = s.drawn
  os : s'.os = s.os
theorem Same.refl (s : Shared) : Same s s := ⟨rfl, rfl, rfl⟩
theorem Same.trans {a b c : Shared} (x : Same a b) (y : Same b c) : Same a c := ⟨y.gens.trans x.gens, y.drawn.trans x.drawn, y.os.trans x.os⟩

/-- it gives back; all that was is as it was -/
def Ret (s : Shared) (P : Value → Heap → Prop) (r : Result) (s' : Shared) : Prop := ∃ v, r = .ok (.ret v) ∧ s.heap.StaysIn s'.heap ∧ Same s s' ∧ P v s'.heap
/-- it raises ValueError -/
def Thrown (l : List Env) (s : Shared) (r : Result) (s' : Shared) : Prop := ∃ e, r = .error (.ref e) ∧ Same s s' ∧ Ex l s.heap s'.heap ∧ Fly l e "ValueError" s.heap s'.heap
def RetOr (l : List Env) (s : Shared) (P : Value → Heap → Prop) (C : Prop) (r : Result) (s' : Shared) : Prop := Ret s P r s' ∨ (C ∧ Thrown l s r s')
/-- it gives back; the frames' slots may have turned -/
def RetX (l : List Env) (s : Shared) (P : Value → Heap → Prop) (r : Result) (s' : Shared) : Prop := ∃ v, r = .ok (.ret v) ∧ Ex l s.heap s'.heap ∧ Same s s' ∧ P v s'.heap

section
variable {l : List Env} {s : Shared} {P : Value → Heap → Prop} {C : Prop} {L : Addr} {h' : Heap} {m : Str → Option Value} {v : Value} {tk : Nat} {e : Addr}
theorem ret_mk (F : Fr s.heap L h' m) (hp : P v h') : Ret s P (.ok (.ret v)) { s with heap := h', toks := tk } := ⟨v, rfl, F.keep, ⟨rfl, rfl, rfl⟩, hp⟩
theorem retOr_ok (F : Fr s.heap L h' m) (hp : P v h') : RetOr l s P C (.ok (.ret v)) { s with heap := h', toks := tk } := .inl (ret_mk F hp)
theorem retOr_err (x : Ex l s.heap h') (f : Fly l e "ValueError" s.heap h') (hc : C) : RetOr l s P C (.error (.ref e)) { s with heap := h', toks := tk } := .inr ⟨hc, e, rfl, ⟨rfl, rfl, rfl⟩, x, f⟩
end

/-- a point, or None -/
inductive PtIs (h : Heap) : Value → Option (Int × Int) → Prop
  | none : PtIs h .none none
  | some {t : Addr} {r c : Int} {t1 t2 : Tok} : IsTup h t #[.int r t1, .int c t2] → PtIs h (.ref t) (some (r, c))
theorem PtIs.keeps {h h' : Heap} {v : Value} {p : Option (Int × Int)} (x : PtIs h v p) (k : h.StaysIn h') : PtIs h' v p := by
  cases x with
  | none => exact .none
  | some ht => exact .some (ht.keeps k)

abbrev inB (r c : Int) : Prop := 0 ≤ r ∧ r < 25 ∧ 0 ≤ c ∧ c < 25
/-- a point's text, where it has one -/
def wr (r c : Int) : Str := Txt.item (Str.ofString "ABCDEFGHJKLMNOPQRSTUVWXYZ") c ++ Str.ofString (toString (r + 1))
def wrP : Option (Int × Int) → Option Str
  | none => some (Str.ofString "pass")
  | some (r, c) => if inB r c then some (wr r c) else none
end Mine

end
theorem Mine.flush10 : True := by
  w_top off
  first | walk1 | trivial
section
open PySem PySem.W PyProof.Rows PySem.Calls
set_option maxRecDepth 100000
set_option maxHeartbeats 8000000
namespace Mine
local macro_rules | `(tactic| walk_at "m_enter") => `(tactic| (refine' enter ?B ?X ?T ?ho ?hcd ?hr ?hb ?hl ?_ ?c2 ?c3 ?c4 ?c5; (case B => assumption); (case X => assumption); (case T => assumption); (case ho => k_is); (case hcd => k_is); (case hr => (simp only [recursionLimit]; omega)); (case hb => exact BindsTo.of_eq rfl); (case c5 => decide); (case hl => exact locs rfl); (case c2 => exact rfl); (case c3 => exact rfl); (case c4 => exact rfl); k_whole; intro L' h' F' N' X' T'; (try dsimp only); (try k_fold)))
local macro_rules | `(tactic| walk_at "assign Tuple") => `(tactic| ((with_reducible show wpAny _ _ (assign (Expr.Tuple _ _ _) _ (Value.ref _)) _ _ _); refine' unpackN_ ?F ?N (IsTup.keeps ?t (Fr.keep ?F2)) ?hh ?k2 ?k3 ?_; (case F => assumption); (case N => assumption); (case t => assumption); (case F2 => assumption); (case hh => assumption); (case k2 => rfl); (case k3 => rfl); intro _ _ _))
local macro_rules | `(tactic| walk_at "exec Raise some none") => `(tactic| ((with_reducible show wpAny _ _ (exec (Stmt.Raise (some (Expr.Name ("ValueError" : Str) _)) none _) _) _ _ _); (with_reducible rename Fr _ _ _ _ => kF); k_dflt (refine' Raise_classB ?hh excClass_ValueError ?hs ?hx ?_; (case hh => assumption); (case hs => (rw [isSubtype_type]; kernel_rfl)); (case hx => (refine' name_B kF ?k1 ?k2 ?k3 ?k4 ?k5 ?_; (case k1 => k_asm); (case k2 => k_asm); (case k3 => k_is); (case k4 => exact ExcClass.boot excClass_ValueError); (case k5 => decide); exact ⟨rfl, rfl⟩)); intro _ _ _)))
local macro_rules | `(tactic| walk_at "leaving ref") => `(tactic| (refine' leave_new ?B ?F ?x ?_; (case B => assumption); (case F => assumption); (case x => assumption); intro _ _ _))
theorem filled_Fv : PySem.Challenge.rw_md0057_01.prog = PySem.Challenge.rw_md0057_01.prog ∧ hd.heap_39 = hd.heap_39 := by
  k_fill
  exact ⟨rfl, rfl⟩
theorem fv_spec {w : World} {mean : ExcName → Option Value} {mg mb : Str → Option Value} {b0 : Heap} {A : Around} {l : List Env} {s : Shared} {v : Value} {p : Option (Int × Int)}
    (B : Below A b0 l s.heap) (X : (hd.heap_39 w.params).In b0) (T : Top topProg lo0 mean mg mb b0) (hh : A.handled = none) (hdep : A.depth ≤ 390) (hun : A.units ≤ 3900)
    (hp : PtIs s.heap v p) :
    codeAny (model prog0 w) A (.call (.ref 36) ⟨[v], []⟩) (RetOr l s (fun u _ => ∃ x tk, wrP p = some x ∧ u = .str x tk) (wrP p = none)) s := by
  cases hp with
  | none =>
    walk_at "m_enter"
    k_steps
    dsimp only
    k_unfold
    exact retOr_ok (by assumption) ⟨_, _, rfl, rfl⟩
  | @some t r c t1 t2 ht =>
    walk_at "m_enter"
    k_steps
    all_goals first
      | exact retOr_ok (by assumption) ⟨_, _, if_pos ⟨by assumption, by assumption, by assumption, by assumption⟩, rfl⟩
      | exact retOr_err (by assumption) (by assumption) (if_neg (by omega))

end Mine

end
theorem Mine.flush11 : True := by
  w_top off
  first | walk1 | trivial
section
open PySem PySem.W PyProof.Rows PySem.Calls
set_option maxRecDepth 100000
set_option maxHeartbeats 8000000
namespace Mine
local macro_rules | `(tactic| walk_at "m_enter") => `(tactic| (refine' enter ?B ?X ?T ?ho ?hcd ?hr ?hb ?hl ?_ ?c2 ?c3 ?c4 ?c5; (case B => assumption); (case X => assumption); (case T => assumption); (case ho => k_is); (case hcd => k_is); (case hr => (simp only [recursionLimit]; omega)); (case hb => exact BindsTo.of_eq rfl); (case c5 => decide); (case hl => exact locs rfl); (case c2 => exact rfl); (case c3 => exact rfl); (case c4 => exact rfl); k_whole; intro L' h' F' N' X' T'; (try dsimp only); (try k_fold)))
local macro_rules | `(tactic| walk_at "assign Tuple") => `(tactic| ((with_reducible show wpAny _ _ (assign (Expr.Tuple _ _ _) _ (Value.ref _)) _ _ _); refine' unpackN_ ?F ?N (IsTup.keeps ?t (Fr.keep ?F2)) ?hh ?k2 ?k3 ?_; (case F => assumption); (case N => assumption); (case t => assumption); (case F2 => assumption); (case hh => assumption); (case k2 => rfl); (case k3 => rfl); intro _ _ _))
theorem filled_Wr : PySem.Challenge.rw_md0057_01.prog = PySem.Challenge.rw_md0057_01.prog ∧ hd.heap_39 = hd.heap_39 := by
  k_fill
  exact ⟨rfl, rfl⟩
theorem dig_one' : ∀ k : Nat, k < 9 → Txt.item (Str.ofString "0123456789") (((k : Int) + 1).fmod 10) = Str.ofString (toString ((k : Int) + 1)) := by decide +kernel
theorem dig_one {r : Int} (h0 : 0 ≤ r) (h9 : r < 9) : Txt.item (Str.ofString "0123456789") ((r + 1).fmod 10) = Str.ofString (toString (r + 1)) := by
  obtain ⟨k, rfl⟩ := Int.eq_ofNat_of_zero_le h0
  exact dig_one' k (Int.ofNat_lt.mp h9)
theorem dig_two' : ∀ k : Nat, k < 25 → 9 ≤ k → Txt.item (Str.ofString "0123456789") (((k : Int) + 1).fdiv 10) ++ Txt.item (Str.ofString "0123456789") (((k : Int) + 1).fmod 10) = Str.ofString (toString ((k : Int) + 1)) := by decide +kernel
theorem dig_two {r : Int} (h0 : 9 ≤ r) (h9 : r < 25) : Txt.item (Str.ofString "0123456789") ((r + 1).fdiv 10) ++ Txt.item (Str.ofString "0123456789") ((r + 1).fmod 10) = Str.ofString (toString (r + 1)) := by
  obtain ⟨k, rfl⟩ := Int.eq_ofNat_of_zero_le (Int.le_trans (by decide) h0)
  exact dig_two' k (Int.ofNat_lt.mp h9) (Int.ofNat_le.mp h0)
theorem wr_one {r c : Int} (h : inB r c) (h9 : r < 9) : Txt.item (Str.ofString "ABCDEFGHJKLMNOPQRSTUVWXYZ") c ++ Str.ofString "" ++ Txt.item (Str.ofString "0123456789") ((r + 1).fmod 10) = wr r c := by
  rw [dig_one h.1 h9, wr, Str.append_assoc, show Str.ofString "" ++ Str.ofString (toString (r + 1)) = Str.ofString (toString (r + 1)) from Str.empty_append _]
theorem wr_two {r c : Int} (h : inB r c) (h9 : ¬ r < 9) : Txt.item (Str.ofString "ABCDEFGHJKLMNOPQRSTUVWXYZ") c ++ Txt.item (Str.ofString "0123456789") ((r + 1).fdiv 10) ++ Txt.item (Str.ofString "0123456789") ((r + 1).fmod 10) = wr r c := by
  rw [Str.append_assoc, dig_two (by omega) h.2.1, wr]
theorem wrP_in {r c : Int} (h : inB r c) : (wrP (some (r, c))).getD (Str.ofString "refused") = wr r c := by rw [show wrP (some (r, c)) = some (wr r c) from if_pos h]; rfl
theorem wrP_out {r c : Int} (h : ¬ inB r c) : (wrP (some (r, c))).getD (Str.ofString "refused") = Str.ofString "refused" := by rw [show wrP (some (r, c)) = none from if_neg h]; rfl

theorem wr_spec {w : World} {mean : ExcName → Option Value} {mg mb : Str → Option Value} {b0 : Heap} {A : Around} {l : List Env} {s : Shared} {v : Value} {p : Option (Int × Int)}
    (B : Below A b0 l s.heap) (X : (hd.heap_39 w.params).In b0) (T : Top topProg lo0 mean mg mb b0) (hh : A.handled = none) (hdep : A.depth ≤ 390) (hun : A.units ≤ 3900)
    (hp : PtIs s.heap v p) :
    codeAny (model prog0 w) A (.call (.ref 78) ⟨[v], []⟩) (Ret s (fun u _ => ∃ tk, u = .str ((wrP p).getD (Str.ofString "refused")) tk)) s := by
  cases hp with
  | none =>
    walk_at "m_enter"
    k_steps
    dsimp only
    k_unfold
    exact ret_mk (by assumption) ⟨_, rfl⟩
  | @some t r c t1 t2 ht =>
    walk_at "m_enter"
    k_steps
    all_goals (dsimp only; k_unfold)
    all_goals first
      | (rw [wr_one ⟨by omega, by omega, by omega, by omega⟩ (by omega)]; exact ret_mk (by assumption) ⟨_, by rw [wrP_in ⟨by omega, by omega, by omega, by omega⟩]⟩)
      | (rw [wr_two ⟨by omega, by omega, by omega, by omega⟩ (by omega)]; exact ret_mk (by assumption) ⟨_, by rw [wrP_in ⟨by omega, by omega, by omega, by omega⟩]⟩)
      | exact ret_mk (by assumption) ⟨_, by rw [wrP_out (by omega)]⟩

end Mine

end
theorem Mine.flush12 : True := by
  w_top off
  first | walk1 | trivial
section
open PySem PySem.W PyProof.Rows PySem.Calls
set_option maxRecDepth 100000
namespace Mine
section
variable {prog : Program} {w : World} {A : Around} {E : Value → Shared → Prop} {s : Shared} {env : Env}

theorem raise_class_c {X N I : String} {x : Str} {np pos : Pos} {Q : Flow → Shared → Prop} {h0 : Addr} (hh : A.handled = some (.ref h0)) (C : ∃ o vs, s.heap.get? h0 = some o ∧ o.data = .fields vs ∧ vs[2]? = some .none)
    (hc : ExcClass X N I) (hself : isSubtype (.type X) (.type X) = pure true)
    (hx : wpAny (model prog w) A (eval (.Name x np) env) (fun v s₁ => v = .type X ∧ s₁ = s) E s)
    (h : ∀ h' e, MadeIn s.heap h' e X → E (.ref e) { s with heap := h' }) :
    wpAny (model prog w) A (exec (.Raise (some (.Name x np)) none pos) env) Q E s := by
  obtain ⟨o, vs, ho, hd, h2⟩ := C
  exact raise_class_in hh ho hd h2 hc hself hx h

/-- `raise X(..)` in a handler -/
theorem raise_call_c {cls newId initId : String} (FC : ExcCallFacts cls newId initId) (FR : ExcRaiseFacts cls) {x : Str} {np cpos pos : Pos} {e₀ : Expr} {rest : List Expr} {Q : Flow → Shared → Prop} {h0 : Addr} (hh : A.handled = some (.ref h0))
    (h : wpAny (model prog w) A (eval (.Name x np) env) (fun f s₁ => f = .type cls ∧ wpAny (model prog w) A (spliced (backTo cpos (starEach (e₀ :: rest) env)))
      (fun vs s₂ => vs.length ≤ sizeLine ∧ (∃ o vs, s₂.heap.get? h0 = some o ∧ o.data = .fields vs ∧ vs[2]? = some .none) ∧ ∀ h' e, MadeIn s₂.heap h' e cls → E (.ref e) { s₂ with heap := h' }) E s₁) E s)
    (he : starEach (e₀ :: rest) env = (false, eval e₀ env) :: starEach rest env := by rfl) (hplain : (backTo cpos (starEach rest env)).any (·.1) = false := by rfl) :
    wpAny (model prog w) A (exec (.Raise (some (.Call (.Name x np) (e₀ :: rest) [] cpos)) none pos) env) Q E s := by
  refine raise_made_in FR hh (wpAny_Call_ofName (wpAny_mono h (fun f s₁ h₁ => ?_) fun _ _ x => x))
  obtain ⟨rfl, h₁⟩ := h₁
  refine callWith_excType (by rw [he]; show (false || (backTo cpos (starEach rest env)).any (·.1)) = false; rw [hplain]; rfl) ?_
  rw [he] at h₁ ⊢
  refine Calls.evalArgs_plain (wpAny_mono h₁ (fun vs s₂ h₂ => ?_) fun _ _ x => x)
  obtain ⟨hlen, hctx, hE⟩ := h₂
  obtain ⟨hp, g, d, tk, os⟩ := s₂
  exact wpAny_call_exc FC (hrest := hlen) fun h' e hm => ⟨e, hp, rfl, hm.newExc, hctx, fun h'' M => hE h'' e M⟩
end

/-- what a handler has raised leaves the frame -/
theorem leave_made {M : Model} {A : Around} {E : Value → Shared → Prop} {s : Shared} {b0 g g' h : Heap} {l : List Env} {L a e : Addr} {Q : Unit → Shared → Prop} {m : Str → Option Value} {name : Str} {scope : Scope} {cd : Value} {cls : String}
    (B : Below A b0 l g) (T : KtsTurn (fra l) g g') (F : Fr g' L h m) (x : MadeIn h s.heap e cls)
    (hQ : ∀ h', Ex l g h' → Fly l e cls g h' → Q () { s with heap := h' }) (hk : scope.kind = .function := by rfl) :
    wpAny M (A.deeper (envOf name scope L a cd)) (leaving (envOf name scope L a cd) (.ref e)) Q E s := by
  obtain ⟨oe, vs, a0, he, hc, hd, h0, h1⟩ := x.there
  have O := Own.of_fr (b0 := b0) (name := name) (a := a) (cd := cd) (cl := []) F hk
  have nL : g.get? L = none := by
    cases q : g.get? L with
    | none => rfl
    | some o =>
      obtain ⟨sl, hs⟩ := T.up q
      rw [O.new] at hs; cases hs
  exact leave_first B (ex_of_turn T F.keep) ⟨O.frame, O.kind, nL, O.there⟩ x.keeps x.new he hc hd h1 h0 hQ
theorem MadeIn.mono {h h₂ h' : Heap} {e : Addr} {cls : String} (x : MadeIn h₂ h' e cls) (k : h.StaysIn h₂) : MadeIn h h' e cls :=
  ⟨fun b o q => x.keeps b o (k b o q), none_stays k x.new, x.there⟩

/-- a text that a dict of the top does not hold -/
theorem top_missing {prog : Program} {w : World} {A : Around} {E : Value → Shared → Prop} {s : Shared} {h₀ : Heap} {L a : Addr} {m : Str → Option Value} {K : Frag} {es : Array DictEntry} {n : Nat} {x : Str} {t : Tok} {value slice : Expr} {Q : Value → Shared → Prop}
    (F : Fr h₀ L s.heap m) (X₀ : K.In h₀) (hl : K.lookup a = some ⟨.type "dict", none, .dict es n, #[]⟩) (hk : KeysLit w.params es.toList) (hx : findBy Value.isStrOf es x = none) (ha : (a == sysModules) = false) (hh : A.handled = none)
    (h : ∀ h' e, Heap.NewExc s.heap h' e "KeyError" → E (.ref e) { s with heap := h', toks := s.toks + 1 })
    (hs : subscripted slice false (.ref a) (.str x t) = operate [.ref a, .str x t] (getItem (.ref a) (.str x t)) := by with_unfolding_all rfl) :
    wpAny (model prog w) A (subscriptTail value slice (.ref a) (.str x t)) Q E s :=
  have hm := mapOf_K (prog := prog) (X₀.keeps F.keep) hl hk
  tail_any hm.typeIs slot_dict_getitem.lookup (wpAny_getItem_missing_of (strKind_is prog w x t) ha hh hm hx h) hs
theorem find_bw {e1 e2 : DictEntry} {t1 t2 : Tok} {x : Str} (h1 : e1.key = .str (Str.ofString "b") t1) (h2 : e2.key = .str (Str.ofString "w") t2) (hb : x ≠ Str.ofString "b") (hw : x ≠ Str.ofString "w") : findBy Value.isStrOf #[e1, e2] x = none := by
  unfold findBy
  have a1 : Value.isStrOf x e1.key = false := by rw [h1]; show (_ == _) = false; simp [Ne.symm hb]
  have a2 : Value.isStrOf x e2.key = false := by rw [h2]; show (_ == _) = false; simp [Ne.symm hw]
  simp [a1, a2]
end Mine
namespace Mine
theorem look_bw {t1 t2 : Tok} {v1 v2 : Value} {x : Str} (hb : x ≠ Str.ofString "b") (hw : x ≠ Str.ofString "w") :
    PySem.Spec.lookup (PyData.str x) (strData [(Value.str (Str.ofString "b") t1, v1), (Value.str (Str.ofString "w") t2, v2)]) = none := by
  have a1 : PySem.Spec.same (PyData.str (Str.ofString "b")) (PyData.str x) = false := by rw [PyProof.V.same_str]; simp [Ne.symm hb]
  have a2 : PySem.Spec.same (PyData.str (Str.ofString "w")) (PyData.str x) = false := by rw [PyProof.V.same_str]; simp [Ne.symm hw]
  have a3 : PySem.Spec.same (PyData.str x) (PyData.str (Str.ofString "b")) = false := by rw [PyProof.V.same_str]; simp [hb]
  have a4 : PySem.Spec.same (PyData.str x) (PyData.str (Str.ofString "w")) = false := by rw [PyProof.V.same_str]; simp [hw]
  simp [PySem.Spec.lookup, strData, a1, a2, a3, a4]
end Mine

end
theorem Mine.flush13 : True := by
  w_top off
  first | walk1 | trivial
section
open PySem PySem.W PyProof.Rows PySem.Calls
set_option maxRecDepth 100000
set_option maxHeartbeats 8000000
namespace Mine
local macro_rules | `(tactic| walk_at "m_enter") => `(tactic| (refine' enter ?B ?X ?T ?ho ?hcd ?hr ?hb ?hl ?_ ?c2 ?c3 ?c4 ?c5; (case B => assumption); (case X => assumption); (case T => assumption); (case ho => k_is); (case hcd => k_is); (case hr => (simp only [recursionLimit]; omega)); (case hb => exact BindsTo.of_eq rfl); (case c5 => decide); (case hl => exact locs rfl); (case c2 => exact rfl); (case c3 => exact rfl); (case c4 => exact rfl); k_whole; intro L' h' F' N' X' T'; (try dsimp only); (try k_fold)))
local macro_rules | `(tactic| walk_at "exec Raise some none") => `(tactic| ((with_reducible show wpAny _ _ (exec (Stmt.Raise (some (Expr.Name ("ValueError" : Str) _)) none _) _) _ _ _); (with_reducible rename Fr _ _ _ _ => kF); k_dflt (refine' Raise_classB ?hh excClass_ValueError ?hs ?hx ?_; (case hh => assumption); (case hs => (rw [isSubtype_type]; kernel_rfl)); (case hx => (refine' name_B kF ?k1 ?k2 ?k3 ?k4 ?k5 ?_; (case k1 => k_asm); (case k2 => k_asm); (case k3 => k_is); (case k4 => exact ExcClass.boot excClass_ValueError); (case k5 => decide); exact ⟨rfl, rfl⟩)); intro _ _ _)))
local macro_rules | `(tactic| walk_at "leaving ref") => `(tactic| (refine' leave_new ?B ?F ?x ?_; (case B => assumption); (case F => assumption); (case x => assumption); intro _ _ _))
local macro_rules | `(tactic| walk_at "subscriptTail") => `(tactic| ((with_reducible show wpAny _ _ (subscriptTail _ _ (Value.ref _) (Value.str _ _)) _ _ _); k_dflt (refine' top_missing ?F ?X ?l ?k ?e ?a ?hh ?_; (case F => k_asm); (case X => k_asm); (case l => k_is); (case k => k_keys); (case e => exact find_bw rfl rfl (by assumption) (by assumption)); (case a => decide); (case hh => assumption)); intro h' e' x'))
local macro_rules | `(tactic| walk_at "getItem ref str") => `(tactic| (k_here; (with_unfolding_all refine' getItem_tab_missing PyProof.V.same_str (strKind_is _ _ _ _) ?k1 ?k2 ?k3 ?_; (case k1 => k_tabat); (case k2 => assumption); (case k3 => exact look_bw (by assumption) (by assumption)); k_whole); intro h' e' x'))
local macro_rules | `(tactic| walk_at "noteFrame ref") => `(tactic| (refine' catch_own ?B ?F ?X ?T ?x ?Te ?hk ?_ ?hE; (case x => assumption); (case B => assumption); (case F => assumption); (case X => assumption); (case T => assumption); (case hE => passes_own); (case hk => exact rfl); (case Te => kts_test); intro h₆ g₆ T₆ F₆ B₆ X₆ P₆ C₆))
local macro_rules | `(tactic| walk_at "exec Raise some none") => `(tactic| ((with_reducible show wpAny _ _ (exec (Stmt.Raise (some (Expr.Name ("ValueError" : Str) _)) none _) _) _ _ _); k_dflt (refine' raise_class_c ?hh ?C excClass_ValueError ?hs ?hx ?_; (case hh => exact rfl); (case C => exact Caught.ctx (by assumption)); (case hs => (rw [isSubtype_type]; kernel_rfl)); (case hx => (refine' name_B ?kF ?k1 ?k2 ?k3 ?k4 ?k5 ?_; (case kF => assumption); (case k1 => k_asm); (case k2 => k_asm); (case k3 => k_is); (case k4 => exact ExcClass.boot excClass_ValueError); (case k5 => decide); exact ⟨rfl, rfl⟩)); intro h' e' x')))
local macro_rules | `(tactic| walk_at "leaving ref") => `(tactic| (refine' leave_made ?B ?T ?F ?x ?_; (case x => assumption); (case F => assumption); (case T => assumption); (case B => assumption); intro h' x1' x2'))
theorem filled_Opp : PySem.Challenge.rw_md0057_01.prog = PySem.Challenge.rw_md0057_01.prog ∧ hd.heap_39 = hd.heap_39 := by
  k_fill
  exact ⟨rfl, rfl⟩
def oppOf (x : Str) : Option Str := if x = Str.ofString "b" then some (Str.ofString "w") else if x = Str.ofString "w" then some (Str.ofString "b") else none
def namOf (x : Str) : Option Str := if x = Str.ofString "b" then some (Str.ofString "black") else if x = Str.ofString "w" then some (Str.ofString "white") else none
theorem opp_spec {w : World} {mean : ExcName → Option Value} {mg mb : Str → Option Value} {b0 : Heap} {A : Around} {l : List Env} {s : Shared} {x : Str} {t : Tok}
    (B : Below A b0 l s.heap) (X : (hd.heap_39 w.params).In b0) (T : Top topProg lo0 mean mg mb b0) (hh : A.handled = none) (hdep : A.depth ≤ 390) (hun : A.units ≤ 3900) :
    codeAny (model prog0 w) A (.call (.ref 22) ⟨[.str x t], []⟩) (RetOr l s (fun u _ => ∃ y tk, oppOf x = some y ∧ u = .str y tk) (oppOf x = none)) s := by
  by_cases hb : x = Str.ofString "b"
  · subst hb
    walk_at "m_enter"
    k_steps
    dsimp only
    k_unfold
    exact retOr_ok (by assumption) ⟨_, _, by decide +kernel, rfl⟩
  · by_cases hw : x = Str.ofString "w"
    · subst hw
      walk_at "m_enter"
      k_steps
      dsimp only
      k_unfold
      exact retOr_ok (by assumption) ⟨_, _, by decide +kernel, rfl⟩
    · walk_at "m_enter"
      k_steps
      exact retOr_err (by assumption) (by assumption) (by rw [oppOf, if_neg hb, if_neg hw])
theorem col_spec {w : World} {mean : ExcName → Option Value} {mg mb : Str → Option Value} {b0 : Heap} {A : Around} {l : List Env} {s : Shared} {x : Str} {t : Tok}
    (B : Below A b0 l s.heap) (X : (hd.heap_39 w.params).In b0) (T : Top topProg lo0 mean mg mb b0) (hh : A.handled = none) (hdep : A.depth ≤ 390) (hun : A.units ≤ 3900) :
    codeAny (model prog0 w) A (.call (.ref 29) ⟨[.str x t], []⟩) (RetOr l s (fun u _ => ∃ y tk, namOf x = some y ∧ u = .str y tk) (namOf x = none)) s := by
  by_cases hb : x = Str.ofString "b"
  · subst hb
    walk_at "m_enter"
    k_steps
    dsimp only
    k_unfold
    exact retOr_ok (by assumption) ⟨_, _, by decide +kernel, rfl⟩
  · by_cases hw : x = Str.ofString "w"
    · subst hw
      walk_at "m_enter"
      k_steps
      dsimp only
      k_unfold
      exact retOr_ok (by assumption) ⟨_, _, by decide +kernel, rfl⟩
    · walk_at "m_enter"
      k_steps
      exact retOr_err (by assumption) (by assumption) (by rw [namOf, if_neg hb, if_neg hw])

end Mine

end
theorem Mine.flush14 : True := by
  w_top off
  first | walk1 | trivial
section
open PySem PySem.W PyProof.Rows PySem.Calls
set_option maxRecDepth 100000
namespace Mine
section
variable {prog : Program} {w : World} {A : Around} {E : Value → Shared → Prop} {s : Shared} {env : Env} {h₀ : Heap} {x : Str} {body : List Stmt} {Q : Flow → Shared → Prop}

theorem invPost_N {L : Addr} {J : (Str → Option Value) → Prop} {own news : List (Addr × Obj)} {s₁ s₂ : Shared} {f : Flow} (h : InvPost h₀ L J (own ++ news) s₁ Q f s₂) :
    InvPostN h₀ L (fun m nx => nx = news ∧ J m) own (news.map (·.1)) s₁ Q f s₂ := by
  have fin : InvEnd h₀ L J (own ++ news) s₁ s₂ → InvEndN h₀ L (fun m nx => nx = news ∧ J m) own (news.map (·.1)) s₁ s₂ := fun ⟨h', tk, m', news', e, F, N, hn, hm⟩ =>
    ⟨h', tk, m', news', news, e, F, N, fun p hp => hn p (List.mem_append_right _ hp), fun p hp => hn p (List.mem_append_left _ hp), rfl, rfl, hm⟩
  cases f with
  | ret v => exact h
  | brk => exact h
  | next => exact fin h
  | cont => exact fin h

/-- a loop over a text's signs, by what holds between the turns -/
theorem iter_text {xt : Str} {tx : Tok} {m₀ : Str → Option Value} {news : List (Addr × Obj)} (J : Nat → (Str → Option Value) → Prop) (hh : A.handled = none) (F : Fr h₀ env.locals s.heap m₀) (N : News h₀ env.locals s.heap news) (hj : J 0 m₀)
    (turn : ∀ i c t m₁ h tk own, xt.cps[i]? = some c → J i m₁ → Fr h₀ env.locals h (fun y => if y = x then some (.str ⟨#[c]⟩ t) else m₁ y) → News h₀ env.locals h (own ++ news) →
      wpAny (model prog w) A (execs body env) (InvPost h₀ env.locals (J (i + 1)) (own ++ news) { s with heap := h, toks := tk } Q) E { s with heap := h, toks := tk })
    (done : ∀ m₁ h tk, J xt.cps.size m₁ → Fr h₀ env.locals h m₁ → News h₀ env.locals h news → Q .next { s with heap := h, toks := tk }) :
    wpAny (model prog w) A (pyIter (.str xt tx)) (fun it s₂ => LoopAtV prog w A h₀ env x body Q E it s₂) E s := by
  refine wpAny_pyIter_str fun o St hW hst => ?_
  refine loop_invN (fun i m nx => nx = news ∧ J i m) (hW A hh) ?_ ?_ ?_ ?_ hst (F.push _) (fun p hp => ⟨Heap.get?_push_of_some _ (N p hp).1, (N p hp).2⟩) ⟨rfl, hj⟩ ?_ ?_
  · intro hm
    exact absurd F.ns.lt ((List.mem_singleton.mp hm) ▸ Nat.lt_irrefl _)
  · intro b' hb
    rw [List.mem_singleton.mp hb]
    exact next_is_new F
  · intro p hp hI
    exact absurd (Heap.lt_size (N p hp).1) ((List.mem_singleton.mp hI) ▸ Nat.lt_irrefl _)
  · intro p hp hI
    exact absurd (Heap.lt_size (N p hp).1) ((List.mem_singleton.mp hI) ▸ Nat.lt_irrefl _)
  · rintro i v m₁ nx h tk own hi ⟨c, u, hn, rfl⟩ _ hoff ⟨rfl, hp'⟩ F₁ N₁
    exact wpAny_mono (turn i c u m₁ h tk own hn hp' F₁ fun p hp => N₁ p ((List.mem_append.mp hp).elim (fun z => List.mem_append.mpr (.inr z)) fun z => List.mem_append.mpr (.inl z))) (fun f s₂ h => invPost_N h) fun _ _ e => e
  · rintro m₁ nx h tk ⟨rfl, hp'⟩ F₁ N₁
    exact done m₁ h tk hp' F₁ N₁
end
end Mine
namespace Mine
theorem for_V {prog : Program} {w : World} {A : Around} {s : Shared} {env : Env} {h₀ : Heap} {L : Addr} {m : Str → Option Value} {E : Value → Shared → Prop} {Q : Flow → Shared → Prop} {x : Str} {px pos : Pos} {iter : Expr} {body : List Stmt} (_F : Fr h₀ L s.heap m) (hx : env.kindOf x = some .local)
    (hp : (env.scope.kind == .class || (env.scope.kind == .module && env.locals != env.globals)) = false)
    (hs : ∀ x, foldedSetIterable iter env x = pure x) (hE : PassesOwn (model prog w) A env E)
    (h : wpAny (model prog w) A (eval iter env) (fun xv s₁ => wpAny (model prog w) A (pyIter xv) (fun it s₂ => LoopAtV prog w A h₀ env x body Q E it s₂) E s₁) E s) :
    wpAny (model prog w) A (exec (.For (.Name x px) iter body [] pos) env) Q E s := For_invV h₀ hx hp h hs hE

/-- a loop over a text that stores one int -/
theorem iter_text1 {prog : Program} {w : World} {A : Around} {E : Value → Shared → Prop} {s : Shared} {env : Env} {h₀ : Heap} {x y : Str} {body : List Stmt} {Q : Flow → Shared → Prop} {xt : Str} {tx : Tok} {m₀ : Str → Option Value} {news : List (Addr × Obj)} {t₀ : Tok}
    (g : Nat → Int) (H : Nat → Prop) (hh : A.handled = none) (F : Fr h₀ env.locals s.heap m₀) (N : News h₀ env.locals s.heap news) (hy : m₀ y = some (.int (g 0) t₀)) (hyx : y ≠ x) (h0 : H 0)
    (turn : ∀ i c t tk0 h tk own, xt.cps[i]? = some c → H i → Fr h₀ env.locals h (fun z => if z = x then some (.str ⟨#[c]⟩ t) else if z = y then some (.int (g i) tk0) else m₀ z) → News h₀ env.locals h (own ++ news) →
      wpAny (model prog w) A (execs body env) (InvPost h₀ env.locals (fun m' => H (i + 1) ∧ (∃ t', m' y = some (.int (g (i + 1)) t')) ∧ ∀ z, z ≠ x → z ≠ y → m' z = m₀ z) (own ++ news) { s with heap := h, toks := tk } Q) E { s with heap := h, toks := tk })
    (done : ∀ (u : Str → Option Value) t h tk, H xt.cps.size → Fr h₀ env.locals h (fun z => if z = x then u z else if z = y then some (.int (g xt.cps.size) t) else m₀ z) → News h₀ env.locals h news → Q .next { s with heap := h, toks := tk }) :
    wpAny (model prog w) A (pyIter (.str xt tx)) (fun it s₂ => LoopAtV prog w A h₀ env x body Q E it s₂) E s := by
  refine iter_text (fun i m => H i ∧ (∃ t, m y = some (.int (g i) t)) ∧ ∀ z, z ≠ x → z ≠ y → m z = m₀ z) hh F N ⟨h0, ⟨t₀, hy⟩, fun _ _ _ => rfl⟩ ?_ ?_
  · rintro i c t m₁ h tk own hc ⟨hH, ⟨ta, ha⟩, hm⟩ F₁ N₁
    have e : (fun z => if z = x then some (Value.str ⟨#[c]⟩ t) else m₁ z) = fun z => if z = x then some (Value.str ⟨#[c]⟩ t) else if z = y then some (Value.int (g i) ta) else m₀ z := by
      funext z
      by_cases h1 : z = x
      · simp [h1]
      · simp only [if_neg h1]
        by_cases h2 : z = y
        · subst h2; simp [ha]
        · simp only [if_neg h2]; exact hm z h1 h2
    rw [e] at F₁
    exact turn i c t ta h tk own hc hH F₁ N₁
  · rintro m₁ h tk ⟨hH, ⟨t, ha⟩, hm⟩ F₁ N₁
    refine done m₁ t h tk hH ?_ N₁
    have e : (fun z => if z = x then m₁ z else if z = y then some (Value.int (g xt.cps.size) t) else m₀ z) = m₁ := by
      funext z
      by_cases h1 : z = x
      · simp [h1]
      · simp only [if_neg h1]
        by_cases h2 : z = y
        · subst h2; simp [ha]
        · simp only [if_neg h2]; exact (hm z h1 h2).symm
    rw [e]; exact F₁
end Mine

end
theorem Mine.flush15 : True := by
  w_top off
  first | walk1 | trivial
section
open PySem PySem.W PyProof.Rows PySem.Calls PySem.Builtin.Str
set_option maxRecDepth 100000
namespace Mine
abbrev digs : Str := Str.ofString "0123456789"
abbrev cols : Str := Str.ofString "ABCDEFGHJKLMNOPQRSTUVWXYZ"
abbrev hasS (x y : Str) : Bool := !(occurrences x y 0 x.length 1).isEmpty

section
variable {prog : Program} {w : World} {A : Around} {E : Value → Shared → Prop} {s : Shared} {x y : Str} {t u : Tok} {Q : Value → Shared → Prop}
theorem index_found (ho : (occurrences x y 0 x.length 1).isEmpty = false) (hq : Q (.int (Txt.find x y) s.toks) { s with toks := s.toks + 1 }) :
    wpAny (model prog w) A (call (.builtin "str.index") [.str x t, .str y u]) Q E s := by
  cases h : occurrences x y 0 x.length 1 with
  | nil => rw [h] at ho; cases ho
  | cons i rest =>
    refine SC.index h ?_
    have e : Txt.find x y = (i : Int) := by simp [Txt.find, h]
    rw [e] at hq
    exact hq
end

theorem digs_list : digs.cps.toList = [48,49,50,51,52,53,54,55,56,57] := by decide
theorem dig_down : ∀ c ∈ [48,49,50,51,52,53,54,55,56,57], 48 ≤ c ∧ c ≤ 57 := by decide
theorem dig_up : ∀ c : Nat, c < 58 → 48 ≤ c → c ∈ [48,49,50,51,52,53,54,55,56,57] := by decide
theorem dig_in {c : Nat} : (occurrences digs ⟨#[c]⟩ 0 digs.length 1).isEmpty = !decide (48 ≤ c ∧ c ≤ 57) := by
  rw [empty_one, digs_list]
  congr 1
  exact decide_eq_decide.mpr ⟨dig_down c, fun h => dig_up c (Nat.lt_succ_of_le h.2) h.1⟩
theorem dig_find' : ∀ c : Nat, c < 58 → 48 ≤ c → Txt.find digs ⟨#[c]⟩ = ((c - 48 : Nat) : Int) := by decide +kernel
theorem dig_find {c : Nat} (h : 48 ≤ c ∧ c ≤ 57) : Txt.find digs ⟨#[c]⟩ = ((c - 48 : Nat) : Int) := dig_find' c (Nat.lt_succ_of_le h.2) h.1

/-- the test of the signs, a plain definition -/
def decAll (cs : List Nat) : Decidable (NumText.AllDigits cs) := by unfold NumText.AllDigits; infer_instance
/-- the signs behind the first -/
def tl (x : Str) : List Nat := (Txt.slice x (some 1) none).cps.toList
def due (x : Str) (n : Int) : Option (Option (Int × Int)) :=
  if n < 1 then none else if 25 < n then none
  else if (Txt.upper x == Str.ofString "PASS") = true then some none
  else if ((x.length : Nat) : Int) < 2 then none
  else if (occurrences cols (Txt.item (Txt.upper x) 0) 0 cols.length 1).isEmpty = true then none
  else haveI := decAll (tl x); if ¬ NumText.AllDigits (tl x) then none
  else if ((NumText.digitsVal (tl x) : Nat) : Int) < 1 then none
  else if n < ((NumText.digitsVal (tl x) : Nat) : Int) then none
  else if n ≤ Txt.find cols (Txt.item (Txt.upper x) 0) then none
  else some (some (((NumText.digitsVal (tl x) : Nat) : Int) - 1, Txt.find cols (Txt.item (Txt.upper x) 0)))


/-- the answer: a point, None or the text 'refused' -/
inductive AnsIs (h : Heap) : Value → Option (Option (Int × Int)) → Prop
  | ref {t : Tok} : AnsIs h (.str (Str.ofString "refused") t) none
  | pt {v : Value} {p : Option (Int × Int)} : PtIs h v p → AnsIs h v (some p)
theorem take_snoc {l : List Nat} {i c : Nat} (h : l[i]? = some c) : l.take (i + 1) = l.take i ++ [c] := by
  rw [List.take_add_one, h]; rfl
theorem all_snoc {l : List Nat} {c : Nat} (h : NumText.AllDigits l) (hc : 48 ≤ c ∧ c ≤ 57) : NumText.AllDigits (l ++ [c]) := by
  intro d hd
  rcases List.mem_append.mp hd with h1 | h1
  · exact h d h1
  · rw [List.mem_singleton.mp h1]; exact hc
end Mine
namespace Mine
theorem take_all {l : Array Nat} : l.toList.take l.size = l.toList := List.take_of_length_le (Nat.le_of_eq Array.length_toList)
theorem isTup_news {b h : Heap} {L D : Addr} {vs : Array Value} {n : Nat} {N : List (Addr × Obj)} (x : News b L h ((D, { cls := .type "tuple", data := .seq vs n }) :: N)) : IsTup h D vs := ⟨_, (x _ (List.mem_cons_self ..)).1, rfl, n, rfl⟩
end Mine
namespace Mine
/-- a sign that the law builds texts of -/
def GoodC (c : Nat) : Prop := 33 ≤ c ∧ c < 127 ∧ c ≠ 43 ∧ c ≠ 95
def Good (x : Str) : Prop := ∀ c ∈ x.cps.toList, GoodC c
abbrev signs : Str := Str.ofString "abcdefghijklmnopqrstuvwxyzABCDEFGHIJKLMNOPQRSTUVWXYZ0123456789-.,:;!?*/#=()<>@~^"
theorem sgn_nat : ∀ k : Nat, k < 80 → GoodC ((Txt.charAt signs (k : Int)).getD 0) := by unfold GoodC; decide +kernel
theorem sgn_good' {k : Int} (h0 : 0 ≤ k) (h1 : k < 80) : GoodC ((Txt.charAt signs k).getD 0) := by
  have := sgn_nat k.toNat (by omega)
  rwa [Int.toNat_of_nonneg h0] at this
theorem sgn_good (n : Int) : GoodC ((Txt.charAt signs (n.fmod 80)).getD 0) := sgn_good' (Int.fmod_nonneg_of_pos n (by decide)) (Int.fmod_lt_of_pos n (by decide))
end Mine
namespace Mine
theorem good_nil : Good ⟨#[]⟩ := fun c hc => by cases hc
theorem good_app {x y : Str} (h1 : Good x) (h2 : Good y) : Good (x ++ y) := fun c hc => by
  have : (x ++ y).cps.toList = x.cps.toList ++ y.cps.toList := by show (x.cps ++ y.cps).toList = _; simp
  rw [this] at hc
  rcases List.mem_append.mp hc with h | h
  · exact h1 c h
  · exact h2 c h
theorem good_one {c : Nat} (h : GoodC c) : Good ⟨#[c]⟩ := fun d hd => by
  have : d = c := by simpa using hd
  rw [this]; exact h
end Mine
namespace Mine
theorem good_mul (n : Int) : Good (Txt.mul (Str.ofString "0") n) := fun c hc => by
  have e : (Str.ofString "0") = ⟨#[48]⟩ := by decide
  rw [e, mul_one_list] at hc
  rw [(List.mem_replicate.mp hc).2]
  unfold GoodC; decide
theorem num40 : ∀ k : Nat, k < 40 → Good (Str.ofString (toString (k : Int))) ∧ (Str.ofString (toString (k : Int))).length ≤ 2 := by unfold Good GoodC; decide +kernel
theorem num40' {k : Int} (h0 : 0 ≤ k) (h1 : k < 40) : Good (Str.ofString (toString k)) ∧ (Str.ofString (toString k)).length ≤ 2 := by
  have := num40 k.toNat (by omega)
  rwa [Int.toNat_of_nonneg h0] at this
theorem num40f (n : Int) : Good (Str.ofString (toString (n.fmod 40))) ∧ (Str.ofString (toString (n.fmod 40))).length ≤ 2 := num40' (Int.fmod_nonneg_of_pos n (by decide)) (Int.fmod_lt_of_pos n (by decide))
theorem sgn52 (n : Int) : Good (Txt.item signs (n.fmod 52)) := good_one (sgn_good' (Int.fmod_nonneg_of_pos n (by decide)) (by have := Int.fmod_lt_of_pos n (show (0:Int) < 52 by decide); omega))
theorem pass_sign {i c : Nat} (h : (Str.ofString "pass").cps[i]? = some c) : GoodC c ∧ Good (Txt.upper ⟨#[c]⟩) ∧ (Txt.upper ⟨#[c]⟩).length = 1 := by
  have hi : i < 4 := by
    have := (Array.getElem?_eq_some_iff.mp h).1
    exact this
  have : c = 112 ∨ c = 97 ∨ c = 115 := by
    have : i = 0 ∨ i = 1 ∨ i = 2 ∨ i = 3 := by omega
    rcases this with rfl | rfl | rfl | rfl
    · exact .inl (Option.some.inj h).symm
    · exact .inr (.inl (Option.some.inj h).symm)
    · exact .inr (.inr (Option.some.inj h).symm)
    · exact .inr (.inr (Option.some.inj h).symm)
  rcases this with rfl | rfl | rfl <;> (unfold Good GoodC; decide +kernel)
end Mine

end
theorem Mine.flush16 : True := by
  w_top off
  first | walk1 | trivial
section
open PySem PySem.W PyProof.Rows PySem.Calls
set_option maxRecDepth 100000
set_option maxHeartbeats 8000000
namespace Mine
local macro_rules | `(tactic| walk_at "m_enter") => `(tactic| (refine' enter ?B ?X ?T ?ho ?hcd ?hr ?hb ?hl ?_ ?c2 ?c3 ?c4 ?c5; (case B => assumption); (case X => assumption); (case T => assumption); (case ho => k_is); (case hcd => k_is); (case hr => (simp only [recursionLimit]; omega)); (case hb => exact BindsTo.of_eq rfl); (case c5 => decide); (case hl => exact locs rfl); (case c2 => exact rfl); (case c3 => exact rfl); (case c4 => exact rfl); k_whole; intro L' h' F' N' X' T'; (try dsimp only); (try k_fold)))
theorem filled_Due : PySem.Challenge.rw_md0057_01.prog = PySem.Challenge.rw_md0057_01.prog ∧ hd.heap_39 = hd.heap_39 := by
  k_fill
  exact ⟨rfl, rfl⟩
local macro_rules | `(tactic| walk_at "exec For") => `(tactic| ((with_reducible show wpAny _ _ (exec (Stmt.For (Expr.Name _ _) _ _ [] _) _) _ _ _); k_dflt (refine' for_V ?F ?hx ?hp ?hs ?hE ?_; (case F => k_asm); (case hx => rfl); (case hp => rfl); (case hs => (intro _; rfl)); (case hE => passes_own))))
local macro_rules | `(tactic| walk_at "call builtin:str.index") => `(tactic| (refine' index_found ?ho ?_; (case ho => assumption)))
theorem due_spec {w : World} {mean : ExcName → Option Value} {mg mb : Str → Option Value} {b0 : Heap} {A : Around} {l : List Env} {s : Shared} {x : Str} {n : Int} {t1 t2 : Tok}
    (B : Below A b0 l s.heap) (X : (hd.heap_39 w.params).In b0) (T : Top topProg lo0 mean mg mb b0) (hh : A.handled = none) (hdep : A.depth ≤ 390) (hun : A.units ≤ 3900)
    (hx : x.length ≤ 20) (hup : (Txt.upper x).length = x.length) :
    codeAny (model prog0 w) A (.call (.ref 57) ⟨[.str x t1, .int n t2], []⟩) (Ret s (fun u h => AnsIs h u (due x n))) s := by
  walk_at "m_enter"
  k_steps
  all_goals (try (dsimp only; k_unfold; refine ret_mk (by assumption) ?_; (have e : due x n = none := by (unfold due; simp_all)); rw [e]; exact .ref))
  all_goals (try (dsimp only; k_unfold; refine ret_mk (by assumption) ?_; (have e : due x n = some none := by (unfold due; simp_all)); rw [e]; exact .pt .none))
  refine iter_text1 (y := Str.ofString "row") (fun i => (NumText.digitsVal (((Txt.slice x (some 1) none).cps.toList).take i) : Int)) (fun i => NumText.AllDigits (((Txt.slice x (some 1) none).cps.toList).take i)) (by assumption) (by assumption) (by assumption) rfl (by decide) (by intro c hc; cases hc) ?_ ?_
  · intro i c t tk0 h tk own hc hH F9 N9
    have hc' : (tl x)[i]? = some c := by rw [← hc]; exact Array.getElem?_toList
    k_steps
    · refine ret_mk (by assumption) ?_
      have e : due x n = none := by
        have h0 : ¬ NumText.AllDigits (tl x) := by
          intro ha
          have h1 := ha c (List.mem_of_getElem? hc')
          have h2 : (Builtin.Str.occurrences digs ⟨#[c]⟩ 0 digs.length 1).isEmpty = true := by assumption
          rw [dig_in, decide_eq_true h1] at h2
          cases h2
        unfold due; simp_all
      rw [e]; exact .ref
    · have h2 : (Builtin.Str.occurrences digs ⟨#[c]⟩ 0 digs.length 1).isEmpty = false := by assumption
      have hd : 48 ≤ c ∧ c ≤ 57 := by
        rw [dig_in] at h2; simpa using h2
      refine ⟨_, _, _, _, rfl, by assumption, by assumption, fun p hp => hp, ?_, ⟨?tt, ?vv⟩, ?_⟩
      · show NumText.AllDigits ((tl x).take (i + 1))
        rw [take_snoc hc']; exact all_snoc hH hd
      case vv =>
        rw [if_pos rfl]
        refine congrArg (fun z => some (Value.int z _)) ?_
        have e1 := dig_find hd
        show _ + Txt.find digs ⟨#[c]⟩ = ((NumText.digitsVal ((tl x).take (i + 1)) : Nat) : Int)
        rw [take_snoc hc', NumText.digitsVal_snoc, e1, Int.natCast_add, Int.natCast_mul]
        rfl
      · intro z h1 h2
        simp only [if_neg h1, if_neg h2]
  · intro u t h tk hH F9 N9
    rw [take_all] at hH F9
    k_steps
    all_goals (try (dsimp only; k_unfold; refine ret_mk (by assumption) ?_; (have e : due x n = none := by (unfold due tl; simp_all)); rw [e]; exact .ref))
    (try dsimp only); (try k_unfold)
    refine ret_mk (by assumption) ?_
    have e : due x n = some (some (((NumText.digitsVal (tl x) : Nat) : Int) - 1, Txt.find cols (Txt.item (Txt.upper x) 0))) := by (unfold due tl; simp_all)
    rw [e]
    exact .pt (.some (isTup_news (by assumption)))

end Mine

end
theorem Mine.flush17 : True := by
  w_top off
  first | walk1 | trivial
section
open PySem PySem.W PyProof.Rows PySem.Calls
set_option maxRecDepth 100000
set_option maxHeartbeats 8000000
namespace Mine
local macro_rules | `(tactic| walk_at "m_enter") => `(tactic| (refine' enter ?B ?X ?T ?ho ?hcd ?hr ?hb ?hl ?_ ?c2 ?c3 ?c4 ?c5; (case B => assumption); (case X => assumption); (case T => assumption); (case ho => k_is); (case hcd => k_is); (case hr => (simp only [recursionLimit]; omega)); (case hb => exact BindsTo.of_eq rfl); (case c5 => decide); (case hl => exact locs rfl); (case c2 => exact rfl); (case c3 => exact rfl); (case c4 => exact rfl); k_whole; intro L' h' F' N' X' T'; (try dsimp only); (try k_fold)))
theorem filled_Sgn : PySem.Challenge.rw_md0057_01.prog = PySem.Challenge.rw_md0057_01.prog ∧ hd.heap_39 = hd.heap_39 := by
  k_fill
  exact ⟨rfl, rfl⟩
theorem sgn_spec {w : World} {mean : ExcName → Option Value} {mg mb : Str → Option Value} {b0 : Heap} {A : Around} {l : List Env} {s : Shared} {n : Int} {t1 : Tok}
    (B : Below A b0 l s.heap) (X : (hd.heap_39 w.params).In b0) (T : Top topProg lo0 mean mg mb b0) (hh : A.handled = none) (hdep : A.depth ≤ 390) (hun : A.units ≤ 3900) :
    codeAny (model prog0 w) A (.call (.ref 85) ⟨[.int n t1], []⟩) (Ret s (fun u h => ∃ c t, u = .str ⟨#[c]⟩ t ∧ GoodC c)) s := by
  walk_at "m_enter"
  k_steps
  (try dsimp only); (try k_unfold)
  refine ret_mk (by assumption) ?_
  exact ⟨_, _, rfl, sgn_good n⟩

end Mine

end
theorem Mine.flush18 : True := by
  w_top off
  first | walk1 | trivial
section
open PySem PySem.W PyProof.Rows PySem.Calls
set_option maxRecDepth 100000
namespace Mine
section
variable {prog : Program} {w : World} {A : Around} {E : Value → Shared → Prop} {s : Shared} {h₀ : Heap} {L : Addr} {m : Str → Option Value} {news : List (Addr × Obj)} {f : Value} {args : List Value} {P : Value → Heap → Prop} {Q : Value → Shared → Prop}
theorem same_eq {s s' : Shared} (x : Same s s') : s' = { s with heap := s'.heap, toks := s'.toks } := by
  obtain ⟨h, g, d, t, o⟩ := s'
  obtain ⟨a, b, c⟩ := x
  cases a; cases b; cases c; rfl
/-- the call of a def that gives back -/
theorem call_ret (spec : codeAny (model prog w) A (.call f ⟨args, []⟩) (Ret s P) s) (F : Fr h₀ L s.heap m) (N : News h₀ L s.heap news)
    (h : ∀ v h' tk, P v h' → s.heap.StaysIn h' → Fr h₀ L h' m → News h₀ L h' news → Q v { s with heap := h', toks := tk }) :
    wpAny (model prog w) A (call f args) Q E s := by
  refine wpAny_call (codeAny_mono spec fun r s' hr => ?_)
  obtain ⟨v, rfl, k, sm, hp⟩ := hr
  rw [same_eq sm]
  exact h v _ _ hp k (F.keeps k) (N.grown k)
end
section
variable {prog : Program} {w : World} {A : Around} {E : Value → Shared → Prop} {s : Shared} {env : Env} {h₀ : Heap} {x : Str} {body : List Stmt} {Q : Flow → Shared → Prop}
/-- two names' values in a loop -/
def Two (y1 y2 : Str) (m₀ : Str → Option Value) (x : Str) (H : Value → Value → Prop) (m : Str → Option Value) : Prop :=
  (∃ v1 v2, m y1 = some v1 ∧ m y2 = some v2 ∧ H v1 v2) ∧ ∀ z, z ≠ x → z ≠ y1 → z ≠ y2 → m z = m₀ z

theorem two_eq {y1 y2 x : Str} {m₀ m₁ : Str → Option Value} {v1 v2 : Value} {u : Option Value} (h1 : m₁ y1 = some v1) (h2 : m₁ y2 = some v2) (hm : ∀ z, z ≠ x → z ≠ y1 → z ≠ y2 → m₁ z = m₀ z) (a1 : y1 ≠ x) (a2 : y2 ≠ x) :
    (fun z => if z = x then u else m₁ z) = fun z => if z = x then u else if z = y1 then some v1 else if z = y2 then some v2 else m₀ z := by
  funext z
  by_cases e : z = x
  · simp [e]
  · simp only [if_neg e]
    by_cases e1 : z = y1
    · subst e1; simp [h1]
    · simp only [if_neg e1]
      by_cases e2 : z = y2
      · subst e2; simp [h2]
      · simp only [if_neg e2]; exact hm z e e1 e2
theorem two_eq' {y1 y2 x : Str} {m₀ m₁ : Str → Option Value} {v1 v2 : Value} (h1 : m₁ y1 = some v1) (h2 : m₁ y2 = some v2) (hm : ∀ z, z ≠ x → z ≠ y1 → z ≠ y2 → m₁ z = m₀ z) :
    m₁ = fun z => if z = x then m₁ z else if z = y1 then some v1 else if z = y2 then some v2 else m₀ z := by
  funext z
  by_cases e : z = x
  · simp [e]
  · simp only [if_neg e]
    by_cases e1 : z = y1
    · subst e1; simp [h1]
    · simp only [if_neg e1]
      by_cases e2 : z = y2
      · subst e2; simp [h2]
      · simp only [if_neg e2]; exact hm z e e1 e2

theorem iter_text2 {y1 y2 : Str} {xt : Str} {tx : Tok} {m₀ : Str → Option Value} {news : List (Addr × Obj)} {u1 u2 : Value} (H : Nat → Value → Value → Prop) (hh : A.handled = none) (F : Fr h₀ env.locals s.heap m₀) (N : News h₀ env.locals s.heap news)
    (i1 : m₀ y1 = some u1) (i2 : m₀ y2 = some u2) (i0 : H 0 u1 u2) (a1 : y1 ≠ x) (a2 : y2 ≠ x)
    (turn : ∀ i c t v1 v2 h tk own, xt.cps[i]? = some c → H i v1 v2 → Fr h₀ env.locals h (fun z => if z = x then some (.str ⟨#[c]⟩ t) else if z = y1 then some v1 else if z = y2 then some v2 else m₀ z) → News h₀ env.locals h (own ++ news) →
      wpAny (model prog w) A (execs body env) (InvPost h₀ env.locals (Two y1 y2 m₀ x (H (i + 1))) (own ++ news) { s with heap := h, toks := tk } Q) E { s with heap := h, toks := tk })
    (done : ∀ (u : Str → Option Value) v1 v2 h tk, H xt.cps.size v1 v2 → Fr h₀ env.locals h (fun z => if z = x then u z else if z = y1 then some v1 else if z = y2 then some v2 else m₀ z) → News h₀ env.locals h news → Q .next { s with heap := h, toks := tk }) :
    wpAny (model prog w) A (pyIter (.str xt tx)) (fun it s₂ => LoopAtV prog w A h₀ env x body Q E it s₂) E s := by
  refine iter_text (fun i m => Two y1 y2 m₀ x (H i) m) hh F N ⟨⟨u1, u2, i1, i2, i0⟩, fun _ _ _ _ => rfl⟩ ?_ ?_
  · rintro i c t m₁ h tk own hc ⟨⟨v1, v2, h1, h2, hH⟩, hm⟩ F₁ N₁
    rw [two_eq h1 h2 hm a1 a2] at F₁
    exact turn i c t v1 v2 h tk own hc hH F₁ N₁
  · rintro m₁ h tk ⟨⟨v1, v2, h1, h2, hH⟩, hm⟩ F₁ N₁
    rw [two_eq' h1 h2 hm] at F₁
    exact done m₁ v1 v2 h tk hH F₁ N₁

theorem iter_range2 {y1 y2 : Str} {r : Addr} {n : Int} {t u v : Tok} {m₀ : Str → Option Value} {news : List (Addr × Obj)} {u1 u2 : Value} (H : Nat → Value → Value → Prop) (hh : A.handled = none) (F : Fr h₀ env.locals s.heap m₀) (N : News h₀ env.locals s.heap news)
    (hr : IsRange s.heap r 0 n 1 t u v) (hn0 : 0 ≤ n) (hn1 : n ≤ 100)
    (i1 : m₀ y1 = some u1) (i2 : m₀ y2 = some u2) (i0 : H 0 u1 u2) (a1 : y1 ≠ x) (a2 : y2 ≠ x)
    (turn : ∀ (i : Nat) t v1 v2 h tk own, (i : Int) < n → H i v1 v2 → Fr h₀ env.locals h (fun z => if z = x then some (.int i t) else if z = y1 then some v1 else if z = y2 then some v2 else m₀ z) → News h₀ env.locals h (own ++ news) →
      wpAny (model prog w) A (execs body env) (InvPost h₀ env.locals (Two y1 y2 m₀ x (H (i + 1))) (own ++ news) { s with heap := h, toks := tk } Q) E { s with heap := h, toks := tk })
    (done : ∀ (u : Str → Option Value) v1 v2 h tk, H n.toNat v1 v2 → Fr h₀ env.locals h (fun z => if z = x then u z else if z = y1 then some v1 else if z = y2 then some v2 else m₀ z) → News h₀ env.locals h news → Q .next { s with heap := h, toks := tk }) :
    wpAny (model prog w) A (pyIter (.ref r)) (fun it s₂ => LoopAtV prog w A h₀ env x body Q E it s₂) E s := by
  have hsz : Builtin.Range.rangeSize 0 n 1 = n := by
    unfold Builtin.Range.rangeSize
    simp; omega
  have hsm : Builtin.Range.small 0 n 1 = true := by
    unfold Builtin.Range.small
    rw [hsz]
    simp [Builtin.Range.rangeFitsLong]
    omega
  refine wpAny_pyIter_range hr hsm ?_
  rw [hsz]
  obtain ⟨k, rfl⟩ : ∃ k : Nat, n = k := ⟨n.toNat, by omega⟩
  refine loop_invN (fun i m nx => nx = news ∧ Two y1 y2 m₀ x (H i) m) (Walks.range hh _ 0 1 k) ?_ ?_ ?_ ?_ ?_ (F.push _) (fun p hp => ⟨Heap.get?_push_of_some _ (N p hp).1, (N p hp).2⟩) ⟨rfl, ⟨u1, u2, i1, i2, i0⟩, fun _ _ _ _ => rfl⟩ ?_ ?_
  · intro hm
    exact absurd F.ns.lt ((List.mem_singleton.mp hm) ▸ Nat.lt_irrefl _)
  · intro b' hb
    rw [List.mem_singleton.mp hb]
    exact next_is_new F
  · intro p hp hI
    exact absurd (Heap.lt_size (N p hp).1) ((List.mem_singleton.mp hI) ▸ Nat.lt_irrefl _)
  · intro p hp hI
    exact absurd (Heap.lt_size (N p hp).1) ((List.mem_singleton.mp hI) ▸ Nat.lt_irrefl _)
  · show IsRangeIter _ _ (0 + ((0 : Nat) : Int) * 1) ((k : Int) - ((0 : Nat) : Int)) 1
    have e : (0 + ((0 : Nat) : Int) * 1 : Int) = 0 := by decide
    have e2 : (k : Int) - ((0 : Nat) : Int) = k := by omega
    rw [e, e2]
    exact Heap.get?_push_size _ rfl
  · rintro i v m₁ nx h tk own hi ⟨u, rfl⟩ _ hoff ⟨rfl, ⟨v1, v2, h1, h2, hH⟩, hm⟩ F₁ N₁
    rw [two_eq h1 h2 hm a1 a2] at F₁
    have e : (0 + (i : Int) * 1 : Int) = i := by omega
    rw [e] at F₁
    exact wpAny_mono (turn i u v1 v2 h tk own (by omega) hH F₁ fun p hp => N₁ p ((List.mem_append.mp hp).elim (fun z => List.mem_append.mpr (.inr z)) fun z => List.mem_append.mpr (.inl z))) (fun f s₂ h => invPost_N h) fun _ _ e => e
  · rintro m₁ nx h tk ⟨rfl, ⟨v1, v2, h1, h2, hH⟩, hm⟩ F₁ N₁
    rw [two_eq' h1 h2 hm] at F₁
    exact done m₁ v1 v2 h tk hH F₁ N₁
end
end Mine
namespace Mine
theorem len_mul3 (n : Int) : (Txt.mul (Str.ofString "0") ((n.fdiv 52).fmod 3)).length ≤ 2 :=
  len_mul_one (c := 48) (N := 2) (by decide) (by have := Int.fmod_lt_of_pos (n.fdiv 52) (show (0:Int) < 3 by decide); omega)
end Mine
namespace Mine
theorem inv_two {h₀ h' : Heap} {L : Addr} {y1 y2 x : Str} {m₀ m' : Str → Option Value} {v1 v2 : Value} {H : Value → Value → Prop} {need : List (Addr × Obj)} {s₁ : Shared} {tk : Nat} (F : Fr h₀ L h' m') (N : News h₀ L h' need)
    (e1 : m' y1 = some v1) (e2 : m' y2 = some v2) (hH : H v1 v2) (hr : ∀ z, z ≠ x → z ≠ y1 → z ≠ y2 → m' z = m₀ z) : InvEnd h₀ L (Two y1 y2 m₀ x H) need s₁ { s₁ with heap := h', toks := tk } :=
  ⟨h', tk, m', need, rfl, F, N, fun _ hp => hp, ⟨v1, v2, e1, e2, hH⟩, hr⟩
end Mine

end
theorem Mine.flush19 : True := by
  w_top off
  first | walk1 | trivial
section
open PySem PySem.W PyProof.Rows PySem.Calls
set_option maxRecDepth 100000
set_option maxHeartbeats 8000000
namespace Mine
local macro_rules | `(tactic| walk_at "m_enter") => `(tactic| (refine' enter ?B ?X ?T ?ho ?hcd ?hr ?hb ?hl ?_ ?c2 ?c3 ?c4 ?c5; (case B => assumption); (case X => assumption); (case T => assumption); (case ho => k_is); (case hcd => k_is); (case hr => (simp only [recursionLimit]; omega)); (case hb => exact BindsTo.of_eq rfl); (case c5 => decide); (case hl => exact locs rfl); (case c2 => exact rfl); (case c3 => exact rfl); (case c4 => exact rfl); k_whole; intro L' h' F' N' X' T'; (try dsimp only); (try k_fold)))
theorem filled_Txt : PySem.Challenge.rw_md0057_01.prog = PySem.Challenge.rw_md0057_01.prog ∧ hd.heap_39 = hd.heap_39 := by
  k_fill
  exact ⟨rfl, rfl⟩
local macro_rules | `(tactic| walk_at "inv2") => `(tactic| (refine' inv_two ?F ?N ?e1 ?e2 ?_ ?_; (case F => assumption); (case N => assumption); (case e1 => exact rfl); (case e2 => exact rfl)))
local macro_rules | `(tactic| walk_at "exec For") => `(tactic| ((with_reducible show wpAny _ _ (exec (Stmt.For (Expr.Name _ _) _ _ [] _) _) _ _ _); k_dflt (refine' for_V ?F ?hx ?hp ?hs ?hE ?_; (case F => k_asm); (case hx => rfl); (case hp => rfl); (case hs => (intro _; rfl)); (case hE => passes_own))))
theorem call_sgn {w : World} {mean : ExcName → Option Value} {mg mb : Str → Option Value} {b0 h₀ : Heap} {A : Around} {l : List Env} {s : Shared} {n : Int} {t1 : Tok} {L : Addr} {m : Str → Option Value} {news : List (Addr × Obj)} {Q : Value → Shared → Prop} {E : Value → Shared → Prop}
    (B : Below A b0 l s.heap) (X : (hd.heap_39 w.params).In b0) (T : Top topProg lo0 mean mg mb b0) (hh : A.handled = none) (hdep : A.depth ≤ 390) (hun : A.units ≤ 3900) (F : Fr h₀ L s.heap m) (N : News h₀ L s.heap news)
    (h : ∀ c t h' tk, GoodC c → Fr h₀ L h' m → News h₀ L h' news → Q (.str ⟨#[c]⟩ t) { s with heap := h', toks := tk }) : wpAny (model prog0 w) A (call (.ref 85) [.int n t1]) Q E s := by
  refine call_ret (sgn_spec B X T hh hdep hun) F N ?_
  rintro _ h' tk ⟨c, t, rfl, hg⟩ k F' N'
  exact h c t h' tk hg F' N'
local macro_rules | `(tactic| walk_at "call ref") => `(tactic| ((with_reducible show wpAny _ _ (call (Value.ref 85) [Value.int _ _]) _ _ _); refine' call_sgn (Below.push ?B ?F) ?X ?T ?hh ?hd ?hu ?F2 ?N ?_; (case F => assumption); (case B => assumption); (case X => assumption); (case T => assumption); (case hh => assumption); (case hd => (rw [depth_deeper]; omega)); (case hu => (rw [units_deeper]; omega)); (case F2 => assumption); (case N => assumption); (intro c t h' tk hgc F' N')))
local macro_rules | `(tactic| walk_at "binaryOp Add str str") => `(tactic| ((with_reducible show wpAny _ _ (binaryOp Operator.Add (Value.str _ _) (Value.str _ _)) _ _ _); refine' KOpn.add ?h ?_; (case h => ((try rw [sizeLine_eq]); (try simp only [Str.length_append, len_item, KOpn.len_one]); omega)); intro _ _ _))
theorem txt_spec {w : World} {mean : ExcName → Option Value} {mg mb : Str → Option Value} {b0 : Heap} {A : Around} {l : List Env} {s : Shared} {n k : Int} {t1 t2 : Tok}
    (B : Below A b0 l s.heap) (X : (hd.heap_39 w.params).In b0) (T : Top topProg lo0 mean mg mb b0) (hh : A.handled = none) (hdep : A.depth ≤ 380) (hun : A.units ≤ 3800) :
    codeAny (model prog0 w) A (.call (.ref 92) ⟨[.int k t1, .int n t2], []⟩) (Ret s (fun u h => ∃ x t, u = .str x t ∧ Good x ∧ x.length ≤ 20)) s := by
  walk_at "m_enter"
  k_steps
  all_goals (try (first
    | (have hm : (Txt.mul (Str.ofString "0") ((n.fdiv 52).fmod 3)).length ≤ 2 := (len_mul3 n))
    | skip))
  all_goals (try k_steps)
  · refine ret_mk (by assumption) ⟨_, _, rfl, good_app (good_app (good_app (sgn52 n) (good_mul _)) (num40f _).1) (good_one (by assumption)), ?_⟩
    simp only [Str.length_append, len_item, KOpn.len_one]
    have := (num40f (n.fdiv 156)).2
    omega
  · refine ret_mk (by assumption) ⟨_, _, rfl, good_app (good_app (good_app (sgn52 n) (good_mul _)) (num40f _).1) good_nil, ?_⟩
    have := (num40f (n.fdiv 156)).2
    have e : (Str.ofString "").length = 0 := rfl
    simp only [Str.length_append, len_item, e]
    omega
  · have hn0 : 0 ≤ n.fmod 7 := Int.fmod_nonneg_of_pos n (by decide)
    have hn1 : n.fmod 7 < 7 := Int.fmod_lt_of_pos n (by decide)
    refine iter_range2 (y1 := Str.ofString "text") (y2 := Str.ofString "rest") (fun i v1 v2 => ∃ y t r t', v1 = .str y t ∧ v2 = .int r t' ∧ Good y ∧ y.length ≤ i) (by assumption) (by assumption) (by assumption) (by assumption) hn0 (by omega) rfl rfl ⟨_, _, _, _, rfl, rfl, good_nil, Nat.le_refl 0⟩ (by decide) (by decide) ?_ ?_
    · rintro i t v1 v2 h tk own hi ⟨y, ty, r, tr, rfl, rfl, hy1, hy2⟩ F9 N9
      k_steps
      (walk_at "inv2"; refine ⟨_, _, _, _, rfl, rfl, good_app hy1 (good_one (by assumption)), ?_⟩)
      · simp only [Str.length_append, KOpn.len_one]; omega
      · intro z h1 h2 h3
        simp only [if_neg h1, if_neg h2, if_neg h3]
    · rintro u v1 v2 h tk ⟨y, ty, r, tr, rfl, rfl, hy1, hy2⟩ F9 N9
      k_steps
      refine ret_mk (by assumption) ⟨_, _, rfl, hy1, by omega⟩
  · refine iter_text2 (y1 := Str.ofString "text") (y2 := Str.ofString "rest") (fun i v1 v2 => ∃ y t r t', v1 = .str y t ∧ v2 = .int r t' ∧ Good y ∧ y.length ≤ i) (by assumption) (by assumption) (by assumption) rfl rfl ⟨_, _, _, _, rfl, rfl, good_nil, Nat.le_refl 0⟩ (by decide) (by decide) ?_ ?_
    · rintro i c t v1 v2 h tk own hc ⟨y, ty, r, tr, rfl, rfl, hy1, hy2⟩ F9 N9
      have hi : i < 4 := (Array.getElem?_eq_some_iff.mp hc).1
      obtain ⟨hc1, hc2, hc3⟩ := pass_sign hc
      have hl1 : (⟨#[c]⟩ : Str).length ≤ 20 := by rw [KOpn.len_one]; decide
      k_steps
      · (walk_at "inv2"; refine ⟨_, _, _, _, rfl, rfl, good_app hy1 hc2, ?_⟩)
        · simp only [Str.length_append, hc3]; omega
        · intro z h1 h2 h3
          simp only [if_neg h1, if_neg h2, if_neg h3]
      · (walk_at "inv2"; refine ⟨_, _, _, _, rfl, rfl, good_app hy1 (good_one hc1), ?_⟩)
        · simp only [Str.length_append, KOpn.len_one]; omega
        · intro z h1 h2 h3
          simp only [if_neg h1, if_neg h2, if_neg h3]
    · rintro u v1 v2 h tk ⟨y, ty, r, tr, rfl, rfl, hy1, hy2⟩ F9 N9
      replace hy2 : y.length ≤ 4 := hy2
      k_steps
      · refine ret_mk (by assumption) ⟨_, _, rfl, good_app hy1 (good_one (by assumption)), ?_⟩
        simp only [Str.length_append, KOpn.len_one]; omega
      · (try dsimp only); (try k_unfold)
        refine ret_mk (by assumption) ⟨_, _, rfl, good_app hy1 good_nil, ?_⟩
        have e : (Str.ofString "").length = 0 := rfl
        simp only [Str.length_append, e]; omega

end Mine

end
theorem Mine.flush20 : True := by
  w_top off
  first | walk1 | trivial
section
open PySem PySem.W PyProof.Rows PySem.Calls
set_option maxRecDepth 100000
namespace Mine
section
variable {G : Ctx → Prop} {M : Model} {A : Around} {E : Value → Shared → Prop} {s : Shared} {env : Env}
theorem wpG_keep {α : Type} {vs : List Value} {m : Sem α} {Q : α → Shared → Prop} (h : wpG G M A m Q E s) : wpG G M A (m.keep vs) Q E s :=
  fun Γ p hi hg => by rw [Sem.wp_keep]; exact h Γ p hi hg
theorem wpG_of_eq {α : Type} {t t' : Sem α} {Q : α → Shared → Prop} (e : t = t') (h : wpG G M A t' Q E s) : wpG G M A t Q E s := e ▸ h
theorem wpG_standAt {p : Pos} {Q : Unit → Shared → Prop} (h : Q () s) : wpG G M A (standAt p) Q E s := wpG_any (wpAny_standAt h)

theorem gx_cons {st rest} {Q : Flow → Shared → Prop} (h : wpG G M A (exec st env) (fun f s' => match f with | .next => wpG G M A (execs rest env) Q E s' | f => Q f s') E s) : wpG G M A (execs (st :: rest) env) Q E s :=
  fun Γ p hi hg => by
    rw [arm_execs_cons, Sem.wp_bind']
    refine Sem.wp_mono M Γ _ (fun f p' s' h' => ?_) (fun _ _ _ h' => h') _ _ (h Γ p hi hg)
    cases f <;> first | exact h' Γ p' hi hg | exact h'
theorem gx_step {st rest} {Q : Flow → Shared → Prop} (h : wpAny M A (exec st env) (fun f s' => match f with | .next => wpG G M A (execs rest env) Q E s' | f => Q f s') E s) : wpG G M A (execs (st :: rest) env) Q E s :=
  gx_cons (wpG_any h)
theorem gx_nil {Q : Flow → Shared → Prop} (h : Q .next s) : wpG G M A (execs [] env) Q E s := by rw [arm_execs_nil]; exact wpG_pure h
theorem gx_last {st} {Q : Flow → Shared → Prop} (h : wpG G M A (exec st env) Q E s) : wpG G M A (execs [st] env) Q E s :=
  gx_cons (wpG_mono h (fun f s' h' => by cases f <;> first | exact gx_nil h' | exact h') fun _ _ x => x)
theorem gx_if {test body orelse pos} {Q : Flow → Shared → Prop}
    (h : wpG G M A (isTrue test env (eval test env)) (fun b s₂ => if b then wpG G M A (execs body env) Q E s₂ else wpG G M A (execs orelse env) Q E s₂) E s) :
    wpG G M A (exec (.If test body orelse pos) env) Q E s := by
  rw [arm_exec_If]
  refine wpG_bind (wpG_standAt (wpG_bind (wpG_mono h (fun b s' h' => ?_) fun _ _ x => x)))
  cases b
  · simpa using h'
  · simpa using h'
theorem gx_ret {e pos} {Q : Flow → Shared → Prop} (h : wpG G M A (eval e env) (fun v => Q (.ret v)) E s) : wpG G M A (exec (.Return (some e) pos) env) Q E s := by
  rw [exec_Return_some]
  exact wpG_bind (wpG_standAt (wpG_bind (wpG_mono h (fun v s' h' => wpG_pure h') fun _ _ x => x)))
theorem gx_assign {x pos' value pos} {Q : Flow → Shared → Prop}
    (h : wpG G M A (eval value env) (fun v s₁ => wpAny M A (storeName env x v) (fun _ => Q .next) E s₁) E s)
    (hs : swapsWith value (some (.Name x pos')) pos.line env = pure false := by rfl) :
    wpG G M A (exec (.Assign [.Name x pos'] value pos) env) Q E s := fun Γ p hi hg => by
  simp only [exec_Assign_Name env x pos' value pos hs, Sem.wp_bind', Sem.wp_cmd_standAt, Sem.wp_bindName, Sem.wp_pure']
  exact Sem.wp_mono M Γ _ (fun v _ s₁ h₁ => h₁ Γ _ hi) (fun _ _ _ h' => h') _ _ (h Γ _ hi hg)
theorem ge_binop {l op r pos} {Q : Value → Shared → Prop}
    (h : wpG G M A (eval l env) (fun a s₁ => wpAny M A (eval r env) (fun b s₂ => wpAny M A (binaryOp op a b) Q E s₂) E s₁) E s) :
    wpG G M A (eval (.BinOp l op r pos) env) Q E s := fun Γ p hi hg => by
  simp only [arm_eval_BinOp, Sem.wp_bind', Sem.wp_holding, Sem.wp_cmd_standAt, Sem.wp_operate]
  exact Sem.wp_mono M Γ _ (fun a p₁ s₁ h₁ => Sem.wp_mono M Γ _ (fun b _ s₂ h₂ => h₂ Γ _ hi) (fun _ _ _ h' => h') _ _ (h₁ Γ p₁ hi)) (fun _ _ _ h' => h') _ _ (h Γ p hi hg)
theorem gt_compare {l op r pos whole} {Q : Bool → Shared → Prop}
    (h : wpG G M A (eval l env) (fun a s₁ => wpAny M A (eval r env) (fun b s₂ => wpAny M A (compareOp op a b)
      (fun c s₃ => wpAny M A (truthy c) Q E s₃) E s₂) E s₁) E s)
    (hm : behindInMarks op r = false := by with_unfolding_all rfl) : wpG G M A (isTrue (.Compare l [op] [r] pos) env whole) Q E s := fun Γ p hi hg => by
  simp only [isTrue_Compare1, markedBehindIn_of_false hm, Sem.wp_bind', Sem.wp_holding, Sem.wp_cmd_standAt, Sem.wp_operate]
  exact Sem.wp_mono M Γ _ (fun a p₁ s₁ h₁ => Sem.wp_mono M Γ _ (fun b _ s₂ h₂ => Sem.wp_mono M Γ _ (fun c p₃ s₃ h₃ => h₃ Γ p₃ hi)
    (fun _ _ _ h' => h') _ _ (h₂ Γ _ hi)) (fun _ _ _ h' => h') _ _ (h₁ Γ p₁ hi)) (fun _ _ _ h' => h') _ _ (h Γ p hi hg)
theorem gt_not {x pos whole} {Q : Bool → Shared → Prop} (h : wpG G M A (isTrue x env (eval x env)) (fun b s' => Q (!b) s') E s) : wpG G M A (isTrue (.UnaryOp .Not x pos) env whole) Q E s := by
  show wpG G M A (do return !(← isTrue x env (eval x env))) Q E s
  exact wpG_bind (wpG_mono h (fun b s' h' => wpG_pure h') fun _ _ x => x)
theorem gt_call {f args kws pos} {Q : Bool → Shared → Prop} (h : wpG G M A (eval (.Call f args kws pos) env) (fun v s' => wpAny M A (truthy v) Q E s') E s) :
    wpG G M A (isTrue (.Call f args kws pos) env (eval (.Call f args kws pos) env)) Q E s := by
  show wpG G M A (do let v ← eval (.Call f args kws pos) env; standAt _; holding [v] (truthy v)) Q E s
  exact wpG_bind (wpG_mono h (fun v s' h' => wpG_bind (wpG_standAt (wpG_holding (wpG_any h')))) fun _ _ x => x)
theorem ge_call {x : Str} {np pos : Pos} {args : List Expr} {Q : Value → Shared → Prop}
    (h : wpAny M A (eval (.Name x np) env) (fun f s₁ => wpG G M A (callWith pos f [] (backTo pos (starEach args env)) []) Q E s₁) E s) :
    wpG G M A (eval (.Call (.Name x np) args [] pos) env) Q E s := by
  show wpG G M A (do callWith pos (← eval (.Name x np) env) [] (backTo pos (starEach args env)) (backToKw pos (keywordEach [] env))) Q E s
  exact wpG_bind (wpG_any h)
theorem gc_of {f : Value} {pos : Pos} {first : List Value} {Q : Value → Shared → Prop} {P : Heap → Prop} {args : List (Bool × Sem Value)} {keywords : List (Option Str × Sem Value)} (hplain : (args.any (·.1) || keywords.any (·.1.isNone)) = false)
    (hk : ∀ h, P h → ∃ k, (k = Keeper.frame ∨ k = Keeper.machine ∨ k = Keeper.boundFrame) ∧ Looks M h (keeperOf f) k)
    (h : wpAny M A (evalArgs f true args keywords) (fun a s₁ => P s₁.heap ∧ wpG G M A (call f (first ++ a.pos) a.kw) Q E s₁) E s) : wpG G M A (callWith pos f first args keywords) Q E s := by
  unfold callWith
  refine wpG_bind (wpG_holding (wpG_any (wpAny_mono h (fun a s₁ h₁ => wpG_bind (wpG_standAt ?_)) fun _ _ x => x)))
  obtain ⟨k, hk', L⟩ := hk _ h₁.1
  simp only [hplain]
  refine wpG_bind (wpG_any (L.here ?_))
  have tail : ∀ {t : Sem Value}, wpG G M A t Q E s₁ → wpG G M A (t >>= fun r => holding [r] point >>= fun _ => pure r) Q E s₁ :=
    fun ht => wpG_bind (wpG_mono ht (fun r s₂ hr => wpG_any (wpAny_bind (wpAny_holding (wpAny_point (wpAny_pure hr))))) fun _ _ x => x)
  have marked (mk : Value) : wpG G M A (callMarked mk f (first ++ a.pos) a.kw) Q E s₁ := by unfold callMarked; exact wpG_keep h₁.2
  rcases hk' with rfl | rfl | rfl <;> dsimp only <;> first | exact tail h₁.2 | (split <;> first | exact tail h₁.2 | exact tail (marked _))
theorem gc_K {K : Frag} {f : Value} {pos : Pos} {Q : Value → Shared → Prop} {h₀ : Heap} {e : Expr} {rest : List Expr} (_X : K.In h₀) (hk : keepIn K f = true)
    (h : wpAny M A (spliced (backTo pos (starEach (e :: rest) env))) (fun vs s₁ => K.In s₁.heap ∧ wpG G M A (call f vs) Q E s₁) E s)
    (he : starEach (e :: rest) env = (false, eval e env) :: starEach rest env := by rfl) (hplain : (backTo pos (starEach rest env)).any (·.1) = false := by rfl) :
    wpG G M A (callWith pos f [] (backTo pos (starEach (e :: rest) env)) []) Q E s := by
  rw [he] at h ⊢
  exact gc_of (by show ((false || (backTo pos (starEach rest env)).any (·.1)) || false) = false; rw [hplain]; rfl) (keeps_K hk) (evalArgs_plain h)
theorem gc_type' {T : String} {pos : Pos} {Q : Value → Shared → Prop} {args : List (Bool × Sem Value)} (hplain : args.any (·.1) = false)
    (h : wpAny M A (evalArgs (.type T) true args []) (fun a s₁ => wpG G M A (call (.type T) ([] ++ a.pos) a.kw) Q E s₁) E s) : wpG G M A (callWith pos (.type T) [] args []) Q E s := by
  unfold callWith
  refine wpG_bind (wpG_holding (wpG_any (wpAny_mono h (fun a s₁ h₁ => wpG_bind (wpG_standAt ?_)) fun _ _ x => x)))
  simp only [hplain, List.any_nil, Bool.or_false]
  refine wpG_bind (wpG_pure ?_)
  exact wpG_bind (wpG_mono h₁ (fun r s₂ hr => wpG_any (wpAny_bind (wpAny_holding (wpAny_point (wpAny_pure hr))))) fun _ _ x => x)
theorem gc_type {T : String} {pos : Pos} {Q : Value → Shared → Prop} {e : Expr} {rest : List Expr}
    (h : wpAny M A (spliced (backTo pos (starEach (e :: rest) env))) (fun vs s₁ => wpG G M A (call (.type T) vs) Q E s₁) E s)
    (he : starEach (e :: rest) env = (false, eval e env) :: starEach rest env := by rfl) (hplain : (backTo pos (starEach rest env)).any (·.1) = false := by rfl) :
    wpG G M A (callWith pos (.type T) [] (backTo pos (starEach (e :: rest) env)) []) Q E s := by
  rw [he] at h ⊢
  exact gc_type' (by show (false || (backTo pos (starEach rest env)).any (·.1)) = false; rw [hplain]; rfl) (evalArgs_plain h)
/-- a try whose body needs the kind of contexts -/
theorem gx_try {body : List Stmt} {handlers : List ExceptHandler} {pos : Pos} {Q : Flow → Shared → Prop}
    (h : wpG G M A (execs body env) (fun f s' => Q f s') (fun e s' => wpAny M A (tryStmt false (throw e) handlers (execs [] env) [] env) Q E s') s) :
    wpG G M A (exec (.Try body handlers [] [] pos) env) Q E s := by
  rw [arm_exec_Try]
  refine wpG_bind (wpG_standAt ?_)
  intro Γ p hi hg
  have h' := h Γ p hi hg
  show Sem.wp M Γ (tryStmt false (execs body env) handlers (execs [] env) [] env) _ _ p s
  unfold tryStmt
  simp only [List.isEmpty_nil, if_true, Sem.wp_bind', Sem.wp_attempt]
  refine Sem.wp_mono M Γ _ (fun f p' s' hf => ?_) (fun e p' s' he => ?_) p s h'
  · cases f
    · rw [arm_execs_nil]; simpa [Sem.wp_pure'] using hf
    all_goals simpa [Sem.wp_pure'] using hf
  · have := he Γ p' hi
    unfold tryStmt at this
    simp only [List.isEmpty_nil, if_true, Sem.wp_bind', Sem.wp_attempt] at this ⊢
    exact this
end
end Mine

end
theorem Mine.flush21 : True := by
  w_top off
  first | walk1 | trivial
section
open PySem PySem.W PyProof.Rows PySem.Calls
set_option maxRecDepth 100000
namespace Mine
section
variable {G : Ctx → Prop} {w : World} {A : Around} {s : Shared} {b0 : Heap} {l : List Env} {K : Frag} {p : Program} {loose : List Str} {mean : ExcName → Option Value} {mg mb : Str → Option Value}
    {R : Result → Shared → Prop} {name qual : Str} {params : Arguments} {body : List Stmt} {scope : Scope} {dV kV doc pm cdv ct oc : Value} {an od : Option Addr} {osl : Array (Option Value)} {f : Addr} {args : Args} {binds : List (Str × Value)}
theorem enterG {prog : Program} (cG : Closed G) (B : Below A b0 l s.heap) (X : K.In b0) (T : Top p loose mean mg mb b0)
    (ho : K.lookup f = some ⟨oc, od, .func (fnOf name qual params body scope dV kV doc pm an cdv ct), osl⟩) (hcd : codeIn K cdv qual = true) (hroom : A.depth < recursionLimit)
    (hbind : BindsTo s (fnOf name qual params body scope dV kV doc pm an cdv ct) args binds) (hloc : ∀ y ∈ binds, scope.names.lookup y.1 = some .local)
    (h : ∀ L h₁, Fr s.heap L h₁ (fun y => binds.reverse.lookup y) → News s.heap L h₁ [] → K.In s.heap → Top p loose mean mg mb s.heap →
      wpG G (model prog w) (A.deeper (envOf qual scope L f cdv)) (execs body (envOf qual scope L f cdv))
        (fun fl s' => R (.ok (.ret (match fl with | .ret v => v | _ => .none))) s')
        (fun e s' => wpAny (model prog w) (A.deeper (envOf qual scope L f cdv)) (leaving (envOf qual scope L f cdv) e) (fun _ s'' => R (.error e) s'') (fun e' s'' => R (.error e') s'') s')
        { s with heap := h₁, toks := s.toks + binds.length })
    (hco : scope.isCoroutine = false) (hgen : scope.isGenerator = false) (hk : scope.kind = .function)
    (hcell : ∀ x ∈ scope.names, x.2 ≠ .cell) : codeG G (model prog w) A (.call (.ref f) args) R s := by
  have X' : K.In s.heap := X.keeps B.stays
  have T' : Top p loose mean mg mb s.heap := T.keeps B.stays
  refine codeG_fn cG (fd := fnOf name qual params body scope dV kV doc pm an cdv ct) (body := body) hroom (X' _ _ ho) rfl hco hgen rfl (codeRec_of X' hcd) (hbind _ _ _ _ ?_)
  refine wpAny_newFunctionEnv hcell hloc (fun h₀ hns₀ hsb₀ => ⟨T'.nolimit.fresh _ hsb₀, codeG_func cG ?_⟩) hk
  have hk₀ : ∀ b o, s.heap.get? b = some o → h₀.get? b = some o := fun b o e => hsb₀.extBut b o (Nat.ne_of_lt (Heap.lt_size e)) (Heap.get?_push_of_some _ e)
  exact h _ h₀ ⟨hns₀, hk₀, Nat.le_refl _⟩ News.nil X' T'
end
end Mine
namespace Mine
section
variable {prog : Program} {w : World} {A : Around} {E : Value → Shared → Prop} {s : Shared} {env : Env} {x : Str} {np cpos pos : Pos} {e₀ : Expr} {Q : Flow → Shared → Prop}
theorem raise_call_n (hh : A.handled = none) (hx : wpAny (model prog w) A (eval (.Name x np) env) (fun v s₁ => v = .type "ValueError" ∧ s₁ = s) E s)
    (h : wpAny (model prog w) A (eval e₀ env) (fun v s₂ => ∀ h' e, Heap.NewExc s₂.heap h' e "ValueError" → E (.ref e) { s₂ with heap := h' }) E s)
    (he : starEach [e₀] env = (false, eval e₀ env) :: starEach [] env := by rfl) :
    wpAny (model prog w) A (exec (.Raise (some (.Call (.Name x np) [e₀] [] cpos)) none pos) env) Q E s := by
  refine Raise_madeB F.excCall_ValueError F.excRaise_ValueError hh (wpAny_mono hx (fun f s₁ h₁ => ?_) fun _ _ y => y) he
  obtain ⟨rfl, rfl⟩ := h₁
  refine ⟨rfl, ?_⟩
  rw [he]
  refine Calls.spliced_cons (wpAny_mono h (fun v s₂ h₂ => Calls.spliced_nil ⟨by show 1 ≤ sizeLine; decide, fun h' e hm => h₂ h' e hm.newExc⟩) fun _ _ y => y)
def Ctx0 (h0 : Addr) (h : Heap) : Prop := ∃ o vs, h.get? h0 = some o ∧ o.data = .fields vs ∧ vs[2]? = some .none
def Thn (P Q : Prop) : Prop := P ∧ Q
theorem raise_call_h {h0 : Addr} (hh : A.handled = some (.ref h0)) (hx : wpAny (model prog w) A (eval (.Name x np) env) (fun v s₁ => v = .type "ValueError" ∧ s₁ = s) E s)
    (h : wpAny (model prog w) A (eval e₀ env) (fun v s₂ => Thn (Ctx0 h0 s₂.heap) (∀ h' e, MadeIn s₂.heap h' e "ValueError" → E (.ref e) { s₂ with heap := h' })) E s)
    (he : starEach [e₀] env = (false, eval e₀ env) :: starEach [] env := by rfl) :
    wpAny (model prog w) A (exec (.Raise (some (.Call (.Name x np) [e₀] [] cpos)) none pos) env) Q E s := by
  refine raise_call_c F.excCall_ValueError F.excRaise_ValueError hh (wpAny_mono hx (fun f s₁ h₁ => ?_) fun _ _ y => y) he
  obtain ⟨rfl, rfl⟩ := h₁
  refine ⟨rfl, ?_⟩
  rw [he]
  refine Calls.spliced_cons (wpAny_mono h (fun v s₂ h₂ => Calls.spliced_nil ⟨by show 1 ≤ sizeLine; decide, h₂.1, fun h' e hm => h₂.2 h' e hm⟩) fun _ _ y => y)
end
end Mine
namespace Mine
theorem try_throw {M : Model} {A : Around} {E : Value → Shared → Prop} {s : Shared} {env : Env} {e : Value} {hd : ExceptHandler} {hs : List ExceptHandler} {Q : Flow → Shared → Prop}
    (h : wpAny M A (noteFrame e env) (fun _ s₂ => wpAny M A (setFlight e none) (fun _ s₃ => wpAny M A (handleBy e env (hd :: hs)) Q E s₃) E s₂) E s) :
    wpAny M A (tryStmt false (throw e) (hd :: hs) (execs [] env) [] env) Q E s := by
  unfold tryStmt
  simp only [List.isEmpty_nil, if_true]
  refine wpAny_bind (wpAny_attempt (wpAny_throw ?_))
  dsimp only
  refine wpAny_bind (wpAny_mono h (fun _ s₂ h₂ => ?_) fun _ _ x => x)
  simp only [List.isEmpty_cons, Bool.false_and, Bool.false_eq_true, if_false]
  exact wpAny_bind (wpAny_mono h₂ (fun _ s₃ h₃ => h₃) fun _ _ x => x)
theorem gx_tryc {G : Ctx → Prop} {M : Model} {A : Around} {E : Value → Shared → Prop} {s : Shared} {env : Env} {body : List Stmt} {hd : ExceptHandler} {hs : List ExceptHandler} {pos : Pos} {Q : Flow → Shared → Prop}
    (h : wpG G M A (execs body env) (fun f s' => Q f s') (fun e s' => wpAny M A (noteFrame e env) (fun _ s₂ => wpAny M A (setFlight e none) (fun _ s₃ => wpAny M A (handleBy e env (hd :: hs)) Q E s₃) E s₂) E s') s) :
    wpG G M A (exec (.Try body (hd :: hs) [] [] pos) env) Q E s := gx_try (wpG_mono h (fun _ _ x => x) fun _ _ x => try_throw x)
end Mine

end
theorem Mine.flush22 : True := by
  w_top off
  first | walk1 | trivial
section
open PySem PySem.W PyProof.Rows PySem.Calls PySem.Builtin.Str PySem.NumText
set_option maxRecDepth 100000
namespace Mine
theorem step_bad {p : Array Nat × Bool} {c : Nat} (h : GoodC c) (hd : ¬ (48 ≤ c ∧ c ≤ 57)) : NumText.step 10 p c = none := by
  obtain ⟨h1, h2, h3, h4⟩ := h
  unfold NumText.step
  rw [if_neg (by rw [beq_iff_eq]; exact h4)]
  unfold digit?
  rw [if_neg (by simp only [Bool.and_eq_true, decide_eq_true_eq]; exact hd)]
  by_cases a : 97 ≤ c ∧ c ≤ 122
  · rw [if_pos (by simp only [Bool.and_eq_true, decide_eq_true_eq]; exact a)]
    exact if_neg (by omega)
  · rw [if_neg (by simp only [Bool.and_eq_true, decide_eq_true_eq]; exact a)]
    by_cases b : 65 ≤ c ∧ c ≤ 90
    · rw [if_pos (by simp only [Bool.and_eq_true, decide_eq_true_eq]; exact b)]
      exact if_neg (by omega)
    · rw [if_neg (by simp only [Bool.and_eq_true, decide_eq_true_eq]; exact b)]
theorem foldl_bad : ∀ (cs : List Nat) (p : Array Nat × Bool), (∀ c ∈ cs, GoodC c) → ¬ AllDigits cs → cs.foldlM (NumText.step 10) p = none
  | [], _, _, h => absurd (fun c hc => by cases hc) h
  | c :: cs, (ds, b), hs, hm => by
    rw [List.foldlM_cons]
    by_cases hc : 48 ≤ c ∧ c ≤ 57
    · rw [step_digit hc]
      show cs.foldlM (NumText.step 10) (ds.push (c - 48), true) = none
      refine foldl_bad cs _ (fun d hd => hs d (List.mem_cons_of_mem _ hd)) fun ha => hm fun d hd => ?_
      rcases List.mem_cons.mp hd with rfl | hd
      · exact hc
      · exact ha d hd
    · rw [step_bad (hs c (List.mem_cons_self ..)) hc]; rfl
theorem digits_none {cs : List Nat} (hs : ∀ c ∈ cs, GoodC c) (h : ¬ (AllDigits cs ∧ cs ≠ [])) : digits? 10 cs = none := by
  cases cs with
  | nil => rfl
  | cons c cs =>
    unfold digits?
    rw [foldl_bad _ _ hs fun a => h ⟨a, by simp⟩]
    rfl
theorem drop_good {cs : List Nat} (hs : ∀ c ∈ cs, GoodC c) : cs.dropWhile blank = cs := by
  cases cs with
  | nil => rfl
  | cons c cs => exact dropWhile_of (hs c (List.mem_cons_self ..)).1
theorem core_good {cs : List Nat} (hs : ∀ c ∈ cs, GoodC c) : core cs = (sign cs).2 := by
  unfold core
  rw [drop_good hs]
  have : ∀ c ∈ (sign cs).2, GoodC c := by
    unfold sign
    split
    · exact fun c hc => hs c (List.mem_cons_of_mem _ hc)
    · exact fun c hc => hs c (List.mem_cons_of_mem _ hc)
    · exact hs
  rw [drop_good (cs := (sign cs).2.reverse) fun c hc => this c (List.mem_reverse.mp hc), List.reverse_reverse]
theorem numText_good {x : Str} (h : Good x) : numTextOf x = x.cps.toList ∧ numSeenOf x = x.cps.toList := by
  have e1 : numTextOf x = x.cps.toList := by
    refine if_pos ?_
    rw [← Array.all_toList, List.all_eq_true]
    intro c hc
    have := h c hc
    exact decide_eq_true (by have := this.2.1; omega)
  refine ⟨e1, ?_⟩
  show (numTextOf x).takeWhile _ = _
  rw [e1]
  refine takeWhile_all fun c hc => ?_
  have := h c hc
  exact bne_iff_ne.mpr (by have := this.1; omega)
theorem intText_good {x : Str} (h : Good x) :
    PySem.intText? x = match digits? 10 (sign x.cps.toList).2 with
      | some ds => if ds.size ≤ 4300 then some (worth (sign x.cps.toList).1 ds) else none
      | none => none := by
  obtain ⟨e1, e2⟩ := numText_good h
  unfold PySem.intText?
  rw [e1, e2, core_good h, drop_good h]
  exact if_pos (beq_self_eq_true _)
theorem int_good {x : Str} (h : Good x) (hl : x.length ≤ 4300) :
    (AllDigits x.cps.toList ∧ x.cps.toList ≠ [] ∧ PySem.intText? x = some ((digitsVal x.cps.toList : Nat) : Int)) ∨
    (∃ v : Int, v ≤ 0 ∧ PySem.intText? x = some v ∧ ¬ AllDigits x.cps.toList) ∨
    (PySem.intText? x = none ∧ ¬ (AllDigits x.cps.toList ∧ x.cps.toList ≠ [])) := by
  by_cases h1 : AllDigits x.cps.toList ∧ x.cps.toList ≠ []
  · exact .inl ⟨h1.1, h1.2, intText_digits h1.1 h1.2 hl⟩
  · by_cases h2 : ∃ cs, x.cps.toList = 45 :: cs ∧ AllDigits cs ∧ cs ≠ []
    · obtain ⟨cs, e, hd, hne⟩ := h2
      refine .inr (.inl ⟨_, ?_, intText_neg e hd hne hl, fun ha => ?_⟩)
      · omega
      · rw [e] at ha; have := ha.head; omega
    · refine .inr (.inr ⟨?_, h1⟩)
      rw [intText_good h]
      have : digits? 10 (sign x.cps.toList).2 = none := by
        unfold sign
        split
        · rename_i r e
          exact digits_none (fun c hc => h c (by rw [e]; exact List.mem_cons_of_mem _ hc)) fun ⟨a, b⟩ => h2 ⟨r, e, a, b⟩
        · rename_i r e
          exact absurd rfl (h 43 (by rw [e]; exact List.mem_cons_self ..)).2.2.1
        · exact digits_none h h1
      rw [this]

theorem let_mem : ∀ c : Nat, c < 128 → decide (up1 c ∈ cols.cps.toList) = decide (97 ≤ lo1 c ∧ lo1 c ≤ 122 ∧ lo1 c ≠ 105) := by decide +kernel
theorem let_in {c : Nat} (h : c < 128) : (occurrences cols ⟨#[up1 c]⟩ 0 cols.length 1).isEmpty = !decide (97 ≤ lo1 c ∧ lo1 c ≤ 122 ∧ lo1 c ≠ 105) := by
  rw [empty_one, let_mem c h]
theorem let_find : ∀ c : Nat, c < 128 → (97 ≤ lo1 c ∧ lo1 c ≤ 122 ∧ lo1 c ≠ 105) → Txt.find cols ⟨#[up1 c]⟩ = if 105 < lo1 c then ((lo1 c - 98 : Nat) : Int) else ((lo1 c - 97 : Nat) : Int) := by decide +kernel
theorem lo_dig : ∀ c : Nat, c < 128 → ((48 ≤ lo1 c ∧ lo1 c ≤ 57) ↔ (48 ≤ c ∧ c ≤ 57)) := by decide +kernel
theorem lo_same {c : Nat} (h : 48 ≤ c ∧ c ≤ 57) : lo1 c = c := by unfold lo1; rw [if_neg (by omega)]
theorem lo_good {c : Nat} (h : GoodC c) : GoodC (lo1 c) := by
  obtain ⟨h1, h2, h3, h4⟩ := h
  unfold lo1
  split
  · exact ⟨by omega, by omega, by omega, by omega⟩
  · exact ⟨h1, h2, h3, h4⟩
theorem p1 : ∀ c : Nat, c < 128 → ((lo1 c = 112 ↔ up1 c = 80) ∧ (lo1 c = 97 ↔ up1 c = 65) ∧ (lo1 c = 115 ↔ up1 c = 83)) := by decide +kernel
theorem good_ascii {x : Str} (h : Good x) : ∀ c ∈ x.cps.toList, c < 128 := fun c hc => by have := (h c hc).2.1; omega
theorem slice1 {y : Str} (h : 1 ≤ y.length) : (Txt.slice y (some 1) none).cps.toList = y.cps.toList.drop 1 := by
  have hl : y.cps.toList.length = y.length := Array.length_toList
  have e : Txt.slice y (some 1) none = ⟨((y.cps.toList.drop (1 : Int).toNat).take ((y.cps.toList.length : Int) - 1).toNat).toArray⟩ := StrLaws.sliceText_from (i := 1) ⟨by omega, by omega⟩
  rw [e]
  show (y.cps.toList.drop 1).take _ = _
  refine List.take_of_length_le ?_
  rw [List.length_drop]
  omega
end Mine

end
theorem Mine.flush23 : True := by
  w_top off
  first | walk1 | trivial
section
open PySem PySem.W PyProof.Rows PySem.Calls PySem.Builtin.Str PySem.NumText
set_option maxRecDepth 100000
namespace Mine
theorem low_list {x : Str} (h : Good x) : (Txt.lower x).cps.toList = x.cps.toList.map lo1 := by rw [lower_ascii (good_ascii h)]; simp
theorem up_list {x : Str} (h : Good x) : (Txt.upper x).cps.toList = x.cps.toList.map up1 := by rw [upper_ascii (good_ascii h)]; simp
theorem low_len {x : Str} (h : Good x) : (Txt.lower x).length = x.length := by rw [lower_ascii (good_ascii h)]; show (x.cps.map lo1).size = x.cps.size; simp
theorem up_len {x : Str} (h : Good x) : (Txt.upper x).length = x.length := by rw [upper_ascii (good_ascii h)]; show (x.cps.map up1).size = x.cps.size; simp
theorem low_good {x : Str} (h : Good x) : Good (Txt.lower x) := fun c hc => by
  rw [low_list h] at hc
  obtain ⟨d, hd, rfl⟩ := List.mem_map.mp hc
  exact lo_good (h d hd)
theorem pass_iff {x : Str} (h : Good x) : (Txt.lower x == Str.ofString "pass") = (Txt.upper x == Str.ofString "PASS") := by
  rw [← SeqAt.str_beq, ← SeqAt.str_beq, low_list h, up_list h]
  have hA := good_ascii h
  generalize x.cps.toList = l at *
  have e1 : (Str.ofString "pass").cps.toList = [112, 97, 115, 115] := by decide
  have e2 : (Str.ofString "PASS").cps.toList = [80, 65, 83, 83] := by decide
  rw [e1, e2]
  match l, hA with
  | [], _ => rfl
  | [_], _ => simp
  | [_, _], _ => simp
  | [_, _, _], _ => simp
  | [a, b, c, d], hA =>
    have h1 := (p1 a (hA a (by simp))).1
    have h2 := (p1 b (hA b (by simp))).2.1
    have h3 := (p1 c (hA c (by simp))).2.2
    have h4 := (p1 d (hA d (by simp))).2.2
    rw [Bool.eq_iff_iff]
    simp [h1, h2, h3, h4]
  | _ :: _ :: _ :: _ :: _ :: _, _ => simp
theorem charAt0 {y : Str} {c : Nat} {cs : List Nat} (h : y.cps.toList = c :: cs) : Txt.charAt y 0 = some c := by
  obtain ⟨⟨l⟩⟩ := y
  obtain rfl : l = c :: cs := h
  show (seqIndex? 0 ((c :: cs).length)).bind (fun i => (⟨c :: cs⟩ : Array Nat)[i]?) = some c
  have : seqIndex? 0 ((c :: cs).length) = some 0 := by unfold seqIndex?; simp
  rw [this]; simp

open Classical in
/-- what is due, by the text in small letters -/
theorem due_eq {x : Str} {n : Int} (h : Good x) (hl : 1 ≤ x.length) (h0 : 0 < n) (h1 : n ≤ 25) (hp : (Txt.lower x == Str.ofString "pass") = false) :
    due x n = if 97 ≤ (Txt.charAt (Txt.lower x) 0).getD 0 ∧ (Txt.charAt (Txt.lower x) 0).getD 0 ≤ 122 ∧ (Txt.charAt (Txt.lower x) 0).getD 0 ≠ 105 then
      (if AllDigits (tl (Txt.lower x)) ∧ tl (Txt.lower x) ≠ [] then
        (if ((digitsVal (tl (Txt.lower x)) : Nat) : Int) < 1 then none else if n < ((digitsVal (tl (Txt.lower x)) : Nat) : Int) then none
          else if n ≤ (if 105 < (Txt.charAt (Txt.lower x) 0).getD 0 then (((Txt.charAt (Txt.lower x) 0).getD 0 - 98 : Nat) : Int) else (((Txt.charAt (Txt.lower x) 0).getD 0 - 97 : Nat) : Int)) then none
          else some (some (((digitsVal (tl (Txt.lower x)) : Nat) : Int) - 1, if 105 < (Txt.charAt (Txt.lower x) 0).getD 0 then (((Txt.charAt (Txt.lower x) 0).getD 0 - 98 : Nat) : Int) else (((Txt.charAt (Txt.lower x) 0).getD 0 - 97 : Nat) : Int))))
        else none) else none := by
  have hsz : x.cps.toList.length = x.length := Array.length_toList
  have hA := good_ascii h
  obtain ⟨c, cs, e⟩ : ∃ c cs, x.cps.toList = c :: cs := by
    cases q : x.cps.toList with
    | nil => rw [q] at hsz; simp at hsz; omega
    | cons c cs => exact ⟨c, cs, rfl⟩
  have hc : c < 128 := hA c (by rw [e]; simp)
  have el : (Txt.lower x).cps.toList = lo1 c :: cs.map lo1 := by rw [low_list h, e]; rfl
  have eu : (Txt.upper x).cps.toList = up1 c :: cs.map up1 := by rw [up_list h, e]; rfl
  have g0 : (Txt.charAt (Txt.lower x) 0).getD 0 = lo1 c := by rw [charAt0 el]; rfl
  have gi : Txt.item (Txt.upper x) 0 = ⟨#[up1 c]⟩ := by unfold Txt.item; rw [charAt0 eu]; rfl
  have t1 : tl x = cs := by unfold tl; rw [slice1 hl, e]; rfl
  have t2 : tl (Txt.lower x) = cs.map lo1 := by unfold tl; rw [slice1 (by rw [low_len h]; exact hl), el]; rfl
  have hd : AllDigits (cs.map lo1) ↔ AllDigits cs := by
    constructor
    · intro a d hd
      exact (lo_dig d (hA d (by rw [e]; exact List.mem_cons_of_mem _ hd))).mp (a _ (List.mem_map.mpr ⟨d, hd, rfl⟩))
    · intro a d hd
      obtain ⟨q, hq, rfl⟩ := List.mem_map.mp hd
      rw [lo_same (a q hq)]; exact a q hq
  have hm : AllDigits cs → cs.map lo1 = cs := fun a => by
    refine (List.map_congr_left fun q hq => lo_same (a q hq)).trans ?_
    simp
  have len2 : ((x.length : Nat) : Int) < 2 ↔ cs = [] := by
    rw [← hsz, e]
    cases cs with
    | nil => simp
    | cons _ _ => simp; omega
  rw [g0, t2]
  unfold due
  rw [if_neg (by omega), if_neg (by omega), ← pass_iff h, hp, if_neg (by decide), gi, t1, let_in hc]
  by_cases hne : cs = []
  · rw [if_pos (len2.mpr hne)]
    subst hne
    simp
  · rw [if_neg (fun q => hne (len2.mp q))]
    have hne' : cs.map lo1 ≠ [] := by simpa using hne
    by_cases hv : 97 ≤ lo1 c ∧ lo1 c ≤ 122 ∧ lo1 c ≠ 105
    · rw [decide_eq_true hv, if_neg (by decide), if_pos hv, let_find c hc hv]
      by_cases hD : AllDigits cs
      · rw [if_neg (show ¬ ¬ AllDigits cs from fun q => q hD), if_pos (show AllDigits (cs.map lo1) ∧ cs.map lo1 ≠ [] from ⟨hd.mpr hD, hne'⟩), hm hD]
      · rw [if_pos (show ¬ AllDigits cs from hD), if_neg (show ¬ (AllDigits (cs.map lo1) ∧ cs.map lo1 ≠ []) from fun q => hD (hd.mp q.1))]
    · rw [decide_eq_false hv, if_pos (by decide), if_neg hv]
theorem due_short {x : Str} {n : Int} (h : Good x) (hl : x.length = 0) (hp : (Txt.lower x == Str.ofString "pass") = false) : due x n = none := by
  unfold due
  split
  · rfl
  split
  · rfl
  rw [← pass_iff h, hp, if_neg (by decide), if_pos (by omega)]
theorem due_pass {x : Str} {n : Int} (h : Good x) (h0 : 0 < n) (h1 : n ≤ 25) (hp : (Txt.lower x == Str.ofString "pass") = true) : due x n = some none := by
  unfold due
  rw [if_neg (by omega), if_neg (by omega), ← pass_iff h, hp, if_pos rfl]
end Mine

end
theorem Mine.flush24 : True := by
  w_top off
  first | walk1 | trivial
section
open PySem PySem.W PyProof.Rows PySem.Calls PySem.Builtin.Str PySem.NumText
set_option maxRecDepth 100000
namespace Mine
abbrev ch0 (y : Str) : Nat := (Txt.charAt y 0).getD 0
theorem one_lt {a b : Nat} : ([a] : List Nat) < [b] ↔ a < b := by
  rw [List.cons_lt_cons_iff]
  constructor
  · rintro (h | ⟨_, h⟩)
    · exact h
    · exact absurd h (List.lt_irrefl _)
  · exact .inl
theorem it_lt_a {y : Str} : (Txt.item y 0).cps.toList < (Str.ofString "a").cps.toList ↔ ch0 y < 97 := one_lt (b := 97)
theorem z_lt_it {y : Str} : (Str.ofString "z").cps.toList < (Txt.item y 0).cps.toList ↔ 122 < ch0 y := one_lt (a := 122)
theorem i_lt_it {y : Str} : (Str.ofString "i").cps.toList < (Txt.item y 0).cps.toList ↔ 105 < ch0 y := one_lt (a := 105)
theorem it_i {y : Str} : (Txt.item y 0 == Str.ofString "i") = decide (ch0 y = 105) := by
  rw [← SeqAt.str_beq]
  show ([ch0 y] == [105]) = _
  rw [Bool.eq_iff_iff]; simp
theorem due_letter {x : Str} {n : Int} (h : Good x) (hl : 1 ≤ x.length) (h0 : 0 < n) (h1 : n ≤ 25) (hp : (Txt.lower x == Str.ofString "pass") = false) (hk : ¬ (97 ≤ ch0 (Txt.lower x) ∧ ch0 (Txt.lower x) ≤ 122 ∧ ch0 (Txt.lower x) ≠ 105)) : due x n = none := by
  rw [due_eq h hl h0 h1 hp, if_neg hk]
theorem due_row {x : Str} {n : Int} (h : Good x) (hl : 1 ≤ x.length) (h0 : 0 < n) (h1 : n ≤ 25) (hp : (Txt.lower x == Str.ofString "pass") = false) (hk : ¬ (AllDigits (tl (Txt.lower x)) ∧ tl (Txt.lower x) ≠ [])) : due x n = none := by
  rw [due_eq h hl h0 h1 hp]
  split <;> first | rfl | rw [if_neg hk]
/-- the column by the small letter -/
def colOf (k : Nat) : Int := if 105 < k then ((k - 98 : Nat) : Int) else ((k - 97 : Nat) : Int)
theorem due_num {x : Str} {n : Int} (h : Good x) (hl : 1 ≤ x.length) (h0 : 0 < n) (h1 : n ≤ 25) (hp : (Txt.lower x == Str.ofString "pass") = false) (hk : 97 ≤ ch0 (Txt.lower x) ∧ ch0 (Txt.lower x) ≤ 122 ∧ ch0 (Txt.lower x) ≠ 105)
    (hD : AllDigits (tl (Txt.lower x)) ∧ tl (Txt.lower x) ≠ []) :
    due x n = if ((digitsVal (tl (Txt.lower x)) : Nat) : Int) < 1 then none else if n < ((digitsVal (tl (Txt.lower x)) : Nat) : Int) then none
          else if n ≤ colOf (ch0 (Txt.lower x)) then none else some (some (((digitsVal (tl (Txt.lower x)) : Nat) : Int) - 1, colOf (ch0 (Txt.lower x)))) := by
  rw [due_eq h hl h0 h1 hp, if_pos hk, if_pos hD]; rfl
theorem wpG_sub {G G' : Ctx → Prop} {α : Type} {M : Model} {A : Around} {t : Sem α} {Q : α → Shared → Prop} {E : Value → Shared → Prop} {s : Shared} (hG : ∀ Γ, G Γ → G' Γ) (h : wpG G' M A t Q E s) : wpG G M A t Q E s :=
  fun Γ p hi hg => h Γ p hi (hG Γ hg)
theorem good_tl {x : Str} (h : Good x) (hl : 1 ≤ x.length) : Good (Txt.slice x (some 1) none) := fun c hc => by
  rw [slice1 hl] at hc
  exact h c (List.mem_of_mem_drop hc)
theorem repr_fits {x : Str} (h : Good x) (hl : x.length ≤ 20) : (reprText x).length ≤ sizeLine := by
  have := StrLaws.reprText_len x (fun c hc => Nat.lt_trans (h c hc).2.1 (by decide))
  rw [sizeLine_eq]; omega
end Mine

end
theorem Mine.flush25 : True := by
  w_top off
  first | walk1 | trivial
section
open PySem PySem.W PyProof.Rows PySem.Calls PySem.Builtin.Str PySem.NumText
set_option maxRecDepth 100000
namespace Mine
theorem cut_eq {c : Nat} : ∀ {a b u v : List Nat}, c ∉ a → c ∉ b → a ++ c :: u = b ++ c :: v → a = b ∧ u = v
  | [], [], u, v, _, _, e => ⟨rfl, (List.cons.inj e).2⟩
  | [], y :: b, u, v, _, hb, e => absurd (List.cons.inj e).1 (fun q => hb (q ▸ List.mem_cons_self ..))
  | x :: a, [], u, v, ha, _, e => absurd (List.cons.inj e).1 (fun q => ha (q ▸ List.mem_cons_self ..))
  | x :: a, y :: b, u, v, ha, hb, e => by
    obtain ⟨e1, e2⟩ := List.cons.inj e
    obtain ⟨r1, r2⟩ := cut_eq (a := a) (b := b) (fun h => ha (List.mem_cons_of_mem _ h)) (fun h => hb (List.mem_cons_of_mem _ h)) e2
    exact ⟨by rw [e1, r1], r2⟩
theorem join_two (c : Nat) (p q : Str) (r : List Str) : (Str.join ⟨#[c]⟩ (p :: q :: r)).cps.toList = p.cps.toList ++ c :: (Str.join ⟨#[c]⟩ (q :: r)).cps.toList := by
  show (p ++ ⟨#[c]⟩ ++ Str.join ⟨#[c]⟩ (q :: r)).cps.toList = _
  simp only [Str.cps_append, Array.toList_append]
  simp
theorem join_inj {c : Nat} : ∀ {xs ys : List Str}, xs ≠ [] → ys ≠ [] → (∀ p ∈ xs, c ∉ p.cps.toList) → (∀ p ∈ ys, c ∉ p.cps.toList) → Str.join ⟨#[c]⟩ xs = Str.join ⟨#[c]⟩ ys → xs = ys
  | [], _, h, _, _, _, _ => absurd rfl h
  | _, [], _, h, _, _, _ => absurd rfl h
  | [p], [q], _, _, _, _, e => by rw [show p = q from e]
  | [p], q :: q' :: r, _, _, hx, _, e => by
    exfalso
    have e1 := congrArg (fun z : Str => z.cps.toList) e
    rw [join_two] at e1
    exact hx p (List.mem_cons_self ..) (by
      show c ∈ (Str.join ⟨#[c]⟩ [p]).cps.toList
      rw [e1]; simp)
  | p :: p' :: r, [q], _, _, _, hy, e => by
    exfalso
    have e1 := congrArg (fun z : Str => z.cps.toList) e
    rw [join_two] at e1
    exact hy q (List.mem_cons_self ..) (by
      show c ∈ (Str.join ⟨#[c]⟩ [q]).cps.toList
      rw [← e1]; simp)
  | p :: p' :: r, q :: q' :: t, _, _, hx, hy, e => by
    have e1 := congrArg (fun z : Str => z.cps.toList) e
    rw [join_two, join_two] at e1
    obtain ⟨r1, r2⟩ := cut_eq (hx p (List.mem_cons_self ..)) (hy q (List.mem_cons_self ..)) e1
    have := join_inj (xs := p' :: r) (ys := q' :: t) (by simp) (by simp) (fun a ha => hx a (List.mem_cons_of_mem _ ha)) (fun a ha => hy a (List.mem_cons_of_mem _ ha)) (ext_toList r2)
    rw [ext_toList r1, this]
theorem split_join {xs : List Str} (h : xs ≠ []) (hc : ∀ p ∈ xs, 44 ∉ p.cps.toList) : Txt.split (Txt.join (Str.ofString ",") xs) (Str.ofString ",") = xs := by
  have e : Str.ofString "," = ⟨#[44]⟩ := by decide
  rw [e]
  show Txt.split (glued ⟨#[44]⟩ xs) ⟨#[44]⟩ = xs
  rw [StrLaws.glued_eq_join]
  refine join_inj (fun q => ?_) h (StrLaws.split_free _ _) hc (StrLaws.join_split _ _)
  have := split_pos (Str.join ⟨#[44]⟩ xs) ⟨#[44]⟩
  rw [q] at this
  simp at this
theorem col_all : ∀ c : Nat, c < 25 → GoodC ((Txt.charAt cols (c : Int)).getD 0) ∧ (97 ≤ lo1 ((Txt.charAt cols (c : Int)).getD 0) ∧ lo1 ((Txt.charAt cols (c : Int)).getD 0) ≤ 122 ∧ lo1 ((Txt.charAt cols (c : Int)).getD 0) ≠ 105) ∧ colOf (lo1 ((Txt.charAt cols (c : Int)).getD 0)) = (c : Int) := by unfold GoodC; decide +kernel
theorem row_all : ∀ r : Nat, r < 25 → AllDigits (Str.ofString (toString ((r : Int) + 1))).cps.toList ∧ (Str.ofString (toString ((r : Int) + 1))).cps.toList ≠ [] ∧ ((digitsVal (Str.ofString (toString ((r : Int) + 1))).cps.toList : Nat) : Int) = (r : Int) + 1 := by unfold AllDigits; decide +kernel
theorem dig_good {cs : List Nat} (h : AllDigits cs) : ∀ c ∈ cs, GoodC c := fun c hc => by have := h c hc; exact ⟨by omega, by omega, by omega, by omega⟩
theorem wr_list (r c : Int) : (wr r c).cps.toList = (Txt.charAt cols c).getD 0 :: (Str.ofString (toString (r + 1))).cps.toList := by
  unfold wr Txt.item
  rw [Str.cps_append, Array.toList_append]
  exact List.singleton_append
theorem due_parts {x : Str} {a : Nat} {ds : List Nat} (el : x.cps.toList = a :: ds) (g1 : GoodC a) (g2 : 97 ≤ lo1 a ∧ lo1 a ≤ 122 ∧ lo1 a ≠ 105) (d1 : AllDigits ds) (d2 : ds ≠ []) :
    Good x ∧ due x 25 = if ((digitsVal ds : Nat) : Int) < 1 then none else if 25 < ((digitsVal ds : Nat) : Int) then none else if 25 ≤ colOf (lo1 a) then none else some (some (((digitsVal ds : Nat) : Int) - 1, colOf (lo1 a))) := by
  have hg : Good x := fun y hy => by
    rw [el] at hy
    rcases List.mem_cons.mp hy with rfl | hy
    · exact g1
    · exact dig_good d1 y hy
  have hm : ds.map lo1 = ds := (List.map_congr_left fun q hq => lo_same (d1 q hq)).trans (by simp)
  have ell : (Txt.lower x).cps.toList = lo1 a :: ds := by rw [low_list hg, el, List.map_cons, hm]
  have hlen : 1 ≤ x.length := by
    have : x.cps.toList.length = x.length := Array.length_toList
    rw [el, List.length_cons] at this; omega
  have hll : 1 ≤ (Txt.lower x).length := by rw [low_len hg]; exact hlen
  have hps : (Txt.lower x == Str.ofString "pass") = false := by
    rw [← SeqAt.str_beq, ell, show (Str.ofString "pass").cps.toList = [112, 97, 115, 115] from by decide]
    cases ds with
    | nil => exact absurd rfl d2
    | cons d ds =>
      have := d1 d (List.mem_cons_self ..)
      have hd : (d == 97) = false := by rw [beq_eq_false_iff_ne]; omega
      simp [hd]
  have ht : tl (Txt.lower x) = ds := by unfold tl; rw [slice1 hll, ell]; rfl
  have hc0 : ch0 (Txt.lower x) = lo1 a := by show (Txt.charAt _ 0).getD 0 = _; rw [charAt0 ell]; rfl
  refine ⟨hg, ?_⟩
  rw [due_num hg hlen (by decide) (by decide) hps (by rw [hc0]; exact g2) (by rw [ht]; exact ⟨d1, d2⟩), ht, hc0]
theorem wr_due {r c : Int} (h : inB r c) : Good (wr r c) ∧ due (wr r c) 25 = some (some (r, c)) := by
  obtain ⟨h1, h2, h3, h4⟩ := h
  obtain ⟨r, rfl⟩ := Int.eq_ofNat_of_zero_le h1
  obtain ⟨c, rfl⟩ := Int.eq_ofNat_of_zero_le h3
  obtain ⟨g1, g2, g3⟩ := col_all c (by omega)
  obtain ⟨d1, d2, d3⟩ := row_all r (by omega)
  obtain ⟨hg, hd⟩ := due_parts (wr_list (r : Int) (c : Int)) g1 g2 d1 d2
  refine ⟨hg, hd.trans ?_⟩
  rw [d3, g3, if_neg (show ¬ ((r : Int) + 1 < 1) by omega), if_neg (show ¬ (25 < (r : Int) + 1) by omega), if_neg (show ¬ (25 ≤ (c : Int)) by omega), show (r : Int) + 1 - 1 = r from by omega]
theorem pass_all : Good (Str.ofString "pass") ∧ due (Str.ofString "pass") 25 = some none := by unfold Good GoodC; decide +kernel
theorem wrP_due {p : Option (Int × Int)} {x : Str} (h : wrP p = some x) : Good x ∧ due x 25 = some p := by
  rcases p with _ | ⟨r, c⟩
  · cases h; exact pass_all
  · replace h : (if inB r c then some (wr r c) else none) = some x := h
    by_cases q : inB r c
    · rw [if_pos q] at h; cases h; exact wr_due q
    · rw [if_neg q] at h; cases h
/-- int() is good upon a text that is read -/
theorem int_due {x : Str} {p : Option (Int × Int)} (hg : Good x) (hx : x.length ≤ 20) (h : due x 25 = some p) : (Txt.lower x == Str.ofString "pass") = true ∨ ∃ v, PySem.intText? (Txt.slice (Txt.lower x) (some 1) none) = some v := by
  cases hp : (Txt.lower x == Str.ofString "pass") with
  | true => exact .inl rfl
  | false =>
    right
    have hl : 1 ≤ x.length := Nat.pos_of_ne_zero fun q => by rw [due_short hg q hp] at h; cases h
    have hll : 1 ≤ (Txt.lower x).length := by rw [low_len hg]; exact hl
    by_cases hD : AllDigits (tl (Txt.lower x)) ∧ tl (Txt.lower x) ≠ []
    · rcases int_good (good_tl (low_good hg) hll) (by
        have e := slice1 hll
        have e2 : (Txt.slice (Txt.lower x) (some 1) none).cps.toList.length = (Txt.slice (Txt.lower x) (some 1) none).length := Array.length_toList
        have e3 : (Txt.lower x).cps.toList.length = (Txt.lower x).length := Array.length_toList
        rw [e, List.length_drop, e3, low_len hg] at e2
        omega) with ⟨_, _, hv⟩ | ⟨v, _, hv, _⟩ | ⟨_, hn⟩
      · exact ⟨_, hv⟩
      · exact ⟨_, hv⟩
      · exact absurd hD hn
    · rw [due_row hg hl (by decide) (by decide) hp hD] at h; cases h
theorem lo_lo (c : Nat) : lo1 (lo1 c) = lo1 c := by
  unfold lo1
  split
  · rw [if_neg (by omega)]
  · rfl
theorem low_low {x : Str} (h : Good x) : Txt.lower (Txt.lower x) = Txt.lower x := by
  refine ext_toList ?_
  rw [low_list (low_good h), low_list h, List.map_map]
  exact List.map_congr_left fun c _ => lo_lo c
theorem wr_ne {p : Option (Int × Int)} {x : Str} (h : wrP p = some x) : x ≠ Str.ofString "refused" := by
  rintro rfl
  rcases p with _ | ⟨r, c⟩
  · exact absurd h (by decide +kernel)
  · replace h : (if inB r c then some (wr r c) else none) = some (Str.ofString "refused") := h
    by_cases q : inB r c
    · rw [if_pos q] at h
      have e := Option.some.inj h
      have := (num40' (k := r + 1) (by have := q.1; omega) (by have := q.2.1; omega)).2
      have e2 := congrArg Str.length e
      unfold wr at e2
      rw [Str.length_append, len_item, show (Str.ofString "refused").length = 7 from by decide] at e2
      omega
    · rw [if_neg q] at h; cases h
theorem wr_full {p : Option (Int × Int)} {x : Str} (h : wrP p = some x) : x ≠ Str.ofString "" := by
  rintro rfl
  have := (wrP_due h).2
  rw [due_short (by unfold Good GoodC; decide) (by decide) (by decide +kernel)] at this
  cases this
theorem wr_nocomma {p : Option (Int × Int)} {x : Str} (h : wrP p = some x) : 44 ∉ x.cps.toList := by
  rcases p with _ | ⟨r, c⟩
  · cases h; decide
  · replace h : (if inB r c then some (wr r c) else none) = some x := h
    by_cases q : inB r c
    · rw [if_pos q] at h; cases h
      obtain ⟨h1, h2, h3, h4⟩ := q
      obtain ⟨r, rfl⟩ := Int.eq_ofNat_of_zero_le h1
      obtain ⟨c, rfl⟩ := Int.eq_ofNat_of_zero_le h3
      obtain ⟨g1, g2, g3⟩ := col_all c (by omega)
      obtain ⟨d1, d2, d3⟩ := row_all r (by omega)
      rw [wr_list]
      intro hm
      rcases List.mem_cons.mp hm with e | hm
      · rw [← e] at g2; exact absurd g2.1 (by decide)
      · have := d1 44 hm; omega
    · rw [if_neg q] at h; cases h
end Mine

end
theorem Mine.flush26 : True := by
  w_top off
  first | walk1 | trivial
section
open PySem PySem.W PyProof.Rows PySem.Calls
set_option maxRecDepth 100000
set_option maxHeartbeats 8000000
namespace Mine
local macro_rules | `(tactic| walk_at "exec Raise some none") => `(tactic| ((with_reducible show wpAny _ _ (exec (Stmt.Raise (some (Expr.Name ("ValueError" : Str) _)) none _) _) _ _ _); (with_reducible rename Fr _ _ _ _ => kF); k_dflt (refine' Raise_classB ?hh excClass_ValueError ?hs ?hx ?_; (case hh => assumption); (case hs => (rw [isSubtype_type]; kernel_rfl)); (case hx => (refine' name_B kF ?k1 ?k2 ?k3 ?k4 ?k5 ?_; (case k1 => k_asm); (case k2 => k_asm); (case k3 => k_is); (case k4 => exact ExcClass.boot excClass_ValueError); (case k5 => decide); exact ⟨rfl, rfl⟩)); intro _ _ _)))
local macro_rules | `(tactic| walk_at "leaving ref") => `(tactic| (refine' leave_new ?B ?F ?x ?_; (case B => assumption); (case F => assumption); (case x => assumption); intro _ _ _))
local macro_rules | `(tactic| walk_at "noteFrame ref") => `(tactic| (refine' catch_own ?B ?F ?X ?T ?x ?Te ?hk ?_ ?hE; (case x => assumption); (case B => assumption); (case F => assumption); (case X => assumption); (case T => assumption); (case hE => passes_own); (case hk => exact rfl); (case Te => kts_test); intro h₆ g₆ T₆ F₆ B₆ X₆ P₆ C₆))
local macro_rules | `(tactic| walk_at "exec Raise some none") => `(tactic| ((with_reducible show wpAny _ _ (exec (Stmt.Raise (some (Expr.Name ("ValueError" : Str) _)) none _) _) _ _ _); k_dflt (refine' raise_class_c ?hh ?C excClass_ValueError ?hs ?hx ?_; (case hh => exact rfl); (case C => exact Caught.ctx (by assumption)); (case hs => (rw [isSubtype_type]; kernel_rfl)); (case hx => (refine' name_B ?kF ?k1 ?k2 ?k3 ?k4 ?k5 ?_; (case kF => assumption); (case k1 => k_asm); (case k2 => k_asm); (case k3 => k_is); (case k4 => exact ExcClass.boot excClass_ValueError); (case k5 => decide); exact ⟨rfl, rfl⟩)); intro h' e' x')))
local macro_rules | `(tactic| walk_at "leaving ref") => `(tactic| (refine' leave_made ?B ?T ?F ?x ?_; (case x => assumption); (case F => assumption); (case T => assumption); (case B => assumption); intro h' x1' x2'))
theorem filled_Mfv : PySem.Challenge.rw_md0057_01.prog = PySem.Challenge.rw_md0057_01.prog ∧ hd.heap_39 = hd.heap_39 := by
  k_fill
  exact ⟨rfl, rfl⟩
local macro_rules | `(tactic| walk_at "m_enterG") => `(tactic| (refine' enterG ?cG ?B ?X ?T ?ho ?hcd ?hr ?hb ?hl ?_ ?c2 ?c3 ?c4 ?c5; (case cG => assumption); (case B => assumption); (case X => assumption); (case T => assumption); (case ho => k_is); (case hcd => k_is); (case hr => (simp only [recursionLimit]; omega)); (case hb => exact BindsTo.of_eq rfl); (case c5 => decide); (case hl => exact locs rfl); (case c2 => exact rfl); (case c3 => exact rfl); (case c4 => exact rfl); k_whole; intro L' h' F' N' X' T'; (try dsimp only)))
local macro_rules | `(tactic| walk_at "exec Raise some none") => `(tactic| ((with_reducible show wpAny _ _ (exec (Stmt.Raise (some (Expr.Call (Expr.Name ("ValueError" : Str) _) [_] [] _)) none _) _) _ _ _); (with_reducible rename Fr _ _ _ _ => kF); k_dflt (refine' raise_call_n ?hh ?hx ?_; (case hh => assumption); (case hx => (refine' name_B kF ?k1 ?k2 ?k3 ?k4 ?k5 ?_; (case k1 => k_asm); (case k2 => k_asm); (case k3 => k_is); (case k4 => exact ExcClass.boot excClass_ValueError); (case k5 => decide); exact ⟨rfl, rfl⟩)))))
local macro_rules | `(tactic| walk_at "exec Raise some none") => `(tactic| ((with_reducible show wpAny _ _ (exec (Stmt.Raise (some (Expr.Call (Expr.Name ("ValueError" : Str) _) [_] [] _)) none _) _) _ _ _); k_dflt (refine' raise_call_h ?hh ?hx ?_; (case hh => exact rfl); (case hx => (refine' name_B ?kF ?k1 ?k2 ?k3 ?k4 ?k5 ?_; (case kF => assumption); (case k1 => k_asm); (case k2 => k_asm); (case k3 => k_is); (case k4 => exact ExcClass.boot excClass_ValueError); (case k5 => decide); exact ⟨rfl, rfl⟩)))))
theorem thn_c {l : List Env} {h h' : Heap} {e : Addr} {cls : String} {fl : Value} {P : Prop} (C : Caught l h h' e cls fl) (hp : P) : Thn (Ctx0 e h') P := ⟨C.ctx, hp⟩
structure Box (P : Prop) : Prop where
  out : P
theorem due_size {x : Str} {n : Int} (h : ¬ (0 < n ∧ n ≤ 25)) : due x n = none := by
  unfold due
  by_cases h1 : n < 1
  · rw [if_pos h1]
  · rw [if_neg h1, if_pos (by omega)]
/-- a try in the spine, cut behind its body -/
theorem gx_tcut {G : Ctx → Prop} {M : Model} {A : Around} {E : Value → Shared → Prop} {s : Shared} {env : Env} {body rest : List Stmt} {hd : ExceptHandler} {hs : List ExceptHandler} {pos : Pos} {Q : Flow → Shared → Prop} (N : Shared → Prop) (X : Value → Shared → Prop)
    (hb : wpG G M A (execs body env) (fun f s' => match f with | .next => N s' | _ => False) X s)
    (hx : ∀ e s', X e s' → wpAny M A (noteFrame e env) (fun _ s₂ => wpAny M A (setFlight e none) (fun _ s₃ => wpAny M A (handleBy e env (hd :: hs)) (fun f s' => match f with | .next => wpG G M A (execs rest env) Q E s' | f => Q f s') E s₃) E s₂) E s')
    (hn : ∀ s', N s' → wpG G M A (execs rest env) Q E s') : wpG G M A (execs (.Try body (hd :: hs) [] [] pos :: rest) env) Q E s :=
  gx_cons (gx_tryc (wpG_mono hb (fun f s' h => by cases f <;> first | exact hn _ h | exact h.elim) hx))
def XP (x : Str) (n : Int) (s : Shared) (L : Addr) (e : Value) (s' : Shared) : Prop :=
  ∃ (e' : Addr) (cls : String) (h1 h2 : Heap) (m' : Str → Option Value) (t : Tok) (tk : Nat), e = .ref e' ∧ s' = { s with heap := h2, toks := tk } ∧ (cls = "IndexError" ∨ cls = "ValueError") ∧
    Fr s.heap L h1 (fun y => if y = Str.ofString "s" then some (.str (Txt.lower x) t) else m' y) ∧ Heap.NewExc h1 h2 e' cls ∧ due x n = none
theorem xp_mk {x : Str} {n : Int} {s : Shared} {L e' : Addr} {cls : String} {h1 h2 : Heap} {m' : Str → Option Value} {t : Tok} {tk : Nat} (F : Fr s.heap L h1 m') (N : Heap.NewExc h1 h2 e' cls) (hd : due x n = none)
    (hc : cls = "IndexError" ∨ cls = "ValueError") (hm : m' (Str.ofString "s") = some (.str (Txt.lower x) t)) : XP x n s L (.ref e') { s with heap := h2, toks := tk } := by
  refine ⟨e', cls, h1, h2, m', t, tk, rfl, rfl, hc, ?_, N, hd⟩
  have e : (fun y => if y = Str.ofString "s" then some (.str (Txt.lower x) t) else m' y) = m' := by
    funext y
    by_cases h : y = Str.ofString "s"
    · rw [if_pos h, h, hm]
    · rw [if_neg h]
  rw [e]; exact F
def NP (x : Str) (n : Int) (s : Shared) (L : Addr) (s' : Shared) : Prop :=
  ∃ (h1 : Heap) (m' : Str → Option Value) (t1 t2 t3 t4 : Tok) (tk : Nat) (r c : Int), s' = { s with heap := h1, toks := tk } ∧
    Fr s.heap L h1 (fun y => if y = Str.ofString "row" then some (.int r t1) else if y = Str.ofString "col" then some (.int c t2) else if y = Str.ofString "s" then some (.str (Txt.lower x) t3) else if y = Str.ofString "board_size" then some (.int n t4) else m' y) ∧ News s.heap L h1 [] ∧
    due x n = if n ≤ r then none else if n ≤ c then none else some (some (r, c))
theorem np_mk {x : Str} {n r c : Int} {s : Shared} {L : Addr} {h1 : Heap} {m' : Str → Option Value} {t1 t2 t3 t4 : Tok} {tk : Nat} (F : Fr s.heap L h1 m') (N : News s.heap L h1 []) (hd : due x n = if n ≤ r then none else if n ≤ c then none else some (some (r, c)))
    (e1 : m' (Str.ofString "row") = some (.int r t1)) (e2 : m' (Str.ofString "col") = some (.int c t2)) (e3 : m' (Str.ofString "s") = some (.str (Txt.lower x) t3)) (e4 : m' (Str.ofString "board_size") = some (.int n t4)) :
    NP x n s L { s with heap := h1, toks := tk } := by
  refine ⟨h1, m', t1, t2, t3, t4, tk, r, c, rfl, ?_, N, hd⟩
  have e : (fun y => if y = Str.ofString "row" then some (.int r t1) else if y = Str.ofString "col" then some (.int c t2) else if y = Str.ofString "s" then some (.str (Txt.lower x) t3) else if y = Str.ofString "board_size" then some (.int n t4) else m' y) = m' := by
    funext y
    by_cases h : y = Str.ofString "row"
    · rw [if_pos h, h, e1]
    rw [if_neg h]
    by_cases h : y = Str.ofString "col"
    · rw [if_pos h, h, e2]
    rw [if_neg h]
    by_cases h : y = Str.ofString "s"
    · rw [if_pos h, h, e3]
    rw [if_neg h]
    by_cases h : y = Str.ofString "board_size"
    · rw [if_pos h, h, e4]
    rw [if_neg h]
  rw [e]; exact F
theorem due_fin {x : Str} {n D c : Int} {p : Option (Option (Int × Int))} (h : p = if D < 1 then none else if n < D then none else if n ≤ c then none else some (some (D - 1, c))) (hr : ¬ D - 1 < 0) :
    p = if n ≤ D - 1 then none else if n ≤ c then none else some (some (D - 1, c)) := by
  rw [h, if_neg (by omega)]
  by_cases q : n < D
  · rw [if_pos q, if_pos (by omega)]
  · rw [if_neg q, if_neg (show ¬ n ≤ D - 1 by omega)]
/-- what is given back is not of before -/
def NewV (g : Heap) (u : Value) : Prop := ∀ t, u = .ref t → g.get? t = none
theorem NewV.none {g : Heap} : NewV g .none := fun _ e => nomatch e
theorem NewV.news {b h : Heap} {L D : Addr} {o : Obj} {N : List (Addr × Obj)} (x : News b L h ((D, o) :: N)) : NewV b (.ref D) := fun _ e => by
  cases e
  exact (x _ (List.mem_cons_self ..)).2.2
theorem mfv_new {G : Ctx → Prop} {w : World} {mean : ExcName → Option Value} {mg mb : Str → Option Value} {b0 : Heap} {A : Around} {l : List Env} {s : Shared} {x : Str} {n : Int} {t1 t2 : Tok} (cG : Closed G)
    (B : Below A b0 l s.heap) (X : (hd.heap_39 w.params).In b0) (T : Top topProg lo0 mean mg mb b0) (hh : A.handled = none) (hdep : A.depth ≤ 390) (hun : A.units ≤ 3900)
    (hx : x.length ≤ 20) (hg : Good x) (hG : ((Txt.lower x == Str.ofString "pass") = true ∨ ∃ v, PySem.intText? (Txt.slice (Txt.lower x) (some 1) none) = some v) ∨ ∀ Γ, G Γ → HC Γ) :
    codeG G (model prog0 w) A (.call (.ref 50) ⟨[.str x t1, .int n t2], []⟩) (RetOr l s (fun u h => ∃ p, due x n = some p ∧ PtIs h u p ∧ NewV s.heap u) (due x n = none)) s := by
  have hlo : (Txt.lower x).length = x.length := low_len hg
  walk_at "m_enterG"
  rename_i L' h' F' N' X' T'
  refine gx_step ?_
  k_fold
  k_steps
  all_goals (try (exact retOr_err (by assumption) (by assumption) (due_size (by omega))))
  (try dsimp only)
  refine gx_step ?_
  k_fold
  k_steps
  (try dsimp only)
  refine gx_step ?_
  k_fold
  k_steps
  · (try dsimp only)
    exact retOr_ok (by assumption) ⟨none, due_pass hg (by with_reducible assumption) (by with_reducible assumption) (by with_reducible assumption), .none, .none⟩
  (try dsimp only)
  have hn0 : 0 < n := by with_reducible assumption
  have hn1 : n ≤ 25 := by with_reducible assumption
  have hps : (Txt.lower x == Str.ofString "pass") = false := by with_reducible assumption
  refine gx_tcut (NP x n s L') (XP x n s L') ?_ ?_ ?_
  · refine gx_step ?_
    k_fold
    by_cases hx0 : x.length = 0
    · have hl0 : (Txt.lower x).length = 0 := by omega
      k_steps
      refine item_str_none (by assumption) hl0 ?_
      intro h' e' x' xn
      exact xp_mk (by assumption) xn (due_short hg hx0 hps) (.inl rfl) rfl
    have hl1 : 1 ≤ (Txt.lower x).length := by omega
    k_steps
    (try dsimp only)
    refine gx_step ?_
    k_fold
    k_steps
    · exact xp_mk (by assumption) (by assumption) (due_letter hg (by omega) hn0 hn1 hps (fun q => absurd (it_lt_a.mp (by with_reducible assumption)) (by omega))) (.inr rfl) rfl
    · exact xp_mk (by assumption) (by assumption) (due_letter hg (by omega) hn0 hn1 hps (fun q => absurd (z_lt_it.mp (by with_reducible assumption)) (by omega))) (.inr rfl) rfl
    · have hi : (Txt.item (Txt.lower x) 0 == Str.ofString "i") = true := by with_reducible assumption
      rw [it_i] at hi
      exact xp_mk (by assumption) (by assumption) (due_letter hg (by omega) hn0 hn1 hps (fun q => q.2.2 (of_decide_eq_true hi))) (.inr rfl) rfl
    have hk : 97 ≤ ch0 (Txt.lower x) ∧ ch0 (Txt.lower x) ≤ 122 ∧ ch0 (Txt.lower x) ≠ 105 := by
      have hi : (Txt.item (Txt.lower x) 0 == Str.ofString "i") = false := by with_reducible assumption
      rw [it_i] at hi
      refine ⟨Nat.le_of_not_lt fun q => ?_, Nat.le_of_not_lt fun q => ?_, of_decide_eq_false hi⟩
      · have hz : ¬ (Txt.item (Txt.lower x) 0).cps.toList < (Str.ofString "a").cps.toList := by with_reducible assumption
        exact hz (it_lt_a.mpr q)
      · have hz : ¬ (Str.ofString "z").cps.toList < (Txt.item (Txt.lower x) 0).cps.toList := by with_reducible assumption
        exact hz (z_lt_it.mpr q)
    have hgt : Good (Txt.slice (Txt.lower x) (some 1) none) := good_tl (low_good hg) (by omega)
    (try dsimp only)
    refine gx_step ?_
    k_fold
    k_steps
    · (try dsimp only)
      have hcol : colOf (ch0 (Txt.lower x)) = (ch0 (Txt.lower x) : Int) - 98 := by
        have hgi := i_lt_it.mp (show (Str.ofString "i").cps.toList < (Txt.item (Txt.lower x) 0).cps.toList by with_reducible assumption)
        unfold colOf; rw [if_pos hgi]; omega
      refine gx_cons (gx_assign (ge_binop (ge_call ?_)))
      k_fold
      k_steps
      refine gc_type ?_
      k_fold
      k_steps
      have hsl : (Txt.slice (Txt.lower x) (some 1) none).length ≤ 20 := by omega
      rcases int_good hgt (by omega) with hh3 | hh3 | hh3
      · replace hh3 := Box.mk hh3
        have hdn := Box.mk (due_num (n := n) hg (by omega) hn0 hn1 hps hk ⟨hh3.out.1, hh3.out.2.1⟩)
        refine wpG_any (KIN.call_text hh3.out.2.2 (by omega) ?_)
        k_fold
        k_steps
        (try dsimp only)
        refine gx_step ?_
        k_fold
        k_steps
        · refine xp_mk (by assumption) (by assumption) (hdn.out.trans (if_pos ?_)) (.inr rfl) rfl
          show ((NumText.digitsVal (Txt.slice (Txt.lower x) (some 1) none).cps.toList : Nat) : Int) < 1
          omega
        · refine gx_nil ?_
          have hdq := hdn.out
          rw [hcol] at hdq
          have hr9 : ¬ ((NumText.digitsVal (Txt.slice (Txt.lower x) (some 1) none).cps.toList : Nat) : Int) - 1 < 0 := by with_reducible assumption
          exact np_mk (by assumption) (by assumption) (due_fin (x := x) hdq hr9) rfl rfl rfl rfl
      · obtain ⟨v, hv0, hv, hD⟩ := hh3
        replace hv := Box.mk hv
        replace hD := Box.mk hD
        refine wpG_any (KIN.call_text hv.out (by omega) ?_)
        k_fold
        k_steps
        (try dsimp only)
        refine gx_step ?_
        k_fold
        have hneg : v - 1 < 0 := by omega
        k_steps
        exact xp_mk (by assumption) (by assumption) (due_row hg (by omega) hn0 hn1 hps (fun q => hD.out q.1)) (.inr rfl) rfl
      · replace hh3 := Box.mk hh3
        rcases hG with (hq | ⟨v, hv'⟩) | hG
        · rw [hps] at hq; cases hq
        · rw [hh3.out.1] at hv'; cases hv'
        refine wpG_sub hG (int_fail hh hh3.out.1 (by omega) (repr_fits hgt hsl) ?_)
        intro h' tk' e' xn
        exact xp_mk (by assumption) xn (due_row hg (by omega) hn0 hn1 hps hh3.out.2) (.inr rfl) rfl
    · (try dsimp only)
      have hcol : colOf (ch0 (Txt.lower x)) = (ch0 (Txt.lower x) : Int) - 97 := by
        have hgi : ¬ 105 < ch0 (Txt.lower x) := fun q => absurd (i_lt_it.mpr q) (by with_reducible assumption)
        unfold colOf; rw [if_neg hgi]; omega
      refine gx_cons (gx_assign (ge_binop (ge_call ?_)))
      k_fold
      k_steps
      refine gc_type ?_
      k_fold
      k_steps
      have hsl : (Txt.slice (Txt.lower x) (some 1) none).length ≤ 20 := by omega
      rcases int_good hgt (by omega) with hh3 | hh3 | hh3
      · replace hh3 := Box.mk hh3
        have hdn := Box.mk (due_num (n := n) hg (by omega) hn0 hn1 hps hk ⟨hh3.out.1, hh3.out.2.1⟩)
        refine wpG_any (KIN.call_text hh3.out.2.2 (by omega) ?_)
        k_fold
        k_steps
        (try dsimp only)
        refine gx_step ?_
        k_fold
        k_steps
        · refine xp_mk (by assumption) (by assumption) (hdn.out.trans (if_pos ?_)) (.inr rfl) rfl
          show ((NumText.digitsVal (Txt.slice (Txt.lower x) (some 1) none).cps.toList : Nat) : Int) < 1
          omega
        · refine gx_nil ?_
          have hdq := hdn.out
          rw [hcol] at hdq
          have hr9 : ¬ ((NumText.digitsVal (Txt.slice (Txt.lower x) (some 1) none).cps.toList : Nat) : Int) - 1 < 0 := by with_reducible assumption
          exact np_mk (by assumption) (by assumption) (due_fin (x := x) hdq hr9) rfl rfl rfl rfl
      · obtain ⟨v, hv0, hv, hD⟩ := hh3
        replace hv := Box.mk hv
        replace hD := Box.mk hD
        refine wpG_any (KIN.call_text hv.out (by omega) ?_)
        k_fold
        k_steps
        (try dsimp only)
        refine gx_step ?_
        k_fold
        have hneg : v - 1 < 0 := by omega
        k_steps
        exact xp_mk (by assumption) (by assumption) (due_row hg (by omega) hn0 hn1 hps (fun q => hD.out q.1)) (.inr rfl) rfl
      · replace hh3 := Box.mk hh3
        rcases hG with (hq | ⟨v, hv'⟩) | hG
        · rw [hps] at hq; cases hq
        · rw [hh3.out.1] at hv'; cases hv'
        refine wpG_sub hG (int_fail hh hh3.out.1 (by omega) (repr_fits hgt hsl) ?_)
        intro h' tk' e' xn
        exact xp_mk (by assumption) xn (due_row hg (by omega) hn0 hn1 hps hh3.out.2) (.inr rfl) rfl
  · rintro e s' ⟨e', cls, h1, h2, m', t, tk, rfl, rfl, rfl | rfl, F9, hnew, hd⟩
    · k_steps
      refine thn_c (by assumption) ?_
      k_steps
      exact retOr_err (by assumption) (by assumption) hd
    · k_steps
      refine thn_c (by assumption) ?_
      k_steps
      exact retOr_err (by assumption) (by assumption) hd
  · rintro s' ⟨h1, m', t1, t2, t3, t4, tk, r, c, rfl, F9, N9, hd⟩
    refine wpG_any ?_
    k_fold
    k_steps
    · (try dsimp only)
      refine retOr_ok (by assumption) ⟨some (r, c), hd.trans ?_, .some (isTup_news (by assumption)), .news (by assumption)⟩
      rw [if_neg (show ¬ n ≤ r by omega), if_neg (show ¬ n ≤ c by omega)]
    · refine retOr_err (by assumption) (by assumption) (hd.trans ?_)
      rw [if_pos (show n ≤ r by omega)]
    · refine retOr_err (by assumption) (by assumption) (hd.trans ?_)
      rw [if_pos (show n ≤ c by omega)]
      split <;> rfl
theorem mfv_spec {G : Ctx → Prop} {w : World} {mean : ExcName → Option Value} {mg mb : Str → Option Value} {b0 : Heap} {A : Around} {l : List Env} {s : Shared} {x : Str} {n : Int} {t1 t2 : Tok} (cG : Closed G)
    (B : Below A b0 l s.heap) (X : (hd.heap_39 w.params).In b0) (T : Top topProg lo0 mean mg mb b0) (hh : A.handled = none) (hdep : A.depth ≤ 390) (hun : A.units ≤ 3900)
    (hx : x.length ≤ 20) (hg : Good x) (hG : ((Txt.lower x == Str.ofString "pass") = true ∨ ∃ v, PySem.intText? (Txt.slice (Txt.lower x) (some 1) none) = some v) ∨ ∀ Γ, G Γ → HC Γ) :
    codeG G (model prog0 w) A (.call (.ref 50) ⟨[.str x t1, .int n t2], []⟩) (RetOr l s (fun u h => ∃ p, due x n = some p ∧ PtIs h u p) (due x n = none)) s :=
  codeG_mono (mfv_new cG B X T hh hdep hun hx hg hG) fun _ _ hr => hr.imp (fun ⟨v, e, k, sm, p, a, b, _⟩ => ⟨v, e, k, sm, p, a, b⟩) id

end Mine

end
theorem Mine.flush27 : True := by
  w_top off
  first | walk1 | trivial
section
open PySem PySem.W PyProof.Rows PySem.Calls
set_option maxRecDepth 100000
set_option maxHeartbeats 4000000
namespace Mine
theorem FnAt.keeps {q : Addr} {h h' : Heap} (x : FnAt q h) (k : h.StaysIn h') : FnAt q h' := let ⟨a, b, c, d, e⟩ := x; ⟨a, b, c, d, k _ _ e⟩
theorem codeRec_keeps {h h' : Heap} {c : Value} {q : Str} (x : h.CodeRec c q) (k : h.StaysIn h') : h'.CodeRec c q := let ⟨a, b, d, e, f, g, i⟩ := x; ⟨a, b, d, e, f, k _ _ g, i⟩
theorem isCell_keeps {h h' : Heap} {c : Addr} {v : Option Value} (x : h.IsCell c v) (k : h.StaysIn h') : h'.IsCell c v := let ⟨a, b, d⟩ := x; ⟨a, k _ _ b, d⟩
section
variable {G : Ctx → Prop} {prog : Program} {w : World} {A : Around} {s : Shared} {b0 : Heap} {l : List Env} {K : Frag} {p : Program} {loose : List Str} {mean : ExcName → Option Value} {mg mb : Str → Option Value}
    {R : Result → Shared → Prop} {name qual : Str} {params : Arguments} {scope : Scope} {cl : List (Str × Addr)} {pm ctv : Value} {f c' : Addr}
theorem lam_call {body : Expr} (cG : Closed G) (B : Below A b0 l s.heap) (T : Top p loose mean mg mb b0)
    (ho : s.heap.get? f = some (kla_obj name qual params body scope cl pm c' ctv)) (hcd : s.heap.CodeRec (.ref c') qual) (hroom : A.depth < recursionLimit)
    (hbind : bindArgs (kla_fn name qual params body scope cl pm (.ref c') ctv) ⟨[], []⟩ = pure [])
    (h : ∀ L h₁, Fr s.heap L h₁ (fun _ => none) →
      wpG G (model prog w) (A.deeper (envX qual scope L f (.ref c') cl)) (eval body (envX qual scope L f (.ref c') cl)) (fun v s' => R (.ok (.ret v)) s')
        (fun e s' => wpAny (model prog w) (A.deeper (envX qual scope L f (.ref c') cl)) (leaving (envX qual scope L f (.ref c') cl) e) (fun _ s'' => R (.error e) s'') (fun e' s'' => R (.error e') s'') s')
        { s with heap := h₁, toks := s.toks })
    (hco : scope.isCoroutine = false) (hgen : scope.isGenerator = false) (hk : scope.kind = .function) (hcell : ∀ x ∈ scope.names, x.2 ≠ .cell) : codeG G (model prog w) A (.call (.ref f) ⟨[], []⟩) R s := by
  have T' : Top p loose mean mg mb s.heap := T.keeps B.stays
  refine codeG_lam cG (fd := kla_fn name qual params body scope cl pm (.ref c') ctv) (body := body) hroom ho rfl hco hgen rfl hcd ?_
  rw [hbind]
  refine wpAny_pure (wpAny_newFunctionEnv hcell (fun y hy => by cases hy) (fun h₀ hns₀ hsb₀ => ⟨T'.nolimit.fresh _ hsb₀, codeG_exprBody cG ?_⟩) hk)
  have hk₀ : ∀ b o, s.heap.get? b = some o → h₀.get? b = some o := fun b o e => hsb₀.extBut b o (Nat.ne_of_lt (Heap.lt_size e)) (Heap.get?_push_of_some _ e)
  exact h _ h₀ ⟨hns₀, hk₀, Nat.le_refl _⟩

/-- a lambda that calls a def of the top -/
theorem lam_spec {x : Str} {np pos : Pos} {e0 : Expr} {rest : List Expr} {fa : Addr} {vs : List Value} {P : Value → Heap → Prop} {C : Prop} (cG : Closed G) (B : Below A b0 l s.heap) (X : K.In b0) (T : Top p loose mean mg mb b0)
    (ho : s.heap.get? f = some (kla_obj name qual params (.Call (.Name x np) (e0 :: rest) [] pos) scope cl pm c' ctv)) (hcd : s.heap.CodeRec (.ref c') qual) (hroom : A.depth < recursionLimit)
    (hargs : ∀ L h₁ (Q : List Value → Shared → Prop) (E : Value → Shared → Prop), s.heap.StaysIn h₁ → Q vs { s with heap := h₁ } →
      wpAny (model prog w) (A.deeper (envX qual scope L f (.ref c') cl)) (spliced (backTo pos (starEach (e0 :: rest) (envX qual scope L f (.ref c') cl)))) Q E { s with heap := h₁ })
    (hcall : ∀ (env : Env) h₁, s.heap.StaysIn h₁ → Below (A.deeper env) b0 (env :: l) h₁ → codeG G (model prog w) (A.deeper env) (.call (.ref fa) ⟨vs, []⟩) (RetOr (env :: l) { s with heap := h₁ } P C) { s with heap := h₁ })
    (hn : nsIn K mainGlobals x = some (some (.ref fa))) (hkp : keepIn K (.ref fa) = true)
    (hbind : bindArgs (kla_fn name qual params (.Call (.Name x np) (e0 :: rest) [] pos) scope cl pm (.ref c') ctv) ⟨[], []⟩ = pure [])
    (hco : scope.isCoroutine = false) (hgen : scope.isGenerator = false) (hk : scope.kind = .function) (hcell : ∀ x ∈ scope.names, x.2 ≠ .cell)
    (hx : ∀ L, (envX qual scope L f (.ref c') cl).kindOf x = some .globalImplicit) (hdb : (x == ("__debug__" : Str)) = false)
    (he : ∀ env, starEach (e0 :: rest) env = (false, eval e0 env) :: starEach rest env) (hplain : ∀ env, (backTo pos (starEach rest env)).any (·.1) = false) :
    codeG G (model prog w) A (.call (.ref f) ⟨[], []⟩) (RetOr l s P C) s := by
  refine lam_call cG B T ho hcd hroom hbind (fun L h₁ F => ?_) hco hgen hk hcell
  have X₁ : K.In h₁ := X.keeps (fun b o e => F.keep b o (B.stays b o e))
  refine ge_call (nameX_K (p := p) (loose := loose) (mb := mb) F (X.keeps B.stays) (topRead_of (T.keeps B.stays)) hn ?_ hk (hx L) hdb)
  refine gc_K X₁ hkp (hargs L h₁ _ _ F.keep ⟨X₁, ?_⟩) (he _) (hplain _)
  have BB : Below (A.deeper (envX qual scope L f (.ref c') cl)) b0 (envX qual scope L f (.ref c') cl :: l) h₁ := pushX B F rfl hk
  refine wpG_call cG (codeG_mono (hcall _ h₁ F.keep BB) fun r s' hr => ?_)
  rcases hr with ⟨v, rfl, k, sm, hp⟩ | ⟨hC, e, rfl, sm, ex, fl⟩
  · exact .inl ⟨v, rfl, fun b o q => k b o (F.keep b o q), ⟨sm.gens, sm.drawn, sm.os⟩, hp⟩
  · refine leave_next B (.of_stays F.keep) (Own.of_fr F hk) ex fl fun h' x1 x2 => .inr ⟨hC, e, rfl, ⟨sm.gens, sm.drawn, sm.os⟩, x1, x2⟩
end

section
variable {M : Model} {A : Around} {E : Value → Shared → Prop} {s : Shared} {L f : Addr} {qual : Str} {scope : Scope} {cd : Value} {cl : List (Str × Addr)} {Q : List Value → Shared → Prop}
theorem free_ld {x : Str} {np : Pos} {c : Addr} {v : Value} {Q : Value → Shared → Prop} (hc : cl.lookup x = some c) (hi : s.heap.IsCell c (some v)) (h : Q v s) (hk : scope.kind = .function) (hx : (envX qual scope L f cd cl).kindOf x = some .free)
    (hb : (x == ("__debug__" : Str)) = false) (hn : (x == ("__classdict__" : Str)) = false) : wpAny M A (eval (.Name x np) (envX qual scope L f cd cl)) Q E s := wpAny_Name (wpAny_loadName_free hk hx hc hi h hn) hb
theorem args1 {pos np : Pos} {x : Str} {c : Addr} {v : Value} (hc : cl.lookup x = some c) (hi : s.heap.IsCell c (some v)) (h : Q [v] s) (hk : scope.kind = .function) (hx : (envX qual scope L f cd cl).kindOf x = some .free)
    (hb : (x == ("__debug__" : Str)) = false) (hn : (x == ("__classdict__" : Str)) = false) : wpAny M A (spliced (backTo pos (starEach [.Name x np] (envX qual scope L f cd cl)))) Q E s :=
  Calls.spliced_cons (free_ld hc hi (Calls.spliced_nil h) hk hx hb hn)
theorem args2 {pos np np' : Pos} {x y : Str} {c d : Addr} {v u : Value} (hc : cl.lookup x = some c) (hi : s.heap.IsCell c (some v)) (hc' : cl.lookup y = some d) (hi' : s.heap.IsCell d (some u)) (h : Q [v, u] s) (hk : scope.kind = .function) (hx : (envX qual scope L f cd cl).kindOf x = some .free)
    (hb : (x == ("__debug__" : Str)) = false) (hn : (x == ("__classdict__" : Str)) = false) (hx' : (envX qual scope L f cd cl).kindOf y = some .free)
    (hb' : (y == ("__debug__" : Str)) = false) (hn' : (y == ("__classdict__" : Str)) = false) : wpAny M A (spliced (backTo pos (starEach [.Name x np, .Name y np'] (envX qual scope L f cd cl)))) Q E s := by
  refine Calls.spliced_cons (free_ld hc hi ?_ hk hx hb hn)
  exact args1 hc' hi' h hk hx' hb' hn'
end
section
variable {G : Ctx → Prop} {M : Model} {A : Around} {E : Value → Shared → Prop} {s : Shared} {env : Env} {pos : Pos} {Q : Value → Shared → Prop} {q : Addr}
theorem gc_F0 (X : FnAt q s.heap) (h : wpG G M A (call (.ref q) []) Q E s) : wpG G M A (callWith pos (.ref q) [] (backTo pos (starEach [] env)) []) Q E s :=
  gc_of rfl keeps_F (evalArgs_nil3 ⟨X, h⟩)
end
end Mine

end
theorem Mine.flush28 : True := by
  w_top off
  first | walk1 | trivial
section
open PySem PySem.W PyProof.Rows PySem.Calls
set_option maxRecDepth 100000
set_option maxHeartbeats 8000000
namespace Mine
theorem filled_Try : PySem.Challenge.rw_md0057_01.prog = PySem.Challenge.rw_md0057_01.prog ∧ hd.heap_39 = hd.heap_39 := by
  k_fill
  exact ⟨rfl, rfl⟩
local macro_rules | `(tactic| walk_at "m_enterG") => `(tactic| (refine' enterG ?cG ?B ?X ?T ?ho ?hcd ?hr ?hb ?hl ?_ ?c2 ?c3 ?c4 ?c5; (case cG => assumption); (case B => assumption); (case X => assumption); (case T => assumption); (case ho => k_is); (case hcd => k_is); (case hr => (simp only [recursionLimit]; omega)); (case hb => exact BindsTo.of_eq rfl); (case c5 => decide); (case hl => exact locs rfl); (case c2 => exact rfl); (case c3 => exact rfl); (case c4 => exact rfl); k_whole; intro L' h' F' N' X' T'; (try dsimp only)))
local macro_rules | `(tactic| walk_at "m_catch") => `(tactic| (refine' catch_fly ?B ?F ?X ?T ?x ?R ?Te ?hk ?_ ?hE; (case x => assumption); (case R => assumption); (case B => assumption); (case F => assumption); (case X => assumption); (case T => assumption); (case hE => passes_own); (case hk => exact rfl); (case Te => kts_test); intro h₆ g₆ T₆ F₆ B₆ X₆ P₆ C₆))
theorem try_spec {G : Ctx → Prop} {w : World} {mean : ExcName → Option Value} {mg mb : Str → Option Value} {b0 : Heap} {A : Around} {l : List Env} {s : Shared} {f : Addr} {P : Value → Heap → Prop} {C : Prop} (cG : Closed G)
    (B : Below A b0 l s.heap) (X : (hd.heap_39 w.params).In b0) (T : Top topProg lo0 mean mg mb b0) (hh : A.handled = none) (hdep : A.depth ≤ 395) (hun : A.units ≤ 3950) (hf : FnAt f s.heap)
    (hcall : ∀ (env : Env) h₁ tk, s.heap.StaysIn h₁ → Below (A.deeper env) b0 (env :: l) h₁ → codeG G (model prog0 w) (A.deeper env) (.call (.ref f) ⟨[], []⟩) (RetOr (env :: l) { s with heap := h₁, toks := tk } P C) { s with heap := h₁, toks := tk }) :
    codeG G (model prog0 w) A (.call (.ref 64) ⟨[.ref f], []⟩) (RetX l s (fun v h => P v h ∨ (C ∧ ∃ t, v = .str (Str.ofString "refused") t))) s := by
  walk_at "m_enterG"
  rename_i L' h' F' N' X' T'
  refine gx_cons (gx_tryc (gx_last (gx_ret (ge_call ?_))))
  k_fold
  k_steps
  refine gc_F0 (FnAt.keeps hf F'.keep) ?_
  refine wpG_call cG (codeG_mono (hcall _ _ _ F'.keep (Below.push B F')) fun r s' hr => ?_)
  rcases hr with ⟨v, rfl, k, sm, hp⟩ | ⟨hC, e, rfl, sm, ex, fl⟩
  · exact ⟨v, rfl, .of_stays fun b o q => k b o (F'.keep b o q), ⟨sm.gens, sm.drawn, sm.os⟩, .inl hp⟩
  · rw [same_eq sm]
    walk_at "m_catch"
    k_fold
    k_steps
    (try dsimp only)
    exact ⟨_, rfl, ex_of_turn (by assumption) (Fr.keep (by assumption)), ⟨rfl, rfl, rfl⟩, .inr ⟨hC, _, rfl⟩⟩

end Mine

end
theorem Mine.flush29 : True := by
  w_top off
  first | walk1 | trivial
section
open PySem PySem.W PyProof.Rows PySem.Calls
set_option maxRecDepth 100000
set_option maxHeartbeats 4000000
namespace Mine
/-- what a def's table of inner code holds -/
def TabOk (q : Str) (h : Heap) (ps : Array Value) : Prop := TriplesOk ps.toList ∧ ∀ pos c, codeAmong pos ps.toList = some c → ∃ c', c = .ref c' ∧ h.CodeRec (.ref c') q
theorem tabOk_nil (q : Str) (h : Heap) : TabOk q h #[] := ⟨trivial, fun pos c e => by cases e⟩
theorem among_snoc {pos : Pos} {a b : Int} {c c0 : Value} (l : List Value) (h : TriplesOk l) (e : codeAmong pos (l ++ [rawInt a, rawInt b, c0]) = some c) : codeAmong pos l = some c ∨ c = c0 := by
  fun_induction TriplesOk l with
  | case1 =>
    simp only [List.nil_append, codeAmong, rawInt] at e
    split at e
    · exact .inr (Option.some.inj e).symm
    · cases e
  | case2 a' t b' u x rest ih =>
    simp only [List.cons_append, codeAmong] at e ⊢
    split at e
    · rename_i hc; rw [if_pos hc]; exact .inl e
    · rename_i hc; rw [if_neg hc]; exact ih h e
  | case3 l h1 h2 => exact h.elim
/-- a code record is none of a table -/
theorem code_ne_tab {h : Heap} {c' P : Addr} {q : Str} {ps : Array Value} (x : h.CodeRec (.ref c') q) (hP : h.get? P = some (tabObj ps)) (ht : TriplesOk ps.toList) : c' ≠ P := by
  rintro rfl
  obtain ⟨c, o, vs, t, e, ho, hd, hv⟩ := x
  cases e
  rw [hP] at ho
  cases ho
  cases hd
  exact triples_no_str ht _ _ (by rw [Array.getElem?_toList]; exact hv)
/-- kept but for one place -/
def Bar (P : Addr) (h h' : Heap) : Prop := ∀ b o, b ≠ P → h.get? b = some o → h'.get? b = some o
theorem codeRec_bar {P c' : Addr} {h h' : Heap} {q : Str} (x : h.CodeRec (.ref c') q) (hc : c' ≠ P) (k : Bar P h h') : h'.CodeRec (.ref c') q := by
  obtain ⟨c, o, vs, t, e, ho, r⟩ := x
  cases e
  exact ⟨c', o, vs, t, rfl, k _ _ hc ho, r⟩
theorem codeRec_ex {l : List Env} {c' : Addr} {h h' : Heap} {q : Str} (x : h.CodeRec (.ref c') q) (k : Ex l h h') : h'.CodeRec (.ref c') q := by
  obtain ⟨c, o, vs, t, e, ho, hd, r⟩ := x
  cases e
  obtain ⟨sl, hs⟩ := k.up ho
  exact ⟨c', _, vs, t, rfl, hs, hd, r⟩
theorem TabOk.ex {l : List Env} {h h' : Heap} {q : Str} {ps : Array Value} (x : TabOk q h ps) (k : Ex l h h') : TabOk q h' ps :=
  ⟨x.1, fun pos c e => let ⟨c', e1, r⟩ := x.2 pos c e; ⟨c', e1, codeRec_ex r k⟩⟩
theorem TabOk.bar {P : Addr} {h h' : Heap} {q : Str} {ps ps' : Array Value} (x : TabOk q h ps) (k : Bar P h h') (hP : h.get? P = some (tabObj ps')) (ht : TriplesOk ps'.toList) : TabOk q h' ps :=
  ⟨x.1, fun pos c e => let ⟨c', e1, r⟩ := x.2 pos c e; ⟨c', e1, codeRec_bar r (code_ne_tab r hP ht) k⟩⟩
theorem TabOk.keeps {h h' : Heap} {q : Str} {ps : Array Value} (x : TabOk q h ps) (k : h.StaysIn h') : TabOk q h' ps :=
  ⟨x.1, fun pos c e => let ⟨c', e1, r⟩ := x.2 pos c e; ⟨c', e1, codeRec_keeps r k⟩⟩

section
variable {M : Model} {A : Around} {E : Value → Shared → Prop} {s : Shared} {h₀ : Heap} {L a c P : Addr} {m mg mb : Str → Option Value} {cn : Str} {cs : Scope} {ccd : Value} {cl : List (Str × Addr)} {own rest : List (Addr × Obj)}
  {p : Program} {loose : List Str} {mean : ExcName → Option Value} {params : Arguments} {body : Expr} {scope : Scope} {ps : Array Value} {pos : Pos} {clos : List (Str × Addr)} {q : Str}
/-- a lambda is made; its code is laid into the table, or found there -/
theorem lam_make {Q : Value → Shared → Prop} (F : Fr h₀ L s.heap m) (N : News h₀ L s.heap (own ++ (P, tabObj ps) :: rest)) (h1 : ∀ p ∈ own, p.1 ≠ P) (h2 : ∀ p ∈ rest, p.1 ≠ P) (T : Top p loose mean mg mb h₀) (C : CodeHd h₀ c P) (hcd : ccd = .ref c)
    (hT : TabOk q s.heap ps) (hq : (envX cn cs L a ccd cl).qual ++ "<lambda>" = q) (hdef : defaultsOf params (envX cn cs L a ccd cl) = ([], [])) (hcl : closureFor scope (envX cn cs L a ccd cl) = pure clos)
    (h : ∀ f c' ctv ps' h' tk, Fr h₀ L h' m → News h₀ L h' ((f, kla_obj "<lambda>" q params body scope clos ((mg "__name__").getD .none) c' ctv) :: (own ++ (P, tabObj ps') :: rest)) → TabOk q h' ps' → h'.CodeRec (.ref c') q → Bar P s.heap h' →
      Q (.ref f) { s with heap := h', toks := tk }) :
    wpAny M A (eval (.Lambda params body scope pos) (envX cn cs L a ccd cl)) Q E s := by
  have hm := N (P, tabObj ps) (List.mem_append_right _ (.head _))
  have hgs := T.g.keeps F.keep
  obtain ⟨bm, ob, b1, b2, b3, b4, b5, b6⟩ := T.bmain
  have hgP : mainGlobals ≠ P := fun q => by
    obtain ⟨o, es, ep, e, hd, _⟩ := hgs
    rw [q, hm.1] at e; cases e; cases hd
  have hbP : bm ≠ P := fun q => by
    have e := F.keep _ _ b3
    rw [q, hm.1] at e; cases e; cases b4
  have hbG : bm ≠ mainGlobals := fun q => by
    obtain ⟨o, es, ep, e, hd, _⟩ := T.g
    rw [q, e] at b3; cases b3; rw [hd] at b6; cases b6
  have hLs : L < s.heap.objs.size := F.ns.lt
  have fresh : ∀ b, L < b → h₀.get? b = none := fun b hb => Heap.get?_none_of_le (Nat.le_trans F.above (Nat.le_of_lt hb))
  have fin : ∀ (h' : Heap) (o' : Obj) (ps' : Array Value), o'.isFreed = false → Bar P s.heap h' → s.heap.objs.size ≤ h'.objs.size → h'.get? P = some (tabObj ps') →
      Fr h₀ L (h'.push o') m ∧ News h₀ L (h'.push o') ((h'.objs.size, o') :: (own ++ (P, tabObj ps') :: rest)) ∧ Bar P s.heap (h'.push o') := by
    intro h' o' ps' hfr bar hsz hP'
    have hPL : L ≠ P := Ne.symm hm.2.1
    refine ⟨⟨(F.ns.at' fun o e => bar L o hPL e).push _, fun b o e => Heap.get?_push_of_some _ (bar b o (fun z => by rw [z, hm.2.2] at e; cases e) (F.keep b o e)), F.above⟩, fun x hx => ?_, fun b o hb e => Heap.get?_push_of_some _ (bar b o hb e)⟩
    have hLh : L < h'.objs.size := Nat.lt_of_lt_of_le hLs hsz
    rcases List.mem_cons.mp hx with rfl | hx
    · exact ⟨Heap.get?_push_size _ hfr, Nat.ne_of_gt hLh, fresh _ hLh⟩
    rcases List.mem_append.mp hx with hx | hx
    · have n := N x (List.mem_append_left _ hx)
      exact ⟨Heap.get?_push_of_some _ (bar _ _ (h1 x hx) n.1), n.2⟩
    rcases List.mem_cons.mp hx with rfl | hx
    · exact ⟨Heap.get?_push_of_some _ hP', hm.2⟩
    · have n := N x (List.mem_append_right _ (.tail _ hx))
      exact ⟨Heap.get?_push_of_some _ (bar _ _ (h2 x hx) n.1), n.2⟩
  refine kla_eval hdef ?_
  rw [hq]
  cases hc : codeAmong pos ps.toList with
  | none =>
    refine kla_makeFunction (mg := mg) hcl rfl hgs hcd (C.keeps F.keep) hm.1 hT.1 hc hgP ⟨bm, ob, b1, b2, hbG, hbP, F.keep _ _ b3, b4, b5, b6⟩ fun c' ctv h' tk hx hge hlt hrec htb => ?_
    obtain ⟨f1, f2, f3⟩ := fin h' (kla_obj "<lambda>" q params body scope clos ((mg "__name__").getD .none) c' ctv) _ rfl (fun b o hb e => hx b o hb e) (Nat.le_of_lt (Nat.lt_of_le_of_lt hge hlt)) htb
    refine h _ c' ctv _ _ tk f1 f2 ⟨?_, fun pos' c0 e => ?_⟩ (codeRec_keeps hrec fun b o e => Heap.get?_push_of_some _ e) f3
    · simpa using TriplesOk_snoc pos.line pos.col (.ref c') ps.toList hT.1
    · rcases among_snoc ps.toList hT.1 (by simpa using e) with e | e
      · obtain ⟨c1, e1, r⟩ := hT.2 pos' c0 e
        exact ⟨c1, e1, codeRec_bar r (code_ne_tab r hm.1 hT.1) f3⟩
      · exact ⟨c', e, codeRec_keeps hrec fun b o e => Heap.get?_push_of_some _ e⟩
  | some cv =>
    obtain ⟨c', rfl, hrec⟩ := hT.2 pos cv hc
    refine kla_makeFunctionHit (mg := mg) hcl rfl hgs hcd (C.keeps F.keep) hm.1 hT.1 hc ⟨bm, ob, b1, b2, hbG, hbP, F.keep _ _ b3, b4, b5, b6⟩ fun ctv h' tk hk hsz => ?_
    obtain ⟨f1, f2, f3⟩ := fin h' (kla_obj "<lambda>" q params body scope clos ((mg "__name__").getD .none) c' ctv) ps rfl (fun b o hb e => hk b o e) hsz (hk _ _ hm.1)
    have kk : s.heap.StaysIn (h'.push (kla_obj "<lambda>" q params body scope clos ((mg "__name__").getD .none) c' ctv)) := fun b o e => Heap.get?_push_of_some _ (hk b o e)
    exact h _ c' ctv ps _ tk f1 f2 (hT.keeps kk) (codeRec_keeps hrec kk) f3
end
section
variable {G : Ctx → Prop} {w : World} {A : Around} {s : Shared} {b0 : Heap} {l : List Env} {K : Frag} {p : Program} {loose : List Str} {mean : ExcName → Option Value} {mg mb : Str → Option Value}
    {R : Result → Shared → Prop} {name qual : Str} {params : Arguments} {body : List Stmt} {scope : Scope} {dV kV doc pm cdv ct oc : Value} {an od : Option Addr} {osl : Array (Option Value)} {f P : Addr} {args : Args} {binds : List (Str × Value)} {ps : Array Value}
theorem hide_get {h : Heap} {P b : Addr} {o : Obj} (e : h.get? b = some o) (hb : b ≠ P) : (hideAll h [P]).get? b = some o := hideAll_get _ e (by simpa using hb)
theorem hide_below (B : Below A b0 l s.heap) (hPb : b0.get? P = none) (hP : s.heap.get? P = some (tabObj ps)) : Below A b0 l (hideAll s.heap [P]) := by
  refine ⟨B.stack, fun b o e => hide_get (B.stays b o e) (fun q => by rw [q, hPb] at e; cases e), funFrames_hideAll B.frames fun env' he b hb hf' => ?_⟩
  obtain rfl := List.mem_singleton.mp hb
  obtain ⟨_, o, ho, hnf⟩ := B.frames.mem (List.mem_filterMap.mpr ⟨env', he, hf'⟩)
  rw [hP] at ho; cases ho
  exact hnf _ rfl
theorem enterCG {prog : Program} (cG : Closed G) (B : Below A b0 l s.heap) (X : K.In b0) (T : Top p loose mean mg mb b0) (hPb : b0.get? P = none) (hP : s.heap.get? P = some (tabObj ps))
    (ho : K.lookup f = some ⟨oc, od, .func (fnOf name qual params body scope dV kV doc pm an cdv ct), osl⟩) (hcd : codeIn K cdv qual = true) (hroom : A.depth < recursionLimit)
    (hbind : BindsTo s (fnOf name qual params body scope dV kV doc pm an cdv ct) args binds)
    (hkind : ∀ n, ∀ x ∈ binds, scope.names.lookup x.1 = some .local ∨ (scope.names.lookup x.1 = some .cell ∧ ((cellsFrom n scope.names []).lookup x.1).isSome = true))
    (hnd : ((cellsFrom 0 scope.names []).map (·.1)).Nodup)
    (h : ∀ g L h₁ tk cells, g = hideAll s.heap [P] → Below A b0 l g → Fr g L h₁ (bindL (envOfC qual scope L f cdv).kindOf binds fun _ => none) → News g L h₁ (cells ++ [(P, tabObj ps)]) →
      CellsAre (bindC (envOfC qual scope L f cdv).kindOf binds fun _ => none) (cellsFrom (L + 1) scope.names []) cells → K.In g → Top p loose mean mg mb g → s.heap.StaysIn h₁ → P < L →
      wpG G (model prog w) (A.deeper (envOfC qual scope L f cdv)) (execs body (envOfC qual scope L f cdv))
        (fun fl s' => R (.ok (.ret (match fl with | .ret v => v | _ => .none))) s')
        (fun e s' => wpAny (model prog w) (A.deeper (envOfC qual scope L f cdv)) (leaving (envOfC qual scope L f cdv) e) (fun _ s'' => R (.error e) s'') (fun e' s'' => R (.error e') s'') s')
        { s with heap := h₁, toks := tk })
    (hco : scope.isCoroutine = false) (hgen : scope.isGenerator = false) (hk : scope.kind = .function) : codeG G (model prog w) A (.call (.ref f) args) R s := by
  have X' : K.In s.heap := X.keeps B.stays
  have T' : Top p loose mean mg mb s.heap := T.keeps B.stays
  have BG := hide_below B hPb hP
  refine codeG_fn cG (fd := fnOf name qual params body scope dV kV doc pm an cdv ct) (body := body) hroom (X' _ _ ho) rfl hco hgen rfl (codeRec_of X' hcd) (hbind _ _ _ _ ?_)
  refine wpAny_newFunctionEnv_cells hk (hkind _) fun env' he s' x => ?_
  subst he
  refine ⟨T'.nolimit.keeps x.toInCall.keep, codeG_func cG ?_⟩
  obtain ⟨h₁, tk, rfl, _⟩ := x.done
  have hk₁ := x.toInCall.keep
  obtain ⟨cells, NC, Y⟩ := Cl.news (h₀ := s.heap) (Nat.le_refl _) fun n c hm => ⟨x.cell n c (lookup_of_mem_nodup (cellsFrom_names scope.names 0 (s.heap.objs.size + 1) [] [] rfl ▸ hnd) hm), x.above n c hm⟩
  refine h _ s.heap.objs.size h₁ tk cells rfl BG ⟨x.toInCall.ns, fun b o e => hk₁ b o (of_hideAll _ e), Nat.le_of_eq (hideAll_size _ _)⟩ (fun p hp => ?_) Y (X.keeps BG.stays) (T.keeps BG.stays) hk₁ (Heap.lt_size hP)
  rcases List.mem_append.mp hp with hp | hp
  · refine ⟨(NC p hp).1, (NC p hp).2.1, ?_⟩
    cases q : (hideAll s.heap [P]).get? p.1 with
    | none => rfl
    | some o => have := of_hideAll _ q; rw [(NC p hp).2.2] at this; cases this
  · obtain rfl := List.mem_singleton.mp hp
    exact ⟨hk₁ _ _ hP, Nat.ne_of_lt (Heap.lt_size hP), hideAll_none _ (List.mem_singleton.mpr rfl)⟩
end
end Mine

end
theorem Mine.flush30 : True := by
  w_top off
  first | walk1 | trivial
section
open PySem PySem.W PyProof.Rows PySem.Calls
set_option maxRecDepth 100000
set_option maxHeartbeats 4000000
namespace Mine
/-- the ledger stands there -/
def Led (news : List (Addr × Obj)) (h : Heap) : Prop := ∀ p ∈ news, h.get? p.1 = some p.2
theorem Led.keeps {news : List (Addr × Obj)} {h h' : Heap} (x : Led news h) (k : h.StaysIn h') : Led news h' := fun p hp => k _ _ (x p hp)
theorem Led.cell {news : List (Addr × Obj)} {h : Heap} {c : Addr} {o : Obj} {v : Option Value} (x : Led news h) (hm : (c, o) ∈ news) (hd : o.data = .cell v) : h.IsCell c v := ⟨o, x _ hm, hd⟩
theorem try_lam {G : Ctx → Prop} {w : World} {mean : ExcName → Option Value} {mg mb : Str → Option Value} {b0 g : Heap} {A : Around} {l : List Env} {s : Shared} {L a c P' : Addr} {m : Str → Option Value} {cn : Str} {cs : Scope} {ccd : Value} {cl : List (Str × Addr)}
    {own rest : List (Addr × Obj)} {params : Arguments} {scope : Scope} {ps : Array Value} {np np' lpos cpos pos : Pos} {x q : Str} {e0 : Expr} {es : List Expr} {clos : List (Str × Addr)} {fa : Addr} {vs : List Value} {P : Value → Heap → Prop} {C : Prop} {Q : Value → Shared → Prop} {E : Value → Shared → Prop}
    (cG : Closed G) (B : Below A b0 l g) (F : Fr g L s.heap m) (N : News g L s.heap (own ++ (P', tabObj ps) :: rest)) (h1 : ∀ p ∈ own, p.1 ≠ P') (h2 : ∀ p ∈ rest, p.1 ≠ P') (X : (hd.heap_39 w.params).In b0) (T : Top topProg lo0 mean mg mb b0)
    (hC : CodeHd b0 c P') (hcd : ccd = .ref c) (hT : TabOk q s.heap ps) (hh : A.handled = none) (hdep : A.depth ≤ 385) (hun : A.units ≤ 3850)
    (hq : (envX cn cs L a ccd cl).qual ++ "<lambda>" = q) (hdef : defaultsOf params (envX cn cs L a ccd cl) = ([], [])) (hcl : closureFor scope (envX cn cs L a ccd cl) = pure clos) (hks : cs.kind = .function)
    (hgt : (envX cn cs L a ccd cl).kindOf (Str.ofString "_law_try") = some .globalImplicit) (hnt : nsIn (hd.heap_39 w.params) mainGlobals (Str.ofString "_law_try") = some (some (.ref 64))) (hkt : keepIn (hd.heap_39 w.params) (.ref 64) = true)
    (hargs : ∀ (A' : Around) (L' f c' : Addr) (s₁ : Shared) (Q : List Value → Shared → Prop) (E : Value → Shared → Prop), Led (own ++ rest) s₁.heap → Q vs s₁ → wpAny (model prog0 w) A' (spliced (backTo cpos (starEach (e0 :: es) (envX q scope L' f (.ref c') clos)))) Q E s₁)
    (hcall : ∀ (A' : Around) (l' : List Env) (s₁ : Shared), Below A' b0 l' s₁.heap → A'.handled = none → A'.depth ≤ A.depth + 4 → A'.units ≤ A.units + 40 → Led (own ++ rest) s₁.heap → codeG G (model prog0 w) A' (.call (.ref fa) ⟨vs, []⟩) (RetOr l' s₁ P C) s₁)
    (hn : nsIn (hd.heap_39 w.params) mainGlobals x = some (some (.ref fa))) (hkp : keepIn (hd.heap_39 w.params) (.ref fa) = true)
    (hbind : ∀ c' ctv, bindArgs (kla_fn "<lambda>" q params (.Call (.Name x np') (e0 :: es) [] cpos) scope clos ((mg "__name__").getD .none) (.ref c') ctv) ⟨[], []⟩ = pure [])
    (hco : scope.isCoroutine = false) (hgen : scope.isGenerator = false) (hk : scope.kind = .function) (hcell : ∀ x ∈ scope.names, x.2 ≠ .cell)
    (hx : scope.names.lookup x = some .globalImplicit) (hdb : (x == ("__debug__" : Str)) = false)
    (he : ∀ env, starEach (e0 :: es) env = (false, eval e0 env) :: starEach es env) (hplain : ∀ env, (backTo cpos (starEach es env)).any (·.1) = false)
    (h : ∀ v g' h' ps' tk, KtsTurn (fra l) g g' → Fr g' L h' m → News g' L h' (own ++ (P', tabObj ps') :: rest) → TabOk q h' ps' → Below A b0 l g' → (P v h' ∨ (C ∧ ∃ t, v = .str (Str.ofString "refused") t)) → Q v { s with heap := h', toks := tk }) :
    wpG G (model prog0 w) (A.deeper (envX cn cs L a ccd cl)) (eval (.Call (.Name (Str.ofString "_law_try") np) [.Lambda params (.Call (.Name x np') (e0 :: es) [] cpos) scope lpos] [] pos) (envX cn cs L a ccd cl)) Q E s := by
  have Xg : (hd.heap_39 w.params).In g := X.keeps B.stays
  have Tg : Top topProg lo0 mean mg mb g := T.keeps B.stays
  refine ge_call (nameX_K (p := topProg) (loose := lo0) (mb := mb) F Xg (topRead_of Tg) hnt ?_ hks hgt (by decide))
  refine gc_K (Xg.keeps F.keep) hkt (Calls.spliced_cons (lam_make F N h1 h2 Tg (hC.keeps B.stays) hcd hT hq hdef hcl fun f c' ctv ps' h' tk F' N' hT' hrec bar => Calls.spliced_nil ⟨Xg.keeps F'.keep, ?_⟩)) rfl rfl
  have BB := pushX (env := envX cn cs L a ccd cl) B F' rfl hks
  have led : Led (own ++ rest) h' := fun p hp => by
    rcases List.mem_append.mp hp with hp | hp
    · exact (N' p (.tail _ (List.mem_append_left _ hp))).1
    · exact (N' p (.tail _ (List.mem_append_right _ (.tail _ hp)))).1
  have hfo := (N' _ (List.mem_cons_self ..)).1
  have hdp : (A.deeper (envX cn cs L a ccd cl)).depth ≤ 386 := by rw [depth_deeper]; omega
  have hup : (A.deeper (envX cn cs L a ccd cl)).units ≤ 3860 := by rw [units_deeper]; omega
  refine wpG_call cG (codeG_mono (try_spec (P := P) (C := C) cG BB X T hh (by omega) (by omega) ⟨_, _, _, _, hfo⟩ fun env h₁ tk₁ k B₁ => ?_) fun r s' hr => ?_)
  · refine lam_spec (fa := fa) (vs := vs) cG B₁ X T (k _ _ hfo) (codeRec_keeps hrec k) (by rw [depth_deeper]; simp only [recursionLimit]; omega) (fun L₂ h₂ Q₂ E₂ k₂ hQ => hargs _ L₂ f c' _ Q₂ E₂ ((led.keeps k).keeps k₂) hQ) (fun env₂ h₂ k₂ B₂ => ?_) hn hkp (hbind c' ctv) hco hgen hk hcell (fun _ => hx) hdb he hplain
    exact hcall _ _ _ B₂ hh (by rw [depth_deeper, depth_deeper, depth_deeper]; omega) (by rw [units_deeper, units_deeper, units_deeper]; omega) ((led.keeps k).keeps k₂)
  · obtain ⟨v, rfl, ex, sm, hp⟩ := hr
    rw [same_eq sm]
    obtain ⟨g', t', f', b', x'⟩ := reground (env := envX cn cs L a ccd cl) B F' rfl ex
    have n' := news_turn (env := envX cn cs L a ccd cl) t' N' rfl (news_apart B N') ex
    exact h v g' _ ps' _ t' f' (fun p hp => n' p (.tail _ hp)) (hT'.ex ex) b' hp
end Mine

end
theorem Mine.flush31 : True := by
  w_top off
  first | walk1 | trivial
section
open PySem PySem.W PyProof.Rows PySem.Calls
set_option maxRecDepth 100000
set_option maxHeartbeats 4000000
namespace Mine
def CodeObj (q : Str) (o : Obj) : Prop := ∃ vs t, o.data = .fields vs ∧ vs[1]? = some (.str q t)
/-- a table whose code stands in the ledger or on the ground -/
def TabIn (q : Str) (g : Heap) (news : List (Addr × Obj)) (ps : Array Value) : Prop :=
  TriplesOk ps.toList ∧ ∀ pos c, codeAmong pos ps.toList = some c → ∃ c' oc, c = .ref c' ∧ ((c', oc) ∈ news ∨ g.get? c' = some oc) ∧ CodeObj q oc
theorem TabIn.ok {q : Str} {g h : Heap} {L : Addr} {m : Str → Option Value} {news : List (Addr × Obj)} {ps : Array Value} (x : TabIn q g news ps) (F : Fr g L h m) (N : News g L h news) : TabOk q h ps :=
  ⟨x.1, fun pos c e => by
    obtain ⟨c', oc, rfl, hc, vs, t, hd, hv⟩ := x.2 pos c e
    refine ⟨c', rfl, c', oc, vs, t, rfl, ?_, hd, hv⟩
    rcases hc with hc | hc
    · exact (N _ hc).1
    · exact F.keep _ _ hc⟩
theorem TabIn.mono {q : Str} {g : Heap} {news news' : List (Addr × Obj)} {ps : Array Value} (x : TabIn q g news ps) (k : ∀ p ∈ news, p ∈ news') : TabIn q g news' ps :=
  ⟨x.1, fun pos c e => let ⟨c', oc, e1, hc, r⟩ := x.2 pos c e; ⟨c', oc, e1, hc.imp (k _) id, r⟩⟩
theorem among_mem {pos : Pos} {c : Value} : ∀ l : List Value, codeAmong pos l = some c → c ∈ l := by
  intro l
  fun_induction codeAmong pos l with
  | case1 line t col u c0 rest h => intro e; cases e; simp
  | case2 line t col u c0 rest h ih => intro e; exact .tail _ (.tail _ (.tail _ (ih e)))
  | case3 l h => intro e; cases e
theorem layCodes {q : Str} {g h : Heap} {L : Addr} {m : Str → Option Value} (F : Fr g L h m) : ∀ l : List Value, ∃ codes, News g L h codes ∧ (∀ p ∈ codes, CodeObj q p.2) ∧
    ∀ c', Value.ref c' ∈ l → h.CodeRec (.ref c') q → ∃ oc, ((c', oc) ∈ codes ∨ g.get? c' = some oc) ∧ CodeObj q oc
  | [] => ⟨[], News.nil, (fun _ h => nomatch h), (fun _ h => nomatch h)⟩
  | v :: l => by
    obtain ⟨codes, N, hk, hc⟩ := layCodes F l
    by_cases hv : ∃ c', v = .ref c' ∧ h.CodeRec (.ref c') q
    · obtain ⟨c', rfl, c2, o, vs, t, e, ho, hd, hv⟩ := hv
      cases e
      cases hg : g.get? c' with
      | some o' =>
        refine ⟨codes, N, hk, fun c2 hm hr => ?_⟩
        rcases List.mem_cons.mp hm with e | hm
        · cases e
          have := F.keep _ _ hg
          rw [ho] at this; cases this
          exact ⟨o, .inr hg, vs, t, hd, hv⟩
        · exact hc c2 hm hr
      | none =>
        have hL : c' ≠ L := by
          rintro rfl
          obtain ⟨oL, es, ep, hL, hLd, _⟩ := F.ns
          rw [ho] at hL; cases hL; rw [hd] at hLd; cases hLd
        refine ⟨(c', o) :: codes, fun p hp => ?_, fun p hp => ?_, fun c2 hm hr => ?_⟩
        · rcases List.mem_cons.mp hp with rfl | hp
          · exact ⟨ho, hL, hg⟩
          · exact N p hp
        · rcases List.mem_cons.mp hp with rfl | hp
          · exact ⟨vs, t, hd, hv⟩
          · exact hk p hp
        · rcases List.mem_cons.mp hm with e | hm
          · cases e; exact ⟨o, .inl (.head _), vs, t, hd, hv⟩
          · obtain ⟨oc, h1, h2⟩ := hc c2 hm hr
            exact ⟨oc, h1.imp (.tail _) id, h2⟩
    · refine ⟨codes, N, hk, fun c2 hm hr => ?_⟩
      rcases List.mem_cons.mp hm with e | hm
      · exact absurd ⟨c2, e.symm, hr⟩ hv
      · exact hc c2 hm hr
theorem TabOk.codes {q : Str} {g h : Heap} {L : Addr} {m : Str → Option Value} {ps : Array Value} (x : TabOk q h ps) (F : Fr g L h m) : ∃ codes, News g L h codes ∧ (∀ p ∈ codes, CodeObj q p.2) ∧ TabIn q g codes ps := by
  obtain ⟨codes, N, hk, hc⟩ := layCodes (q := q) F ps.toList
  refine ⟨codes, N, hk, x.1, fun pos c e => ?_⟩
  obtain ⟨c', rfl, r⟩ := x.2 pos c e
  obtain ⟨oc, h1, h2⟩ := hc c' (among_mem _ e) r
  exact ⟨c', oc, rfl, h1, h2⟩
theorem code_off {q : Str} {g h : Heap} {L P : Addr} {news : List (Addr × Obj)} {ps : Array Value} (N : News g L h news) (hP : (P, tabObj ps) ∈ news) (ht : TriplesOk ps.toList) {p : Addr × Obj} (hp : p ∈ news) (hc : CodeObj q p.2) : p.1 ≠ P := by
  intro e
  obtain ⟨vs, t, hd, hv⟩ := hc
  have h1 := (N _ hp).1
  have h2 := (N _ hP).1
  rw [e, h2] at h1
  have e2 : tabObj ps = p.2 := Option.some.inj h1
  rw [← e2] at hd
  cases hd
  exact triples_no_str ht _ _ (by rw [Array.getElem?_toList]; exact hv)
end Mine

end
theorem Mine.flush32 : True := by
  w_top off
  first | walk1 | trivial
section
open PySem PySem.W PyProof.Rows PySem.Calls
set_option maxRecDepth 100000
set_option maxHeartbeats 8000000
namespace Mine
theorem filled_Asked : PySem.Challenge.rw_md0057_01.prog = PySem.Challenge.rw_md0057_01.prog ∧ hd.heap_39 = hd.heap_39 := by
  k_fill
  exact ⟨rfl, rfl⟩
theorem ge_compare {G : Ctx → Prop} {M : Model} {A : Around} {E : Value → Shared → Prop} {s : Shared} {env : Env} {l : Expr} {op : CmpOp} {r : Expr} {pos : Pos} {Q : Value → Shared → Prop}
    (h : wpG G M A (eval l env) (fun a s₁ => wpAny M A (eval r env) (fun b s₂ => wpAny M A (compareOp op a b) Q E s₂) E s₁) E s)
    (hm : behindInMarks op r = false := by with_unfolding_all rfl) : wpG G M A (eval (.Compare l [op] [r] pos) env) Q E s := fun Γ p hi hg => by
  simp only [eval_Compare1, markedBehindIn_of_false hm, Sem.wp_bind', Sem.wp_holding, Sem.wp_cmd_standAt, Sem.wp_operate]
  exact Sem.wp_mono M Γ _ (fun a p₁ s₁ h₁ => Sem.wp_mono M Γ _ (fun b _ s₂ h₂ => h₂ Γ _ hi) (fun _ _ _ h' => h') _ _ (h₁ Γ p₁ hi)) (fun _ _ _ h' => h') _ _ (h Γ p hi hg)
def ansD : Option (Option (Int × Int)) → PyData
  | none => .str (Str.ofString "refused")
  | some none => .none
  | some (some (r, c)) => .tuple [.int r, .int c]
theorem AnsIs.reads {h : Heap} {v : Value} {d : Option (Option (Int × Int))} (x : AnsIs h v d) : ∃ as, Reads h v (ansD d) as := by
  cases x with
  | ref => exact ⟨_, .str _ _⟩
  | pt hp =>
    cases hp with
    | none => exact ⟨_, .none⟩
    | some ht =>
      obtain ⟨o, ho, hc, n, hd⟩ := ht
      exact ⟨_, .tuple ho hc hd (.cons (.int _ _) (.cons (.int _ _) .nil))⟩
theorem AnsIs.keeps {h h' : Heap} {v : Value} {d : Option (Option (Int × Int))} (x : AnsIs h v d) (k : h.StaysIn h') : AnsIs h' v d := by
  cases x with
  | ref => exact .ref
  | pt hp => exact .pt (hp.keeps k)
theorem ansD_shaped (d : Option (Option (Int × Int))) : SeqAt.shaped (ansD d) = true := by
  rcases d with _ | _ | ⟨r, c⟩ <;> simp [ansD, SeqAt.shaped, PyData.canLay0, PyData.canLayAll0, PyData.depth, PyData.depthAll] <;> decide +kernel
theorem ansD_eqv (d : Option (Option (Int × Int))) : PyData.eqv (ansD d) (ansD d) = true := by
  rcases d with _ | _ | ⟨r, c⟩ <;> simp [ansD, PyData.eqv, PyData.eqvAll]
theorem ans_ne {prog : Program} {w : World} {A : Around} {E : Value → Shared → Prop} {s : Shared} {a b : Value} {d : Option (Option (Int × Int))} {Q : Value → Shared → Prop} (h1 : AnsIs s.heap a d) (h2 : AnsIs s.heap b d) (hu : A.units + 64 < cLine) (h : Q (.bool false) s) :
    wpAny (model prog w) A (compareOp .NotEq a b) Q E s := by
  obtain ⟨_, r1⟩ := h1.reads
  obtain ⟨_, r2⟩ := h2.reads
  refine ne_dataH r1 r2 (ansD_shaped d) (ansD_shaped d) hu ?_
  rw [ansD_eqv]; exact h
theorem call_due {w : World} {mean : ExcName → Option Value} {mg mb : Str → Option Value} {b0 g : Heap} {A : Around} {l : List Env} {s : Shared} {x : Str} {n : Int} {t1 t2 : Tok} {L a : Addr} {cn : Str} {cs : Scope} {ccd : Value} {cl : List (Str × Addr)} {m : Str → Option Value} {news : List (Addr × Obj)} {Q : Value → Shared → Prop} {E : Value → Shared → Prop}
    (B : Below A b0 l g) (X : (hd.heap_39 w.params).In b0) (T : Top topProg lo0 mean mg mb b0) (F : Fr g L s.heap m) (N : News g L s.heap news) (hh : A.handled = none) (hdep : A.depth ≤ 385) (hun : A.units ≤ 3850) (hks : cs.kind = .function)
    (hx : x.length ≤ 20) (hg : Good x)
    (h : ∀ v h' tk, AnsIs h' v (due x n) → s.heap.StaysIn h' → Fr g L h' m → News g L h' news → Q v { s with heap := h', toks := tk }) :
    wpAny (model prog0 w) (A.deeper (envX cn cs L a ccd cl)) (call (.ref 57) [.str x t1, .int n t2]) Q E s :=
  call_ret (due_spec (pushX (env := envX cn cs L a ccd cl) B F rfl hks) X T hh (by rw [depth_deeper]; omega) (by rw [units_deeper]; omega) hx (up_len hg)) F N h
local macro_rules | `(tactic| walk_at "m_enterCG") => `(tactic| (refine' enterCG (P := 66) ?cG ?B ?X ?T ?hPb ?hP ?ho ?hcd ?hr ?hb ?hkd ?hnd ?_ ?c2 ?c3 ?c4; (case cG => assumption); (case B => assumption); (case X => assumption); (case T => assumption); (case hPb => assumption); (case hP => assumption); (case ho => k_is); (case hcd => k_is); (case hr => (simp only [recursionLimit]; omega)); (case hb => exact BindsTo.of_eq rfl); (case hkd => exact fun _ => kinds_of ⟨.inr ⟨rfl, rfl⟩, .inr ⟨rfl, rfl⟩, trivial⟩); (case hnd => decide); (case c2 => exact rfl); (case c3 => exact rfl); (case c4 => exact rfl); k_whole; intro g' L' h' tk' cells' hg' B' F' N' Y' X' T' K' l'; (try dsimp only)))
local macro_rules | `(tactic| walk_at "call ref") => `(tactic| ((with_reducible show wpAny _ _ (call (Value.ref 57) [Value.str _ _, Value.int _ _]) _ _ _); refine' call_due ?B ?X ?T ?F ?N ?hh ?hd ?hu ?hk ?hx ?hg ?_; (case F => assumption); (case B => assumption); (case X => assumption); (case T => assumption); (case hh => assumption); (case hd => omega); (case hu => omega); (case N => assumption); (case hk => exact rfl); (case hx => assumption); (case hg => assumption); (intro v' h' tk hans kst F' N')))
theorem opp_v {x : Str} {v : Value} (h : (∃ y tk, oppOf x = some y ∧ v = .str y tk) ∨ (oppOf x = none ∧ ∃ t, v = .str (Str.ofString "refused") t)) :
    (x = Str.ofString "b" ∧ ∃ t, v = .str (Str.ofString "w") t) ∨ (x = Str.ofString "w" ∧ ∃ t, v = .str (Str.ofString "b") t) ∨ (x ≠ Str.ofString "b" ∧ x ≠ Str.ofString "w" ∧ ∃ t, v = .str (Str.ofString "refused") t) := by
  unfold oppOf at h
  by_cases hb : x = Str.ofString "b"
  · rw [if_pos hb] at h
    rcases h with ⟨y, tk, e, rfl⟩ | ⟨e, _⟩
    · cases e; exact .inl ⟨hb, _, rfl⟩
    · cases e
  · rw [if_neg hb] at h
    by_cases hw : x = Str.ofString "w"
    · rw [if_pos hw] at h
      rcases h with ⟨y, tk, e, rfl⟩ | ⟨e, _⟩
      · cases e; exact .inr (.inl ⟨hw, _, rfl⟩)
      · cases e
    · rw [if_neg hw] at h
      rcases h with ⟨y, tk, e, rfl⟩ | ⟨_, t, rfl⟩
      · cases e
      · exact .inr (.inr ⟨hb, hw, _, rfl⟩)
theorem nam_v {x : Str} {v : Value} (h : (∃ y tk, namOf x = some y ∧ v = .str y tk) ∨ (namOf x = none ∧ ∃ t, v = .str (Str.ofString "refused") t)) :
    (x = Str.ofString "b" ∧ ∃ t, v = .str (Str.ofString "black") t) ∨ (x = Str.ofString "w" ∧ ∃ t, v = .str (Str.ofString "white") t) ∨ (x ≠ Str.ofString "b" ∧ x ≠ Str.ofString "w" ∧ ∃ t, v = .str (Str.ofString "refused") t) := by
  unfold namOf at h
  by_cases hb : x = Str.ofString "b"
  · rw [if_pos hb] at h
    rcases h with ⟨y, tk, e, rfl⟩ | ⟨e, _⟩
    · cases e; exact .inl ⟨hb, _, rfl⟩
    · cases e
  · rw [if_neg hb] at h
    by_cases hw : x = Str.ofString "w"
    · rw [if_pos hw] at h
      rcases h with ⟨y, tk, e, rfl⟩ | ⟨e, _⟩
      · cases e; exact .inr (.inl ⟨hw, _, rfl⟩)
      · cases e
    · rw [if_neg hw] at h
      rcases h with ⟨y, tk, e, rfl⟩ | ⟨_, t, rfl⟩
      · cases e
      · exact .inr (.inr ⟨hb, hw, _, rfl⟩)
abbrev qA : Str := Str.ofString "_law_asked.<locals>.<lambda>"
/-- the frame of _law_asked between its statements -/
def AskSt (A : Around) (b0 : Heap) (l : List Env) (g : Heap) (L : Addr) (o1 o2 : Obj) (s s' : Shared) : Prop :=
  ∃ h5 tk5 g5 ps5 cs5, s' = { s with heap := h5, toks := tk5 } ∧ KtsTurn (fra l) g g5 ∧ Below A b0 l g5 ∧ Fr g5 L h5 (fun _ => none) ∧ News g5 L h5 ((L + 1 + 1, o1) :: (L + 1, o2) :: (66, tabObj ps5) :: cs5) ∧ TabIn qA g5 cs5 ps5 ∧ (∀ p ∈ cs5, CodeObj qA p.2)
theorem gx_ifcut {G : Ctx → Prop} {M : Model} {A : Around} {E : Value → Shared → Prop} {s : Shared} {env : Env} {test : Expr} {body rest : List Stmt} {pos : Pos} {Q : Flow → Shared → Prop} (N : Shared → Prop)
    (hb : wpG G M A (isTrue test env (eval test env)) (fun b s' => b = false ∧ N s') E s) (hn : ∀ s', N s' → wpG G M A (execs rest env) Q E s') : wpG G M A (execs (.If test body [] pos :: rest) env) Q E s :=
  gx_cons (gx_if (wpG_mono hb (fun b s' h => by
    obtain ⟨rfl, h⟩ := h
    rw [if_neg (by decide)]
    exact gx_nil (hn s' h)) fun _ _ x => x))
theorem askSt_mk {A : Around} {b0 : Heap} {l : List Env} {g g1 h4 : Heap} {L : Addr} {o1 o2 : Obj} {s : Shared} {ps4 : Array Value} {cs4 news : List (Addr × Obj)} {tk : Nat} {m : Str → Option Value} (T : KtsTurn (fra l) g g1) (B : Below A b0 l g1) (F : Fr g1 L h4 m)
    (N : News g1 L h4 news) (hm : m = fun _ => none) (hs : ∀ p ∈ (L + 1 + 1, o1) :: (L + 1, o2) :: (66, tabObj ps4) :: cs4, p ∈ news) (hI : TabIn qA g1 cs4 ps4) (hk : ∀ p ∈ cs4, CodeObj qA p.2) : AskSt A b0 l g L o1 o2 s { s with heap := h4, toks := tk } :=
  ⟨h4, tk, g1, ps4, cs4, rfl, T, B, hm ▸ F, fun p hp => N p (hs p hp), hI, hk⟩
theorem asked_spec {G : Ctx → Prop} {w : World} {mean : ExcName → Option Value} {mg mb : Str → Option Value} {b0 : Heap} {A : Around} {l : List Env} {s : Shared} {x : Str} {n : Int} {t1 t2 : Tok} {ps : Array Value} (cG : Closed G)
    (B : Below A b0 l s.heap) (X : (hd.heap_39 w.params).In b0) (T : Top topProg lo0 mean mg mb b0) (hC : CodeHd b0 70 66) (hPb : b0.get? 66 = none) (hP : s.heap.get? 66 = some (tabObj ps)) (hT : TabOk qA s.heap ps)
    (hh : A.handled = none) (hdep : A.depth ≤ 380) (hun : A.units ≤ 3800)
    (hx : x.length ≤ 20) (hg : Good x) (hG : ((Txt.lower x == Str.ofString "pass") = true ∨ ∃ v, PySem.intText? (Txt.slice (Txt.lower x) (some 1) none) = some v) ∨ ∀ Γ, G Γ → HC Γ) :
    codeG G (model prog0 w) A (.call (.ref 71) ⟨[.str x t1, .int n t2], []⟩) (RetX l { s with heap := hideAll s.heap [66] } (fun u h => u = .bool true ∧ ∃ ps', h.get? 66 = some (tabObj ps') ∧ TabOk qA h ps')) s := by
  walk_at "m_enterCG"
  rename_i g' L' h' tk' cells' hg' B' F' N' Y' X' T' K' l'
  have Y2 : CellsAre _ [(Str.ofString "size", L' + 1 + 1), (Str.ofString "text", L' + 1)] cells' := Y'
  obtain ⟨o1, o2, rfl, d1, d2⟩ := Y2.two
  replace d1 : o1.data = .cell (some (.int n t2)) := d1
  replace d2 : o2.data = .cell (some (.str x t1)) := d2
  replace F' : Fr g' L' h' (fun _ => none) := F'
  clear Y' Y2
  have ne66 : ∀ p ∈ [(L' + 1 + 1, o1), (L' + 1, o2)], p.1 ≠ 66 := fun p hp => by
    rcases List.mem_cons.mp hp with rfl | hp
    · exact Nat.ne_of_gt (Nat.lt_succ_of_lt (Nat.lt_succ_of_lt l'))
    · rw [List.mem_singleton.mp hp]; exact Nat.ne_of_gt (Nat.lt_succ_of_lt l')
  have m1 : ∀ cs, (L' + 1 + 1, o1) ∈ [(L' + 1 + 1, o1), (L' + 1, o2)] ++ cs := fun _ => .head _
  have m2 : ∀ cs, (L' + 1, o2) ∈ [(L' + 1 + 1, o1), (L' + 1, o2)] ++ cs := fun _ => .tail _ (.head _)
  have st0 : AskSt A b0 l g' L' o1 o2 s { s with heap := h', toks := tk' } := by
    obtain ⟨cs4, NC4, hk4, hI4⟩ := (hT.keeps K').codes F'
    exact ⟨h', tk', g', ps, cs4, rfl, KtsTurn.refl, B', F', News.append (a := [(L' + 1 + 1, o1), (L' + 1, o2), (66, tabObj ps)]) N' NC4, hI4, hk4⟩
  clear F' N' B' X' T'
  refine gx_ifcut (AskSt A b0 l g' L' o1 o2 s) ?_ ?_
  · obtain ⟨h4, tk4, g4, ps4, cs4, e4, T4, B4, F4, N4, I4, k4⟩ := st0
    have off4 : ∀ p ∈ cs4, p.1 ≠ 66 := fun p hp => code_off N4 (.tail _ (.tail _ (.head _))) I4.1 (.tail _ (.tail _ (.tail _ hp))) (k4 p hp)
    rw [e4]
    refine gt_compare ?_
    refine try_lam (own := [(L' + 1 + 1, o1), (L' + 1, o2)]) (rest := cs4) (fa := 50) (vs := [.str x t1, .int n t2]) (P := fun u h => ∃ p, due x n = some p ∧ PtIs h u p) (C := due x n = none) cG B4 F4 N4 ne66 off4 X T hC rfl (I4.ok F4 fun p hp => N4 p (.tail _ (.tail _ (.tail _ hp)))) hh (by omega) (by omega) rfl rfl rfl rfl rfl (by k_is) (by k_is)
      (fun A' L2 f c' s1 Q E led hQ => args2 (c := L' + 1) (d := L' + 1 + 1) rfl (led.cell (m2 _) d2) rfl (led.cell (m1 _) d1) hQ rfl rfl (by decide) (by decide) rfl (by decide) (by decide))
      (fun A' l2 s1 B1 hh1 hd1 hu1 _ => mfv_spec cG B1 X T hh1 (by omega) (by omega) hx hg hG) (by k_is) (by k_is) (fun _ _ => rfl) rfl rfl rfl (by decide) rfl (by decide) (fun _ => rfl) (fun _ => rfl) ?_
    intro v g2 h2 ps2 tk2 T2 F2 N2 hT2 B2 hv
    replace hv : AnsIs h2 v (due x n) := by
      rcases hv with ⟨p, hp, hpt⟩ | ⟨hn, t, rfl⟩
      · rw [hp]; exact .pt hpt
      · rw [hn]; exact .ref
    obtain ⟨cs2, NC2, k2, I2⟩ := hT2.codes F2
    replace N2 : News g2 L' h2 ((L' + 1 + 1, o1) :: (L' + 1, o2) :: (66, tabObj ps2) :: cs2) := News.append (a := [(L' + 1 + 1, o1), (L' + 1, o2), (66, tabObj ps2)]) (fun p hp => N2 p (List.mem_of_mem_take (i := 3) hp)) NC2
    have X2 : (hd.heap_39 w.params).In g2 := X.keeps B2.stays
    have P2 : Top topProg lo0 mean mg mb g2 := T.keeps B2.stays
    clear F4 N4 B4 NC2
    k_whole
    (try dsimp only)
    (try k_fold)
    k_steps
    refine ans_ne (hv.keeps (by assumption)) (by assumption) (by rw [units_deeper, cLine_is]; omega) ?_
    k_steps
    exact askSt_mk (T4.trans T2) B2 (by assumption) (by assumption) rfl (fun p hp => hp) I2 k2
  rintro s1 st1
  refine gx_ifcut (AskSt A b0 l g' L' o1 o2 s) ?_ ?_
  · obtain ⟨h4, tk4, g4, ps4, cs4, rfl, T4, B4, F4, N4, I4, k4⟩ := st1
    have off4 : ∀ p ∈ cs4, p.1 ≠ 66 := fun p hp => code_off N4 (.tail _ (.tail _ (.head _))) I4.1 (.tail _ (.tail _ (.tail _ hp))) (k4 p hp)
    refine gt_compare ?_
    refine try_lam (own := [(L' + 1 + 1, o1), (L' + 1, o2)]) (rest := cs4) (fa := 22) (vs := [.str x t1]) (P := fun u _ => ∃ y tk, oppOf x = some y ∧ u = .str y tk) (C := oppOf x = none) cG B4 F4 N4 ne66 off4 X T hC rfl (I4.ok F4 fun p hp => N4 p (.tail _ (.tail _ (.tail _ hp)))) hh (by omega) (by omega) rfl rfl rfl rfl rfl (by k_is) (by k_is)
      (fun A' L2 f c' s1 Q E led hQ => args1 (c := L' + 1) rfl (led.cell (m2 _) d2) hQ rfl rfl (by decide) (by decide))
      (fun A' l2 s1 B1 hh1 hd1 hu1 _ => codeG_any (opp_spec B1 X T hh1 (by omega) (by omega))) (by k_is) (by k_is) (fun _ _ => rfl) rfl rfl rfl (by decide) rfl (by decide) (fun _ => rfl) (fun _ => rfl) ?_
    intro v g2 h2 ps2 tk2 T2 F2 N2 hT2 B2 hv
    obtain ⟨cs2, NC2, k2, I2⟩ := hT2.codes F2
    replace N2 : News g2 L' h2 ((L' + 1 + 1, o1) :: (L' + 1, o2) :: (66, tabObj ps2) :: cs2) := News.append (a := [(L' + 1 + 1, o1), (L' + 1, o2), (66, tabObj ps2)]) (fun p hp => N2 p (List.mem_of_mem_take (i := 3) hp)) NC2
    have X2 : (hd.heap_39 w.params).In g2 := X.keeps B2.stays
    have P2 : Top topProg lo0 mean mg mb g2 := T.keeps B2.stays
    clear F4 N4 B4 NC2
    rcases opp_v hv with ⟨rfl, t9, rfl⟩ | ⟨rfl, t9, rfl⟩ | ⟨hb, hw, t9, rfl⟩
    · k_whole
      (try dsimp only)
      (try k_fold)
      k_steps
      exact askSt_mk (T4.trans T2) B2 (by assumption) (by assumption) rfl (fun p hp => .tail _ hp) I2 k2
    · k_whole
      (try dsimp only)
      (try k_fold)
      k_steps
      exact askSt_mk (T4.trans T2) B2 (by assumption) (by assumption) rfl (fun p hp => .tail _ hp) I2 k2
    · k_whole
      (try dsimp only)
      (try k_fold)
      k_steps
      rename_i v9 hv9
      rw [look_bw hb hw] at hv9
      obtain ⟨t8, rfl⟩ := PyProof.V.Flat.str_inv hv9
      k_steps
      exact askSt_mk (T4.trans T2) B2 (by assumption) (by assumption) rfl (fun p hp => .tail _ hp) I2 k2
  rintro s2 ⟨h4, tk4, g4, ps4, cs4, rfl, T4, B4, F4, N4, I4, k4⟩
  have off4 : ∀ p ∈ cs4, p.1 ≠ 66 := fun p hp => code_off N4 (.tail _ (.tail _ (.head _))) I4.1 (.tail _ (.tail _ (.tail _ hp))) (k4 p hp)
  have fin : ∀ s3, AskSt A b0 l g' L' o1 o2 s s3 → RetX l { s with heap := hideAll s.heap [66] } (fun u h => u = .bool true ∧ ∃ ps', h.get? 66 = some (tabObj ps') ∧ TabOk qA h ps') (.ok (.ret (.bool true))) s3 := by
    rintro s3 ⟨h5, tk5, g5, ps5, cs5, rfl, T5, B5, F5, N5, I5, k5⟩
    exact ⟨_, rfl, hg' ▸ ex_of_turn T5 F5.keep, ⟨rfl, rfl, rfl⟩, rfl, ps5, (N5 _ (.tail _ (.tail _ (.head _)))).1, I5.ok F5 fun p hp => N5 p (.tail _ (.tail _ (.tail _ hp)))⟩
  refine gx_last (gx_ret (ge_compare ?_))
  refine try_lam (own := [(L' + 1 + 1, o1), (L' + 1, o2)]) (rest := cs4) (fa := 29) (vs := [.str x t1]) (P := fun u _ => ∃ y tk, namOf x = some y ∧ u = .str y tk) (C := namOf x = none) cG B4 F4 N4 ne66 off4 X T hC rfl (I4.ok F4 fun p hp => N4 p (.tail _ (.tail _ (.tail _ hp)))) hh (by omega) (by omega) rfl rfl rfl rfl rfl (by k_is) (by k_is)
      (fun A' L2 f c' s1 Q E led hQ => args1 (c := L' + 1) rfl (led.cell (m2 _) d2) hQ rfl rfl (by decide) (by decide))
      (fun A' l2 s1 B1 hh1 hd1 hu1 _ => codeG_any (col_spec B1 X T hh1 (by omega) (by omega))) (by k_is) (by k_is) (fun _ _ => rfl) rfl rfl rfl (by decide) rfl (by decide) (fun _ => rfl) (fun _ => rfl) ?_
  intro v g2 h2 ps2 tk2 T2 F2 N2 hT2 B2 hv
  obtain ⟨cs2, NC2, k2, I2⟩ := hT2.codes F2
  replace N2 : News g2 L' h2 ((L' + 1 + 1, o1) :: (L' + 1, o2) :: (66, tabObj ps2) :: cs2) := News.append (a := [(L' + 1 + 1, o1), (L' + 1, o2), (66, tabObj ps2)]) (fun p hp => N2 p (List.mem_of_mem_take (i := 3) hp)) NC2
  have X2 : (hd.heap_39 w.params).In g2 := X.keeps B2.stays
  have P2 : Top topProg lo0 mean mg mb g2 := T.keeps B2.stays
  clear F4 N4 B4 NC2
  rcases nam_v hv with ⟨rfl, t9, rfl⟩ | ⟨rfl, t9, rfl⟩ | ⟨hb, hw, t9, rfl⟩
  · k_whole
    (try dsimp only)
    (try k_fold)
    k_steps
    exact fin _ (askSt_mk (T4.trans T2) B2 (by assumption) (by assumption) rfl (fun p hp => .tail _ hp) I2 k2)
  · k_whole
    (try dsimp only)
    (try k_fold)
    k_steps
    exact fin _ (askSt_mk (T4.trans T2) B2 (by assumption) (by assumption) rfl (fun p hp => .tail _ hp) I2 k2)
  · k_whole
    (try dsimp only)
    (try k_fold)
    k_steps
    rename_i v9 hv9
    rw [look_bw hb hw] at hv9
    obtain ⟨t8, rfl⟩ := PyProof.V.Flat.str_inv hv9
    k_steps
    exact fin _ (askSt_mk (T4.trans T2) B2 (by assumption) (by assumption) rfl (fun p hp => .tail _ hp) I2 k2)

end Mine

end
theorem Mine.flush33 : True := by
  w_top off
  first | walk1 | trivial
section
open PySem PySem.W PyProof.Rows PySem.Calls
set_option maxRecDepth 100000
set_option maxHeartbeats 4000000
namespace Mine
theorem slot_map_next : Slot "map" "__next__" "map.__next__" :=
  .of (owner := "map") (n := "__next__") (by rw [typeLookup_type, builtinLookup_eq_fast]; kernel_rfl) (by decide +kernel) (by decide +kernel) (by decide +kernel)
    (by first | exact .inl (by decide +kernel) | exact .inr (by decide +kernel)) (by rw [isSubtype_type]; kernel_rfl)
theorem slot_map_iter : Slot "map" "__iter__" "map.__iter__" :=
  .of (owner := "map") (n := "__iter__") (by rw [typeLookup_type, builtinLookup_eq_fast]; kernel_rfl) (by decide +kernel) (by decide +kernel) (by decide +kernel)
    (by first | exact .inl (by decide +kernel) | exact .inr (by decide +kernel)) (by rw [isSubtype_type]; kernel_rfl)
theorem slot_map_init : Slot "map" "__init__" "object.__init__" :=
  .of (owner := "object") (n := "__init__") (by rw [typeLookup_type, builtinLookup_eq_fast]; kernel_rfl) (by decide +kernel) (by decide +kernel) (by decide +kernel)
    (by first | exact .inl (by decide +kernel) | exact .inr (by decide +kernel)) (by rw [isSubtype_type]; kernel_rfl)
theorem owner_map : Manifest.owners.lookup (String.ofList ['p', 'a', 'm'].reverse) = some Manifest.sig_map := by kernel_rfl
theorem entry_map_next : entryFor table "map.__next__" = some Builtin.«map.__next__» := entryFor_of_tree (by kernel_rfl)
theorem entry_map_new : entryFor table "map.__new__" = some Builtin.«map.__new__» := entryFor_of_tree (by kernel_rfl)
theorem args_map_next_1 (a : Value) : argsOk "map.__next__" ⟨[a], []⟩ := by
  unfold argsOk; rw [signature?_of (id := "map.__next__") (n := ['_', '_', 't', 'x', 'e', 'n', '_', '_']) (o := ['p', 'a', 'm']) (by kernel_rfl) owner_map]; kernel_rfl
theorem args_map_iter_1 (a : Value) : argsOk "map.__iter__" ⟨[a], []⟩ := by
  unfold argsOk; rw [signature?_of (id := "map.__iter__") (n := ['_', '_', 'r', 'e', 't', 'i', '_', '_']) (o := ['p', 'a', 'm']) (by kernel_rfl) owner_map]; kernel_rfl
theorem entry_map_iter : entryFor table "map.__iter__" = some Builtin.«dict_keyiterator.__iter__» :=
  entryFor_alias (id' := "dict_keyiterator.__iter__") (by kernel_rfl) (by first | rfl | decide +kernel | (unfold String.splitOn; simp +decide [String.splitOnAux])) (by decide +kernel) (by kernel_rfl)
theorem mro_map : mroOf (.type "map") = pure [.type "map", .type "object"] := by rw [mroOf_type]; kernel_rfl
theorem lookup_map_new : typeLookup (.type "map") "__new__" = pure (some (.builtin "map.__new__")) := by rw [typeLookup_type, builtinLookup_eq_fast]; kernel_rfl
theorem called_map : TypeCalled "map" "map.__new__" "object.__init__" :=
  ⟨by decide +kernel, by decide +kernel, ⟨_, _, mro_map⟩, madeBy_type mro_map lookup_map_new (by decide +kernel), by decide +kernel, by rw [isSubtype_type]; kernel_rfl, slot_map_init⟩
theorem typeCall_map_2 (a b : Value) : checkTypeCall "map" ⟨[a, b], []⟩ = pure () := by kernel_rfl
theorem newCall_map_2 (a b : Value) : checkBuiltinCall "map.__new__" ⟨[.type "map", a, b], []⟩ = pure () := by kernel_rfl
theorem sub_map : isSubtype (.type "map") (.type "map") = pure true := by rw [isSubtype_type]; kernel_rfl
theorem map_no_len : typeLookup (.type "map") "__len__" = pure none := by rw [typeLookup_type, builtinLookup_eq_fast]; kernel_rfl
theorem map_no_hint : typeLookup (.type "map") "__length_hint__" = pure none := by rw [typeLookup_type, builtinLookup_eq_fast]; kernel_rfl
abbrev IsMap (h : Heap) (z TI : Addr) (f : Value) : Prop := h.get? z = some { cls := .type "map", dict := none, data := .fields #[.ref TI, f], slots := #[] }
abbrev IsOne (h : Heap) (T : Addr) (a : Value) : Prop := h.get? T = some { cls := .type "tuple", data := .seq #[a] }
abbrev mapH1 (h : Heap) (l : Addr) : Heap := h.push { cls := .type "list_iterator", data := .fields #[.ref l, .int 0 0] }
abbrev mapH2 (h : Heap) (l : Addr) : Heap := (mapH1 h l).push { cls := .type "tuple", data := .seq #[.ref h.objs.size] }
abbrev mapH3 (h : Heap) (l : Addr) (f : Value) : Heap := (mapH2 h l).push { cls := .type "map", data := .fields #[.ref (mapH1 h l).objs.size, f] }
theorem meets_map_new (f : Value) (l : Addr) (xs : Array Value) :
    Meets (Builtin.«map.__new__» ⟨[.type "map", f, .ref l], []⟩) (fun _ R s => s.heap.IsList l xs ∧ R (.ok (.ret (.ref (mapH2 s.heap l).objs.size))) { s with heap := mapH3 s.heap l f }) :=
  .of_wp fun prog w A R s h => by
    obtain ⟨hp, g, d, tk, os⟩ := s; obtain ⟨hl1, h⟩ := h
    have hsub := sub_map
    have hL1 : Heap.IsList (Shared.heap ⟨hp, g, d, tk, os⟩) l xs := hl1
    wp_walk using wpAny_pyIter_list hL1
    exact ⟨_, rfl, h⟩
section
variable {prog : Program} {w : World} {A : Around} {E : Value → Shared → Prop} {s : Shared}
theorem call_map_2 {l : Addr} {f : Value} {xs : Array Value} {Q : Value → Shared → Prop} (hl : s.heap.IsList l xs)
    (h : ∀ h', IsMap h' (s.heap.objs.size + 2) (s.heap.objs.size + 1) f → IsOne h' (s.heap.objs.size + 1) (.ref s.heap.objs.size) → h'.IsListIter s.heap.objs.size l 0 → h'.objs.size = s.heap.objs.size + 3 →
      s.heap.StaysIn h' → Q (.ref (s.heap.objs.size + 2)) { s with heap := h' }) :
    wpAny (model prog w) A (call (.type "map") [f, .ref l]) Q E s := by
  refine callType_new called_map (by decide) (typeCall_map_2 _ _) (newCall_map_2 _ _) (fun obj => F.args_object_init_3 obj _ _) entry_map_new (meets_map_new f l xs) ⟨hl, ?_⟩
  have z1 : (mapH1 s.heap l).objs.size = s.heap.objs.size + 1 := Heap.size_push ..
  have z2 : (mapH2 s.heap l).objs.size = s.heap.objs.size + 2 := by rw [Heap.size_push, z1]
  have z3 : (mapH3 s.heap l f).objs.size = s.heap.objs.size + 3 := by rw [Heap.size_push, z2]
  have g3 : (mapH3 s.heap l f).get? (mapH2 s.heap l).objs.size = some _ := Heap.get?_push_size _ rfl
  have g2 : (mapH3 s.heap l f).get? (mapH1 s.heap l).objs.size = some _ := Heap.get?_push_of_some _ (Heap.get?_push_size _ rfl)
  have g1 : (mapH3 s.heap l f).get? s.heap.objs.size = some _ := Heap.get?_push_of_some _ (Heap.get?_push_of_some _ (Heap.get?_push_size _ rfl))
  show _ ∧ _
  rw [z1, z2] at g3
  rw [z1] at g2
  rw [z2]
  exact ⟨⟨_, g3, rfl⟩, h _ g3 g2 ⟨_, g1, rfl, rfl⟩ z3 fun c o x => Heap.get?_push_of_some _ (Heap.get?_push_of_some _ (Heap.get?_push_of_some _ x))⟩
theorem pyIter_map {z TI : Addr} {f : Value} {Q : Value → Shared → Prop} (hz : IsMap s.heap z TI f) (h : Q (.ref z) s) : wpAny (model prog w) A (pyIter (.ref z)) Q E s := by
  have hT : s.TypeIs (.ref z) "map" := ⟨_, hz, rfl⟩
  refine wpAny_pyIter_slot hT slot_map_iter (wpAny_call_entry slot_map_iter hT entry_map_iter ?_ (args_map_iter_1 _))
  show wpAny _ _ (ret (.ref z)) _ _ s
  exact wpAny_pure ⟨_, rfl, "map", _, hT, slot_map_next.lookup, h⟩
end
end Mine

end
theorem Mine.flush34 : True := by
  w_top off
  first | walk1 | trivial
section
open PySem PySem.W PyProof.Rows PySem.Calls
set_option maxRecDepth 100000
set_option maxHeartbeats 4000000
namespace Mine
section
variable {prog : Program} {w : World} {A : Around} {E : Value → Shared → Prop} {s : Shared} {z TI I D : Addr} {i : Nat} {xs : Array Value} {f : Value}
theorem map_next_item {x : Value} {Q : Value → Shared → Prop} (hz : IsMap s.heap z TI f) (hTI : IsOne s.heap TI (.ref I)) (h1 : s.heap.IsListIter I D i) (hl : s.heap.IsList D xs) (hx : xs[i]? = some x) (hzI : z ≠ I)
    (hc : ∀ h₁, h₁.IsListIter I D (i + 1) → Heap.SameBut I s.heap h₁ → codeAny (model prog w) A (.call f ⟨[x], []⟩) (fun r s' => match r with | .ok (.ret v) => Q v s' | .ok _ => False | .error e => E e s') { s with heap := h₁ }) :
    wpAny (model prog w) A (Builtin.«map.__next__» ⟨[.ref z], []⟩) (fun fin s' => ∃ v, fin = .done (.ret v) ∧ Q v s') E s := by
  show wpAny _ _ (field (.ref z) 0 >>= _) _ _ _
  refine wpAny_bind (wpAny_field hz rfl (x := .ref TI) rfl ?_)
  refine wpAny_bind (wpAny_seqItems hTI rfl ?_)
  simp only [List.forIn_toArray, List.forIn_cons, List.forIn_nil]
  refine wpAny_bind (wpAny_bind (wpAny_bind (wpAny_holding (wpAny_nextOf_list_item h1 hl hx fun h₁ h1' hs => ?_))))
  refine wpAny_pure (wpAny_pure ?_)
  have hz₁ : IsMap h₁ z TI f := hs.extBut _ _ hzI hz
  refine wpAny_bind (wpAny_field hz₁ rfl (x := f) rfl ?_)
  refine wpAny_bind (wpAny_holding (wpAny_call (codeAny_mono (hc h₁ h1' hs) fun r s' hr => ?_)))
  rcases r with e | fl
  · exact hr
  · cases fl with
    | ret v =>
      refine wpAny_bind (wpAny_letGo (wpAny_pure ⟨_, rfl, hr⟩))
    | next => exact hr
    | brk => exact hr
    | cont => exact hr
theorem map_next_end {Q : PySem.Fin → Shared → Prop} (hh : A.handled = none) (hz : IsMap s.heap z TI f) (hTI : IsOne s.heap TI (.ref I)) (h1 : s.heap.IsListIter I D i) (hl : s.heap.IsList D xs) (hx : xs[i]? = none)
    (hE : ∀ h' e, Heap.ExtBut I s.heap h' → (∃ o, h'.get? e = some o ∧ o.cls = .type "StopIteration") → E (.ref e) { s with heap := h' }) :
    wpAny (model prog w) A (Builtin.«map.__next__» ⟨[.ref z], []⟩) Q E s := by
  show wpAny _ _ (field (.ref z) 0 >>= _) _ _ _
  refine wpAny_bind (wpAny_field hz rfl (x := .ref TI) rfl ?_)
  refine wpAny_bind (wpAny_seqItems hTI rfl ?_)
  simp only [List.forIn_toArray, List.forIn_cons, List.forIn_nil]
  exact wpAny_bind (wpAny_bind (wpAny_bind (wpAny_holding (wpAny_nextOf_list_end hh h1 hl hx hE))))
theorem pyNext_map_item {x : Value} {Q : Option Value → Shared → Prop} (hz : IsMap s.heap z TI f) (hTI : IsOne s.heap TI (.ref I)) (h1 : s.heap.IsListIter I D i) (hl : s.heap.IsList D xs) (hx : xs[i]? = some x) (hzI : z ≠ I)
    (hc : ∀ h₁, h₁.IsListIter I D (i + 1) → Heap.SameBut I s.heap h₁ → codeAny (model prog w) A.in1 (.call f ⟨[x], []⟩) (fun r s' => match r with | .ok (.ret v) => Q (some v) s' | .ok _ => False | .error e => s'.TypeIs e "ValueError" ∧ E e s') { s with heap := h₁ }) :
    wpAny (model prog w) A (pyNext (.ref z)) Q E s := by
  have hT : s.TypeIs (.ref z) "map" := ⟨_, hz, rfl⟩
  unfold pyNext
  refine wpAny_bind (wpAny_attempt (wpAny_callSpecial?_slot (name := Str.ofString "__next__") hT slot_map_next
    (wpAny_call_entry slot_map_next hT entry_map_next (map_next_item hz hTI h1 hl hx hzI fun h₁ a b => codeAny_mono (hc h₁ a b) fun r s' hr => ?_) (args_map_next_1 _))))
  rcases r with e | fl
  · obtain ⟨h1, h2⟩ := hr
    refine wpAny_bind (wpAny_isInstance (T := "ValueError") (b := false) h1 (by rw [isSubtype_type]; kernel_rfl) ?_)
    exact wpAny_throw h2
  · cases fl with
    | ret v => exact wpAny_pure hr
    | next => exact hr
    | brk => exact hr
    | cont => exact hr
theorem pyNext_map_end {Q : Option Value → Shared → Prop} (hh : A.handled = none) (hz : IsMap s.heap z TI f) (hTI : IsOne s.heap TI (.ref I)) (h1 : s.heap.IsListIter I D i) (hl : s.heap.IsList D xs) (hx : xs[i]? = none)
    (hQ : ∀ h', Heap.ExtBut I s.heap h' → Q none { s with heap := h' }) : wpAny (model prog w) A (pyNext (.ref z)) Q E s := by
  have hT : s.TypeIs (.ref z) "map" := ⟨_, hz, rfl⟩
  unfold pyNext
  refine wpAny_bind (wpAny_attempt (wpAny_callSpecial?_slot (name := Str.ofString "__next__") hT slot_map_next
    (wpAny_call_entry slot_map_next hT entry_map_next (map_next_end hh hz hTI h1 hl hx fun h' e hk he => ?_) (args_map_next_1 _))))
  obtain ⟨o, ho, hc⟩ := he
  refine wpAny_bind (wpAny_isInstance (T := "StopIteration") (b := true) ⟨o, ho, hc⟩ isSubtype_stop ?_)
  exact wpAny_pure (hQ _ hk)
end
end Mine

end
theorem Mine.flush35 : True := by
  w_top off
  first | walk1 | trivial
section
open PySem PySem.W PyProof.Rows PySem.Calls
set_option maxRecDepth 100000
set_option maxHeartbeats 4000000
namespace Mine
theorem Fly.mono {l : List Env} {e : Addr} {cls : String} {h h₁ h' : Heap} (k : h.StaysIn h₁) (f : Fly l e cls h₁ h') : Fly l e cls h h' := let ⟨B, a0, hB, hf⟩ := f; ⟨B, a0, fun b o q nm => hB b o (k b o q) nm, hf⟩
theorem Fly.ty {l : List Env} {e : Addr} {cls : String} {h : Heap} {s : Shared} (f : Fly l e cls h s.heap) : s.TypeIs (.ref e) cls := by
  obtain ⟨B, a0, hB, hf⟩ := f
  obtain ⟨oe, he, hc⟩ := hf.there
  exact ⟨oe, he, hc⟩
/-- values that are points -/
inductive PtsAre (h : Heap) : List Value → List (Option (Int × Int)) → Prop
  | nil : PtsAre h [] []
  | cons {v : Value} {p : Option (Int × Int)} {vs : List Value} {ps : List (Option (Int × Int))} : PtIs h v p → PtsAre h vs ps → PtsAre h (v :: vs) (p :: ps)
theorem PtsAre.keeps {h h' : Heap} {vs : List Value} {ps : List (Option (Int × Int))} (x : PtsAre h vs ps) (k : h.StaysIn h') : PtsAre h' vs ps := by
  induction x with
  | nil => exact .nil
  | cons a _ ih => exact .cons (a.keeps k) ih
theorem PtsAre.length {h : Heap} {vs : List Value} {ps : List (Option (Int × Int))} (x : PtsAre h vs ps) : vs.length = ps.length := by
  induction x with
  | nil => rfl
  | cons _ _ ih => simp [ih]
theorem PtsAre.get {h : Heap} {vs : List Value} {ps : List (Option (Int × Int))} (x : PtsAre h vs ps) : ∀ {i : Nat} {v : Value}, vs[i]? = some v → ∃ p, ps[i]? = some p ∧ PtIs h v p := by
  induction x with
  | nil => intro i v e; cases e
  | cons a _ ih =>
    intro i v e
    cases i with
    | zero => cases e; exact ⟨_, rfl, a⟩
    | succ i => exact ih e
theorem PtsAre.snoc {h : Heap} {vs : List Value} {ps : List (Option (Int × Int))} {v : Value} {p : Option (Int × Int)} (x : PtsAre h vs ps) (y : PtIs h v p) : PtsAre h (vs ++ [v]) (ps ++ [p]) := by
  induction x with
  | nil => exact .cons y .nil
  | cons a _ ih => exact .cons a ih
theorem map_snoc {ps : List (Option (Int × Int))} {xs : List Str} {p : Option (Int × Int)} {x : Str} {i : Nat} (h : (ps.take i).map wrP = xs.map some) (hp : ps[i]? = some p) (hx : wrP p = some x) : (ps.take (i + 1)).map wrP = (xs ++ [x]).map some := by
  rw [List.take_add_one, hp]
  simp [h, hx]
abbrev lobj (vs : Array Value) (c : Nat) : Obj := { cls := .type "list", dict := none, data := .seq vs c, slots := #[] }
theorem map_loop {w : World} {mean : ExcName → Option Value} {mg mb : Str → Option Value} {b0 h0 : Heap} {A : Around} {l : List Env} {z TI I D S : Addr} {vs : List Value} {pts : List (Option (Int × Int))} {res : Value} {R : Result → Shared → Prop} {s0 : Shared}
    (X : (hd.heap_39 w.params).In b0) (T : Top topProg lo0 mean mg mb b0) (B0 : Below A b0 l h0) (hh : A.handled = none) (hdep : A.depth ≤ 385) (hun : A.units ≤ 3850)
    (hz : IsMap h0 z TI (.ref 36)) (hTI : IsOne h0 TI (.ref I)) (hl : h0.IsList D vs.toArray) (hp : PtsAre h0 vs pts) (hI : h0.get? I = none) (hS : h0.get? S = none) (hSI : S ≠ I) (hn : vs.length ≤ 100)
    (hok : ∀ h' tk lst c, h0.StaysIn h' → h'.get? S = some (lobj (strValues lst).toArray c) → pts.map wrP = (lst.map (·.1)).map some → R (.ok (.ret res)) { s0 with heap := h', toks := tk })
    (herr : ∀ h' tk e, Ex l h0 h' → Fly l e "ValueError" h0 h' → (∃ p ∈ pts, wrP p = none) → R (.error (.ref e)) { s0 with heap := h', toks := tk }) :
    ∀ (k i : Nat) (h : Heap) (tk : Nat) (lst : List (Str × Tok)) (c : Nat), vs.length - i = k → i ≤ vs.length → h0.StaysIn h → h.IsListIter I D i → h.get? S = some (lobj (strValues lst).toArray c) → (pts.take i).map wrP = (lst.map (·.1)).map some →
      codeAny (model prog0 w) A (.builtin "list.extend.loop" ⟨[.ref S, .ref z, res], []⟩) R { s0 with heap := h, toks := tk } := by
  have hlen := hp.length
  have hzI : z ≠ I := by
    rintro rfl
    have h9 : h0.get? z = some _ := hz
    rw [hI] at h9; cases h9
  intro k
  induction k with
  | zero =>
    intro i h tk lst c hk hi st hit hSo hacc
    have hin : i = vs.length := by omega
    refine codeAny_builtin F.entry_extend_loop ?_
    rw [Around.under_plainId F.plain_extend_loop _]
    show wpAny _ A.in1 (pyNext (.ref z) >>= _) _ _ _
    refine wpAny_bind (pyNext_map_end hh (st _ _ hz) (st _ _ hTI) hit (hl.at fun o e => st D o e) (xs := vs.toArray) (by rw [hin]; simp) fun h' hx => ?_)
    refine wpAny_pure (hok h' tk lst c (fun b o e => hx b o (fun q => by rw [q, hI] at e; cases e) (st b o e)) (hx _ _ hSI hSo) ?_)
    rw [hin, hlen, List.take_length] at hacc
    exact hacc
  | succ k ih =>
    intro i h tk lst c hk hi st hit hSo hacc
    have hlt : i < vs.length := by omega
    have hx : vs.toArray[i]? = some vs[i] := by simp [hlt]
    obtain ⟨p, hpi, hpt⟩ := hp.get (show vs[i]? = some vs[i] by simp [hlt])
    refine codeAny_builtin F.entry_extend_loop ?_
    rw [Around.under_plainId F.plain_extend_loop _]
    show wpAny _ A.in1 (pyNext (.ref z) >>= _) _ _ _
    refine wpAny_bind (pyNext_map_item (st _ _ hz) (st _ _ hTI) hit (hl.at fun o e => st D o e) hx hzI fun h₁ hit₁ hs₁ => ?_)
    have st₁ : h0.StaysIn h₁ := fun b o e => hs₁.extBut b o (fun q => by rw [q, hI] at e; cases e) (st b o e)
    have hS₁ : h₁.get? S = some (lobj (strValues lst).toArray c) := hs₁.extBut _ _ hSI hSo
    have BB := Below.ex B0 (.of_stays st₁)
    have B₁ : Below A.in1.in1 b0 l h₁ := ⟨BB.stack, BB.stays, BB.frames⟩
    refine codeAny_mono (fv_spec (s := { s0 with heap := h₁, toks := tk }) B₁ X T hh (by show A.depth ≤ 390; omega) (by show A.units + 1 + 1 ≤ 3900; omega) (hpt.keeps st₁)) fun r s' hr => ?_
    rcases hr with ⟨v, rfl, kk, sm, x, tv, hw, rfl⟩ | ⟨hC, e, rfl, sm, ex, fl⟩
    · rw [same_eq sm]
      show wpAny _ A.in1 (updateSeq S (·.push (.str x tv)) >>= _) _ _ _
      have hS₂ := kk _ _ hS₁
      have hln : (strValues lst).length ≤ 100 := by
        have e1 := congrArg List.length hacc
        simp [strValues] at e1 ⊢
        omega
      have e2 : (strValues (lst ++ [(x, tv)])).toArray = (strValues lst).toArray.push (.str x tv) := by simp [strValues]
      have hS₃ := Heap.get?_update_self (Obj.mapSeq (·.push (.str x tv))) hS₂ rfl
      have hS₄ : ∃ c', (s'.heap.update S (Obj.mapSeq (·.push (.str x tv)))).get? S = some (lobj (strValues (lst ++ [(x, tv)])).toArray c') := ⟨_, by rw [e2]; exact hS₃⟩
      obtain ⟨c', hS₄⟩ := hS₄
      refine wpAny_bind (wpAny_updateSeq hS₂ rfl (wpAny_pure ⟨plainId_quiet F.plain_extend_loop _, ih (i + 1) _ _ (lst ++ [(x, tv)]) c' (by omega) hlt (fun b o e => ?_) ?_ ?_ ?_⟩) ?_ ?_)
      · exact (Heap.get?_update_other _ _ (fun q : S = b => by rw [← q, hS] at e; cases e)).trans (kk b o (st₁ b o e))
      · exact (hit₁.at fun o e => kk _ _ e).at fun o e => (Heap.get?_update_other _ _ hSI).trans e
      · exact hS₄
      · rw [List.map_append]; exact map_snoc hacc hpi hw
      · show (strValues lst).toArray.size ≤ sizeLine
        rw [sizeLine_eq]; simp only [List.size_toArray]; omega
      · show ((strValues lst).toArray.push (.str x tv)).size ≤ sizeLine + 1
        rw [sizeLine_eq, Array.size_push]; simp only [List.size_toArray]; omega
    · rw [same_eq sm]
      have st' : h0.StaysIn ({ s0 with heap := h₁, toks := tk } : Shared).heap := st₁
      exact ⟨fl.ty, herr _ _ e ((Ex.of_stays st').trans ex) (fl.mono st') ⟨p, List.mem_of_getElem? hpi, hC⟩⟩
end Mine

end
theorem Mine.flush36 : True := by
  w_top off
  first | walk1 | trivial
section
open PySem PySem.W PyProof.Rows PySem.Calls PySem.Builtin PySem.Builtin.Str
set_option maxRecDepth 100000
set_option maxHeartbeats 4000000
namespace Mine
theorem wr_len {p : Option (Int × Int)} {x : Str} (h : wrP p = some x) : x.length ≤ 4 := by
  rcases p with _ | ⟨r, c⟩
  · cases h; decide
  · replace h : (if inB r c then some (wr r c) else none) = some x := h
    by_cases q : inB r c
    · rw [if_pos q] at h
      cases h
      have := (num40' (k := r + 1) (by have := q.1; omega) (by have := q.2.1; omega)).2
      unfold wr
      rw [Str.length_append, len_item]; omega
    · rw [if_neg q] at h; cases h
theorem join_ok {pts : List (Option (Int × Int))} {xs : List Str} (h : pts.map wrP = xs.map some) (hn : pts.length ≤ 100) : JoinOk (Str.ofString ",") xs = true := by
  have hl : xs.length = pts.length := by have := congrArg List.length h; simpa using this.symm
  have hB : ∀ y ∈ xs, y.length ≤ 4 := fun y hy => by
    have : some y ∈ pts.map wrP := by rw [h]; exact List.mem_map_of_mem hy
    obtain ⟨p, _, hp⟩ := List.mem_map.mp this
    exact wr_len hp
  have h1 : (Str.ofString ",").length = 1 := by decide
  unfold JoinOk
  rw [StrLaws.joinFits (B := 4) hB (by rw [h1]; omega)]
  rfl
theorem call_join_map {w : World} {mean : ExcName → Option Value} {mg mb : Str → Option Value} {b0 h0 : Heap} {A : Around} {l : List Env} {z TI I D : Addr} {vs : List Value} {pts : List (Option (Int × Int))} {s : Shared} {t : Tok} {Q : Value → Shared → Prop} {E : Value → Shared → Prop}
    (X : (hd.heap_39 w.params).In b0) (T : Top topProg lo0 mean mg mb b0) (B0 : Below A b0 l h0) (hh : A.handled = none) (hdep : A.depth ≤ 380) (hun : A.units ≤ 3800)
    (st : h0.StaysIn s.heap) (hz : IsMap h0 z TI (.ref 36)) (hTI : IsOne h0 TI (.ref I)) (hl : h0.IsList D vs.toArray) (hp : PtsAre h0 vs pts) (hI : h0.get? I = none) (hit : s.heap.IsListIter I D 0) (hn : vs.length ≤ 100) (hsz : h0.objs.size ≤ s.heap.objs.size)
    (hok : ∀ h' tk t' xs, h0.StaysIn h' → pts.map wrP = xs.map some → Q (.str (Txt.join (Str.ofString ",") xs) t') { s with heap := h', toks := tk })
    (herr : ∀ h' tk e, Ex l h0 h' → Fly l e "ValueError" h0 h' → (∃ p ∈ pts, wrP p = none) → E (.ref e) { s with heap := h', toks := tk }) :
    wpAny (model prog0 w) A (call (.builtin "str.join") [.str (Str.ofString ",") t, .ref z]) Q E s := by
  have hT : ∀ {s' : Shared}, h0.StaysIn s'.heap → s'.TypeIs (.ref z) "map" := fun k => ⟨_, k _ _ hz, rfl⟩
  have hS0 : h0.get? s.heap.objs.size = none := Heap.get?_none_of_le hsz
  have hSI : s.heap.objs.size ≠ I := by
    obtain ⟨o, ho, _⟩ := hit
    exact Nat.ne_of_gt (Heap.lt_size ho)
  have hSz : s.heap.objs.size ≠ z := Nat.ne_of_gt (Heap.lt_size (st _ _ hz))
  refine wpAny_call (codeAny_call_builtin F.slot_str_join.plain F.entry_str_join (F.slot_str_join.check _ _ _ _ _ _ _ _ (typeIs_str _ _ _) (F.args_str_join_2 _ _) ?_))
  rw [join_tree_other]
  refine wpAny_bind (wpAny_typeOf (hT st) ?_)
  show wpAny _ A.in1 ((pyIter (.ref z)).tryCatch _ >>= fun it => collect it >>= fun items => joinTail (Str.ofString ",") items) _ _ s
  refine wpAny_bind (wpAny_tryCatch (pyIter_map (st _ _ hz) ?_))
  refine wpAny_bind ?_
  unfold collect
  refine wpAny_bind (wpAny_runValue (codeAny_builtin F.entry_proto_collect ?_))
  rw [Around.under_plainId F.plain_proto_collect _]
  show wpAny _ A.in1.in1 (newList [] >>= fun l => again (.builtin "list.__iadd__" ⟨[l, .ref z], []⟩)) _ _ s
  refine wpAny_bind (wpAny_newObj_type ?_)
  refine wpAny_pure ⟨plainId_quiet F.plain_list_iadd _, codeAny_builtin F.entry_list_iadd ?_⟩
  rw [Around.under_plainId F.plain_list_iadd _]
  have st₁ : h0.StaysIn (s.heap.push { cls := .type "list", data := .seq ([] : List Value).toArray }) := fun b o e => Heap.get?_push_of_some _ (st b o e)
  show wpAny _ A.in1.in1 (Builtin.List.listExtendWith (.ref s.heap.objs.size) (.ref z) (.ref s.heap.objs.size)) _ _ _
  unfold Builtin.List.listExtendWith
  refine wpAny_bind (wpAny_typeOf (hT st₁) ?_)
  have h1 : Builtin.List.listSameRef (.ref s.heap.objs.size) (.ref z) = false := by simp [Builtin.List.listSameRef, hSz]
  have h2 : (Value.type "map" == Value.type "list") = false := by decide
  have h3 : (Value.type "map" == Value.type "tuple") = false := by decide
  simp only [h1, h2, h3, Bool.or_false, Bool.false_eq_true, if_false]
  refine wpAny_bind (pyIter_map (st₁ _ _ hz) ?_)
  refine wpAny_bind (wpAny_holding ?_)
  unfold Builtin.List.listLengthHint
  refine wpAny_bind (wpAny_specialOf (hT st₁) map_no_len ?_)
  show wpAny _ A.in1.in1 (specialOf (Value.ref z) (Str.ofString "__length_hint__") >>= _) _ _ _
  refine wpAny_bind (wpAny_specialOf (hT st₁) map_no_hint ?_)
  refine wpAny_pure ?_
  show wpAny _ A.in1.in1 (rule "list.extend.makes-room" >>= fun _ => Builtin.List.listTouch (.ref s.heap.objs.size) >>= fun _ =>
    again (.builtin "list.extend.loop" ⟨[.ref s.heap.objs.size, .ref z, .ref s.heap.objs.size], []⟩)) _ _ _
  refine wpAny_bind (wpAny_rule ?_)
  have hS₁ : (s.heap.push { cls := .type "list", data := .seq ([] : List Value).toArray }).get? s.heap.objs.size = some { cls := .type "list", data := .seq ([] : List Value).toArray } := Heap.get?_push_size _ rfl
  refine wpAny_bind ?_
  show wpAny _ A.in1.in1 (updateSeq s.heap.objs.size (·.push .none) >>= fun _ => updateSeq s.heap.objs.size (·.pop)) _ _ _
  refine wpAny_bind (wpAny_updateSeq hS₁ rfl ?_)
  have hS₂ := Heap.get?_update_self (Obj.mapSeq (·.push Value.none)) hS₁ rfl
  refine wpAny_updateSeq hS₂ rfl ?_
  have hS₃ := Heap.get?_update_self (Obj.mapSeq (·.pop)) hS₂ rfl
  have oth : ∀ b o, b ≠ s.heap.objs.size → (s.heap.push { cls := .type "list", data := .seq ([] : List Value).toArray }).get? b = some o →
      (((s.heap.push { cls := .type "list", data := .seq ([] : List Value).toArray }).update s.heap.objs.size (Obj.mapSeq (·.push Value.none))).update s.heap.objs.size (Obj.mapSeq (·.pop))).get? b = some o :=
    fun b o hb e => (Heap.get?_update_other _ _ (Ne.symm hb)).trans ((Heap.get?_update_other _ _ (Ne.symm hb)).trans e)
  have BB : Below A.in1 b0 l h0 := ⟨B0.stack, B0.stays, B0.frames⟩
  refine wpAny_pure ⟨plainId_quiet F.plain_extend_loop _, ?_⟩
  have hlen := hp.length
  refine map_loop (s0 := s) (z := z) (TI := TI) (I := I) (D := D) (vs := vs) (pts := pts) X T BB hh (by show A.depth ≤ 385; omega) (by show A.units + 1 ≤ 3850; omega) hz hTI hl hp hI hS0 hSI hn ?_ ?_ vs.length 0 _ s.toks [] _ rfl (Nat.zero_le _)
    (fun b o e => oth b o (fun q => by rw [q, hS0] at e; cases e) (st₁ b o e)) (hit.at fun o e => oth _ _ (Ne.symm hSI) (Heap.get?_push_of_some _ e)) hS₃ rfl
  · intro h' tk lst c k' hS' hacc
    refine wpAny_bind (wpAny_load hS' ?_)
    refine wpAny_pure ?_
    have hok' := join_ok hacc (by omega)
    unfold JoinOk at hok'
    rw [Bool.not_eq_true'] at hok'
    have g : Gives (joinTail (Str.ofString ",") (strValues lst)) (joinMade (Str.ofString ",") lst) := by
      have g0 := gives_joinTail (Str.ofString ",") lst hok'
      cases lst with
      | nil => exact g0
      | cons p r => cases r with
        | nil => exact g0
        | cons q r' => exact g0
    exact g prog0 w A (wants Q E) _ (post_join lst ⟨joinFit_length hok', fun t' k => hok h' k t' _ k' hacc⟩)
  · intro h' tk e ex fl hbad
    exact herr h' tk e ex fl hbad
end Mine

end
theorem Mine.flush37 : True := by
  w_top off
  first | walk1 | trivial
section
open PySem PySem.W PyProof.Rows PySem.Calls
set_option maxRecDepth 100000
set_option maxHeartbeats 8000000
namespace Mine
local macro_rules | `(tactic| walk_at "m_enter") => `(tactic| (refine' enter ?B ?X ?T ?ho ?hcd ?hr ?hb ?hl ?_ ?c2 ?c3 ?c4 ?c5; (case B => assumption); (case X => assumption); (case T => assumption); (case ho => k_is); (case hcd => k_is); (case hr => (simp only [recursionLimit]; omega)); (case hb => exact BindsTo.of_eq rfl); (case c5 => decide); (case hl => exact locs rfl); (case c2 => exact rfl); (case c3 => exact rfl); (case c4 => exact rfl); k_whole; intro L' h' F' N' X' T'; (try dsimp only); (try k_fold)))
theorem filled_Fvl : PySem.Challenge.rw_md0057_01.prog = PySem.Challenge.rw_md0057_01.prog ∧ hd.heap_39 = hd.heap_39 := by
  k_fill
  exact ⟨rfl, rfl⟩
theorem isList_keeps {h h' : Heap} {D : Addr} {vs : Array Value} (x : h.IsList D vs) (k : h.StaysIn h') : h'.IsList D vs := x.at fun o e => k D o e
theorem hide_new {h h' : Heap} {I : Addr} (k : h.StaysIn h') (hI : h.get? I = none) : h.StaysIn (hideAll h' [I]) := fun b o e => hide_get (k b o e) (fun q => by rw [q, hI] at e; cases e)
theorem fvl_spec {w : World} {mean : ExcName → Option Value} {mg mb : Str → Option Value} {b0 : Heap} {A : Around} {l : List Env} {s : Shared} {D : Addr} {vs : List Value} {pts : List (Option (Int × Int))}
    (B : Below A b0 l s.heap) (X : (hd.heap_39 w.params).In b0) (T : Top topProg lo0 mean mg mb b0) (hh : A.handled = none) (hdep : A.depth ≤ 370) (hun : A.units ≤ 3700)
    (hl : s.heap.IsList D vs.toArray) (hp : PtsAre s.heap vs pts) (hn : vs.length ≤ 100) :
    codeAny (model prog0 w) A (.call (.ref 43) ⟨[.ref D], []⟩) (RetOr l s (fun u _ => ∃ xs tk, pts.map wrP = xs.map some ∧ u = .str (Txt.join (Str.ofString ",") xs) tk) (∃ p ∈ pts, wrP p = none)) s := by
  walk_at "m_enter"
  rename_i L' h' F' N' X' T'
  k_steps
  refine call_map_2 (isList_keeps hl F'.keep) fun h1 hz hTI hit hsz hst => ?_
  have hIn : h'.get? h'.objs.size = none := Heap.get?_none_of_le (Nat.le_refl _)
  have st0 : h'.StaysIn (hideAll h1 [h'.objs.size]) := hide_new hst hIn
  have F1 := F'.keeps hst
  (try k_fold)
  k_steps
  refine call_join_map (h0 := hideAll h1 [h'.objs.size]) (vs := vs) (pts := pts) X T (Below.ex (Below.push B F') (.of_stays st0)) hh (by rw [depth_deeper]; omega) (by rw [units_deeper]; omega) (fun b o e => of_hideAll _ e)
    (hide_get hz (by show h'.objs.size + 2 ≠ h'.objs.size; omega)) (hide_get hTI (by show h'.objs.size + 1 ≠ h'.objs.size; omega)) (isList_keeps hl fun b o e => st0 _ _ (F'.keep b o e)) (hp.keeps fun b o e => st0 _ _ (F'.keep b o e))
    (hideAll_none _ (List.mem_singleton.mpr rfl)) hit hn (Nat.le_of_eq (hideAll_size _ _)) ?_ ?_
  · intro h2 tk2 t2 xs k2 hxs
    k_steps
    (try dsimp only)
    exact .inl ⟨_, rfl, fun b o e => k2 _ _ (st0 _ _ (F'.keep b o e)), ⟨rfl, rfl, rfl⟩, xs, _, hxs, rfl⟩
  · intro h2 tk2 e2 ex fl hbad
    refine leave_next B (.of_stays F'.keep) (Own.of_fr (cl := []) F' rfl) ((Ex.of_stays st0).trans ex) (fl.mono st0) fun h3 x1 x2 => ?_
    exact .inr ⟨hbad, e2, rfl, ⟨rfl, rfl, rfl⟩, x1, x2⟩

end Mine

end
theorem Mine.flush38 : True := by
  w_top off
  first | walk1 | trivial
section
open PySem PySem.W PyProof.Rows PySem.Calls
set_option maxRecDepth 100000
set_option maxHeartbeats 4000000
namespace Mine
/-- nothing is raised -/
abbrev N0 : Value → Shared → Prop := fun _ _ => False
section
variable {G : Ctx → Prop} {M : Model} {A : Around} {s : Shared}
theorem codeG_again (cG : Closed G) {c : Code} {R : Result → Shared → Prop} (hq : c.quiet = true) (I : Nat → Shared → Prop)
    (turn : ∀ n s, I n s → wpG G M (A.under c) (M.den c) (fun fin s' => match fin with
        | .done f => R (.ok f) s'
        | .again c' => (c' = c ∧ ∃ m, m < n ∧ I m s') ∨ (c'.quiet = true ∧ codeG G M A c' R s')) (fun e s' => R (.error e) s') s) :
    ∀ (n : Nat) (s : Shared), I n s → codeG G M A c R s := by
  intro n
  induction n using Nat.strongRecOn with
  | ind n ih =>
    intro s h
    refine codeG_of_tree cG (wpG_mono (turn n s h) (fun fin s' hf => ?_) fun _ _ h' => h')
    cases fin with
    | done f => exact hf
    | again c' =>
      rcases hf with ⟨rfl, m, hm, hI⟩ | hf
      · exact ⟨hq, ih m hm s' hI⟩
      · exact hf
end
section
variable {G : Ctx → Prop} {prog : Program} {w : World} {A : Around} {s : Shared} {env : Env}
theorem codeG_for (cG : Closed G) {R : Result → Shared → Prop} {x : Str} {px : Pos} {it : Value} {body : List Stmt} (I : Nat → Shared → Prop)
    (turn : ∀ n s, I n s → wpAny (model prog w) A (pyNext it) (fun r s₁ => match r with
      | none => R (.ok .next) s₁
      | some v => wpAny (model prog w) A (assign (.Name x px) env v) (fun _ s₂ => wpG G (model prog w) A (execs body env) (fun f s₃ => match f with
          | .next | .cont => ∃ m, m < n ∧ I m s₃
          | .brk => R (.ok .next) s₃
          | .ret v => R (.ok (.ret v)) s₃) N0 s₂) N0 s₁) N0 s)
    (n : Nat) (h : I n s) : codeG G (model prog w) A (.forLoop (.Name x px) it body [] env) R s := by
  refine codeG_again cG rfl I (fun n s hI => ?_) n s h
  show wpG G _ _ ((forTurn (.Name x px) it body [] env).onRaise (fun x => do noteFrame x env; theTreesLotGoes x)) _ _ s
  refine wpG_onRaise (wpG_mono (E := N0) ?_ (fun _ _ q => q) fun _ _ q => q.elim)
  simp only [forTurn]
  refine wpG_bind (wpG_standAt (wpG_bind (wpG_onRaise (wpG_mono (wpG_any (turn n s hI)) (fun r s₁ h₁ => ?_) fun _ _ q => q.elim))))
  cases r with
  | none => exact wpG_pure (.inr ⟨rfl, codeG_any (codeAny_block (wpAny_execs_nil h₁))⟩)
  | some v =>
    refine wpG_bind (wpG_pure ?_)
    refine wpG_bind (wpG_any (wpAny_mono h₁ (fun _ s₂ h₂ => wpG_bind (wpG_mono h₂ (fun f s₃ h₃ => ?_) fun _ _ q => q)) fun _ _ q => q))
    cases f with
    | next => exact wpG_pure (.inl ⟨rfl, h₃⟩)
    | cont => exact wpG_pure (.inl ⟨rfl, h₃⟩)
    | brk => exact wpG_pure h₃
    | ret v => exact wpG_pure h₃

end
end Mine

end
theorem Mine.flush39 : True := by
  w_top off
  first | walk1 | trivial
section
open PySem PySem.W PyProof.Rows PySem.Calls
set_option maxRecDepth 100000
set_option maxHeartbeats 4000000
namespace Mine
/-- the iterator stands in the ledger -/
def HasIt (own : List (Addr × Obj)) (I : Addr) : Prop := ∃ oI l i, (I, oI) ∈ own ∧ oI.cls = .type "list_iterator" ∧ oI.data = .fields #[.ref l, .int i 0]
def StepL (h₀ : Heap) (L I : Addr) (own : List (Addr × Obj)) (Jn : (Str → Option Value) → List (Addr × Obj) → Prop) (s₁ : Shared) (Q : Flow → Shared → Prop) (f : Flow) (s₂ : Shared) : Prop :=
  match f with
  | .ret v => Q (.ret v) s₂
  | .brk => Q .next s₂
  | _ => ∃ h' tk m' news', s₂ = { s₁ with heap := h', toks := tk } ∧ Fr h₀ L h' m' ∧ News h₀ L h' (own ++ news') ∧ (∀ p ∈ news', p.1 ≠ I) ∧ Jn m' news'
theorem ownOf_off {h₀ h : Heap} {fp fix : List Addr} (hf : ∀ b ∈ fp, b ∉ fix) : OwnOff (ownOf h₀ fp h) fix := fun p hp b hb e => hf p.1 (ownOf_sub p hp) (e ▸ hb)
def IterOk (h₀ : Heap) (L : Addr) (fix : List Addr) (J : Nat → (Str → Option Value) → List (Addr × Obj) → Prop) (n : Nat) (P : Nat → Value → Prop) (s : Shared) (xv : Value) (s₁ : Shared) : Prop :=
  ∃ (ax : Addr) (items : Array Value) (m : Str → Option Value) (news : List (Addr × Obj)) (h : Heap) (tk : Nat), xv = .ref ax ∧ s₁ = { s with heap := h, toks := tk } ∧ h.IsList ax items ∧ items.size = n ∧
    (∀ i v, items[i]? = some v → P i v) ∧ h₀.get? ax = none ∧ ax ≠ L ∧ ax ∉ fix ∧ Fr h₀ L h m ∧ News h₀ L h news ∧ (∀ b ∈ fix, ∃ o, h.get? b = some o) ∧ J 0 m news
theorem iter_ok {h₀ : Heap} {L ax : Addr} {fix : List Addr} {J : Nat → (Str → Option Value) → List (Addr × Obj) → Prop} {n : Nat} {P : Nat → Value → Prop} {s : Shared} {its : List Value} {c tk : Nat} {m : Str → Option Value} {big news : List (Addr × Obj)} {h : Heap}
    (F : Fr h₀ L h m) (N : News h₀ L h big) (hax : (ax, W.listOf its.toArray c) ∈ big) (hn : its.length = n) (hP : ∀ i v, its[i]? = some v → P i v) (hsub : ∀ p ∈ news, p ∈ big) (hfix : ∀ b ∈ fix, ∃ o, (b, o) ∈ news) (hoff : ax ∉ fix) (hJ : J 0 m news) :
    IterOk h₀ L fix J n P s (.ref ax) { s with heap := h, toks := tk } :=
  ⟨ax, its.toArray, m, news, h, tk, rfl, rfl, ⟨_, (N _ hax).1, rfl, _, rfl⟩, by simpa using hn, fun i v e => hP i v (by simpa using e), (N _ hax).2.2, (N _ hax).2.1, hoff, F, fun p hp => N p (hsub p hp), fun b hb => let ⟨o, ho⟩ := hfix b hb; ⟨o, (N _ (hsub _ ho)).1⟩, hJ⟩
theorem forL {G : Ctx → Prop} {prog : Program} {w : World} {A : Around} {s : Shared} {env : Env} (cG : Closed G) (hh : A.handled = none) {h₀ : Heap} {Q : Flow → Shared → Prop} {x : Str} {px pos : Pos} {iter : Expr} {body : List Stmt} (fix : List Addr)
    (J : Nat → (Str → Option Value) → List (Addr × Obj) → Prop) (n : Nat) (P : Nat → Value → Prop) (hx : env.kindOf x = some .local)
    (hp : (env.scope.kind == .class || (env.scope.kind == .module && env.locals != env.globals)) = false) (hs : ∀ x, foldedSetIterable iter env x = pure x)
    (hi : wpAny (model prog w) A (eval iter env) (IterOk h₀ env.locals fix J n P s) N0 s)
    (turn : ∀ i v m₁ news₁ own I h tk, i < n → P i v → J i m₁ news₁ → (∀ p ∈ news₁, p.1 ≠ I) → HasIt own I → OwnOff own fix → Fr h₀ env.locals h (fun y => if y = x then some v else m₁ y) → News h₀ env.locals h (own ++ news₁) →
      wpG G (model prog w) A (execs body env) (StepL h₀ env.locals I own (J (i + 1)) { s with heap := h, toks := tk } Q) N0 { s with heap := h, toks := tk })
    (done : ∀ h' tk m' news', Fr h₀ env.locals h' m' → News h₀ env.locals h' news' → J n m' news' → Q .next { s with heap := h', toks := tk }) :
    wpG G (model prog w) A (exec (.For (.Name x px) iter body [] pos) env) Q N0 s := by
  rw [exec_For]
  refine wpG_bind (wpG_standAt (wpG_bind (wpG_any (wpAny_mono hi (fun xv s₁ h₁ => ?_) fun _ _ q => q))))
  obtain ⟨ax, items, m, news, h9, tk9, rfl, rfl, hls, rfl, hP, hnx, hLx, hfx, F, N, hfix, h0⟩ := h₁
  refine wpG_bind (wpG_of_eq (hs _) (wpG_pure (wpG_bind (wpG_standAt (wpG_bind (wpG_holding (wpG_any (wpAny_pyIter_list hls ?_))))))))
  have hne : ax ≠ h9.objs.size := by
    obtain ⟨o, ho, _⟩ := hls
    exact Nat.ne_of_lt (Heap.lt_size ho)
  have W := Walks.list (prog := prog) (w := w) hh h9.objs.size ax hne items
  have hIf : h9.objs.size ∉ fix := fun hm => by
    obtain ⟨o, ho⟩ := hfix _ hm
    exact absurd (Heap.lt_size ho) (Nat.lt_irrefl _)
  have hfp : ∀ b ∈ [h9.objs.size, ax], b ∉ fix := fun b hb => by
    rcases List.mem_cons.mp hb with rfl | hb
    · exact hIf
    · rw [List.mem_singleton.mp hb]; exact hfx
  have hLf : env.locals ∉ [h9.objs.size, ax] := fun hm => by
    rcases List.mem_cons.mp hm with e | hm
    · exact absurd F.ns.lt (e ▸ Nat.lt_irrefl _)
    · exact hLx (List.mem_singleton.mp hm).symm
  have hIn : h₀.get? h9.objs.size = none := next_is_new F
  have hLI : env.locals ≠ h9.objs.size := fun e => hLf (by rw [e]; exact List.mem_cons_self ..)
  have old : ∀ b o, h₀.get? b = some o → b ≠ h9.objs.size := fun b o e q => by rw [q, hIn] at e; cases e
  unfold runOwn
  refine wpG_onRaise (wpG_run cG ?_)
  refine codeG_for cG (fun k s' => ∃ h' tk m' news' i, s' = { s with heap := h', toks := tk } ∧ (h'.IsListIter h9.objs.size ax i ∧ h'.IsList ax items) ∧ Fr h₀ env.locals h' m' ∧ News h₀ env.locals h' news' ∧ (∀ p ∈ news', p.1 ≠ h9.objs.size) ∧ J i m' news' ∧ i ≤ items.size ∧ k = items.size + 1 - i) ?_ (items.size + 1)
    ⟨_, tk9, m, news, 0, rfl, ⟨⟨_, Heap.get?_push_size _ rfl, rfl, rfl⟩, hls.at fun o e => Heap.get?_push_of_some _ e⟩, F.push _, (fun p hp => ⟨Heap.get?_push_of_some _ (N p hp).1, (N p hp).2⟩), (fun p hp => Nat.ne_of_lt (Heap.lt_size (N p hp).1)), h0, Nat.zero_le _, rfl⟩
  rintro k s' ⟨h', tk, m', news', i, rfl, hst', F', N', hnw', hJ, hi', rfl⟩
  have next : ∀ h₁ : Heap, (∀ b o, b ≠ h9.objs.size → h'.get? b = some o → h₁.get? b = some o) → Fr h₀ env.locals h₁ m' ∧ News h₀ env.locals h₁ news' := fun h₁ hk₁ =>
    ⟨⟨F'.ns.at' fun o e => hk₁ _ o hLI e, fun b o e => hk₁ b o (old b o e) (F'.keep b o e), F'.above⟩, fun p hp => ⟨hk₁ _ _ (hnw' p hp) (N' p hp).1, (N' p hp).2⟩⟩
  by_cases hlt : i < items.size
  · refine W.item i _ _ _ hlt hst' fun v h₁ tk₁ hPv hst₁ hk₁ => ?_
    obtain ⟨F₁, N₁⟩ := next h₁ fun b o hb e => hk₁ b o (by simpa using hb) e
    refine wpAny_assign_Name (wpAny_storeName_local hx F₁.ns (fun h₂ hn₂ hs₂ => ?_) hp)
    have F₂ := F₁.set hn₂ hs₂
    have Nown : News h₀ env.locals h₂ (ownOf h₀ [h9.objs.size, ax] h₂) := news_ownOf hLf
    have N₂ := N₁.set hs₂
    have hit : HasIt (ownOf h₀ [h9.objs.size, ax] h₂) h9.objs.size := by
      obtain ⟨oI, hoI, hcI, hdI⟩ := hst₁.1
      exact ⟨oI, ax, _, mem_ownOf (List.mem_cons_self ..) hIn ((hs₂.2 _ (Ne.symm hLI)).trans hoI), hcI, hdI⟩
    refine wpG_mono (turn i v m' news' (ownOf h₀ [h9.objs.size, ax] h₂) h9.objs.size h₂ _ hlt (hP i v hPv) hJ hnw' hit (ownOf_off hfp) F₂ (Nown.append N₂)) (fun f s₃ h₃ => ?_) fun _ _ e => e
    have go : (∃ h₄ tk₄ m₂ news₂, s₃ = { s with heap := h₄, toks := tk₄ } ∧ Fr h₀ env.locals h₄ m₂ ∧ News h₀ env.locals h₄ (ownOf h₀ [h9.objs.size, ax] h₂ ++ news₂) ∧ (∀ p ∈ news₂, p.1 ≠ h9.objs.size) ∧ J (i + 1) m₂ news₂) →
        ∃ m, m < items.size + 1 - i ∧ ∃ h' tk m' news' j, s₃ = { s with heap := h', toks := tk } ∧ (h'.IsListIter h9.objs.size ax j ∧ h'.IsList ax items) ∧ Fr h₀ env.locals h' m' ∧ News h₀ env.locals h' news' ∧ (∀ p ∈ news', p.1 ≠ h9.objs.size) ∧ J j m' news' ∧ j ≤ items.size ∧ m = items.size + 1 - j := by
      rintro ⟨h₄, tk₄, m₂, news₂, rfl, F₃, N₃, ha₃, hJ₃⟩
      refine ⟨items.size + 1 - (i + 1), by omega, h₄, tk₄, m₂, news₂, i + 1, rfl, ?_, F₃, N₃.right, ha₃, hJ₃, hlt, rfl⟩
      refine W.frame (i + 1) _ _ hst₁ fun b hb o e => ?_
      have e₂ : h₂.get? b = some o := (hs₂.2 b fun q => hLf (q ▸ hb)).trans e
      cases hn : h₀.get? b with
      | some o₀ =>
        have : o₀ = o := by have := F₂.keep b o₀ hn; rw [e₂] at this; exact (Option.some.inj this).symm
        exact this ▸ F₃.keep b o₀ hn
      | none => exact (N₃ _ (List.mem_append_left _ (mem_ownOf hb hn e₂))).1
    cases f with
    | ret v => exact h₃
    | brk => exact h₃
    | cont => exact go h₃
    | next => exact go h₃
  · have hin : i = items.size := by omega
    subst hin
    refine W.done _ _ _ hst' fun h₁ tk₁ hk₁ => ?_
    obtain ⟨F₁, N₁⟩ := next h₁ fun b o hb e => hk₁ b o (by simpa using hb) e
    exact done h₁ tk₁ m' news' F₁ N₁ hJ
theorem wp_app {G : Ctx → Prop} {M : Model} {A : Around} {E : Value → Shared → Prop} {env : Env} {post : List Stmt} {Q : Flow → Shared → Prop} (N : Shared → Prop) (hn : ∀ s', N s' → wpG G M A (execs post env) Q E s') {Γ : Ctx} (hi : Γ.In A) (hg : G Γ) :
    ∀ (pre : List Stmt) (p : Pos) (s : Shared), Sem.wp M Γ (execs pre env) (fun f _ s' => match f with | .next => N s' | f => Q f s') (fun e _ s' => E e s') p s → Sem.wp M Γ (execs (pre ++ post) env) (fun f _ s' => Q f s') (fun e _ s' => E e s') p s
  | [], p, s, h => by
    rw [arm_execs_nil, Sem.wp_pure'] at h
    exact hn s h Γ p hi hg
  | st :: pre, p, s, h => by
    show Sem.wp M Γ (execs (st :: (pre ++ post)) env) _ _ p s
    rw [arm_execs_cons, Sem.wp_bind'] at h ⊢
    refine Sem.wp_mono M Γ _ (fun f p' s' hf => ?_) (fun _ _ _ x => x) p s h
    cases f with
    | next => exact wp_app N hn hi hg pre p' s' hf
    | brk => exact hf
    | cont => exact hf
    | ret v => exact hf
theorem gx_app {G : Ctx → Prop} {M : Model} {A : Around} {E : Value → Shared → Prop} {env : Env} {s : Shared} {post : List Stmt} {Q : Flow → Shared → Prop} (N : Shared → Prop) (pre : List Stmt)
    (h : wpG G M A (execs pre env) (fun f s' => match f with | .next => N s' | f => Q f s') E s) (hn : ∀ s', N s' → wpG G M A (execs post env) Q E s') : wpG G M A (execs (pre ++ post) env) Q E s :=
  fun Γ p hi hg => wp_app N hn hi hg pre p s (h Γ p hi hg)
end Mine

end
theorem Mine.flush40 : True := by
  w_top off
  first | walk1 | trivial
section
open PySem PySem.W PyProof.Rows PySem.Calls
set_option maxRecDepth 100000
set_option maxHeartbeats 4000000
namespace Mine
abbrev Ledger := List (Addr × Obj)
abbrev qL : Str := Str.ofString "law.<locals>.<lambda>"
abbrev tupObj (vs : Array Value) (n : Nat) : Obj := { cls := .type "tuple", data := .seq vs n }
/-- a point that the ledger bears -/
inductive PtIn (tail : Ledger) : Value → Option (Int × Int) → Prop
  | none : PtIn tail .none none
  | some {t : Addr} {r c : Int} {t1 t2 : Tok} {n : Nat} : (t, tupObj #[.int r t1, .int c t2] n) ∈ tail → PtIn tail (.ref t) (some (r, c))
inductive PtsIn (tail : Ledger) : List Value → List (Option (Int × Int)) → Prop
  | nil : PtsIn tail [] []
  | cons {v : Value} {p : Option (Int × Int)} {vs : List Value} {ps : List (Option (Int × Int))} : PtIn tail v p → PtsIn tail vs ps → PtsIn tail (v :: vs) (p :: ps)
theorem PtIn.mono {tail tail' : Ledger} {v : Value} {p : Option (Int × Int)} (x : PtIn tail v p) (k : ∀ e ∈ tail, e ∈ tail') : PtIn tail' v p := by
  cases x with
  | none => exact .none
  | some h => exact .some (k _ h)
theorem PtsIn.mono {tail tail' : Ledger} {vs : List Value} {ps : List (Option (Int × Int))} (x : PtsIn tail vs ps) (k : ∀ e ∈ tail, e ∈ tail') : PtsIn tail' vs ps := by
  induction x with
  | nil => exact .nil
  | cons a _ ih => exact .cons (a.mono k) ih
theorem PtsIn.snoc {tail : Ledger} {vs : List Value} {ps : List (Option (Int × Int))} {v : Value} {p : Option (Int × Int)} (x : PtsIn tail vs ps) (y : PtIn tail v p) : PtsIn tail (vs ++ [v]) (ps ++ [p]) := by
  induction x with
  | nil => exact .cons y .nil
  | cons a _ ih => exact .cons a ih
theorem PtIn.is {tail : Ledger} {h : Heap} {v : Value} {p : Option (Int × Int)} (x : PtIn tail v p) (k : Led tail h) : PtIs h v p := by
  cases x with
  | none => exact .none
  | some hm => exact .some ⟨_, k _ hm, rfl, _, rfl⟩
theorem PtsIn.are {tail : Ledger} {h : Heap} {vs : List Value} {ps : List (Option (Int × Int))} (x : PtsIn tail vs ps) (k : Led tail h) : PtsAre h vs ps := by
  induction x with
  | nil => exact .nil
  | cons a _ ih => exact .cons (a.is k) ih
/-- what a turn leaves in the ledger -/
def TailObj (o : Obj) : Prop := (o.cls = .type "tuple" ∧ ∃ vs n, o.data = .seq vs n) ∨ CodeObj qA o ∨ CodeObj qL o
abbrev Fix5 (L D : Addr) : List Addr := [L + 1 + 1, L + 1, D, 66, 94]
/-- law's frame in its loop -/
structure LSt (b0 : Heap) (L D : Addr) (own : Ledger) (i : Nat) (h : Heap) (m : Str → Option Value) (o1 o2 : Obj) (vs : List Value) (c : Nat) (ps1 ps2 : Array Value) (tail : Ledger) (pts : List (Option (Int × Int))) (v2 : Option Value) : Prop where
  F : Fr b0 L h m
  N : News b0 L h ((L + 1 + 1, o1) :: (L + 1, o2) :: (D, W.listOf vs.toArray c) :: (66, tabObj ps1) :: (94, tabObj ps2) :: (tail ++ own))
  d1 : o1.data = .cell (some (.ref D))
  d2 : o2.data = .cell v2
  P : PtsIn tail vs pts
  len : vs.length ≤ i
  t1 : TabIn qA b0 tail ps1
  t2 : TabIn qL b0 tail ps2
  ob : ∀ p ∈ tail, TailObj p.2
  off : OwnOff own (Fix5 L D)
section
variable {b0 : Heap} {L D : Addr} {own : Ledger} {i : Nat} {h h' : Heap} {m : Str → Option Value} {o1 o2 : Obj} {vs : List Value} {c : Nat} {ps1 ps2 : Array Value} {tail : Ledger} {pts : List (Option (Int × Int))} {v2 : Option Value}
theorem same_obj {news : Ledger} (N : News b0 L h news) {p q : Addr × Obj} (hp : p ∈ news) (hq : q ∈ news) (e : p.1 = q.1) : p.2 = q.2 := by
  have h1 := (N p hp).1
  rw [e, (N q hq).1] at h1
  exact (Option.some.inj h1).symm
theorem tail_ne_cell {news : Ledger} (N : News b0 L h news) {p : Addr × Obj} {b : Addr} {o : Obj} {v : Option Value} (hp : p ∈ news) (ht : TailObj p.2) (hb : (b, o) ∈ news) (hd : o.data = .cell v) : p.1 ≠ b := fun e => by
  have := same_obj N hp hb e
  rw [show p.2 = o from this] at ht
  rcases ht with ⟨_, vs, n, h1⟩ | ⟨vs, t, h1, _⟩ | ⟨vs, t, h1, _⟩ <;> rw [hd] at h1 <;> cases h1
theorem tail_ne_list {news : Ledger} (N : News b0 L h news) {p : Addr × Obj} {b : Addr} {its : Array Value} {n : Nat} (hp : p ∈ news) (ht : TailObj p.2) (hb : (b, W.listOf its n) ∈ news) : p.1 ≠ b := fun e => by
  have := same_obj N hp hb e
  rw [show p.2 = W.listOf its n from this] at ht
  rcases ht with ⟨h1, _⟩ | ⟨vs, t, h1, _⟩ | ⟨vs, t, h1, _⟩
  · injection h1 with h1; exact absurd h1 (by decide)
  · cases h1
  · cases h1
theorem tail_ne_tab {news : Ledger} (N : News b0 L h news) {p : Addr × Obj} {b : Addr} {ps : Array Value} (hp : p ∈ news) (ht : TailObj p.2) (hb : (b, tabObj ps) ∈ news) (hT : TriplesOk ps.toList) : p.1 ≠ b := by
  rcases ht with ⟨h1, _⟩ | h1 | h1
  · intro e
    have := same_obj N hp hb e
    rw [show p.2 = tabObj ps from this] at h1
    cases h1
  · exact code_off N hb hT hp h1
  · exact code_off N hb hT hp h1
theorem tail_ne_it {news : Ledger} (N : News b0 L h news) {I : Addr} (hI : HasIt own I) (ho : ∀ p ∈ own, p ∈ news) {p : Addr × Obj} (hp : p ∈ news) (ht : TailObj p.2) : p.1 ≠ I := fun e => by
  obtain ⟨oI, l, k, hm, hc, hd⟩ := hI
  have := same_obj N hp (ho _ hm) e
  rw [show p.2 = oI from this] at ht
  rcases ht with ⟨h1, _⟩ | ⟨vs, t, h1, h2⟩ | ⟨vs, t, h1, h2⟩
  · rw [hc] at h1; injection h1 with h1; exact absurd h1 (by decide)
  · rw [hd] at h1; cases h1; cases h2
  · rw [hd] at h1; cases h1; cases h2
namespace LSt
theorem memT (S : LSt b0 L D own i h m o1 o2 vs c ps1 ps2 tail pts v2) {p : Addr × Obj} (hp : p ∈ tail) : p ∈ (L + 1 + 1, o1) :: (L + 1, o2) :: (D, W.listOf vs.toArray c) :: (66, tabObj ps1) :: (94, tabObj ps2) :: (tail ++ own) :=
  .tail _ (.tail _ (.tail _ (.tail _ (.tail _ (List.mem_append_left _ hp)))))
theorem memO (S : LSt b0 L D own i h m o1 o2 vs c ps1 ps2 tail pts v2) {p : Addr × Obj} (hp : p ∈ own) : p ∈ (L + 1 + 1, o1) :: (L + 1, o2) :: (D, W.listOf vs.toArray c) :: (66, tabObj ps1) :: (94, tabObj ps2) :: (tail ++ own) :=
  .tail _ (.tail _ (.tail _ (.tail _ (.tail _ (List.mem_append_right _ hp)))))
theorem offT (S : LSt b0 L D own i h m o1 o2 vs c ps1 ps2 tail pts v2) : OwnOff (tail ++ own) (Fix5 L D) := fun p hp b hb => by
  rcases List.mem_append.mp hp with hp | hp
  · have hm := S.memT hp
    have ht := S.ob p hp
    rcases List.mem_cons.mp hb with rfl | hb
    · exact tail_ne_cell S.N hm ht (.head _) S.d1
    rcases List.mem_cons.mp hb with rfl | hb
    · exact tail_ne_cell S.N hm ht (.tail _ (.head _)) S.d2
    rcases List.mem_cons.mp hb with rfl | hb
    · exact tail_ne_list S.N hm ht (.tail _ (.tail _ (.head _)))
    rcases List.mem_cons.mp hb with rfl | hb
    · exact tail_ne_tab S.N hm ht (.tail _ (.tail _ (.tail _ (.head _)))) S.t1.1
    rw [List.mem_singleton.mp hb]
    exact tail_ne_tab S.N hm ht (.tail _ (.tail _ (.tail _ (.tail _ (.head _))))) S.t2.1
  · exact S.off p hp b hb
theorem newsT (S : LSt b0 L D own i h m o1 o2 vs c ps1 ps2 tail pts v2) : News b0 L h tail := fun p hp => S.N p (S.memT hp)
theorem led (S : LSt b0 L D own i h m o1 o2 vs c ps1 ps2 tail pts v2) : Led tail h := fun p hp => (S.N p (S.memT hp)).1
theorem keeps (S : LSt b0 L D own i h m o1 o2 vs c ps1 ps2 tail pts v2) (k : h.StaysIn h') : LSt b0 L D own i h' m o1 o2 vs c ps1 ps2 tail pts v2 :=
  ⟨S.F.keeps k, S.N.grown k, S.d1, S.d2, S.P, S.len, S.t1, S.t2, S.ob, S.off⟩
/-- the same with more in its tail, and the two tables anew -/
theorem more {m' : Str → Option Value} {codes : Ledger} {ps1' ps2' : Array Value} (S : LSt b0 L D own i h m o1 o2 vs c ps1 ps2 tail pts v2) (F : Fr b0 L h' m')
    (N : News b0 L h' ((L + 1 + 1, o1) :: (L + 1, o2) :: (D, W.listOf vs.toArray c) :: (66, tabObj ps1') :: (94, tabObj ps2') :: (tail ++ own))) (NC : News b0 L h' codes) (hk : ∀ p ∈ codes, TailObj p.2)
    (t1 : TabIn qA b0 (tail ++ codes) ps1') (t2 : TabIn qL b0 (tail ++ codes) ps2') : LSt b0 L D own i h' m' o1 o2 vs c ps1' ps2' (tail ++ codes) pts v2 := by
  refine ⟨F, fun p hp => ?_, S.d1, S.d2, S.P.mono fun e he => List.mem_append_left _ he, S.len, t1, t2, fun p hp => ?_, S.off⟩
  · rcases List.mem_cons.mp hp with rfl | hp
    · exact N _ (.head _)
    rcases List.mem_cons.mp hp with rfl | hp
    · exact N _ (.tail _ (.head _))
    rcases List.mem_cons.mp hp with rfl | hp
    · exact N _ (.tail _ (.tail _ (.head _)))
    rcases List.mem_cons.mp hp with rfl | hp
    · exact N _ (.tail _ (.tail _ (.tail _ (.head _))))
    rcases List.mem_cons.mp hp with rfl | hp
    · exact N _ (.tail _ (.tail _ (.tail _ (.tail _ (.head _)))))
    rcases List.mem_append.mp hp with hp | hp
    · rcases List.mem_append.mp hp with hp | hp
      · exact N _ (.tail _ (.tail _ (.tail _ (.tail _ (.tail _ (List.mem_append_left _ hp))))))
      · exact NC _ hp
    · exact N _ (.tail _ (.tail _ (.tail _ (.tail _ (.tail _ (List.mem_append_right _ hp))))))
  · rcases List.mem_append.mp hp with hp | hp
    · exact S.ob p hp
    · exact hk p hp
end LSt
end
end Mine

end
theorem Mine.flush41 : True := by
  w_top off
  first | walk1 | trivial
section
open PySem PySem.W PyProof.Rows PySem.Calls
set_option maxRecDepth 100000
set_option maxHeartbeats 4000000
namespace Mine
section
variable {b0 : Heap} {L D : Addr} {own : Ledger} {i : Nat} {h h' : Heap} {m : Str → Option Value} {o1 o2 : Obj} {vs : List Value} {c : Nat} {ps1 ps2 : Array Value} {tail : Ledger} {pts : List (Option (Int × Int))} {v2 : Option Value}
theorem cell_ne_tab {news : Ledger} (N : News b0 L h news) {a b : Addr} {o : Obj} {v : Option Value} {ps : Array Value} (ha : (a, o) ∈ news) (hb : (b, tabObj ps) ∈ news) (hd : o.data = .cell v) : a ≠ b := fun e => by
  have := same_obj N ha hb e
  rw [show o = tabObj ps from this] at hd
  cases hd
theorem list_ne_tab {news : Ledger} (N : News b0 L h news) {a b : Addr} {its : Array Value} {n : Nat} {ps : Array Value} (ha : (a, W.listOf its n) ∈ news) (hb : (b, tabObj ps) ∈ news) : a ≠ b := fun e => by
  have := same_obj N ha hb e
  cases this
theorem frame_none (F : Fr b0 L h m) : b0.get? L = none := Heap.get?_none_of_le F.above
theorem ex_news {news : Ledger} {env : Env} {P : Addr} (N : News b0 L h news) (ex : Ex [env] (hideAll h [P]) h') (hf : env.frame = some L) {p : Addr × Obj} (hp : p ∈ news) (hP : p.1 ≠ P) : h'.get? p.1 = some p.2 ∧ p.1 ≠ L ∧ b0.get? p.1 = none :=
  ⟨ex.keep _ _ (hide_get (N p hp).1 hP) (fun hm => (N p hp).2.1 ((fra_cons hf hm).elim id (fun q => nomatch q))), (N p hp).2⟩
theorem ex_fr {env : Env} {P : Addr} (F : Fr b0 L h m) (ex : Ex [env] (hideAll h [P]) h') (hf : env.frame = some L) (hL : L ≠ P) (hb : b0.get? P = none) : Fr b0 L h' m :=
  ⟨ex.ns (F.ns.at' fun o e => hide_get e hL), fun b o e => ex.keep b o (hide_get (F.keep b o e) (fun q => by rw [q, hb] at e; cases e)) (fun hm => by
    rcases fra_cons hf hm with q | q
    · rw [q, frame_none F] at e; cases e
    · cases q), F.above⟩
namespace LSt
theorem ne66 (S : LSt b0 L D own i h m o1 o2 vs c ps1 ps2 tail pts v2) : ∀ p ∈ (L + 1 + 1, o1) :: (L + 1, o2) :: (D, W.listOf vs.toArray c) :: [], p.1 ≠ 66 := fun p hp => by
  rcases List.mem_cons.mp hp with rfl | hp
  · exact cell_ne_tab S.N (.head _) (.tail _ (.tail _ (.tail _ (.head _)))) S.d1
  rcases List.mem_cons.mp hp with rfl | hp
  · exact cell_ne_tab S.N (.tail _ (.head _)) (.tail _ (.tail _ (.tail _ (.head _)))) S.d2
  rw [List.mem_singleton.mp hp]
  exact list_ne_tab S.N (.tail _ (.tail _ (.head _))) (.tail _ (.tail _ (.tail _ (.head _))))
theorem ne94 (S : LSt b0 L D own i h m o1 o2 vs c ps1 ps2 tail pts v2) : ∀ p ∈ (L + 1 + 1, o1) :: (L + 1, o2) :: (D, W.listOf vs.toArray c) :: (66, tabObj ps1) :: [], p.1 ≠ 94 := fun p hp => by
  rcases List.mem_cons.mp hp with rfl | hp
  · exact cell_ne_tab S.N (.head _) (.tail _ (.tail _ (.tail _ (.tail _ (.head _))))) S.d1
  rcases List.mem_cons.mp hp with rfl | hp
  · exact cell_ne_tab S.N (.tail _ (.head _)) (.tail _ (.tail _ (.tail _ (.tail _ (.head _))))) S.d2
  rcases List.mem_cons.mp hp with rfl | hp
  · exact list_ne_tab S.N (.tail _ (.tail _ (.head _))) (.tail _ (.tail _ (.tail _ (.tail _ (.head _)))))
  rw [List.mem_singleton.mp hp]
  show (66 : Nat) ≠ 94
  decide
/-- behind a call that has turned the first table -/
theorem asked {env : Env} {ps' : Array Value} (S : LSt b0 L D own i h m o1 o2 vs c ps1 ps2 tail pts v2) (ex : Ex [env] (hideAll h [66]) h') (hf : env.frame = some L) (hP : h'.get? 66 = some (tabObj ps')) (hT : TabOk qA h' ps') :
    ∃ codes, LSt b0 L D own i h' m o1 o2 vs c ps' ps2 (tail ++ codes) pts v2 := by
  have n66 := S.N (66, tabObj ps1) (.tail _ (.tail _ (.tail _ (.head _))))
  have F' := ex_fr S.F ex hf (Ne.symm n66.2.1) n66.2.2
  obtain ⟨codes, NC, hk, hI⟩ := hT.codes F'
  have ne := S.ne66
  refine ⟨codes, S.more F' (fun p hp => ?_) NC (fun p hp => .inr (.inl (hk p hp))) (hI.mono fun p hp => List.mem_append_right _ hp) (S.t2.mono fun p hp => List.mem_append_left _ hp)⟩
  rcases List.mem_cons.mp hp with rfl | hp
  · exact ex_news S.N ex hf (.head _) (ne _ (.head _))
  rcases List.mem_cons.mp hp with rfl | hp
  · exact ex_news S.N ex hf (.tail _ (.head _)) (ne _ (.tail _ (.head _)))
  rcases List.mem_cons.mp hp with rfl | hp
  · exact ex_news S.N ex hf (.tail _ (.tail _ (.head _))) (ne _ (.tail _ (.tail _ (.head _))))
  rcases List.mem_cons.mp hp with rfl | hp
  · exact ⟨hP, n66.2⟩
  rcases List.mem_cons.mp hp with rfl | hp
  · exact ex_news S.N ex hf (.tail _ (.tail _ (.tail _ (.tail _ (.head _))))) (by show (94 : Nat) ≠ 66; decide)
  · exact ex_news S.N ex hf (.tail _ (.tail _ (.tail _ (.tail _ (.tail _ hp))))) (S.offT.ne (.tail _ (.tail _ (.tail _ (.head _)))) p hp)
/-- behind a lambda's try -/
theorem tried {g' : Heap} {ps' : Array Value} (S : LSt b0 L D own i h m o1 o2 vs c ps1 ps2 tail pts v2) (T : KtsTurn (fra []) b0 g') (F' : Fr g' L h' m)
    (N' : News g' L h' ([(L + 1 + 1, o1), (L + 1, o2), (D, W.listOf vs.toArray c), (66, tabObj ps1)] ++ (94, tabObj ps') :: (tail ++ own))) (hT : TabOk qL h' ps') :
    ∃ codes, LSt b0 L D own i h' m o1 o2 vs c ps1 ps' (tail ++ codes) pts v2 := by
  have up : b0.StaysIn g' := fun b o e => T.other b o e (fun q => nomatch q)
  have Fb : Fr b0 L h' m := ⟨F'.ns, fun b o e => F'.keep b o (up b o e), by rw [← T.size]; exact F'.above⟩
  have Nb : ∀ {news : Ledger}, News g' L h' news → News b0 L h' news := fun n p hp => ⟨(n p hp).1, (n p hp).2.1, none_stays up (n p hp).2.2⟩
  obtain ⟨codes, NC, hk, hI⟩ := hT.codes Fb
  exact ⟨codes, S.more Fb (Nb N') NC (fun p hp => .inr (.inr (hk p hp))) (S.t1.mono fun p hp => List.mem_append_left _ hp) (hI.mono fun p hp => List.mem_append_right _ hp)⟩
end LSt
end
theorem call_asked {G : Ctx → Prop} {w : World} {mean : ExcName → Option Value} {mg mb : Str → Option Value} {b0 : Heap} {A : Around} {s : Shared} {L D : Addr} {own : Ledger} {i : Nat} {m : Str → Option Value} {o1 o2 : Obj} {vs : List Value} {c : Nat} {ps1 ps2 : Array Value} {tail : Ledger} {pts : List (Option (Int × Int))} {v2 : Option Value}
    {x : Str} {n : Int} {t1 t2 : Tok} {env : Env} {Q : Value → Shared → Prop} {E : Value → Shared → Prop} (cG : Closed G)
    (B : Below A b0 [] b0) (X : (hd.heap_39 w.params).In b0) (T : Top topProg lo0 mean mg mb b0) (hC : CodeHd b0 70 66) (hh : A.handled = none) (hdep : A.depth ≤ 370) (hun : A.units ≤ 3700) (hf : env.frame = some L) (hks : env.scope.kind = .function)
    (hx : x.length ≤ 20) (hg : Good x) (hG : ((Txt.lower x == Str.ofString "pass") = true ∨ ∃ v, PySem.intText? (Txt.slice (Txt.lower x) (some 1) none) = some v) ∨ ∀ Γ, G Γ → HC Γ)
    (S : LSt b0 L D own i s.heap m o1 o2 vs c ps1 ps2 tail pts v2)
    (h : ∀ h' tk ps' codes, LSt b0 L D own i h' m o1 o2 vs c ps' ps2 (tail ++ codes) pts v2 → Q (.bool true) { s with heap := h', toks := tk }) :
    wpG G (model prog0 w) (A.deeper env) (call (.ref 71) [.str x t1, .int n t2]) Q E s := by
  have n66 := S.N (66, tabObj ps1) (.tail _ (.tail _ (.tail _ (.head _))))
  have BB := pushX (env := env) B S.F hf hks
  refine wpG_call cG (codeG_mono (asked_spec (s := s) cG BB X T hC n66.2.2 n66.1 (S.t1.ok S.F S.newsT) hh (by rw [depth_deeper]; omega) (by rw [units_deeper]; omega) hx hg hG) fun r s' hr => ?_)
  obtain ⟨v, rfl, ex, sm, rfl, ps', hP, hT⟩ := hr
  obtain ⟨codes, S'⟩ := S.asked ex hf hP hT
  rw [same_eq sm]
  exact h _ _ ps' codes S'
end Mine

end
theorem Mine.flush42 : True := by
  w_top off
  first | walk1 | trivial
section
open PySem PySem.W PyProof.Rows PySem.Calls
set_option maxRecDepth 100000
set_option maxHeartbeats 4000000
namespace Mine
theorem chain1 {m : Str → Option Value} {a : Str} {v : Value} (h : m a = some v) : m = fun y => if y = a then some v else m y := by
  funext y
  by_cases e : y = a
  · rw [if_pos e, e, h]
  · rw [if_neg e]
theorem chain2 {m : Str → Option Value} {a b : Str} {v u : Value} (h : m a = some v) (h' : m b = some u) : m = fun y => if y = a then some v else if y = b then some u else m y := by
  funext y
  by_cases e : y = a
  · rw [if_pos e, e, h]
  · rw [if_neg e, ← congrFun (chain1 h') y]
theorem chain3 {m : Str → Option Value} {a b c : Str} {v u w : Value} (h : m a = some v) (h' : m b = some u) (h'' : m c = some w) : m = fun y => if y = a then some v else if y = b then some u else if y = c then some w else m y := by
  funext y
  by_cases e : y = a
  · rw [if_pos e, e, h]
  · rw [if_neg e, ← congrFun (chain2 h' h'') y]
section
variable {G : Ctx → Prop} {M : Model} {A : Around} {E : Value → Shared → Prop} {env : Env} {s : Shared} {rest : List Stmt} {Q : Flow → Shared → Prop}
theorem gx_cut {st : Stmt} (N : Shared → Prop) (h : wpG G M A (exec st env) (fun f s' => f = .next ∧ N s') E s) (hn : ∀ s', N s' → wpG G M A (execs rest env) Q E s') : wpG G M A (execs (st :: rest) env) Q E s :=
  gx_cons (wpG_mono h (fun f s' hf => by obtain ⟨rfl, hf⟩ := hf; exact hn s' hf) fun _ _ x => x)
theorem gx_cuts (N : Shared → Prop) (pre : List Stmt) (h : wpG G M A (execs pre env) (fun f s' => f = .next ∧ N s') E s) (hn : ∀ s', N s' → wpG G M A (execs rest env) Q E s') : wpG G M A (execs (pre ++ rest) env) Q E s :=
  gx_app N pre (wpG_mono h (fun f s' hf => by obtain ⟨rfl, hf⟩ := hf; exact hf) fun _ _ x => x) hn
end
/-- what holds between the turns -/
def LJ (b0 : Heap) (L D : Addr) (sz : Int) (tz : Tok) (i : Nat) (m : Str → Option Value) (news : Ledger) : Prop :=
  m (Str.ofString "size") = some (.int sz tz) ∧ ∃ o1 o2 vs c ps1 ps2 tail pts v2, news = (L + 1 + 1, o1) :: (L + 1, o2) :: (D, W.listOf vs.toArray c) :: (66, tabObj ps1) :: (94, tabObj ps2) :: tail ∧
    o1.data = .cell (some (.ref D)) ∧ o2.data = .cell v2 ∧ PtsIn tail vs pts ∧ vs.length ≤ i ∧ TabIn qA b0 tail ps1 ∧ TabIn qL b0 tail ps2 ∧ ∀ p ∈ tail, TailObj p.2
/-- law's frame, with what is known of its names -/
def LS (b0 : Heap) (L D : Addr) (own : Ledger) (i : Nat) (s : Shared) (K : (Str → Option Value) → Ledger → Option Value → Prop) (s' : Shared) : Prop :=
  ∃ h tk m o1 o2 vs c ps1 ps2 tail pts v2, s' = { s with heap := h, toks := tk } ∧ LSt b0 L D own i h m o1 o2 vs c ps1 ps2 tail pts v2 ∧ K m tail v2
section
variable {b0 : Heap} {L D I : Addr} {own : Ledger} {i : Nat} {s : Shared} {sz : Int} {tz : Tok}
theorem ls_of_j {K : (Str → Option Value) → Ledger → Option Value → Prop} {h : Heap} {tk : Nat} {m m' : Str → Option Value} {news : Ledger} (J : LJ b0 L D sz tz i m news) (F : Fr b0 L h m') (N : News b0 L h (own ++ news)) (off : OwnOff own (Fix5 L D)) (hK : ∀ tail v2, K m' tail v2) : LS b0 L D own i s K { s with heap := h, toks := tk } := by
  obtain ⟨_, o1, o2, vs, c, ps1, ps2, tail, pts, v2, rfl, d1, d2, P, len, t1, t2, ob⟩ := J
  refine ⟨h, tk, m', o1, o2, vs, c, ps1, ps2, tail, pts, v2, rfl, ⟨F, fun p hp => N p ?_, d1, d2, P, len, t1, t2, ob, off⟩, hK _ _⟩
  simp only [List.mem_append, List.mem_cons] at hp ⊢
  rcases hp with h1 | h1 | h1 | h1 | h1 | h1 | h1
  · exact .inr (.inl h1)
  · exact .inr (.inr (.inl h1))
  · exact .inr (.inr (.inr (.inl h1)))
  · exact .inr (.inr (.inr (.inr (.inl h1))))
  · exact .inr (.inr (.inr (.inr (.inr (.inl h1)))))
  · exact .inr (.inr (.inr (.inr (.inr (.inr h1)))))
  · exact .inl h1
theorem step_of_ls {K : (Str → Option Value) → Ledger → Option Value → Prop} {h₁ : Heap} {tk₁ : Nat} {s' : Shared} (x : LS b0 L D own i s K s') (hI : HasIt own I) (hK : ∀ m tail v2, K m tail v2 → m (Str.ofString "size") = some (.int sz tz)) (hi : i ≤ i') :
    ∃ h' tk m' news', s' = { ({ s with heap := h₁, toks := tk₁ } : Shared) with heap := h', toks := tk } ∧ Fr b0 L h' m' ∧ News b0 L h' (own ++ news') ∧ (∀ p ∈ news', p.1 ≠ I) ∧ LJ b0 L D sz tz i' m' news' := by
  obtain ⟨h, tk, m, o1, o2, vs, c, ps1, ps2, tail, pts, v2, rfl, S, k⟩ := x
  obtain ⟨oI, l, n, hm, _⟩ := id hI
  have fixI : ∀ b ∈ Fix5 L D, b ≠ I := fun b hb q => S.off _ hm b hb q.symm
  refine ⟨h, tk, m, (L + 1 + 1, o1) :: (L + 1, o2) :: (D, W.listOf vs.toArray c) :: (66, tabObj ps1) :: (94, tabObj ps2) :: tail, rfl, S.F, fun p hp => S.N p ?_, fun p hp => ?_, hK _ _ _ k, o1, o2, vs, c, ps1, ps2, tail, pts, v2, rfl, S.d1, S.d2, S.P, Nat.le_trans S.len hi, S.t1, S.t2, S.ob⟩
  · simp only [List.mem_append, List.mem_cons] at hp ⊢
    rcases hp with h1 | h1 | h1 | h1 | h1 | h1 | h1
    · exact .inr (.inr (.inr (.inr (.inr (.inr h1)))))
    · exact .inl h1
    · exact .inr (.inl h1)
    · exact .inr (.inr (.inl h1))
    · exact .inr (.inr (.inr (.inl h1)))
    · exact .inr (.inr (.inr (.inr (.inl h1))))
    · exact .inr (.inr (.inr (.inr (.inr (.inl h1)))))
  · rcases List.mem_cons.mp hp with rfl | hp
    · exact fixI _ (.head _)
    rcases List.mem_cons.mp hp with rfl | hp
    · exact fixI _ (.tail _ (.head _))
    rcases List.mem_cons.mp hp with rfl | hp
    · exact fixI _ (.tail _ (.tail _ (.head _)))
    rcases List.mem_cons.mp hp with rfl | hp
    · exact fixI _ (.tail _ (.tail _ (.tail _ (.head _))))
    rcases List.mem_cons.mp hp with rfl | hp
    · exact fixI _ (.tail _ (.tail _ (.tail _ (.tail _ (.head _)))))
    · exact tail_ne_it S.N hI (fun q hq => S.memO hq) (S.memT hp) (S.ob p hp)
end
end Mine
namespace Mine
theorem ints_item {vs : List Value} {ns : List Int} (h : IntsAre vs ns) {i : Nat} {v : Value} (e : vs[i]? = some v) : ∃ k t, v = .int k t := by
  have hl : i < ns.length := by
    rw [← h.length]
    exact (List.getElem?_eq_some_iff.mp e).1
  obtain ⟨t, ht⟩ := h.get i ns[i] (by simp [hl])
  rw [e] at ht
  exact ⟨_, _, Option.some.inj ht⟩
theorem tabIn_nil (q : Str) (g : Heap) : TabIn q g [] #[] := ⟨trivial, fun pos c e => by cases e⟩
theorem LSt.re {b0 : Heap} {L D : Addr} {own : Ledger} {i : Nat} {h h' : Heap} {m m' : Str → Option Value} {o1 o2 : Obj} {vs : List Value} {c : Nat} {ps1 ps2 : Array Value} {tail : Ledger} {pts : List (Option (Int × Int))} {v2 : Option Value} {news : Ledger}
    (S : LSt b0 L D own i h m o1 o2 vs c ps1 ps2 tail pts v2) (F : Fr b0 L h' m') (N : News b0 L h' news) (hs : ∀ p ∈ (L + 1 + 1, o1) :: (L + 1, o2) :: (D, W.listOf vs.toArray c) :: (66, tabObj ps1) :: (94, tabObj ps2) :: (tail ++ own), p ∈ news) : LSt b0 L D own i h' m' o1 o2 vs c ps1 ps2 tail pts v2 :=
  ⟨F, fun p hp => N p (hs p hp), S.d1, S.d2, S.P, S.len, S.t1, S.t2, S.ob, S.off⟩
theorem ls_mk {b0 : Heap} {L D : Addr} {own : Ledger} {i : Nat} {h : Heap} {m : Str → Option Value} {o1 o2 : Obj} {vs : List Value} {c : Nat} {ps1 ps2 : Array Value} {tail : Ledger} {pts : List (Option (Int × Int))} {v2 : Option Value} {K : (Str → Option Value) → Ledger → Option Value → Prop} {s : Shared} {tk : Nat}
    (S : LSt b0 L D own i h m o1 o2 vs c ps1 ps2 tail pts v2) (k : K m tail v2) : LS b0 L D own i s K { s with heap := h, toks := tk } := ⟨h, tk, m, o1, o2, vs, c, ps1, ps2, tail, pts, v2, rfl, S, k⟩
theorem call_txt {w : World} {mean : ExcName → Option Value} {mg mb : Str → Option Value} {b0 : Heap} {A : Around} {l : List Env} {s : Shared} {L : Addr} {m : Str → Option Value} {news : Ledger} {k r : Int} {t1 t2 : Tok} {env : Env} {Q : Value → Shared → Prop} {E : Value → Shared → Prop}
    (B : Below A b0 l b0) (X : (hd.heap_39 w.params).In b0) (T : Top topProg lo0 mean mg mb b0) (hh : A.handled = none) (hdep : A.depth ≤ 370) (hun : A.units ≤ 3700) (hf : env.frame = some L) (hks : env.scope.kind = .function) (F : Fr b0 L s.heap m) (N : News b0 L s.heap news)
    (h : ∀ x t h' tk, Good x → x.length ≤ 20 → Fr b0 L h' m → News b0 L h' news → Q (.str x t) { s with heap := h', toks := tk }) :
    wpAny (model prog0 w) (A.deeper env) (call (.ref 92) [.int k t1, .int r t2]) Q E s := by
  refine call_ret (txt_spec (pushX (env := env) B F hf hks) X T hh (by rw [depth_deeper]; omega) (by rw [units_deeper]; omega)) F N ?_
  rintro _ h' tk ⟨x, t, rfl, hg, hl⟩ kk F' N'
  exact h x t h' tk hg hl F' N'
theorem call_wr {w : World} {mean : ExcName → Option Value} {mg mb : Str → Option Value} {b0 : Heap} {A : Around} {l : List Env} {s : Shared} {L : Addr} {m : Str → Option Value} {news : Ledger} {v : Value} {p : Option (Int × Int)} {env : Env} {Q : Value → Shared → Prop} {E : Value → Shared → Prop}
    (B : Below A b0 l b0) (X : (hd.heap_39 w.params).In b0) (T : Top topProg lo0 mean mg mb b0) (hh : A.handled = none) (hdep : A.depth ≤ 370) (hun : A.units ≤ 3700) (hf : env.frame = some L) (hks : env.scope.kind = .function) (F : Fr b0 L s.heap m) (N : News b0 L s.heap news) (hp : PtIs s.heap v p)
    (h : ∀ t h' tk, s.heap.StaysIn h' → Fr b0 L h' m → News b0 L h' news → Q (.str ((wrP p).getD (Str.ofString "refused")) t) { s with heap := h', toks := tk }) :
    wpAny (model prog0 w) (A.deeper env) (call (.ref 78) [v]) Q E s := by
  refine call_ret (wr_spec (pushX (env := env) B F hf hks) X T hh (by rw [depth_deeper]; omega) (by rw [units_deeper]; omega) hp) F N ?_
  rintro _ h' tk ⟨t, rfl⟩ kk F' N'
  exact h t h' tk kk F' N'
theorem call_mfv {w : World} {mean : ExcName → Option Value} {mg mb : Str → Option Value} {b0 : Heap} {A : Around} {l : List Env} {s : Shared} {L : Addr} {m : Str → Option Value} {news : Ledger} {x : Str} {p : Option (Int × Int)} {t1 t2 : Tok} {env : Env} {Q : Value → Shared → Prop} {E : Value → Shared → Prop}
    (B : Below A b0 l b0) (X : (hd.heap_39 w.params).In b0) (T : Top topProg lo0 mean mg mb b0) (hh : A.handled = none) (hdep : A.depth ≤ 370) (hun : A.units ≤ 3700) (hf : env.frame = some L) (hks : env.scope.kind = .function) (F : Fr b0 L s.heap m) (N : News b0 L s.heap news) (hx : wrP p = some x)
    (h : ∀ v h' tk, PtIs h' v p → s.heap.StaysIn h' → Fr b0 L h' m → News b0 L h' news → Q v { s with heap := h', toks := tk }) :
    wpAny (model prog0 w) (A.deeper env) (call (.ref 50) [.str x t1, .int 25 t2]) Q E s := by
  obtain ⟨hg, hd⟩ := wrP_due hx
  have hl : x.length ≤ 20 := Nat.le_trans (wr_len hx) (by decide)
  refine wpAny_call (codeAny_mono (codeG_all (mfv_spec closed_all (pushX (env := env) B F hf hks) X T hh (by rw [depth_deeper]; omega) (by rw [units_deeper]; omega) hl hg (.inl (int_due hg hl hd)))) fun r s' hr => ?_)
  rcases hr with ⟨v, rfl, k, sm, q, hq, hpt⟩ | ⟨hC, _⟩
  · rw [hd] at hq
    cases hq
    rw [same_eq sm]
    exact h v _ _ hpt k (F.keeps k) (N.grown k)
  · rw [hd] at hC; cases hC
theorem pt_ne {prog : Program} {w : World} {A : Around} {E : Value → Shared → Prop} {s : Shared} {a b : Value} {p : Option (Int × Int)} {Q : Value → Shared → Prop} (h1 : PtIs s.heap a p) (h2 : PtIs s.heap b p) (hu : A.units + 64 < cLine) (h : Q (.bool false) s) :
    wpAny (model prog w) A (compareOp .NotEq a b) Q E s := ans_ne (.pt h1) (.pt h2) hu h
end Mine
namespace Mine
section
variable {b0 : Heap} {L D : Addr} {own : Ledger} {i : Nat} {h h' : Heap} {m m' : Str → Option Value} {o1 o2 o2' : Obj} {vs : List Value} {c : Nat} {ps1 ps2 : Array Value} {tail : Ledger} {pts : List (Option (Int × Int))} {v2 : Option Value} {news : Ledger}
/-- a tuple is laid into the point's cell -/
theorem LSt.pt {t : Addr} {its : Array Value} {n : Nat} (S : LSt b0 L D own i h m o1 o2 vs c ps1 ps2 tail pts v2) (F : Fr b0 L h' m') (N : News b0 L h' news) (d : o2'.data = .cell (some (.ref t))) (ht : (t, tupObj its n) ∈ news)
    (hs : ∀ p ∈ (L + 1 + 1, o1) :: (L + 1, o2') :: (D, W.listOf vs.toArray c) :: (66, tabObj ps1) :: (94, tabObj ps2) :: (tail ++ own), p ∈ news) : LSt b0 L D own i h' m' o1 o2' vs c ps1 ps2 ((t, tupObj its n) :: tail) pts (some (.ref t)) := by
  refine ⟨F, fun p hp => ?_, S.d1, d, S.P.mono fun e he => .tail _ he, S.len, S.t1.mono fun e he => .tail _ he, S.t2.mono fun e he => .tail _ he, fun p hp => ?_, S.off⟩
  · simp only [List.cons_append, List.mem_cons, List.mem_append] at hp
    rcases hp with h1 | h1 | h1 | h1 | h1 | h1 | h1
    · exact N p (hs p (by simp [h1]))
    · exact N p (hs p (by simp [h1]))
    · exact N p (hs p (by simp [h1]))
    · exact N p (hs p (by simp [h1]))
    · exact N p (hs p (by simp [h1]))
    · rw [h1]; exact N _ ht
    · exact N p (hs p (.tail _ (.tail _ (.tail _ (.tail _ (.tail _ (List.mem_append.mpr h1)))))))
  · rcases List.mem_cons.mp hp with rfl | hp
    · exact .inl ⟨rfl, _, _, rfl⟩
    · exact S.ob p hp
theorem LSt.cell {v : Option Value} (S : LSt b0 L D own i h m o1 o2 vs c ps1 ps2 tail pts v2) (F : Fr b0 L h' m') (N : News b0 L h' news) (d : o2'.data = .cell v)
    (hs : ∀ p ∈ (L + 1 + 1, o1) :: (L + 1, o2') :: (D, W.listOf vs.toArray c) :: (66, tabObj ps1) :: (94, tabObj ps2) :: (tail ++ own), p ∈ news) : LSt b0 L D own i h' m' o1 o2' vs c ps1 ps2 tail pts v :=
  ⟨F, fun p hp => N p (hs p hp), S.d1, d, S.P, S.len, S.t1, S.t2, S.ob, S.off⟩
/-- a point is put into the list -/
theorem LSt.put {v : Value} {p : Option (Int × Int)} {its : Array Value} {c' : Nat} {w2 : Option Value} (S : LSt b0 L D own i h m o1 o2 vs c ps1 ps2 tail pts v2) (hp : PtIn tail v p) (F : Fr b0 L h' m') (N : News b0 L h' news) (d : o2'.data = .cell w2) (he : its = (vs ++ [v]).toArray)
    (hs : ∀ p ∈ (L + 1 + 1, o1) :: (L + 1, o2') :: (D, W.listOf its c') :: (66, tabObj ps1) :: (94, tabObj ps2) :: (tail ++ own), p ∈ news) : LSt b0 L D own (i + 1) h' m' o1 o2' (vs ++ [v]) c' ps1 ps2 tail (pts ++ [p]) w2 := by
  subst he
  refine ⟨F, fun p hp => N p (hs p hp), S.d1, d, S.P.snoc hp, ?_, S.t1, S.t2, S.ob, S.off⟩
  rw [List.length_append]
  exact Nat.succ_le_succ S.len
end
end Mine

end
theorem Mine.flush43 : True := by
  w_top off
  first | walk1 | trivial
section
open PySem PySem.W PyProof.Rows PySem.Calls
set_option maxRecDepth 100000
set_option maxHeartbeats 4000000
namespace Mine
/-- what holds between the turns of an inner loop -/
def LJ2 (b0 : Heap) (L D : Addr) (own0 : Ledger) (i0 : Nat) (K : (Str → Option Value) → Ledger → Option Value → Prop) (m : Str → Option Value) (news : Ledger) : Prop :=
  ∃ o1 o2 vs c ps1 ps2 tail pts v2, news = (L + 1 + 1, o1) :: (L + 1, o2) :: (D, W.listOf vs.toArray c) :: (66, tabObj ps1) :: (94, tabObj ps2) :: (tail ++ own0) ∧
    o1.data = .cell (some (.ref D)) ∧ o2.data = .cell v2 ∧ PtsIn tail vs pts ∧ vs.length ≤ i0 ∧ TabIn qA b0 tail ps1 ∧ TabIn qL b0 tail ps2 ∧ (∀ p ∈ tail, TailObj p.2) ∧ OwnOff own0 (Fix5 L D) ∧ K m tail v2
section
variable {b0 : Heap} {L D I : Addr} {own own0 : Ledger} {i0 : Nat} {s : Shared} {K K' : (Str → Option Value) → Ledger → Option Value → Prop}
theorem ls_of_j2 {h : Heap} {tk : Nat} {m m' : Str → Option Value} {news : Ledger} (J : LJ2 b0 L D own0 i0 K m news) (F : Fr b0 L h m') (N : News b0 L h (own ++ news)) (off : OwnOff own (Fix5 L D)) (hK : ∀ tail v2, K m tail v2 → K' m' tail v2) : LS b0 L D (own0 ++ own) i0 s K' { s with heap := h, toks := tk } := by
  obtain ⟨o1, o2, vs, c, ps1, ps2, tail, pts, v2, rfl, d1, d2, P, len, t1, t2, ob, off0, k⟩ := J
  refine ⟨h, tk, m', o1, o2, vs, c, ps1, ps2, tail, pts, v2, rfl, ⟨F, fun p hp => N p ?_, d1, d2, P, len, t1, t2, ob, fun p hp => ?_⟩, hK _ _ k⟩
  · simp only [List.mem_append, List.mem_cons] at hp ⊢
    rcases hp with h1 | h1 | h1 | h1 | h1 | h1 | h1 | h1
    · exact .inr (.inl h1)
    · exact .inr (.inr (.inl h1))
    · exact .inr (.inr (.inr (.inl h1)))
    · exact .inr (.inr (.inr (.inr (.inl h1))))
    · exact .inr (.inr (.inr (.inr (.inr (.inl h1)))))
    · exact .inr (.inr (.inr (.inr (.inr (.inr (.inl h1))))))
    · exact .inr (.inr (.inr (.inr (.inr (.inr (.inr h1))))))
    · exact .inl h1
  · rcases List.mem_append.mp hp with hp | hp
    · exact off0 p hp
    · exact off p hp
theorem step_of_ls2 {h₁ : Heap} {tk₁ : Nat} {s' : Shared} (x : LS b0 L D (own0 ++ own) i0 s K s') (hI : HasIt own I) (h0 : ∀ p ∈ own0, p.1 ≠ I) :
    ∃ h' tk m' news', s' = { ({ s with heap := h₁, toks := tk₁ } : Shared) with heap := h', toks := tk } ∧ Fr b0 L h' m' ∧ News b0 L h' (own ++ news') ∧ (∀ p ∈ news', p.1 ≠ I) ∧ LJ2 b0 L D own0 i0 K m' news' := by
  obtain ⟨h, tk, m, o1, o2, vs, c, ps1, ps2, tail, pts, v2, rfl, S, k⟩ := x
  obtain ⟨oI, l, n, hm, hcd⟩ := id hI
  have hI' : HasIt (own0 ++ own) I := ⟨oI, l, n, List.mem_append_right _ hm, hcd⟩
  have fixI : ∀ b ∈ Fix5 L D, b ≠ I := fun b hb q => S.off _ (List.mem_append_right _ hm) b hb q.symm
  refine ⟨h, tk, m, (L + 1 + 1, o1) :: (L + 1, o2) :: (D, W.listOf vs.toArray c) :: (66, tabObj ps1) :: (94, tabObj ps2) :: (tail ++ own0), rfl, S.F, fun p hp => S.N p ?_, fun p hp => ?_, o1, o2, vs, c, ps1, ps2, tail, pts, v2, rfl, S.d1, S.d2, S.P, S.len, S.t1, S.t2, S.ob, (fun p hp => S.off p (List.mem_append_left _ hp)), k⟩
  · simp only [List.mem_append, List.mem_cons] at hp ⊢
    rcases hp with h1 | h1 | h1 | h1 | h1 | h1 | h1 | h1
    · exact .inr (.inr (.inr (.inr (.inr (.inr (.inr h1))))))
    · exact .inl h1
    · exact .inr (.inl h1)
    · exact .inr (.inr (.inl h1))
    · exact .inr (.inr (.inr (.inl h1)))
    · exact .inr (.inr (.inr (.inr (.inl h1))))
    · exact .inr (.inr (.inr (.inr (.inr (.inl h1)))))
    · exact .inr (.inr (.inr (.inr (.inr (.inr (.inl h1))))))
  · rcases List.mem_cons.mp hp with rfl | hp
    · exact fixI _ (.head _)
    rcases List.mem_cons.mp hp with rfl | hp
    · exact fixI _ (.tail _ (.head _))
    rcases List.mem_cons.mp hp with rfl | hp
    · exact fixI _ (.tail _ (.tail _ (.head _)))
    rcases List.mem_cons.mp hp with rfl | hp
    · exact fixI _ (.tail _ (.tail _ (.tail _ (.head _))))
    rcases List.mem_cons.mp hp with rfl | hp
    · exact fixI _ (.tail _ (.tail _ (.tail _ (.tail _ (.head _)))))
    rcases List.mem_append.mp hp with hp | hp
    · exact tail_ne_it S.N hI' (fun q hq => S.memO hq) (S.memT hp) (S.ob p hp)
    · exact h0 p hp
theorem j2_of {m : Str → Option Value} {o1 o2 : Obj} {vs : List Value} {c : Nat} {ps1 ps2 : Array Value} {tail : Ledger} {pts : List (Option (Int × Int))} {v2 : Option Value} {h : Heap} {m' : Str → Option Value} (S : LSt b0 L D own0 i0 h m' o1 o2 vs c ps1 ps2 tail pts v2) (k : K m tail v2) :
    LJ2 b0 L D own0 i0 K m ((L + 1 + 1, o1) :: (L + 1, o2) :: (D, W.listOf vs.toArray c) :: (66, tabObj ps1) :: (94, tabObj ps2) :: (tail ++ own0)) :=
  ⟨o1, o2, vs, c, ps1, ps2, tail, pts, v2, rfl, S.d1, S.d2, S.P, S.len, S.t1, S.t2, S.ob, S.off, k⟩
theorem ls_of_j2' {h : Heap} {tk : Nat} {m : Str → Option Value} {news : Ledger} (J : LJ2 b0 L D own0 i0 K m news) (F : Fr b0 L h m) (N : News b0 L h news) : LS b0 L D own0 i0 s K { s with heap := h, toks := tk } := by
  obtain ⟨o1, o2, vs, c, ps1, ps2, tail, pts, v2, rfl, d1, d2, P, len, t1, t2, ob, off0, k⟩ := J
  exact ⟨h, tk, m, o1, o2, vs, c, ps1, ps2, tail, pts, v2, rfl, ⟨F, N, d1, d2, P, len, t1, t2, ob, off0⟩, k⟩
end
theorem call_askedA {w : World} {mean : ExcName → Option Value} {mg mb : Str → Option Value} {b0 : Heap} {A : Around} {s : Shared} {L D : Addr} {own : Ledger} {i : Nat} {m : Str → Option Value} {o1 o2 : Obj} {vs : List Value} {c : Nat} {ps1 ps2 : Array Value} {tail : Ledger} {pts : List (Option (Int × Int))} {v2 : Option Value}
    {x : Str} {n : Int} {t1 t2 : Tok} {env : Env} {Q : Value → Shared → Prop} {E : Value → Shared → Prop}
    (B : Below A b0 [] b0) (X : (hd.heap_39 w.params).In b0) (T : Top topProg lo0 mean mg mb b0) (hC : CodeHd b0 70 66) (hh : A.handled = none) (hdep : A.depth ≤ 370) (hun : A.units ≤ 3700) (hf : env.frame = some L) (hks : env.scope.kind = .function)
    (hx : x.length ≤ 20) (hg : Good x) (hG : (Txt.lower x == Str.ofString "pass") = true ∨ ∃ v, PySem.intText? (Txt.slice (Txt.lower x) (some 1) none) = some v)
    (S : LSt b0 L D own i s.heap m o1 o2 vs c ps1 ps2 tail pts v2)
    (h : ∀ h' tk ps' codes, LSt b0 L D own i h' m o1 o2 vs c ps' ps2 (tail ++ codes) pts v2 → Fr b0 L h' m → News b0 L h' ((L + 1 + 1, o1) :: (L + 1, o2) :: (D, W.listOf vs.toArray c) :: (66, tabObj ps') :: (94, tabObj ps2) :: (tail ++ codes ++ own)) → Q (.bool true) { s with heap := h', toks := tk }) :
    wpAny (model prog0 w) (A.deeper env) (call (.ref 71) [.str x t1, .int n t2]) Q E s :=
  wpG_all (call_asked closed_all B X T hC hh hdep hun hf hks hx hg (.inl hG) S fun h' tk ps' codes S' => h h' tk ps' codes S' S'.F S'.N)
/-- a text that is read, and the text in small letters -/
structure Rd (x : Str) : Prop where
  len : x.length ≤ 20
  good : Good x
  int : (Txt.lower x == Str.ofString "pass") = true ∨ ∃ v, PySem.intText? (Txt.slice (Txt.lower x) (some 1) none) = some v
theorem rd_of {p : Option (Int × Int)} {x : Str} (h : wrP p = some x) : Rd x := by
  obtain ⟨hg, hd⟩ := wrP_due h
  have hl : x.length ≤ 20 := Nat.le_trans (wr_len h) (by decide)
  exact ⟨hl, hg, int_due hg hl hd⟩
theorem Rd.low {x : Str} (r : Rd x) : Rd (Txt.lower x) := ⟨by rw [low_len r.good]; exact r.len, low_good r.good, by rw [low_low r.good]; exact r.int⟩
end Mine

end
theorem Mine.flush44 : True := by
  w_top off
  first | walk1 | trivial
section
open PySem PySem.W PyProof.Rows PySem.Calls
set_option maxRecDepth 100000
set_option maxHeartbeats 4000000
namespace Mine
section
variable {w : World} {A : Around} {E : Value → Shared → Prop} {s : Shared} {env : Env} {scope : Scope} {C : Addr} {m mg : Str → Option Value} {v : Value} {Q : Value → Shared → Prop} {fn x : Str} {np nx pos : Pos} {fa : Addr}
theorem cx_name (hk : scope.kind = .function) (hx : scope.names.lookup x = some .local) (hns : s.heap.Ns C m) (hv : m x = some v) (hd : (x == ("__debug__" : Str)) = false) (h : Q v s) : wpAny (model prog0 w) A (eval (.Name x nx) (compEnv scope C env)) Q E s :=
  wpAny_Name (wpAny_loadName_local (env := compEnv scope C env) hk hx hns hv h) hd
theorem cx_fn (X : (hd.heap_39 w.params).In s.heap) (G : s.heap.Ns mainGlobals mg) (hg : env.globals = mainGlobals) (hk : scope.kind = .function) (hfn : scope.names.lookup fn = some .globalImplicit) (hn : nsIn (hd.heap_39 w.params) mainGlobals fn = some (some (.ref fa))) (hd1 : (fn == ("__debug__" : Str)) = false) (h : Q (.ref fa) s) :
    wpAny (model prog0 w) A (eval (.Name fn np) (compEnv scope C env)) Q E s :=
  Name_function_global (env := compEnv scope C env) hk hfn (loadGlobal_global (env := compEnv scope C env) (mg := mg) (by show s.heap.Ns env.globals mg; rw [hg]; exact G) (mg_of X G hn) h) hd1
theorem cx_call1 (X : (hd.heap_39 w.params).In s.heap) (G : s.heap.Ns mainGlobals mg) (hg : env.globals = mainGlobals) (hk : scope.kind = .function) (hfn : scope.names.lookup fn = some .globalImplicit) (hn : nsIn (hd.heap_39 w.params) mainGlobals fn = some (some (.ref fa))) (hkp : keepIn (hd.heap_39 w.params) (.ref fa) = true) (hd1 : (fn == ("__debug__" : Str)) = false)
    (hx : scope.names.lookup x = some .local) (hns : s.heap.Ns C m) (hv : m x = some v) (hd2 : (x == ("__debug__" : Str)) = false) (h : wpAny (model prog0 w) A (call (.ref fa) [v]) Q E s) :
    wpAny (model prog0 w) A (eval (.Call (.Name fn np) [.Name x nx] [] pos) (compEnv scope C env)) Q E s :=
  wpG_all (ge_call (cx_fn X G hg hk hfn hn hd1 (gc_K X hkp (Calls.spliced_cons (cx_name hk hx hns hv hd2 (Calls.spliced_nil ⟨X, wpG_any h⟩))) rfl rfl)))
theorem cx_call2 {k : Int} {nc : Nat} {pc : Pos} (X : (hd.heap_39 w.params).In s.heap) (G : s.heap.Ns mainGlobals mg) (hg : env.globals = mainGlobals) (hk : scope.kind = .function) (hfn : scope.names.lookup fn = some .globalImplicit) (hn : nsIn (hd.heap_39 w.params) mainGlobals fn = some (some (.ref fa))) (hkp : keepIn (hd.heap_39 w.params) (.ref fa) = true) (hd1 : (fn == ("__debug__" : Str)) = false)
    (hx : scope.names.lookup x = some .local) (hns : s.heap.Ns C m) (hv : m x = some v) (hd2 : (x == ("__debug__" : Str)) = false) (h : wpAny (model prog0 w) A (call (.ref fa) [v, .int k s.toks]) Q E { s with toks := s.toks + 1 }) :
    wpAny (model prog0 w) A (eval (.Call (.Name fn np) [.Name x nx, .Constant (.int k) nc pc] [] pos) (compEnv scope C env)) Q E s := by
  refine wpG_all (ge_call (cx_fn X G hg hk hfn hn hd1 (gc_K X hkp (Calls.spliced_cons (cx_name hk hx hns hv hd2 ?_)) rfl rfl)))
  have hc : ∀ (Q' : Value → Shared → Prop), Q' (.int k s.toks) { s with toks := s.toks + 1 } → wpAny (model prog0 w) A (eval (.Constant (.int k) nc pc) (compEnv scope C env)) Q' E s := fun Q' h _ _ _ => h
  exact Calls.spliced_cons (hc _ (Calls.spliced_nil ⟨X, wpG_any h⟩))
theorem tests_one {c : Expr} {cenv : Env} {b : Bool} (h : wpAny (model prog0 w) A (isTrue c cenv (eval c cenv)) (fun ok s₄ => ok = b ∧ Keeps s s₄) E s) :
    wpAny (model prog0 w) A (forIn [c] true fun c r => if r = true then do let ok ← isTrue c cenv (eval c cenv); pure (ForInStep.yield ok) else pure (ForInStep.yield r)) (fun ok s₄ => ok = b ∧ Keeps s s₄) E s := by
  simp only [List.forIn_cons, List.forIn_nil, if_true, bind_assoc, pure_bind]
  exact wpAny_bind (wpAny_mono h (fun ok s' h' => wpAny_pure h') fun _ _ x => x)
theorem tests_nil {cenv : Env} {b : Bool} (hb : b = true) : wpAny (model prog0 w) A (forIn ([] : List Expr) true fun c r => if r = true then do let ok ← isTrue c cenv (eval c cenv); pure (ForInStep.yield ok) else pure (ForInStep.yield r)) (fun ok s₄ => ok = b ∧ Keeps s s₄) E s := by
  rw [List.forIn_nil]
  exact wpAny_pure ⟨hb.symm, s.heap, s.toks, rfl, fun _ _ e => e⟩
end
theorem fix5_in {L D : Addr} {o1 o2 o3 o4 o5 : Obj} {r : Ledger} : ∀ b ∈ Fix5 L D, ∃ o, (b, o) ∈ (L + 1 + 1, o1) :: (L + 1, o2) :: (D, o3) :: (66, o4) :: (94, o5) :: r := fun b hb => by
  rcases List.mem_cons.mp hb with rfl | hb
  · exact ⟨_, .head _⟩
  rcases List.mem_cons.mp hb with rfl | hb
  · exact ⟨_, .tail _ (.head _)⟩
  rcases List.mem_cons.mp hb with rfl | hb
  · exact ⟨_, .tail _ (.tail _ (.head _))⟩
  rcases List.mem_cons.mp hb with rfl | hb
  · exact ⟨_, .tail _ (.tail _ (.tail _ (.head _)))⟩
  rw [List.mem_singleton.mp hb]
  exact ⟨_, .tail _ (.tail _ (.tail _ (.tail _ (.head _))))⟩
theorem ptIs_fun {h : Heap} {v : Value} {p q : Option (Int × Int)} (a : PtIs h v p) (b : PtIs h v q) : p = q := by
  cases a with
  | none => cases b; rfl
  | some ha =>
    cases b with
    | some hb =>
      obtain ⟨o, ho, _, n, hd⟩ := ha
      obtain ⟨o', ho', _, n', hd'⟩ := hb
      rw [ho] at ho'
      cases ho'
      rw [hd] at hd'
      cases hd'
      rfl
theorem PtsIn.mem {tail : Ledger} {vs : List Value} {ps : List (Option (Int × Int))} (x : PtsIn tail vs ps) : ∀ v ∈ vs, ∃ p, PtIn tail v p := by
  induction x with
  | nil => intro v hv; cases hv
  | cons a _ ih =>
    intro v hv
    rcases List.mem_cons.mp hv with rfl | hv
    · exact ⟨_, a⟩
    · exact ih v hv
/-- the texts of the points -/
abbrev txts (ps : List (Option (Int × Int))) : List Str := ps.map fun p => (wrP p).getD (Str.ofString "refused")
def FW (tail : Ledger) (v y : Value) : Prop := ∀ p, PtIn tail v p → ∃ t, y = .str ((wrP p).getD (Str.ofString "refused")) t
theorem strs_of {tail : Ledger} {vs ys : List Value} {ps : List (Option (Int × Int))} (x : PtsIn tail vs ps) (y : Paired (FW tail) vs ys) : ∃ l : List (Str × Tok), ys = strValues l ∧ l.map (·.1) = txts ps := by
  induction x generalizing ys with
  | nil => cases y; exact ⟨[], rfl, rfl⟩
  | cons a _ ih =>
    cases y with
    | cons b r =>
      obtain ⟨t, rfl⟩ := b _ a
      obtain ⟨l, rfl, hl⟩ := ih r
      exact ⟨(_, t) :: l, rfl, by rw [List.map_cons, hl]; rfl⟩
open Classical in
/-- a value that is a point with a text -/
noncomputable def pz (tail : Ledger) (v : Value) : Bool := decide (∃ q, PtIn tail v q ∧ (wrP q).isSome = true)
theorem pz_iff {tail : Ledger} {v : Value} : pz tail v = true ↔ ∃ q, PtIn tail v q ∧ (wrP q).isSome = true := by
  classical
  unfold pz
  exact decide_eq_true_iff
theorem filter_pts {tail : Ledger} {h : Heap} (led : Led tail h) {vs : List Value} {ps : List (Option (Int × Int))} (x : PtsIn tail vs ps) : PtsIn tail (vs.filter (pz tail)) (ps.filter fun q => (wrP q).isSome) := by
  induction x with
  | nil => exact .nil
  | @cons v p vs ps a _ ih =>
    cases hw : (wrP p).isSome with
    | true =>
      have : pz tail v = true := pz_iff.mpr ⟨p, a, hw⟩
      rw [List.filter_cons_of_pos this, List.filter_cons_of_pos (by simpa using hw)]
      exact .cons a ih
    | false =>
      have : ¬ pz tail v = true := fun hq => by
        obtain ⟨q, hq1, hq2⟩ := pz_iff.mp hq
        rw [ptIs_fun (a.is led) (hq1.is led)] at hw
        rw [hw] at hq2; cases hq2
      rw [List.filter_cons_of_neg this, List.filter_cons_of_neg (by simp [hw])]
      exact ih
theorem paired_eq {vs ys : List Value} (h : Paired (fun v y => y = v) vs ys) : ys = vs := by
  induction h with
  | nil => rfl
  | cons a _ ih => rw [a, ih]
theorem Keeps.of {s : Shared} {h' : Heap} {tk : Nat} (k : s.heap.StaysIn h') : Keeps s { s with heap := h', toks := tk } := ⟨h', tk, rfl, k⟩
/-- a list display by a comprehension over the points -/
theorem comp_pts {w : World} {b0 : Heap} {A : Around} {s : Shared} {env : Env} {L D : Addr} {own : Ledger} {i : Nat} {m : Str → Option Value} {o1 o2 : Obj} {vs : List Value} {c : Nat} {ps1 ps2 : Array Value} {tail : Ledger} {pts : List (Option (Int × Int))} {v2 : Option Value}
    {elt iter : Expr} {x y : Str} {px py : Pos} {ifs : List Expr} {scope : Scope} {pos spos : Pos} {Q : Flow → Shared → Prop} {E : Value → Shared → Prop} (hh : A.handled = none) (p : Value → Bool) (F : Value → Value → Prop)
    (S : LSt b0 L D own i s.heap m o1 o2 vs c ps1 ps2 tail pts v2) (hloc : env.locals = L)
    (hsw : swapsWith (.ListComp elt [⟨.Name x px, iter, ifs, 0⟩] scope pos) (some (.Name y py)) spos.line env = pure true)
    (hfree : ∀ z ∈ scope.names, z.2 ≠ .free) (hcell : ∀ z ∈ scope.names, z.2 ≠ .cell) (hkind : scope.kind = .function)
    (hnames : ∀ z ∈ scope.names, z.2 = .local → scope.names.lookup z.1 = some .local) (hx : scope.names.lookup x = some .local)
    (hy : env.kindOf y = some .local) (hp : (env.scope.kind == .class || (env.scope.kind == .module && env.locals != env.globals)) = false)
    (hs : ∀ x, foldedSetIterable iter env x = pure x) (hlen : vs.length ≤ 1000)
    (hit : ∀ Q : Value → Shared → Prop, Q (.ref D) s → wpAny (model prog0 w) A (eval iter env) Q E s)
    (htests : ∀ C v s₃ m₃ E', v ∈ vs → s.heap.StaysIn s₃.heap → s₃.heap.Ns C m₃ → m₃ x = some v → wpAny (model prog0 w) A (forIn ifs true fun c r => if r = true then do let ok ← isTrue c (compEnv scope C env) (eval c (compEnv scope C env)); pure (ForInStep.yield ok) else pure (ForInStep.yield r))
      (fun ok s₄ => ok = p v ∧ Keeps s₃ s₄) E' s₃)
    (helt : ∀ C v s₃ m₃ E', v ∈ vs → p v = true → s.heap.StaysIn s₃.heap → s₃.heap.Ns C m₃ → m₃ x = some v → wpAny (model prog0 w) A (eval elt (compEnv scope C env)) (fun u s₄ => F v u ∧ Keeps s₃ s₄) E' s₃)
    (h : ∀ D1 h' tk ys n, Paired F (vs.filter p) ys → LSt b0 L D ((D1, W.listOf ys.toArray n) :: own) i h' (fun z => if z = y then some (.ref D1) else m z) o1 o2 vs c ps1 ps2 tail pts v2 → Q .next { s with heap := h', toks := tk }) :
    wpAny (model prog0 w) A (exec (.Assign [.Name y py] (.ListComp elt [⟨.Name x px, iter, ifs, 0⟩] scope pos) spos) env) Q E s := by
  have nD := S.N (D, W.listOf vs.toArray c) (.tail _ (.tail _ (.head _)))
  have hls : s.heap.IsList D vs.toArray := ⟨_, nD.1, rfl, _, rfl⟩
  have hne : D ≠ s.heap.objs.size := Nat.ne_of_lt (Heap.lt_size nD.1)
  refine wpAny_Assign_ListComp_walk p F hsw hfree hcell hkind hnames hx hy hp (hit _ (wpAny_pyIter_list hls ?_)) hs
  have up : ∀ {s₃ : Shared}, (∀ b o, b ∉ [s.heap.objs.size] → (s.heap.push { cls := .type "list_iterator", data := .fields #[.ref D, .int 0 0] }).get? b = some o → s₃.heap.get? b = some o) → s.heap.StaysIn s₃.heap := fun k b o e =>
    k b o (fun hm => absurd (Heap.lt_size e) (by rw [List.mem_singleton.mp hm]; exact Nat.lt_irrefl _)) (Heap.get?_push_of_some _ e)
  have memv : ∀ {i : Nat} {v : Value}, vs.toArray[i]? = some v → v ∈ vs := fun e => List.mem_of_getElem? (by simpa using e)
  refine ⟨s.heap.objs.size, [s.heap.objs.size, D], [s.heap.objs.size], vs.toArray.size, _, _, m, rfl, Walks.list hh s.heap.objs.size D hne vs.toArray, ?_, ⟨⟨_, Heap.get?_push_size _ rfl, rfl, rfl⟩, hls.at fun o e => Heap.get?_push_of_some _ e⟩, ?_, ?_, ?_, ⟨?_, ?_⟩, ?_⟩
  · rw [sizeLine_eq]; simp only [List.size_toArray]; omega
  · intro b hb
    show b < (s.heap.push _).objs.size
    rw [Heap.size_push]
    rcases List.mem_cons.mp hb with rfl | hb
    · exact Nat.lt_succ_self _
    · rw [List.mem_singleton.mp hb]; exact Nat.lt_succ_of_lt (Heap.lt_size nD.1)
  · rw [hloc]
    intro hm
    exact absurd S.F.ns.lt (by rw [← List.mem_singleton.mp hm]; exact Nat.lt_irrefl _)
  · rw [hloc]
    exact (S.F.push _).ns
  · intro C i v s₃ m₃ E' hv hn hm hk _
    exact htests C v s₃ m₃ E' (memv hv) (up hk) hn hm
  · intro C i v s₃ m₃ E' hv hpv hn hm hk _
    exact helt C v s₃ m₃ E' (memv hv) hpv (up hk) hn hm
  · intro D1 h' tk ys vs' hD1 hl1 hpl hlen' hP hF hns hkeep
    have evs : vs' = vs := by
      refine List.ext_getElem? fun j => ?_
      by_cases hj : j < vs'.length
      · have e1 : vs'[j]? = some vs'[j] := by simp [hj]
        have e2 := hP j vs'[j] e1
        rw [e1]
        simpa using e2.symm
      · have hj' : vs.length ≤ j := by simp only [List.size_toArray] at hlen'; omega
        rw [List.getElem?_eq_none (by omega), List.getElem?_eq_none hj']
    subst evs
    obtain ⟨n, hn⟩ := hpl
    rw [hloc] at hns hkeep
    have kp : ∀ b o, b ≠ L → s.heap.get? b = some o → h'.get? b = some o := fun b o hb e => hkeep b o hb (fun hm => absurd (Heap.lt_size e) (by rw [List.mem_singleton.mp hm]; exact Nat.lt_irrefl _)) (Heap.get?_push_of_some _ e)
    have hD1s : s.heap.get? D1 = none := none_stays (fun b o e => Heap.get?_push_of_some _ e) hD1
    have hD1L : D1 ≠ L := by
      rintro rfl
      obtain ⟨oL, es, ep, hL, _⟩ := S.F.ns
      rw [hD1s] at hL; cases hL
    have F' : Fr b0 L h' (fun z => if z = y then some (.ref D1) else m z) := ⟨hns, fun b o e => kp b o (fun q => by rw [q, frame_none S.F] at e; cases e) (S.F.keep b o e), S.F.above⟩
    have hb1 : b0.get? D1 = none := none_stays S.F.keep hD1s
    have eys : ys.toList.toArray = ys := by simp
    refine h D1 h' tk ys.toList n hF ⟨F', fun q hq => ?_, S.d1, S.d2, S.P, S.len, S.t1, S.t2, S.ob, fun q hq b hb => ?_⟩
    · have old : ∀ q, q ∈ (L + 1 + 1, o1) :: (L + 1, o2) :: (D, W.listOf vs'.toArray c) :: (66, tabObj ps1) :: (94, tabObj ps2) :: (tail ++ own) → h'.get? q.1 = some q.2 ∧ q.1 ≠ L ∧ b0.get? q.1 = none := fun q hq => ⟨kp _ _ (S.N q hq).2.1 (S.N q hq).1, (S.N q hq).2⟩
      simp only [List.mem_cons, List.mem_append] at hq
      rcases hq with h1 | h1 | h1 | h1 | h1 | h1 | h1 | h1
      · exact old q (by simp [h1])
      · exact old q (by simp [h1])
      · exact old q (by simp [h1])
      · exact old q (by simp [h1])
      · exact old q (by simp [h1])
      · exact old q (.tail _ (.tail _ (.tail _ (.tail _ (.tail _ (List.mem_append_left _ h1))))))
      · rw [h1, eys]; exact ⟨hn, hD1L, hb1⟩
      · exact old q (.tail _ (.tail _ (.tail _ (.tail _ (.tail _ (List.mem_append_right _ h1))))))
    · rcases List.mem_cons.mp hq with rfl | hq
      · intro e
        obtain ⟨o, ho⟩ := fix5_in (o1 := o1) (o2 := o2) (o3 := W.listOf vs'.toArray c) (o4 := tabObj ps1) (o5 := tabObj ps2) (r := tail ++ own) b hb
        have := (S.N _ ho).1
        rw [← show D1 = b from e, hD1s] at this
        cases this
      · exact S.off q hq b hb
end Mine

end
theorem Mine.flush45 : True := by
  w_top off
  first | walk1 | trivial
section
open PySem PySem.W PyProof.Rows PySem.Calls
set_option maxRecDepth 100000
set_option maxHeartbeats 4000000
namespace Mine
/-- a run of points, in every heap that bears the ledger -/
def PtsBy (news : Ledger) (ys : List Value) (gs : List (Option (Int × Int))) : Prop := ∀ h, Led news h → PtsAre h ys gs
theorem text_at {l : List (Str × Tok)} {gs : List (Option (Int × Int))} (e : l.map (·.1) = txts gs) (hs : ∀ q ∈ gs, ∃ x, wrP q = some x) {i : Nat} {v : Value} (hv : (strValues l).toArray[i]? = some v) : ∃ x t q, v = .str x t ∧ gs[i]? = some q ∧ wrP q = some x := by
  have hv' : (l.map fun p => Value.str p.1 p.2)[i]? = some v := by simpa [strValues] using hv
  rw [List.getElem?_map] at hv'
  obtain ⟨a, ha, rfl⟩ := Option.map_eq_some_iff.mp hv'
  have e1 : (l.map (·.1))[i]? = some a.1 := by rw [List.getElem?_map, ha]; rfl
  rw [e, List.getElem?_map] at e1
  obtain ⟨q, hq, hx⟩ := Option.map_eq_some_iff.mp e1
  obtain ⟨x, hw⟩ := hs q (List.mem_of_getElem? hq)
  refine ⟨a.1, a.2, q, rfl, hq, ?_⟩
  rw [hw, ← hx, hw]; rfl
theorem src_more {h₀ : Heap} {ax : Addr} {its : Array Value} {news news' : Ledger} (x : LCg.SrcAt h₀ ax its news) (k : ∀ p ∈ news, p ∈ news') : LCg.SrcAt h₀ ax its news' :=
  x.imp id fun ⟨o, hm, r⟩ => ⟨o, k _ hm, r⟩
section
variable {w : World} {A : Around} {h₀ : Heap} {L : Addr} {m : Str → Option Value} {env : Env} {elt iter : Expr} {nx : Str} {scope : Scope} {cl : List (Str × Addr)} {s : Shared} {Q : Value → Shared → Prop} {E : Value → Shared → Prop}
/-- the element: a point's text is read as that point, which is new -/
def EltOk (w : World) (A : Around) (h₀ : Heap) (L : Addr) (m : Str → Option Value) (env : Env) (elt : Expr) (nx : Str) (scope : Scope) (cl : List (Str × Addr)) (s : Shared) : Prop :=
  ∀ C x t q m₂ h tk (E' : Value → Shared → Prop), h.Ns C m₂ → m₂ nx = some (.str x t) → wrP q = some x → Fr h₀ L h m →
    wpAny (model prog0 w) A (eval elt (compEnvC scope cl C env)) (fun y s₃ => (PtIs s₃.heap y q ∧ NewV h y) ∧ Keeps { s with heap := h, toks := tk } s₃) E' { s with heap := h, toks := tk }
theorem back_rest {ax : Addr} {l : List (Str × Tok)} {gs : List (Option (Int × Int))} {base : Ledger} {Fin : List Value → Ledger → Prop} (e : l.map (·.1) = txts gs) (hs : ∀ q ∈ gs, ∃ x, wrP q = some x)
    (hel : EltOk w A h₀ L m env elt nx scope cl s) (hfin : ∀ ys news, PtsBy news ys gs → (∀ p ∈ base, p ∈ news) → Fin ys news) : ∀ (k i : Nat) (ys : List Value) (news : Ledger), i + k = gs.length →
    LCg.SrcAt h₀ ax (strValues l).toArray news → PtsBy news ys (gs.take i) → (∀ p ∈ base, p ∈ news) →
    LCg.CompRest prog0 w A h₀ L m env elt nx scope cl s (LCg.SrcAt h₀ ax (strValues l).toArray) (fun i v => (strValues l).toArray[i]? = some v) Fin k i ys news
  | 0, i, ys, news, hi, _, hp, hb => .zero (hfin ys news (by rwa [List.take_of_length_le (by omega)] at hp) hb)
  | k + 1, i, ys, news, hi, hS, hp, hb => .succ fun v I oI C oC D m₂ h tk E' hv hoC hx F N off ne => by
    obtain ⟨x, t, q, rfl, hq, hw⟩ := text_at e hs hv
    refine wpAny_mono (hel C x t q m₂ h tk E' (hoC.ns (N.get (.tail _ (.head _)))) hx hw F) (fun y s₃ h₃ => ?_) fun _ _ z => z
    obtain ⟨⟨hy, hn⟩, h', tk', rfl, kk⟩ := h₃
    have N' := N.grown kk
    have more : ∀ news', (∀ p ∈ news, p ∈ news') → (∀ g, Led news' g → PtIs g y q) → LCg.CompRest prog0 w A h₀ L m env elt nx scope cl s (LCg.SrcAt h₀ ax (strValues l).toArray) (fun i v => (strValues l).toArray[i]? = some v) Fin k (i + 1) (ys ++ [y]) news' := fun news' hsub hyq =>
      back_rest e hs hel hfin k (i + 1) _ _ (by omega) (src_more hS hsub) (fun g hg => by
        rw [List.take_add_one, hq]
        exact (hp g fun p hm => hg p (hsub p hm)).snoc (hyq g hg)) fun p hm => hsub p (hb p hm)
    cases hy with
    | none => exact .intro (F.keeps kk) N' news (fun _ hm => hm) off hS (more news (fun _ hm => hm) fun _ _ => .none)
    | @some a r c t1 t2 ht =>
      obtain ⟨o, ho, hc, n, hd⟩ := ht
      have ha : h.get? a = none := hn a rfl
      have hne : ∀ b o', h.get? b = some o' → @Ne Nat a b := fun b o' eb q => by
        rw [show a = b from q, eb] at ha; cases ha
      have hL : a ≠ L := by
        obtain ⟨oL, _, _, eL, _⟩ := F.ns
        exact hne _ _ eL
      have h0 : h₀.get? a = none := by
        cases e0 : h₀.get? a with
        | none => rfl
        | some o' => rw [F.keep _ _ e0] at ha; cases ha
      refine .intro (all := (a, o) :: (I, oI) :: (C, oC) :: (D, LCg.lst ys) :: news) (F.keeps kk) (fun p hm => ?_) ((a, o) :: news) (fun p hm => ?_) ⟨⟨hne _ _ (N.get (.head _)), hne _ _ (N.get (.tail _ (.head _))), hne _ _ (N.get (.tail _ (.tail _ (.head _))))⟩, off⟩ (src_more hS fun _ hm => .tail _ hm)
        (more _ (fun _ hm => .tail _ hm) fun g hg => .some ⟨o, hg _ (.head _), hc, n, hd⟩)
      · rcases List.mem_cons.mp hm with rfl | hm
        · exact ⟨ho, hL, h0⟩
        · exact N' p hm
      · simp only [List.mem_cons] at hm ⊢
        rcases hm with h1 | h1 | h1 | h1 | h1
        · exact .inr (.inl h1)
        · exact .inr (.inr (.inl h1))
        · exact .inr (.inr (.inr (.inl h1)))
        · exact .inl h1
        · exact .inr (.inr (.inr (.inr h1)))
/-- the source of the comprehension that reads back, and what its list is good for -/
def BackOk (w : World) (A : Around) (h₀ : Heap) (L : Addr) (m : Str → Option Value) (env : Env) (scope : Scope) (nx : Str) (elt : Expr) (Q : Value → Shared → Prop) (xv : Value) (s₁ : Shared) : Prop :=
  ∃ ax l gs news k, xv = .ref ax ∧ Fr h₀ L s₁.heap m ∧ News h₀ L s₁.heap news ∧ (ax, W.listOf (strValues l).toArray k) ∈ news ∧ l.length ≤ 1000 ∧ l.map (·.1) = txts gs ∧ (∀ q ∈ gs, ∃ x, wrP q = some x) ∧ EltOk w A h₀ L m env elt nx scope [] s₁ ∧
    ∀ D h tk ys n news', Fr h₀ L h m → News h₀ L h ((D, W.listOf ys.toArray n) :: news') → (∀ p ∈ news, p ∈ news') → PtsBy news' ys gs → Q (.ref D) { s₁ with heap := h, toks := tk }
theorem comp_back {px pos : Pos} (hh : A.handled = none) (F₀ : Fr h₀ L s.heap m) (hclos : closureFor scope env = pure []) (hcell : ∀ y ∈ scope.names, y.2 ≠ .cell) (hkind : scope.kind = .function)
    (hnames : ∀ y ∈ scope.names, y.2 = .local → scope.names.lookup y.1 = some .local) (hx : scope.names.lookup nx = some .local) (hs : ∀ x, foldedSetIterable iter env x = pure x)
    (h : wpAny (model prog0 w) A (eval iter env) (BackOk w A h₀ L m env scope nx elt Q) E s) :
    wpAny (model prog0 w) A (eval (.ListComp elt [⟨.Name nx px, iter, [], 0⟩] scope pos) env) Q E s :=
  LCg.ListComp_U F₀ hclos hcell hkind hnames hx (wpAny_mono h (fun xv s₁ h₁ => by
    obtain ⟨ax, l, gs, news, k, rfl, F, N, hm, hl, e, hg, hel, hQ⟩ := h₁
    have hlen : l.length = gs.length := by have := congrArg List.length e; simpa using this
    have hsz : (strValues l).toArray.size = gs.length := by simp [strValues, hlen]
    refine .ledger hh F N hm (by rw [sizeLine_eq, hsz]; omega) fun g => ?_
    rw [hsz]
    refine back_rest (s := { s₁ with heap := g }) (base := news) e hg (fun C x t q => hel C x t q) (fun ys news' hp hb => ?_) _ 0 [] news (Nat.zero_add _) (.inr ⟨_, hm, rfl, _, rfl⟩) (fun _ _ => .nil) fun _ hm => hm
    exact fun D h tk F' N' _ => hQ D h tk ys ys.length news' F' N' hb hp) fun _ _ z => z) hs
end
end Mine

end
theorem Mine.flush46 : True := by
  w_top off
  first | walk1 | trivial
section
open PySem PySem.W PyProof.Rows PySem.Calls
set_option maxRecDepth 100000
set_option maxHeartbeats 4000000
namespace Mine
theorem txts_of {pts : List (Option (Int × Int))} {xs : List Str} (h : pts.map wrP = xs.map some) : xs = txts pts := by
  have : (pts.map wrP).map (fun o => o.getD (Str.ofString "refused")) = (xs.map some).map (fun o => o.getD (Str.ofString "refused")) := by rw [h]
  rw [List.map_map, List.map_map] at this
  have e : xs.map ((fun o : Option Str => o.getD (Str.ofString "refused")) ∘ some) = xs := by simp [Function.comp_def]
  rw [e] at this
  exact this.symm
theorem any_bad {pts : List (Option (Int × Int))} (h : ∃ p ∈ pts, wrP p = none) : (txts pts).any (· == Str.ofString "refused") = true := by
  obtain ⟨p, hp, hw⟩ := h
  refine List.any_eq_true.mpr ⟨_, List.mem_map_of_mem hp, ?_⟩
  rw [hw]
  exact beq_self_eq_true _
theorem any_good {pts : List (Option (Int × Int))} {xs : List Str} (h : pts.map wrP = xs.map some) : (txts pts).any (· == Str.ofString "refused") = false := by
  rw [← txts_of h]
  refine List.any_eq_false.mpr fun y hy => ?_
  have : some y ∈ pts.map wrP := by rw [h]; exact List.mem_map_of_mem hy
  obtain ⟨p, _, hp⟩ := List.mem_map.mp this
  intro e
  exact wr_ne hp (eq_of_beq e)
abbrev gd (pts : List (Option (Int × Int))) : List (Option (Int × Int)) := pts.filter fun q => (wrP q).isSome
theorem gd_some {pts : List (Option (Int × Int))} : ∀ q ∈ gd pts, ∃ x, wrP q = some x := fun q hq => Option.isSome_iff_exists.mp (List.mem_filter.mp hq).2
abbrev ptD (p : Option (Int × Int)) : PyData := ansD (some p)
theorem pts_reads {h : Heap} {vs : List Value} {ps : List (Option (Int × Int))} (x : PtsAre h vs ps) : ∃ as, ReadsAll h vs (ps.map ptD) as := by
  induction x with
  | nil => exact ⟨_, .nil⟩
  | cons a _ ih =>
    obtain ⟨as, r⟩ := ih
    obtain ⟨bs, q⟩ := AnsIs.reads (.pt a)
    exact ⟨_, .cons q r⟩
theorem list_reads {h : Heap} {D : Addr} {vs : List Value} {n : Nat} {ps : List (Option (Int × Int))} (ho : h.get? D = some (W.listOf vs.toArray n)) (x : PtsAre h vs ps) : ∃ as, Reads h (.ref D) (.list (ps.map ptD)) as := by
  obtain ⟨as, r⟩ := pts_reads x
  exact ⟨_, .list ho rfl rfl r⟩
theorem lay_pts : ∀ ps : List (Option (Int × Int)), PyData.canLayAll0 (ps.map ptD) = true ∧ PyData.depthAll (ps.map ptD) ≤ 2
  | [] => ⟨rfl, Nat.zero_le _⟩
  | p :: ps => by
    obtain ⟨a, b⟩ := lay_pts ps
    rw [List.map_cons]
    rcases p with _ | ⟨r, c⟩
    · exact ⟨by simp [ptD, ansD, PyData.canLayAll0, PyData.canLay0, a], by simp [ptD, ansD, PyData.depthAll, PyData.depth]; omega⟩
    · exact ⟨by simp [ptD, ansD, PyData.canLayAll0, PyData.canLay0, a], by simp [ptD, ansD, PyData.depthAll, PyData.depth]; omega⟩
theorem list_shaped (ps : List (Option (Int × Int))) : SeqAt.shaped (.list (ps.map ptD)) = true := by
  obtain ⟨a, b⟩ := lay_pts ps
  simp [SeqAt.shaped, PyData.canLay0, PyData.depth, a]
  omega
theorem eqv_pts : ∀ ps : List (Option (Int × Int)), PyData.eqvAll (ps.map ptD) (ps.map ptD) = true
  | [] => by simp [PyData.eqvAll]
  | p :: ps => by
    rw [List.map_cons]
    simp only [PyData.eqvAll, eqv_pts ps, Bool.and_true]
    exact ansD_eqv (some p)
theorem eqv_list (ps : List (Option (Int × Int))) : PyData.eqv (.list (ps.map ptD)) (.list (ps.map ptD)) = true := by
  simp only [PyData.eqv, eqv_pts]
section
variable {w : World} {mean : ExcName → Option Value} {mg mb : Str → Option Value} {b0 h0 : Heap} {A : Around} {s : Shared} {L : Addr} {m : Str → Option Value} {env : Env}
theorem cx_wr {v : Value} {p : Option (Int × Int)} {E : Value → Shared → Prop} (B : Below A b0 [] b0) (X : (hd.heap_39 w.params).In b0) (T : Top topProg lo0 mean mg mb b0) (hh : A.handled = none) (hdep : A.depth ≤ 370) (hun : A.units ≤ 3700) (hf : env.frame = some L) (hks : env.scope.kind = .function) (F : Fr b0 L h0 m) (k : h0.StaysIn s.heap) (hp : PtIs s.heap v p) :
    wpAny (model prog0 w) (A.deeper env) (call (.ref 78) [v]) (fun y s' => (∃ t, y = .str ((wrP p).getD (Str.ofString "refused")) t) ∧ Keeps s s') E s := by
  have BB := Below.ex (pushX (env := env) B F hf hks) (.of_stays k)
  refine wpAny_call (codeAny_mono (wr_spec BB X T hh (by rw [depth_deeper]; omega) (by rw [units_deeper]; omega) hp) fun r s' hr => ?_)
  obtain ⟨u, rfl, kk, sm, t, rfl⟩ := hr
  rw [same_eq sm]
  exact ⟨⟨t, rfl⟩, Mine.Keeps.of kk⟩
theorem cx_mfv {x : Str} {p : Option (Int × Int)} {t t' : Tok} {E : Value → Shared → Prop} (B : Below A b0 [] b0) (X : (hd.heap_39 w.params).In b0) (T : Top topProg lo0 mean mg mb b0) (hh : A.handled = none) (hdep : A.depth ≤ 370) (hun : A.units ≤ 3700) (hf : env.frame = some L) (hks : env.scope.kind = .function) (F : Fr b0 L h0 m) (k : h0.StaysIn s.heap) (hx : wrP p = some x) :
    wpAny (model prog0 w) (A.deeper env) (call (.ref 50) [.str x t, .int 25 t']) (fun y s' => (PtIs s'.heap y p ∧ NewV s.heap y) ∧ Keeps s s') E s := by
  obtain ⟨hg, hd⟩ := wrP_due hx
  have hl : x.length ≤ 20 := Nat.le_trans (wr_len hx) (by decide)
  have BB := Below.ex (pushX (env := env) B F hf hks) (.of_stays k)
  refine wpAny_call (codeAny_mono (codeG_all (mfv_new closed_all BB X T hh (by rw [depth_deeper]; omega) (by rw [units_deeper]; omega) hl hg (.inl (int_due hg hl hd)))) fun r s' hr => ?_)
  rcases hr with ⟨v, rfl, kk, sm, q, hq, hpt, hnv⟩ | ⟨hC, _⟩
  · rw [hd] at hq
    cases hq
    rw [same_eq sm]
    exact ⟨⟨hpt, hnv⟩, Mine.Keeps.of kk⟩
  · rw [hd] at hC; cases hC
theorem call_fvl {D : Addr} {vs : List Value} {gs : List (Option (Int × Int))} {news : Ledger} {Q : Value → Shared → Prop} {E : Value → Shared → Prop} (B : Below A b0 [] b0) (X : (hd.heap_39 w.params).In b0) (T : Top topProg lo0 mean mg mb b0) (hh : A.handled = none) (hdep : A.depth ≤ 360) (hun : A.units ≤ 3600) (hf : env.frame = some L) (hks : env.scope.kind = .function) (F : Fr b0 L s.heap m) (N : News b0 L s.heap news)
    (hl : s.heap.IsList D vs.toArray) (hp : PtsAre s.heap vs gs) (hn : vs.length ≤ 100) (hs : ∀ q ∈ gs, ∃ x, wrP q = some x)
    (h : ∀ t h' tk, s.heap.StaysIn h' → Fr b0 L h' m → News b0 L h' news → Q (.str (Txt.join (Str.ofString ",") (txts gs)) t) { s with heap := h', toks := tk }) :
    wpAny (model prog0 w) (A.deeper env) (call (.ref 43) [.ref D]) Q E s := by
  refine wpAny_call (codeAny_mono (fvl_spec (pushX (env := env) B F hf hks) X T hh (by rw [depth_deeper]; omega) (by rw [units_deeper]; omega) hl hp hn) fun r s' hr => ?_)
  rcases hr with ⟨v, rfl, kk, sm, xs, t, hxs, rfl⟩ | ⟨⟨q, hq, hw⟩, _⟩
  · rw [same_eq sm, txts_of hxs]
    exact h t _ _ kk (F.keeps kk) (N.grown kk)
  · obtain ⟨x, hx⟩ := hs q hq
    rw [hw] at hx; cases hx
end
theorem join_full {gs : List (Option (Int × Int))} (h : gs ≠ []) (hs : ∀ q ∈ gs, ∃ x, wrP q = some x) : Txt.join (Str.ofString ",") (txts gs) ≠ Str.ofString "" := by
  intro e
  have h1 := split_join (xs := txts gs) (by simpa using h) (fun p hp => by
    obtain ⟨q, hq, rfl⟩ := List.mem_map.mp hp
    obtain ⟨x, hx⟩ := hs q hq
    rw [hx]; exact wr_nocomma hx)
  rw [e, show Txt.split (Str.ofString "") (Str.ofString ",") = [Str.ofString ""] from by decide +kernel] at h1
  have : Str.ofString "" ∈ txts gs := by rw [← h1]; exact List.mem_singleton.mpr rfl
  obtain ⟨q, hq, hx⟩ := List.mem_map.mp this
  obtain ⟨x, hw⟩ := hs q hq
  rw [hw] at hx
  exact wr_full hw hx
theorem split_good {gs : List (Option (Int × Int))} (h : gs ≠ []) (hs : ∀ q ∈ gs, ∃ x, wrP q = some x) : Txt.split (Txt.join (Str.ofString ",") (txts gs)) (Str.ofString ",") = txts gs :=
  split_join (xs := txts gs) (by simpa using h) (fun p hp => by
    obtain ⟨q, hq, rfl⟩ := List.mem_map.mp hp
    obtain ⟨x, hx⟩ := hs q hq
    rw [hx]; exact wr_nocomma hx)
theorem join_len {gs : List (Option (Int × Int))} (hs : ∀ q ∈ gs, ∃ x, wrP q = some x) (hn : gs.length ≤ 100) : (Txt.join (Str.ofString ",") (txts gs)).length ≤ 1000 := by
  show (Builtin.Str.glued (Str.ofString ",") (txts gs)).length ≤ 1000
  rw [StrLaws.glued_eq_join]
  refine Nat.le_trans (StrLaws.join_length_le _ _) ?_
  have h1 : (Str.ofString ",").length = 1 := by decide
  have h2 : (txts gs).length = gs.length := by simp
  have h3 : ((txts gs).map (·.length)).sum ≤ (txts gs).length * 4 := StrLaws.sumLen_le _ fun y hy => by
    obtain ⟨q, hq, rfl⟩ := List.mem_map.mp hy
    obtain ⟨x, hx⟩ := hs q hq
    rw [hx]; exact wr_len hx
  rw [h1]
  omega
theorem eqv_nil_cons (p : Option (Int × Int)) (ps : List (Option (Int × Int))) : PyData.eqv (.list ((p :: ps).map ptD)) (.list []) = false := by
  simp [PyData.eqv, PyData.eqvAll]
theorem last_eq (pts : List (Option (Int × Int))) : ((Txt.join (Str.ofString ",") (txts (gd pts)) == Str.ofString "") == PyData.eqv (.list ((gd pts).map ptD)) (.list [])) = true := by
  cases hg : gd pts with
  | nil => decide +kernel
  | cons g gs =>
    rw [eqv_nil_cons, show (Txt.join (Str.ofString ",") (txts (g :: gs)) == Str.ofString "") = false from beq_eq_false_iff_ne.mpr (join_full (by simp) (fun q hq => gd_some q (hg ▸ hq)))]
    rfl
end Mine

end
theorem Mine.flush47 : True := by
  w_top off
  first | walk1 | trivial
section
open PySem PySem.W PyProof.Rows PySem.Calls
set_option maxRecDepth 100000
set_option maxHeartbeats 8000000
namespace Mine
local macro_rules | `(tactic| walk_at "subscriptTail") => `(tactic| ((with_reducible show wpAny _ _ (subscriptTail _ _ (Value.ref _) (Value.str _ _)) _ _ _); k_dflt (refine' top_missing ?F ?X ?l ?k ?e ?a ?hh ?_; (case F => k_asm); (case X => k_asm); (case l => k_is); (case k => k_keys); (case e => exact find_bw rfl rfl (by assumption) (by assumption)); (case a => decide); (case hh => assumption)); intro h' e' x'))
theorem filled_Law : PySem.Challenge.rw_md0057_01.prog = PySem.Challenge.rw_md0057_01.prog ∧ hd.heap_39 = hd.heap_39 := by
  k_fill
  exact ⟨rfl, rfl⟩
theorem enterCGN {G : Ctx → Prop} {w : World} {A : Around} {s : Shared} {b0 g : Heap} {l : List Env} {K : Frag} {p : Program} {loose : List Str} {mean : ExcName → Option Value} {mg mb : Str → Option Value}
    {R : Result → Shared → Prop} {name qual : Str} {params : Arguments} {body : List Stmt} {scope : Scope} {dV kV doc pm cdv ct oc : Value} {an od : Option Addr} {osl : Array (Option Value)} {f : Addr} {args : Args} {binds : List (Str × Value)} {tabs : List (Addr × Obj)} {prog : Program} (cG : Closed G)
    (B : Below A b0 l g) (X : K.In b0) (T : Top p loose mean mg mb b0) (st : g.StaysIn s.heap) (hsz : g.objs.size ≤ s.heap.objs.size) (hs : ∀ p ∈ tabs, s.heap.get? p.1 = some p.2 ∧ g.get? p.1 = none)
    (ho : K.lookup f = some ⟨oc, od, .func (fnOf name qual params body scope dV kV doc pm an cdv ct), osl⟩) (hcd : codeIn K cdv qual = true) (hroom : A.depth < recursionLimit)
    (hbind : BindsTo s (fnOf name qual params body scope dV kV doc pm an cdv ct) args binds)
    (hkind : ∀ n, ∀ x ∈ binds, scope.names.lookup x.1 = some .local ∨ (scope.names.lookup x.1 = some .cell ∧ ((cellsFrom n scope.names []).lookup x.1).isSome = true))
    (hnd : ((cellsFrom 0 scope.names []).map (·.1)).Nodup)
    (h : ∀ L h₁ tk cells, Fr g L h₁ (bindL (envOfC qual scope L f cdv).kindOf binds fun _ => none) → News g L h₁ (cells ++ tabs) →
      CellsAre (bindC (envOfC qual scope L f cdv).kindOf binds fun _ => none) (cellsFrom (L + 1) scope.names []) cells → K.In g → Top p loose mean mg mb g → (∀ p ∈ tabs, p.1 < L) →
      wpG G (model prog w) (A.deeper (envOfC qual scope L f cdv)) (execs body (envOfC qual scope L f cdv)) (fun fl s' => R (.ok (.ret (match fl with | .ret v => v | _ => .none))) s') N0 { s with heap := h₁, toks := tk })
    (hco : scope.isCoroutine = false) (hgen : scope.isGenerator = false) (hk : scope.kind = .function) : codeG G (model prog w) A (.call (.ref f) args) R s := by
  have Xg : K.In g := X.keeps B.stays
  have Tg : Top p loose mean mg mb g := T.keeps B.stays
  have X' : K.In s.heap := Xg.keeps st
  have T' : Top p loose mean mg mb s.heap := Tg.keeps st
  refine codeG_fn cG (fd := fnOf name qual params body scope dV kV doc pm an cdv ct) (body := body) hroom (X' _ _ ho) rfl hco hgen rfl (codeRec_of X' hcd) (hbind _ _ _ _ ?_)
  refine wpAny_newFunctionEnv_cells hk (hkind _) fun env' he s' x => ?_
  subst he
  refine ⟨T'.nolimit.keeps x.toInCall.keep, codeG_func cG ?_⟩
  obtain ⟨h₁, tk, rfl, _⟩ := x.done
  have hk₁ := x.toInCall.keep
  obtain ⟨cells, NC, Y⟩ := Cl.news (h₀ := s.heap) (Nat.le_refl _) fun n c hm => ⟨x.cell n c (lookup_of_mem_nodup (cellsFrom_names scope.names 0 (s.heap.objs.size + 1) [] [] rfl ▸ hnd) hm), x.above n c hm⟩
  refine wpG_mono (h s.heap.objs.size h₁ tk cells ⟨x.toInCall.ns, fun b o e => hk₁ b o (st b o e), hsz⟩ (fun p hp => ?_) Y Xg Tg (fun p hp => Heap.lt_size (hs p hp).1)) (fun _ _ q => q) fun _ _ q => q.elim
  rcases List.mem_append.mp hp with hp | hp
  · exact ⟨(NC p hp).1, (NC p hp).2.1, none_stays st (NC p hp).2.2⟩
  · exact ⟨hk₁ _ _ (hs p hp).1, Nat.ne_of_lt (Heap.lt_size (hs p hp).1), (hs p hp).2⟩
local macro_rules | `(tactic| walk_at "m_enterL") => `(tactic| (refine' enterCGN (tabs := [(66, tabObj #[]), (94, tabObj #[])]) ?cG ?B ?X ?T ?st ?hsz ?hs ?ho ?hcd ?hr ?hb ?hkd ?hnd ?_ ?c2 ?c3 ?c4; (case cG => assumption); (case B => assumption); (case X => assumption); (case T => assumption); (case st => assumption); (case hsz => assumption); (case hs => assumption); (case ho => k_is); (case hcd => k_is); (case hr => (simp only [recursionLimit]; omega)); (case hb => exact BindsTo.of_eq rfl); (case hkd => exact fun _ => kinds_of ⟨.inl rfl, trivial⟩); (case hnd => decide); (case c2 => exact rfl); (case c3 => exact rfl); (case c4 => exact rfl); k_whole; intro L' h' tk' cells' F' N' Y' X' T' l'; (try dsimp only)))
def Pre (b0 : Heap) (L a : Addr) (o2 : Obj) (s s' : Shared) : Prop :=
  ∃ (h : Heap) (tk : Nat) (D : Addr) (sz : Int) (tz : Tok) (hv : Int) (th : Tok) (m' : Str → Option Value) (o1 : Obj) (c : Nat), s' = { s with heap := h, toks := tk } ∧ Fr b0 L h (fun y => if y = Str.ofString "size" then some (.int sz tz) else if y = Str.ofString "head" then some (.int hv th) else if y = Str.ofString "script" then some (.ref a) else m' y) ∧
    News b0 L h [(L + 1 + 1, o1), (L + 1, o2), (D, W.listOf #[] c), (66, tabObj #[]), (94, tabObj #[])] ∧ o1.data = .cell (some (.ref D)) ∧ @LT.lt Nat _ (L + 1 + 1) D
theorem pre_mk {b0 h : Heap} {L a D : Addr} {o1 o2 : Obj} {s : Shared} {m : Str → Option Value} {news : Ledger} {sz hv : Int} {tz th : Tok} {c tk : Nat} (F : Fr b0 L h m) (N : News b0 L h news) (hd : o1.data = .cell (some (.ref D))) (hlt : @LT.lt Nat _ (L + 1 + 1) D)
    (hs : ∀ p ∈ [(L + 1 + 1, o1), (L + 1, o2), (D, W.listOf #[] c), (66, tabObj #[]), (94, tabObj #[])], p ∈ news)
    (h1 : m (Str.ofString "size") = some (.int sz tz)) (h2 : m (Str.ofString "head") = some (.int hv th)) (h3 : m (Str.ofString "script") = some (.ref a)) : Pre b0 L a o2 s { s with heap := h, toks := tk } :=
  ⟨h, tk, D, sz, tz, hv, th, m, o1, c, rfl, chain3 h1 h2 h3 ▸ F, fun p hp => N p (hs p hp), hd, hlt⟩
local macro_rules | `(tactic| walk_at "call ref") => `(tactic| ((with_reducible show wpAny _ _ (call (Value.ref 92) [Value.int _ _, Value.int _ _]) _ _ _); refine' call_txt ?B ?X ?T ?hh ?hd ?hu ?hf ?hk ?F ?N ?_; (case F => assumption); (case B => assumption); (case X => assumption); (case T => assumption); (case hh => assumption); (case hd => omega); (case hu => omega); (case hf => exact rfl); (case hk => exact rfl); (case N => assumption); (intro x9 t9 h9 tk hgood hlen F9 N9)))
local macro_rules | `(tactic| walk_at "unpackItems ref") => `(tactic| ((with_reducible show wpAny _ _ (unpackItems (Value.ref _) _ none) _ _ _); refine' unpackItemsN_ ?F ?N (isTup_news ?N2) ?hh ?hn ?_; (case F => assumption); (case N => assumption); (case N2 => assumption); (case hh => assumption); (case hn => exact rfl); (intro h' F' N')))
local macro_rules | `(tactic| walk_at "call ref") => `(tactic| ((with_reducible show wpAny _ _ (call (Value.ref 78) [_]) _ _ _); refine' call_wr ?B ?X ?T ?hh ?hd ?hu ?hf ?hk ?F ?N ?hp ?_; (case F => assumption); (case B => assumption); (case X => assumption); (case T => assumption); (case hh => assumption); (case hd => omega); (case hu => omega); (case hf => exact rfl); (case hk => exact rfl); (case N => assumption); (case hp => assumption); (intro t9 h9 tk k9 F9 N9)))
local macro_rules | `(tactic| walk_at "compareOp NotEq str str") => `(tactic| (refine' ne_str ?_; rw [bne_self_eq_false]))
local macro_rules | `(tactic| walk_at "call ref") => `(tactic| ((with_reducible show wpAny _ _ (call (Value.ref 50) [Value.str _ _, Value.int _ _]) _ _ _); refine' call_mfv ?B ?X ?T ?hh ?hd ?hu ?hf ?hk ?F ?N ?hx ?_; (case F => assumption); (case B => assumption); (case X => assumption); (case T => assumption); (case hh => assumption); (case hd => omega); (case hu => omega); (case hf => exact rfl); (case hk => exact rfl); (case N => assumption); (case hx => assumption); (intro u9 h9 tk hpu k9 F9 N9)))
local macro_rules | `(tactic| walk_at "call ref") => `(tactic| ((with_reducible show wpAny _ _ (call (Value.ref 71) [Value.str _ _, Value.int _ _]) _ _ _); refine' call_askedA ?B ?X ?T ?hC ?hh ?hd ?hu ?hf ?hk ?hx ?hg ?hG ?S ?_; (case B => assumption); (case X => assumption); (case T => assumption); (case hC => assumption); (case hh => assumption); (case hd => omega); (case hu => omega); (case hf => exact rfl); (case hk => exact rfl); (case S => (refine' LSt.re ?S0 ?F ?N ?hs; (case F => assumption); (case N => assumption); (case S0 => assumption); (case hs => exact fun p hp => hp))); (case hx => first | exact Rd.len (by assumption) | exact Rd.len (Rd.low (by assumption))); (case hg => first | exact Rd.good (by assumption) | exact Rd.good (Rd.low (by assumption))); (case hG => first | exact Rd.int (by assumption) | exact Rd.int (Rd.low (by assumption))); (intro h9 tk ps9 codes9 S9 F9 N9)))
theorem fix5_mem {L D : Addr} {o1 o2 o3 o4 o5 : Obj} {r : Ledger} : ∀ b ∈ Fix5 L D, ∃ o, (b, o) ∈ (L + 1 + 1, o1) :: (L + 1, o2) :: (D, o3) :: (66, o4) :: (94, o5) :: r := fun b hb => by
  rcases List.mem_cons.mp hb with rfl | hb
  · exact ⟨_, .head _⟩
  rcases List.mem_cons.mp hb with rfl | hb
  · exact ⟨_, .tail _ (.head _)⟩
  rcases List.mem_cons.mp hb with rfl | hb
  · exact ⟨_, .tail _ (.tail _ (.head _))⟩
  rcases List.mem_cons.mp hb with rfl | hb
  · exact ⟨_, .tail _ (.tail _ (.tail _ (.head _)))⟩
  rw [List.mem_singleton.mp hb]
  exact ⟨_, .tail _ (.tail _ (.tail _ (.tail _ (.head _))))⟩
local macro_rules | `(tactic| walk_at "call builtin:str.split") => `(tactic| (refine' splitN1A ?F ?N ?hy ?_ ?hsz; (case F => assumption); (case N => assumption); (case hy => decide); (case hsz => (rw [sizeLine_eq]; omega)); (intro l9 h9 tk e9 sa9 sh9 il9 F9 N9)))
theorem law_spec {G : Ctx → Prop} {w : World} {mean : ExcName → Option Value} {mg mb : Str → Option Value} {b0 : Heap} {A : Around} {s : Shared} {a : Addr} {vs : List Value} {ns : List Int} (cG : Closed G) (hG : ∀ Γ, G Γ → HC Γ)
    (B : Below A b0 [] b0) (X : (hd.heap_39 w.params).In b0) (T : Top topProg lo0 mean mg mb b0) (hC1 : CodeHd b0 70 66) (hC2 : CodeHd b0 96 94) (st : b0.StaysIn s.heap) (hsz : b0.objs.size ≤ s.heap.objs.size)
    (hs : ∀ p ∈ [(66, tabObj #[]), (94, tabObj #[])], s.heap.get? p.1 = some p.2 ∧ b0.get? p.1 = none)
    (hh : A.handled = none) (hdep : A.depth ≤ 320) (hun : A.units ≤ 3000) (hl : b0.IsList a vs.toArray) (hi : IntsAre vs ns) (hn : ns.length ≤ 63) :
    codeG G (model prog0 w) A (.call (.ref 97) ⟨[.ref a], []⟩) (fun r s' => r = .ok (.ret (.bool true)) ∧ Same s s' ∧ b0.StaysIn s'.heap ∧ GrownAt 66 s'.heap ∧ GrownAt 94 s'.heap) s := by
  walk_at "m_enterL"
  rename_i L' h' tk' cells' F' N' Y' X' T' l'
  have Y2 : CellsAre _ [(Str.ofString "points", L' + 1 + 1), (Str.ofString "point", L' + 1)] cells' := Y'
  obtain ⟨o1, o2, rfl, d1, d2⟩ := Y2.two
  replace d1 : o1.data = .cell none := d1
  replace d2 : o2.data = .cell none := d2
  replace F' : Fr b0 L' h' (fun y => if y = Str.ofString "script" then some (.ref a) else none) := F'
  replace N' : News b0 L' h' [(L' + 1 + 1, o1), (L' + 1, o2), (66, tabObj #[]), (94, tabObj #[])] := N'
  have q1 : @LT.lt Nat _ 66 L' := l' _ (.head _)
  have q2 : @LT.lt Nat _ 94 L' := l' _ (.tail _ (.head _))
  clear Y' Y2 l'
  refine gx_cuts (Pre b0 L' a o2 s) [_, _, _, _] ?_ ?_
  · refine wpG_any ?_
    k_whole
    (try k_fold)
    k_steps
    all_goals exact pre_mk (c := 0) (by assumption) (by assumption) (by assumption) (by omega) (fun p hp => by simp only [List.mem_cons, List.not_mem_nil, or_false, List.cons_append, List.nil_append] at hp ⊢; rcases hp with h | h | h | h | h <;> simp [h]) rfl rfl rfl
  clear F' N' d1
  rintro s1 ⟨h1, tk1, D, sz, tz, hv, th, m1, o1', c1, rfl, F1, N1, d1, q3⟩
  refine gx_cut (fun s' => LS b0 L' D [] 25 s (fun _ _ _ => True) s') ?_ ?_
  · refine forL (h₀ := b0) cG ?_ (Fix5 L' D) (LJ b0 L' D sz tz) ([(0 : Int)] ++ List.take (min 25 ns.length - 1) (List.drop 1 ns)).length (fun _ v => ∃ k t, v = .int k t) ?_ ?_ ?_ ?_ ?_ ?_
    · exact hh
    · exact rfl
    · exact rfl
    · exact fun _ => rfl
    · k_fold
      k_steps
      rename_i D2 ws h2 F2 N2 hI2 l2
      refine iter_ok (news := [(L' + 1 + 1, o1'), (L' + 1, o2), (D, W.listOf #[] c1), (66, tabObj #[]), (94, tabObj #[])]) F2 N2 (.head _) (hI2.length.trans rfl) (fun i v e => ints_item hI2 e) (fun p hp => .tail _ (.tail _ (.tail _ hp))) (fun b hb => ?_) (fun hm => ?_) ?_
      · rcases List.mem_cons.mp hb with rfl | hb
        · exact ⟨_, .head _⟩
        rcases List.mem_cons.mp hb with rfl | hb
        · exact ⟨_, .tail _ (.head _)⟩
        rcases List.mem_cons.mp hb with rfl | hb
        · exact ⟨_, .tail _ (.tail _ (.head _))⟩
        rcases List.mem_cons.mp hb with rfl | hb
        · exact ⟨_, .tail _ (.tail _ (.tail _ (.head _)))⟩
        rw [List.mem_singleton.mp hb]
        exact ⟨_, .tail _ (.tail _ (.tail _ (.tail _ (.head _))))⟩
      · rcases List.mem_cons.mp hm with e | hm
        · exact absurd e (neN (by omega))
        rcases List.mem_cons.mp hm with e | hm
        · exact absurd e (neN (by omega))
        rcases List.mem_cons.mp hm with e | hm
        · exact absurd e (neN (by omega))
        rcases List.mem_cons.mp hm with e | hm
        · exact absurd e (neN (by omega))
        exact absurd (List.mem_singleton.mp hm) (neN (by omega))
      · exact ⟨rfl, o1', o2, [], c1, #[], #[], [], [], none, rfl, d1, d2, .nil, Nat.le_refl _, tabIn_nil _ _, tabIn_nil _ _, fun _ h => nomatch h⟩
    · rintro i v m1 news own I h tk hin ⟨n, tn, rfl⟩ hJ hnI hIt hoff F N
      have hsz := hJ.1
      have st0 := ls_of_j (s := s) (tk := tk) (K := fun m _ _ => m (Str.ofString "number") = some (.int n tn) ∧ m (Str.ofString "size") = some (.int sz tz)) hJ F N hoff (fun _ _ => ⟨rfl, hsz⟩)
      clear hJ F N F1 N1 d1 hsz hnI
      refine gx_cut (LS b0 L' D own i s (fun m _ _ => ∃ k t r t', m (Str.ofString "kind") = some (.int k t) ∧ m (Str.ofString "rest") = some (.int r t') ∧ m (Str.ofString "size") = some (.int sz tz))) ?_ ?_
      · obtain ⟨h2, tk2, m2, o1, o2, vs, c, ps1, ps2, tail, pts, v2, e2, S, hm1, hm2⟩ := st0
        rw [show ({ ({ s with heap := h1, toks := tk1 } : Shared) with heap := h, toks := tk } : Shared) = { s with heap := h, toks := tk } from rfl, e2]
        have F := S.F
        rw [chain2 hm1 hm2] at F
        have N := S.N
        have off := S.offT
        refine wpG_any ?_
        k_fold
        k_steps
        refine ls_mk (S.re (by assumption) (by assumption) (fun p hp => by first | exact hp | exact .tail _ hp | exact .tail _ (.tail _ hp))) ?_
        exact ⟨_, _, _, _, rfl, rfl, rfl⟩
      clear st0
      rintro s2 st2
      refine gx_last (gx_if ?_)
      obtain ⟨h2, tk2, m2, o1, o2, vs, c, ps1, ps2, tail, pts, v2, rfl, S, k, t, r, t', hm1, hm2, hm3⟩ := st2
      have F := S.F
      rw [chain3 hm1 hm2 hm3] at F
      have N := S.N
      have off := S.offT
      refine wpG_any ?_
      k_fold
      k_steps
      · have d1 := S.d1
        have d2 := S.d2
        refine gx_cuts (LS b0 L' D own i s (fun m tail v2 => m (Str.ofString "size") = some (.int sz tz) ∧ (∃ r t', m (Str.ofString "rest") = some (.int r t')) ∧ ∃ v p, v2 = some v ∧ PtIn tail v p)) [_, _] ?_ ?_
        · refine wpG_any ?_
          k_whole
          (try k_fold)
          k_steps
          all_goals (refine ls_mk (S.pt (by assumption) (by assumption) (by assumption) (.head _) (fun p hp => .tail _ (.tail _ hp))) ?_; exact ⟨rfl, ⟨_, _, rfl⟩, _, _, rfl, .some (.head _)⟩)
        clear S F N off d1 d2 hm1 hm2 hm3
        rintro s3 ⟨h3, tk3, m3, o1, o2, vs, c, ps1, ps2, tail, pts, v2, rfl, S, hm1, ⟨r, t', hm2⟩, v, p, rfl, hp⟩
        have F := S.F
        rw [chain2 hm1 hm2] at F
        have N := S.N
        have off := S.offT
        have d1 := S.d1
        have d2 := S.d2
        have len := S.len
        have hi25 : i < 64 := by simp at hin; omega
        refine gx_cuts (LS b0 L' D own (i + 1) s (fun m tail v2 => m (Str.ofString "size") = some (.int sz tz) ∧ ∃ v p, v2 = some v ∧ PtIn tail v p)) [_, _] ?_ ?_
        · refine wpG_any ?_
          k_whole
          (try k_fold)
          k_steps
          · refine ls_mk (S.put (v := .none) (p := none) .none (by assumption) (by assumption) (by assumption) (by simp) (fun p hp => hp)) ?_
            exact ⟨rfl, _, _, rfl, .none⟩
          · refine ls_mk (S.put (v := v) (p := p) hp (by assumption) (by assumption) d2 (by simp) (fun p hp => hp)) ?_
            exact ⟨rfl, v, p, rfl, hp⟩
        clear S F N off d1 d2 hm1 hm2 hp len
        rintro s4 ⟨h4, tk4, m4, o1, o2, vs, c, ps1, ps2, tail, pts, v2, rfl, S, hm1, v, p, rfl, hp⟩
        refine gx_cut (LS b0 L' D own (i + 1) s (fun m tail v2 => m (Str.ofString "size") = some (.int sz tz) ∧ v2 = some v ∧ PtIn tail v p ∧ ∃ t, m (Str.ofString "text") = some (.str ((wrP p).getD (Str.ofString "refused")) t))) ?_ ?_
        · refine gx_assign ?_
          have d2 := S.d2
          refine try_lam (own := [(L' + 1 + 1, o1), (L' + 1, o2), (D, W.listOf vs.toArray c), (66, tabObj ps1)]) (rest := tail ++ own) (fa := 36) (vs := [v]) (P := fun u _ => ∃ x tk, wrP p = some x ∧ u = .str x tk) (C := wrP p = none) cG B S.F S.N S.ne94 (S.offT.ne (.tail _ (.tail _ (.tail _ (.tail _ (.head _)))))) X T hC2 rfl (S.t2.ok S.F S.newsT) hh (by omega) (by omega) rfl rfl rfl rfl rfl (by k_is) (by k_is)
            (fun A' L2 f c' s1 Q E led hQ => args1 (c := L' + 1) rfl (led.cell (.tail _ (.head _)) d2) hQ rfl rfl (by decide) (by decide))
            (fun A' l2 s1 B1 hh1 hd1 hu1 led => codeG_any (fv_spec B1 X T hh1 (by omega) (by omega) (hp.is fun e he => led e (List.mem_append_right _ (List.mem_append_left _ he))))) (by k_is) (by k_is) (fun _ _ => rfl) rfl rfl rfl (by decide) rfl (by decide) (fun _ => rfl) (fun _ => rfl) ?_
          intro u g9 h9 ps9 tk9 T9 F9 N9 hT9 B9 hu
          obtain ⟨codes, S9⟩ := S.tried T9 F9 N9 hT9
          have hu' : ∃ t, u = .str ((wrP p).getD (Str.ofString "refused")) t := by
            rcases hu with ⟨x, t, hw, rfl⟩ | ⟨hw, t, rfl⟩
            · exact ⟨t, by rw [hw]; rfl⟩
            · exact ⟨t, by rw [hw]; rfl⟩
          obtain ⟨tu, rfl⟩ := hu'
          clear hu F9 N9 hT9 B9 T9
          have F := S9.F
          rw [chain1 hm1] at F
          have N := S9.N
          k_whole
          (try dsimp only)
          (try k_fold)
          k_steps
          refine ls_mk (S9.re (by assumption) (by assumption) (fun p hp => hp)) ?_
          exact ⟨rfl, rfl, hp.mono fun e he => List.mem_append_left _ he, _, rfl⟩
        clear S hm1 hp
        rintro s5 ⟨h5, tk5, m5, o1, o2, vs, c, ps1, ps2, tail, pts, v2, rfl, S, hm1, rfl, hp, t5, hm2⟩
        refine gx_ifcut (LS b0 L' D own (i + 1) s (fun m tail v2 => m (Str.ofString "size") = some (.int sz tz) ∧ v2 = some v ∧ PtIn tail v p ∧ ∃ t, m (Str.ofString "text") = some (.str ((wrP p).getD (Str.ofString "refused")) t))) ?_ ?_
        · have F := S.F
          rw [chain2 hm2 hm1] at F
          have N := S.N
          have d1 := S.d1
          have d2 := S.d2
          have hpt := hp.is S.led
          refine wpG_any ?_
          k_fold
          k_steps
          refine ls_mk (S.re (by assumption) (by assumption) (fun p hp => hp)) ?_
          exact ⟨rfl, rfl, hp, _, rfl⟩
        clear S hm1 hm2 hp
        rintro s6 ⟨h6, tk6, m6, o1, o2, vs, c, ps1, ps2, tail, pts, v2, rfl, S, hm1, rfl, hp, t6, hm2⟩
        cases hw : wrP p with
        | none =>
          rw [hw] at hm2
          replace hm2 : m6 (Str.ofString "text") = some (.str (Str.ofString "refused") t6) := hm2
          have F := S.F
          rw [chain2 hm2 hm1] at F
          have N := S.N
          refine gx_step ?_
          k_fold
          k_steps
          exact step_of_ls (i := i + 1) (s := s) (ls_mk (K := fun m _ _ => m (Str.ofString "size") = some (.int sz tz)) (S.re F N (fun p hp => hp)) rfl) hIt (fun _ _ _ q => q) (Nat.le_refl _)
        | some x =>
          rw [hw] at hm2
          replace hm2 : m6 (Str.ofString "text") = some (.str x t6) := hm2
          have hne := wr_ne hw
          have rd := rd_of hw
          have rlen := rd.len
          refine gx_ifcut (LS b0 L' D own (i + 1) s (fun m tail v2 => m (Str.ofString "size") = some (.int sz tz) ∧ v2 = some v ∧ PtIn tail v p ∧ ∃ t, m (Str.ofString "text") = some (.str x t))) ?_ ?_
          · have F := S.F
            rw [chain2 hm2 hm1] at F
            have N := S.N
            refine wpG_any ?_
            k_fold
            k_steps
            · rw [beq_eq_false_iff_ne]; exact hne
            · refine ls_mk (S.re F N (fun p hp => hp)) ?_
              exact ⟨rfl, rfl, hp, _, rfl⟩
          clear S hm1 hm2 hp
          rintro s7 ⟨h7, tk7, m7, o1, o2, vs, c, ps1, ps2, tail, pts, v2, rfl, S, hm1, rfl, hp, t7, hm2⟩
          refine gx_cut (LS b0 L' D own (i + 1) s (fun m tail v2 => m (Str.ofString "size") = some (.int sz tz) ∧ v2 = some v ∧ PtIn tail v p ∧ ∃ t, m (Str.ofString "text") = some (.str x t))) ?_ ?_
          · refine forL (h₀ := b0) cG ?_ (Fix5 L' D) (fun _ => LJ2 b0 L' D own (i + 1) (fun m tail v2 => m (Str.ofString "size") = some (.int sz tz) ∧ v2 = some v ∧ PtIn tail v p ∧ ∃ t, m (Str.ofString "text") = some (.str x t))) 2 (fun _ v => ∃ k t, v = .int k t) ?_ ?_ ?_ ?_ ?_ ?_
            · exact hh
            · exact rfl
            · exact rfl
            · exact fun _ => rfl
            · have F := S.F
              rw [chain2 hm2 hm1] at F
              have N := S.N
              k_whole
              (try dsimp only)
              (try k_fold)
              k_steps
              rename_i D3 h3 F3 N3 l3
              refine iter_ok (news := (L' + 1 + 1, o1) :: (L' + 1, o2) :: (D, W.listOf vs.toArray c) :: (66, tabObj ps1) :: (94, tabObj ps2) :: (tail ++ own)) F3 N3 (.head _) rfl (fun i v e => ?_) (fun p hp => .tail _ hp) fix5_mem (fun hm => ?_) (j2_of S ⟨rfl, rfl, hp, _, rfl⟩)
              · rcases i with _ | _ | i
                · cases e; exact ⟨_, _, rfl⟩
                · cases e; exact ⟨_, _, rfl⟩
                · simp at e
              · rcases List.mem_cons.mp hm with e | hm
                · exact absurd e (neN (by omega))
                rcases List.mem_cons.mp hm with e | hm
                · exact absurd e (neN (by omega))
                rcases List.mem_cons.mp hm with e | hm
                · exact absurd e (neN (by omega))
                rcases List.mem_cons.mp hm with e | hm
                · exact absurd e (neN (by omega))
                exact absurd (List.mem_singleton.mp hm) (neN (by omega))
            · rintro j w9 m8 news8 own8 I8 h8 tk8 hj ⟨n8, tn8, rfl⟩ hJ hnI hIt8 hoff8 F8 N8
              have own_ne : ∀ q ∈ own, q.1 ≠ I8 := by
                obtain ⟨o1, o2, vs, c, ps1, ps2, tail, pts, v2, rfl, _⟩ := hJ
                exact fun q hq => hnI q (.tail _ (.tail _ (.tail _ (.tail _ (.tail _ (List.mem_append_right _ hq))))))
              have st8 := ls_of_j2 (s := s) (tk := tk8) (K' := fun m tail v2 => m (Str.ofString "one") = some (.int n8 tn8) ∧ m (Str.ofString "size") = some (.int sz tz) ∧ v2 = some v ∧ PtIn tail v p ∧ ∃ t, m (Str.ofString "text") = some (.str x t)) hJ F8 N8 hoff8 (fun _ _ q => ⟨rfl, q⟩)
              clear hJ F8 N8 S hm1 hm2 hp
              obtain ⟨h9, tk9, m9, o1, o2, vs, c, ps1, ps2, tail, pts, v2, e9, S, hm0, hm1, rfl, hp, t9, hm2⟩ := st8
              rw [show ({ ({ s with heap := h7, toks := tk7 } : Shared) with heap := h8, toks := tk8 } : Shared) = { s with heap := h8, toks := tk8 } from rfl, e9]
              refine gx_ifcut (LS b0 L' D (own ++ own8) (i + 1) s (fun m tail v2 => m (Str.ofString "size") = some (.int sz tz) ∧ v2 = some v ∧ PtIn tail v p ∧ ∃ t, m (Str.ofString "text") = some (.str x t))) ?_ ?_
              · have F := S.F
                rw [chain3 hm2 hm0 hm1] at F
                have N := S.N
                refine wpG_any ?_
                k_fold
                k_steps
                rename_i S9 F9 N9
                refine ls_mk S9 ?_
                exact ⟨rfl, rfl, hp.mono (fun e he => List.mem_append_left _ (List.mem_append_left _ he)), _, rfl⟩
              rintro s9 st9
              exact gx_nil (step_of_ls2 (s := s) st9 hIt8 own_ne)
            · rintro h8 tk8 m8 news8 F8 N8 hJ
              exact ⟨rfl, ls_of_j2' hJ F8 N8⟩
          clear S hm1 hm2 hp
          rintro s8 ⟨h8, tk8, m8, o1, o2, vs, c, ps1, ps2, tail, pts, v2, rfl, S, hm1, rfl, hp, t8, hm2⟩
          refine gx_ifcut (LS b0 L' D own (i + 1) s (fun m _ _ => m (Str.ofString "size") = some (.int sz tz))) ?_ ?_
          · have F := S.F
            rw [chain2 hm2 hm1] at F
            have N := S.N
            have d1 := S.d1
            have d2 := S.d2
            refine wpG_any ?_
            k_fold
            k_steps
            rename_i u9 h9 tk9 hpu k9 F9 N9
            refine pt_ne hpu ((hp.is S.led).keeps k9) (by rw [units_deeper, cLine_is]; omega) ?_
            k_steps
            exact ls_mk (K := fun m _ _ => m (Str.ofString "size") = some (.int sz tz)) (S.re F9 N9 (fun p hp => hp)) rfl
          rintro s9 st9
          exact gx_nil (step_of_ls (s := s) st9 hIt (fun _ _ _ q => q) (Nat.le_refl _))
      · refine gx_last (gx_if (gt_not (gt_call (ge_call ?_))))
        k_fold
        k_steps
        refine gc_K (K := hd.heap_39 w.params) X (by k_is) ?_
        k_fold
        k_steps
        refine call_asked cG B X T hC1 hh (by omega) (by omega) rfl rfl (by assumption) (by assumption) (.inr hG) (S.re (by assumption) (by assumption) (fun p hp => by first | exact hp | exact .tail _ hp | exact .tail _ (.tail _ hp))) ?_
        intro h9 tk9 ps9 codes S9
        k_steps
        refine gx_nil ?_
        exact step_of_ls (i := i) (s := s) (ls_mk (K := fun m _ _ => m (Str.ofString "size") = some (.int sz tz)) S9 rfl) hIt (fun _ _ _ q => q) (Nat.le_succ _)
    · rintro h tk m news F N hJ
      refine ⟨rfl, ?_⟩
      have hlen : ([(0 : Int)] ++ List.take (min 25 ns.length - 1) (List.drop 1 ns)).length ≤ 25 := by simp; omega
      obtain ⟨_, o1, o2, vs, c, ps1, ps2, tail, pts, v2, rfl, d1, d2, P, len, t1, t2, ob⟩ := hJ
      refine ⟨h, tk, m, o1, o2, vs, c, ps1, ps2, tail, pts, v2, rfl, ⟨F, ?_, d1, d2, P, Nat.le_trans len hlen, t1, t2, ob, fun p hp => nomatch hp⟩, trivial⟩
      rw [List.append_nil]
      exact N
  clear F1 N1
  rintro s2 ⟨h2, tk2, m2, o1, o2, vs, c, ps1, ps2, tail, pts, v2, rfl, S, -⟩
  have len25 := S.len
  have plen : vs.length = pts.length := (S.P.are S.led).length
  -- the single texts
  refine gx_cut (fun s' => Fin (∃ h tk m D1 n1 l1, s' = { s with heap := h, toks := tk } ∧ LSt b0 L' D [(D1, W.listOf (strValues l1).toArray n1)] 25 h m o1 o2 vs c ps1 ps2 tail pts v2 ∧ l1.map (·.1) = txts pts ∧ m (Str.ofString "single") = some (.ref D1))) ?_ ?_
  · refine wpG_any (comp_pts hh (fun _ => true) (FW tail) S rfl rfl (by decide) (by decide) rfl (by decide) rfl rfl rfl (fun _ => rfl) (by omega) ?_ ?_ ?_ ?_)
    · intro Q hQ
      exact nameX_C S.N rfl (.head _) S.d1 hQ rfl rfl (by decide)
    · intro C v s3 m3 E' hv hk hn hm
      exact tests_nil rfl
    · intro C v s3 m3 E' hv _ hk hn hm
      obtain ⟨p, hp⟩ := S.P.mem v hv
      have kb : b0.StaysIn s3.heap := fun b o e => hk _ _ (S.F.keep b o e)
      refine wpAny_mono (cx_call1 (mg := mg) (fa := 78) (X.keeps kb) (T.g.keeps kb) rfl rfl rfl (by k_is) (by k_is) (by decide) rfl hn hm (by decide) (cx_wr B X T hh (by omega) (by omega) rfl rfl S.F hk ((hp.is S.led).keeps hk))) (fun y s4 h4 => ⟨fun q hq => ?_, h4.2⟩) (fun _ _ x => x)
      rw [ptIs_fun (hq.is S.led) (hp.is S.led)]; exact h4.1
    · intro D1 h' tk ys n hF S'
      rw [List.filter_eq_self.mpr (fun _ _ => rfl)] at hF
      obtain ⟨l, rfl, hl⟩ := strs_of S.P hF
      exact ⟨rfl, h', tk, _, D1, n, l, rfl, S', hl, if_pos rfl⟩
  clear S
  rintro s3 ⟨h3, tk3, m3, D1, n1, l1, rfl, S, hl1, hm1⟩
  -- the whole, tried
  refine gx_cut (fun s' => Fin (∃ h tk m ps2' codes t, s' = { s with heap := h, toks := tk } ∧ LSt b0 L' D [(D1, W.listOf (strValues l1).toArray n1)] 25 h m o1 o2 vs c ps1 ps2' (tail ++ codes) pts v2 ∧ m (Str.ofString "single") = some (.ref D1) ∧
    (((∃ p ∈ pts, wrP p = none) ∧ m (Str.ofString "whole") = some (.str (Str.ofString "refused") t)) ∨ (pts.map wrP = (txts pts).map some ∧ m (Str.ofString "whole") = some (.str (Txt.join (Str.ofString ",") (txts pts)) t))))) ?_ ?_
  · refine gx_assign ?_
    have d1 := S.d1
    refine try_lam (own := [(L' + 1 + 1, o1), (L' + 1, o2), (D, W.listOf vs.toArray c), (66, tabObj ps1)]) (rest := tail ++ [(D1, W.listOf (strValues l1).toArray n1)]) (fa := 43) (vs := [.ref D]) (P := fun u _ => ∃ xs tk, pts.map wrP = xs.map some ∧ u = .str (Txt.join (Str.ofString ",") xs) tk) (C := ∃ p ∈ pts, wrP p = none) cG B S.F S.N S.ne94 (S.offT.ne (.tail _ (.tail _ (.tail _ (.tail _ (.head _)))))) X T hC2 rfl (S.t2.ok S.F S.newsT) hh (by omega) (by omega) rfl rfl rfl rfl rfl (by k_is) (by k_is)
      (fun A' L2 f c' s1 Q E led hQ => args1 (c := L' + 1 + 1) rfl (led.cell (.head _) d1) hQ rfl rfl (by decide) (by decide))
      (fun A' l2 s1 B1 hh1 hd1 hu1 led => codeG_any (fvl_spec B1 X T hh1 (by omega) (by omega) ⟨_, led (D, W.listOf vs.toArray c) (.tail _ (.tail _ (.head _))), rfl, _, rfl⟩ (S.P.are fun e he => led e (List.mem_append_right _ (List.mem_append_left _ he))) (by omega))) (by k_is) (by k_is) (fun _ _ => rfl) rfl rfl rfl (by decide) rfl (by decide) (fun _ => rfl) (fun _ => rfl) ?_
    intro u g9 h9 ps9 tk9 T9 F9 N9 hT9 B9 hu
    obtain ⟨codes, S9⟩ := S.tried T9 F9 N9 hT9
    clear F9 N9 hT9 B9 T9
    have F := S9.F
    rw [chain1 hm1] at F
    have N := S9.N
    rcases hu with ⟨xs, t, hw, rfl⟩ | ⟨hw, t, rfl⟩
    · obtain rfl := txts_of hw
      k_whole
      (try dsimp only)
      (try k_fold)
      k_steps
      exact Fin.mk ⟨_, _, _, ps9, codes, _, rfl, S9.re (by assumption) (by assumption) (fun p hp => hp), rfl, .inr ⟨hw, rfl⟩⟩
    · k_whole
      (try dsimp only)
      (try k_fold)
      k_steps
      exact Fin.mk ⟨_, _, _, ps9, codes, _, rfl, S9.re (by assumption) (by assumption) (fun p hp => hp), rfl, .inl ⟨hw, rfl⟩⟩
  clear S hm1
  rintro s4 ⟨h4, tk4, m4, ps2', codes, t4, rfl, S, hm1, hwh⟩
  refine gx_ifcut (fun s' => Fin (∃ h tk m, s' = { s with heap := h, toks := tk } ∧ LSt b0 L' D [(D1, W.listOf (strValues l1).toArray n1)] 25 h m o1 o2 vs c ps1 ps2' (tail ++ codes) pts v2)) ?_ ?_
  · have hD1 : h4.IsList D1 (strValues l1).toArray := ⟨_, (S.N (D1, W.listOf (strValues l1).toArray n1) (S.memO (.head _))).1, rfl, _, rfl⟩
    have F := S.F
    have N := S.N
    rcases hwh with ⟨hb, hm2⟩ | ⟨hgood, hm2⟩
    · rw [chain2 hm2 hm1] at F
      refine wpG_any ?_
      k_fold
      k_steps
      refine in_list_strs hD1 (strsAre_of_values l1) ?_
      rw [hl1, any_bad hb]
      k_steps
      exact Fin.mk ⟨_, _, _, rfl, S.re F N (fun p hp => hp)⟩
    · rw [chain2 hm2 hm1] at F
      refine wpG_any ?_
      k_fold
      k_steps
      refine in_list_strs hD1 (strsAre_of_values l1) ?_
      rw [hl1, any_good hgood]
      k_steps
      refine SC.join hD1 hl1 (join_ok hgood (by omega)) (fun t' k => ?_)
      k_steps
      exact Fin.mk ⟨_, _, _, rfl, S.re F N (fun p hp => hp)⟩
  clear S hwh hm1
  rintro s5 ⟨h5, tk5, m5, rfl, S⟩
  -- the good ones
  refine gx_cut (fun s' => Fin (∃ h tk m D2 n2, s' = { s with heap := h, toks := tk } ∧ LSt b0 L' D [(D2, W.listOf (vs.filter (pz (tail ++ codes))).toArray n2), (D1, W.listOf (strValues l1).toArray n1)] 25 h m o1 o2 vs c ps1 ps2' (tail ++ codes) pts v2 ∧ m (Str.ofString "good") = some (.ref D2))) ?_ ?_
  · refine wpG_any (comp_pts hh (pz (tail ++ codes)) (fun v y => y = v) S rfl rfl (by decide) (by decide) rfl (by decide) rfl rfl rfl (fun _ => rfl) (by omega) ?_ ?_ ?_ ?_)
    · intro Q hQ
      exact nameX_C S.N rfl (.head _) S.d1 hQ rfl rfl (by decide)
    · intro C v s3 m3 E' hv hk hn hm
      obtain ⟨p, hp⟩ := S.P.mem v hv
      have kb : b0.StaysIn s3.heap := fun b o e => hk _ _ (S.F.keep b o e)
      refine tests_one (wpG_all (gt_compare (wpG_any ?_)))
      refine wpAny_mono (cx_call1 (mg := mg) (fa := 78) (X.keeps kb) (T.g.keeps kb) rfl rfl rfl (by k_is) (by k_is) (by decide) rfl hn hm (by decide) (cx_wr B X T hh (by omega) (by omega) rfl rfl S.F hk ((hp.is S.led).keeps hk))) (fun y s4 h4 => ?_) (fun _ _ x => x)
      obtain ⟨⟨t, rfl⟩, h9, tk9, rfl, k9⟩ := h4
      refine Constant_str (ne_str (wpAny_truthy_bool ⟨?_, h9, _, rfl, k9⟩))
      cases hw : wrP p with
      | none =>
        have : ¬ pz (tail ++ codes) v = true := fun q => by
          obtain ⟨q1, hq1, hq2⟩ := pz_iff.mp q
          rw [← ptIs_fun (hp.is S.led) (hq1.is S.led), hw] at hq2; cases hq2
        rw [(Bool.not_eq_true _).mp this]
        exact bne_self_eq_false _
      | some x =>
        rw [pz_iff.mpr ⟨p, hp, by rw [hw]; rfl⟩]
        exact bne_iff_ne.mpr fun q => wr_ne hw q
    · intro C v s3 m3 E' hv _ hk hn hm
      exact cx_name rfl rfl hn hm (by decide) ⟨rfl, s3.heap, s3.toks, rfl, fun _ _ e => e⟩
    · intro D2 h' tk ys n hF S'
      rw [paired_eq hF] at S'
      exact ⟨rfl, Fin.mk ⟨h', tk, _, D2, n, rfl, S', if_pos rfl⟩⟩
  clear S
  rintro s6 ⟨h6, tk6, m6, D2, n2, rfl, S, hm1⟩
  have gP := filter_pts S.led S.P
  have gA := gP.are S.led
  have gS : ∀ q ∈ gd pts, ∃ x, wrP q = some x := gd_some
  have glen : (vs.filter (pz (tail ++ codes))).length = (gd pts).length := gA.length
  have flen : (vs.filter (pz (tail ++ codes))).length ≤ vs.length := List.length_filter_le _ _
  refine gx_cut (fun s' => Fin (∃ h tk m t, s' = { s with heap := h, toks := tk } ∧ LSt b0 L' D [(D2, W.listOf (vs.filter (pz (tail ++ codes))).toArray n2), (D1, W.listOf (strValues l1).toArray n1)] 25 h m o1 o2 vs c ps1 ps2' (tail ++ codes) pts v2 ∧ m (Str.ofString "good") = some (.ref D2) ∧ m (Str.ofString "whole") = some (.str (Txt.join (Str.ofString ",") (txts (gd pts))) t))) ?_ ?_
  · have hD2 : h6.IsList D2 (vs.filter (pz (tail ++ codes))).toArray := ⟨_, (S.N (D2, _) (S.memO (.head _))).1, rfl, _, rfl⟩
    have F := S.F
    rw [chain1 hm1] at F
    have N := S.N
    refine wpG_any ?_
    k_fold
    k_steps
    refine call_fvl (gs := gd pts) B X T hh (by omega) (by omega) rfl rfl F N hD2 gA (by omega) gS (fun t9 h9 tk9 k9 F9 N9 => ?_)
    k_steps
    exact Fin.mk ⟨_, _, _, _, rfl, S.re (by assumption) (by assumption) (fun p hp => hp), rfl, rfl⟩
  clear S hm1 gA
  rintro s7 ⟨h7, tk7, m7, t7, rfl, S, hm1, hm2⟩
  have gA := gP.are S.led
  have nD2 := (S.N (D2, _) (S.memO (.head _))).1
  have hD2 : h7.IsList D2 (vs.filter (pz (tail ++ codes))).toArray := ⟨_, nD2, rfl, _, rfl⟩
  have jlen := join_len gS (by omega)
  refine gx_cut (fun s' => Fin (∃ h tk m D3 ys3 n3 t, s' = { s with heap := h, toks := tk } ∧ LSt b0 L' D [(D2, W.listOf (vs.filter (pz (tail ++ codes))).toArray n2), (D1, W.listOf (strValues l1).toArray n1)] 25 h m o1 o2 vs c ps1 ps2' (tail ++ codes) pts v2 ∧ h.get? D3 = some (W.listOf (ys3 : List Value).toArray n3) ∧ PtsAre h ys3 (gd pts) ∧
    m (Str.ofString "good") = some (.ref D2) ∧ m (Str.ofString "whole") = some (.str (Txt.join (Str.ofString ",") (txts (gd pts))) t) ∧ m (Str.ofString "back") = some (.ref D3))) ?_ ?_
  · have F := S.F
    rw [chain2 hm1 hm2] at F
    have N := S.N
    refine gx_assign (wpG_any (wpAny_IfExp (wpAny_mono (Q := fun b s₁ => Fin (b = !(vs.filter (pz (tail ++ codes))).isEmpty ∧ ∃ tk, s₁ = { s with heap := h7, toks := tk })) ?_ (fun b s₁ hb => ?_) (fun _ _ x => x))))
    · k_fold
      k_steps
      all_goals (refine Fin.mk ⟨?_, _, rfl⟩; simp [*])
    · obtain ⟨rfl, tk9, rfl⟩ := hb
      cases he : (vs.filter (pz (tail ++ codes))).isEmpty with
      | true =>
        have hnil : gd pts = [] := by
          have e1 : (vs.filter (pz (tail ++ codes))) = [] := List.isEmpty_iff.mp he
          rw [e1] at glen
          exact List.eq_nil_of_length_eq_zero glen.symm
        rw [if_neg (by decide)]
        k_whole
        (try dsimp only)
        (try k_fold)
        k_steps
        rename_i D3 h3 l3 h3' F3 N3
        exact Fin.mk ⟨_, _, _, D3, [], 0, _, rfl, S.re F3 N3 (fun p hp => .tail _ hp), (N3 _ (.head _)).1, hnil ▸ .nil, rfl, rfl, rfl⟩
      | false =>
        have hne : gd pts ≠ [] := fun q => by
          rw [q] at glen
          rw [List.eq_nil_of_length_eq_zero glen] at he
          cases he
        rw [if_pos (by decide)]
        refine comp_back (h₀ := b0) (L := L') hh F ?_ ?_ ?_ ?_ ?_ ?_ ?_
        · with_unfolding_all rfl
        · decide
        · exact rfl
        · decide
        · exact rfl
        · exact fun _ => rfl
        k_whole
        (try dsimp only)
        (try k_fold)
        k_steps
        rename_i l9 h9 tk8 e9 sa9 sh9 il9 F9 N9
        rw [split_good hne gS] at e9
        have hlen9 : l9.length = (gd pts).length := by have := congrArg List.length e9; simpa using this
        refine ⟨_, l9, gd pts, _, _, rfl, F9, N9, .head _, by omega, e9, gS, ?_, ?_⟩
        · intro C x t q m2 h2 tk2 E' hn hm hw F2
          refine cx_call2 (mg := mg) (fa := 50) (X.keeps F2.keep) (T.g.keeps F2.keep) rfl rfl rfl (by k_is) (by k_is) (by decide) rfl hn hm (by decide) ?_
          refine wpAny_mono (cx_mfv B X T hh (by omega) (by omega) rfl rfl F2 (fun _ _ z => z) hw) (fun y s4 h4 => ⟨h4.1, ?_⟩) (fun _ _ x => x)
          obtain ⟨_, h5, tk5, rfl, k5⟩ := h4
          exact ⟨h5, tk5, rfl, k5⟩
        · intro D3 h3 tk3 ys n news3 F3 N3 sub3 pb3
          refine wpAny_storeName_local rfl F3.ns (fun h4 hn4 hs4 => ⟨rfl, Fin.mk ?_⟩) rfl
          have N4 := N3.set hs4
          exact ⟨h4, _, _, D3, ys, n, t7, rfl, S.re (F3.set hn4 hs4) N4 (fun p hp => .tail _ (sub3 _ (.tail _ hp))), (N4 _ (.head _)).1, pb3 h4 (fun p hp => (N4 p (.tail _ hp)).1), rfl, rfl, rfl⟩
  clear S hm1 hm2 gA nD2 hD2
  rintro s8 ⟨h8, tk8, m8, D3, ys3, n3, t8, rfl, S, nD3, bA, hm1, hm2, hm3⟩
  have gA := gP.are S.led
  have nD2 := (S.N (D2, _) (S.memO (.head _))).1
  have F := S.F
  rw [chain3 hm3 hm1 hm2] at F
  have N := S.N
  obtain ⟨_, r3⟩ := list_reads nD3 bA
  obtain ⟨_, r2⟩ := list_reads nD2 gA
  refine wpG_any ?_
  k_whole
  (try dsimp only)
  (try k_fold)
  k_steps
  refine eq_dataH r3 r2 (list_shaped _) (list_shaped _) (by rw [units_deeper, cLine_is]; omega) ?_
  rw [eqv_list]
  k_steps
  rename_i l9 h9 F9 N9 q9
  have S9 := S.re F9 N9 (fun p hp => .tail _ hp)
  obtain ⟨_, r9⟩ := list_reads (S9.N (D2, _) (S9.memO (.head _))).1 (gP.are S9.led)
  refine eq_dataH r9 (.list (N9 _ (.head _)).1 rfl rfl .nil) (list_shaped _) (list_shaped []) (by rw [units_deeper, cLine_is]; omega) ?_
  k_steps
  · exact congrArg (fun b => Except.ok (Flow.ret (Value.bool b))) (last_eq pts)
  · exact ⟨rfl, rfl, rfl⟩
  · exact F9.keep
  · exact ⟨_, (S9.N (66, tabObj ps1) (.tail _ (.tail _ (.tail _ (.head _))))).1⟩
  · exact ⟨_, (S9.N (94, tabObj ps2') (.tail _ (.tail _ (.tail _ (.tail _ (.head _)))))).1⟩

end Mine

end
theorem Mine.flush48 : True := by
  w_top off
  first | walk1 | trivial
section
open PySem PySem.W PyProof.Rows PySem.Calls
set_option maxRecDepth 100000
set_option maxHeartbeats 8000000
namespace Mine
theorem old_tabs {h h' : Heap} (hT : TabsAt [(70, 66), (96, 94)] h) (st : (ghostOf h [(70, 66), (96, 94)]).StaysIn h') (g1 : GrownAt 66 h') (g2 : GrownAt 94 h') : OldK h h' := by
  have h66 := hT (70, 66) (.head _)
  have h94 := hT (96, 94) (.tail _ (.head _))
  have cases3 : ∀ b o, h.get? b = some o → b = 66 ∨ b = 94 ∨ h'.get? b = some o := fun b o e => by
    by_cases e1 : b = 66
    · exact .inl e1
    by_cases e2 : b = 94
    · exact .inr (.inl e2)
    refine .inr (.inr (st b o (ghost_ne e fun q => ?_)))
    rcases List.mem_cons.mp q with q | q
    · exact e1 q
    · exact e2 (List.mem_singleton.mp q)
  refine ⟨fun b o e => ?_, fun b o e => ?_⟩
  · rcases cases3 b o e with rfl | rfl | h3
    · obtain ⟨ps, hp⟩ := g1
      have e2 : tabObj #[] = o := Option.some.inj (h66.2.symm.trans e)
      subst e2
      exact .inr (.inl ⟨(h66.1.tab h66.2).isCodeTable, rfl, #[], ps, rfl, by rw [Array.empty_append]; exact hp⟩)
    · obtain ⟨ps, hp⟩ := g2
      have e2 : tabObj #[] = o := Option.some.inj (h94.2.symm.trans e)
      subst e2
      exact .inr (.inl ⟨(h94.1.tab h94.2).isCodeTable, rfl, #[], ps, rfl, by rw [Array.empty_append]; exact hp⟩)
    · exact .inl h3
  · rcases cases3 b o e with rfl | rfl | h3
    · obtain ⟨ps, hp⟩ := g1; exact ⟨_, hp⟩
    · obtain ⟨ps, hp⟩ := g2; exact ⟨_, hp⟩
    · exact ⟨_, h3⟩
theorem whole : PySem.Challenge.rw_md0057_01.Holds := by
  refine hd ?_
  k_fill
  intro w s₀ s₁ mg mb G Y fa o pm cd doc dV kV ho hdd hcd hD hmg hg args vals as hpre hlay hrd hwl hlo
  have X := km_in_of Y
  have hT8 := km_tabs_of Y
  refine Ground.open G ?_
  intro T B D TE TW
  wrow_args hpre hlay hrd hwl hlo
  rename_i ns hsx hlay0 hL1 hr1 hl2 as4 as3 l vs as0 hL ra w1 r0 hI hr hlen htr
  have hfa : fa = 97 := by
    have e1 := mg_of X T.g (show nsIn (hd.heap_39 w.params) mainGlobals (Str.ofString "law") = some (some (.ref 97)) from by k_is)
    have e2 : mg (Str.ofString "law") = some (.ref fa) := hmg
    rw [e1] at e2; cases e2; rfl
  subst hfa
  have hT : TabsAt [(70, 66), (96, 94)] s₁.heap := fun q hq => by
    rcases List.mem_cons.mp hq with rfl | hq
    · exact ⟨codeHd_of_K X (by kernel_rfl), hT8 66 (by simp)⟩
    · rw [List.mem_singleton.mp hq]; exact ⟨codeHd_of_K X (by kernel_rfl), hT8 94 (by simp)⟩
  have C' := ghost_code hT
  have X' := ghost_K hT X (by kernel_rfl)
  have T' := ghost_top hT T
  have B' := ghost_below hT
  have L' := ghost_list hT hL
  refine wp0_call (codeG_mono (law_spec (G := HC) closed_HC (fun _ h => h) B' X' T' C'.1 C'.2.1 (fun b o e => of_hideAll _ e) (Nat.le_of_eq (hideAll_size _ _)) (fun p hp => ?_) rfl (by decide) (by decide) L' hI (by omega)) fun r s' hr => ?_)
  · rcases List.mem_cons.mp hp with rfl | hp
    · exact ⟨hT8 66 (by simp), hideAll_none _ (by simp)⟩
    · rw [List.mem_singleton.mp hp]; exact ⟨hT8 94 (by simp), hideAll_none _ (by simp)⟩
  · obtain ⟨rfl, sm, st, g1, g2⟩ := hr
    refine ⟨.inl ⟨_, _, _, rfl, fun _ => rfl, .bool true, ?_, fun _ => ⟨.nil, fun _ h => nomatch h⟩⟩, old_tabs hT st g1 g2, sm.os, .of_eq (sm.gens.trans hg)⟩
    first | (with_unfolding_all rfl) | kernel_rfl
end Mine

end
theorem PySem.Challenge.cw_md0057_01_holds : PySem.Challenge.rw_md0057_01.Holds :=
  Mine.whole
