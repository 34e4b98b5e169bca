import PyProof.Rows.All
import Wide.All
import OpenK.AllK
import Wide.FinOn
import PyProof.ExcStrCall
import PyProof.Rows.CatchStr
import PyProof.ExcStrAll.Exception
import KE.KIntText
import PyProof.ReprStr
import PyProof.Conv_int
import PyProof.PvWalk
import PyProof.StrLawsIdx
import PyProof.WalksPairs
import PyProof.Rows.TupIter
import KE.KPairTest
import PyProof.EnumMake
import PyProof.EnumStmt
import PyProof.Rows.LoopInvV
import KE.KSlice
import PySem.Challenge.RW_rw0045_01
set_option Elab.async false
set_option linter.all false
set_option compiler.extract_closed false
section
open PySem PySem.W PyProof.Rows PySem.Spec PySem.Calls
set_option Elab.async false
set_option maxRecDepth 100000
set_option maxHeartbeats 8000000
namespace Mine
def CalledB (l : List (Code × Pos)) : Prop := (l.map (·.1)).any Code.isCaller = true
def wpC {α : Type} (M : Model) (A : Around) (t : Sem α) (Q : α → Shared → Prop) (E : Value → Shared → Prop) (s : Shared) : Prop :=
  ∀ Γ p, Γ.In A → CalledB ((Γ.code, p) :: Γ.below) → Sem.wp M Γ t (fun a _ s' => Q a s') (fun e _ s' => E e s') p s
theorem calledB_at {c : Code} {p p' : Pos} {l : List (Code × Pos)} (h : CalledB ((c, p) :: l)) : CalledB ((c, p') :: l) := h
section
variable {α β : Type} {M : Model} {A : Around} {E : Value → Shared → Prop} {s : Shared}
theorem wpC_of {t : Sem α} {Q : α → Shared → Prop} (h : wpAny M A t Q E s) : wpC M A t Q E s := fun Γ p hΓ _ => h Γ p hΓ
theorem wpC_pure {a : α} {Q : α → Shared → Prop} (h : Q a s) : wpC M A (pure a) Q E s := fun _ _ _ _ => h
theorem wpC_mono {t : Sem α} {Q Q' : α → Shared → Prop} {E' : Value → Shared → Prop} (h : wpC M A t Q E s)
    (hQ : ∀ a s, Q a s → Q' a s) (hE : ∀ e s, E e s → E' e s) : wpC M A t Q' E' s :=
  fun Γ p hΓ hc => Sem.wp_mono M Γ t (fun a _ s => hQ a s) (fun e _ s => hE e s) p s (h Γ p hΓ hc)
theorem wpC_bind {m : Sem α} {f : α → Sem β} {Q : β → Shared → Prop} (h : wpC M A m (fun a s' => wpC M A (f a) Q E s') E s) :
    wpC M A (m >>= f) Q E s := fun Γ p hΓ hc => by
  rw [Sem.wp_bind']
  exact Sem.wp_mono M Γ m (fun a p' s' h' => h' Γ p' hΓ (calledB_at hc)) (fun _ _ _ h' => h') p s (h Γ p hΓ hc)
end

abbrev WalkC (q : Program) (loose : List Str) (XP : (Str → Option Value) → Heap → Prop) (YP : World → Heap → Prop) (r : RowW) (d : DefRec) (kwd : List (Str × Expr)) : Prop :=
  ∀ (w : World) (s₀ s₁ : Shared) (mg mb : Str → Option Value), Ground q loose r.records XP w s₀ mg mb s₁.heap → YP w s₁.heap → ∀ (a : Addr) (o : Obj) (pm cd doc dV kV : Value), s₁.heap.get? a = some o →
    o.data = .func { docDef d.name d.params d.body d.scope pm cd doc with defaults := dV, kwdefaults := kV } → s₁.heap.CodeRec cd d.name → Dflts mg s₁.heap d.params kwd dV kV → mg d.name = some (.ref a) → s₁.gens = #[] →
    ∀ (args : List WData) (vals : List Value) (as : List Addr), r.claim.pre args = true → WData.layableAll args = true → ReadsAllW r.records (classAt s₀.heap) s₁.heap vals args as → WellAll w.params s₁.heap vals args → (∀ a ∈ as, (a == sysModules) = false) →
      wpC (model r.prog w) callerA (PySem.call (.ref a) vals) (fun v s' => GoodWG r.claim (classAt s₀.heap) (ExcName.means s₀.heap) args s₁ (.ok (.ret v)) s')
        (fun e s' => GoodWG r.claim (classAt s₀.heap) (ExcName.means s₀.heap) args s₁ (.error e) s') s₁

theorem ends_called {prog : Program} {w : World} {t : Sem PySem.Fin} {s : Shared} {R : Result → Shared → Prop} (hreg : s.asleep)
    (h : wpC (model prog w) callerA t (fun fin s' => ∃ f, fin = .done f ∧ (R (.ok f) s' ∧ leftWithCleanup s'.gens = false)) (fun e s' => R (.error e) s' ∧ leftWithCleanup s'.gens = false) s) :
    ∃ n r s' s'', runN (denote table) prog w n s ⟨t, .builtin "claim.caller" {}, default, []⟩ = .halted (outcomeOf r) s' ∧
      schedN (denote table) prog w n (.single s ⟨t, .builtin "claim.caller" {}, default, []⟩) = .halted (outcomeOf r) s' ∧ s'.forget = s''.forget ∧ R r s'' := by
  have hw := h _ default caller_in (by rfl)
  obtain ⟨n, r, s₁, s₂, hs, hn, hfo, hR⟩ := wp_halts_full (M := model prog w) (R := R) hreg (Sem.wp_mono _ _ t (fun fin p' s' h' => by
    obtain ⟨f, rfl, hf⟩ := h'
    exact hf) (fun _ _ _ h' => h') default s hw)
  exact ⟨n, r, s₂, s₁, hn, hs, hfo, hR⟩
end Mine
namespace Mine.PySem.W
theorem holds_open {r : OpenRow} {q : Program} {loose : List Str} {Xt : Shared → Bool} {XP : (Str → Option Value) → Heap → Prop} {α : Type} {Yf : Shared → α} {Ya : World → α} {YP : World → Heap → Prop} {d : DefRec} {kwd : List (Str × Expr)} {N : Nat}
    (left : LeftO r.prog q loose Xt Yf Ya N) (hY : ∀ w s, Yf s = Ya w → YP w s.heap) (hYk : ∀ w h h', YP w h → (∀ b o, h.get? b = some o → h'.get? b = some o) → YP w h')
    (hX : ∀ s, Xt s = true → XP (s.heap.nsMap mainGlobals) s.heap) (hXk : ∀ mg h h', XP mg h → (∀ b o, h.get? b = some o → h'.get? b = some o) → XP mg h')
    (hdef : defOf q r.name = some (d, kwd)) (hp : r.prog.theDef r.name = some (d.params, d.body, d.scope)) (hk : kwWritten? d.params.kwonlyargs d.params.kw_defaults = some kwd) (hRf : ∀ s, Xt s = true → RecFacts r.records s.heap) (hwr : (!r.writes || r.records.isEmpty) = true)
    (k1 : r.wellSaid = true) (ok : (chainsOk q && opensWell r.prog && (frees r.toRowW && r.within.isEmpty)) = true) (hb : r.prog.bare) (hw : r.toRowW.promised)
    (call : WalkC q loose XP YP r.toRowW d kwd) : r.Holds := by
  rw [Bool.and_eq_true, Bool.and_eq_true, Bool.and_eq_true] at ok
  obtain ⟨⟨chain, opens⟩, free, inner⟩ := ok
  obtain ⟨same, un, al, ap, made⟩ := frees_parts free
  have ident := ident_freeW un al ap
  have within : r.toRowW.claim.within = [] := List.isEmpty_iff.mp inner
  refine ⟨k1, hw, ⟨hb, opens, ?_⟩, hw.witness, fun w => ?_⟩
  · show r.toRowW.makers.map _ = []
    rw [made]; rfl
  have B := left.behind (XP := fun mg h => XP mg h ∧ RecFacts r.toRowW.records h) (fun s hs => ⟨hX s hs, hRf s hs⟩) chain w
  refine ⟨B.1, fun sa ha => ?_⟩
  obtain ⟨s₀, fence, gens0, s, ran, low, noGens, isNs, G1, y⟩ := B.2 sa ha
  have G2 : Ground q loose [] XP w s (s.heap.nsMap mainGlobals) (s.heap.nsMap builtinsNs) s.heap := ⟨G1.T, G1.B, G1.D, G1.TE, G1.TD, G1.W, G1.X.1, G1.cls, G1.has, G1.apart, G1.once, G1.K⟩
  have recs := G1.X.2
  have gens1 : s.gens = #[] := Array.eq_empty_of_size_eq_zero (beq_iff_eq.mp noGens)
  refine ⟨s₀, fence, gens0, s, ran, fun n hn => ?_, recs.1, recs.2.1, ?_⟩
  · obtain rfl : n = r.name := by split at hn <;> simp_all
    exact pinned_of_view isNs G2 hdef hp hk
  intro args hpre hlay ord hord
  have G3 : Ground q loose r.toRowW.records XP w s _ _ s.heap := recs.ground G2
  obtain ⟨⟨vs, s₁⟩, laid⟩ := Option.isSome_iff_exists.mp (layAllW_isSome (P := w.params) (ord := ord) G3.has args r.toRowW.args s (pre_splitW hpre).1)
  have keeps := layAllW_keeps _ _ _ laid
  have rest := layAllW_rest _ _ _ laid
  obtain ⟨as, reads, inside, hold⟩ := reads_layAllW hord _ _ _ laid hlay s₁.heap (fun _ _ e => e)
  have L : Laid r.toRowW.records w s s₁ args vs as := ⟨⟨ord, hord, laid⟩, reads, inside, hold, keeps, rest.1.trans gens1, rest.2.2.1⟩
  have G4 := G3.keeps hXk keeps
  obtain ⟨a, o, pm, cd, doc, dV, kV, h1, h2, h3, h4, h5⟩ := G4.fn hdef
  have hcall := call w s s₁ _ _ G4 (hYk _ _ _ (hY w s y) keeps) a o pm cd doc dV kV h2 h3 h4 h5 (defOf_name hdef ▸ h1) L.gens args vs as hpre hlay L.reads L.well (L.low G3.low)
  have good : ∀ res s', GoodWG r.toRowW.claim (classAt s.heap) (ExcName.means s.heap) args s₁ res s' →
      r.toRowW.claim.Ends s args vs s₁ res s' ∧ s'.os = s.os ∧ (r.writes = true → namesKept r.toRowW.claim.prog r.keeps s.heap s'.heap ∧ ∀ x ∈ r.toRowW.records, ∀ a, classAt s.heap x.1 = some a → recordClass s'.heap a x.1 (x.2.map (·.1)) = true) ∧ AllBare s'.gens := fun res s' g =>
    have z := g.laid (c := r.toRowW.claim) same within ident L
    ⟨z.1, z.2.1, fun q => ⟨namesKept_of ran isNs r.keeps keeps g.2.1.old, noTable hwr q⟩, z.2.2⟩
  have run : wpC (model r.prog w) callerA (do match ← nsGet mainNs r.name with
      | some f => do ret (← PySem.call f vs)
      | none => unsupported "claim.caller:no-such-global") (fun fin s' => ∃ f, fin = PySem.Fin.done f ∧ ((r.toRowW.claim.Ends s args vs s₁ (.ok f) s' ∧ s'.os = s.os ∧ (r.writes = true → namesKept r.toRowW.claim.prog r.keeps s.heap s'.heap ∧ ∀ x ∈ r.toRowW.records, ∀ a, classAt s.heap x.1 = some a → recordClass s'.heap a x.1 (x.2.map (·.1)) = true)) ∧ leftWithCleanup s'.gens = false))
      (fun e s' => (r.toRowW.claim.Ends s args vs s₁ (.error e) s' ∧ s'.os = s.os ∧ (r.writes = true → namesKept r.toRowW.claim.prog r.keeps s.heap s'.heap ∧ ∀ x ∈ r.toRowW.records, ∀ a, classAt s.heap x.1 = some a → recordClass s'.heap a x.1 (x.2.map (·.1)) = true)) ∧ leftWithCleanup s'.gens = false) s₁ := by
    refine wpC_bind (wpC_of (wpAny_nsGet G4.T.g ?_))
    rw [h1]
    refine wpC_bind (wpC_mono hcall (fun v s' g => wpC_pure ⟨_, rfl, ?_⟩) fun e s' g => ?_)
    · obtain ⟨e1, e2, e3, e4⟩ := good _ _ g
      exact ⟨⟨e1, e2, e3⟩, leftWithCleanup_false_of_bare e4⟩
    · obtain ⟨e1, e2, e3, e4⟩ := good _ _ g
      exact ⟨⟨e1, e2, e3⟩, leftWithCleanup_false_of_bare e4⟩
  obtain ⟨k, res, s', s'', hrun, hsched, forget, ends, os, kept⟩ := ends_called (prog := r.prog) (w := w) (R := fun res s' => r.toRowW.claim.Ends s args vs s₁ res s' ∧ s'.os = s.os ∧ (r.writes = true → namesKept r.toRowW.claim.prog r.keeps s.heap s'.heap ∧ ∀ x ∈ r.toRowW.records, ∀ a, classAt s.heap x.1 = some a → recordClass s'.heap a x.1 (x.2.map (·.1)) = true)) (Shared.asleep_of_life rest.2.2.2 low) run
  obtain ⟨eh, _, _, eo, _⟩ := Shared.forget_eq forget
  have ends := ends.congr eh
  rw [← eo] at os
  rw [← eh] at kept
  have life : s'.heap.life = s.heap.life := (runN_life _ _ _ hrun).trans rest.2.2.2
  refine ⟨vs, s₁, laid, k, _, s', hsched, ?_, (fun _ i x hx => by rw [gens1] at hx; simp at hx), kept, by rw [life], Shared.rest_eq os⟩
  rcases ends with ⟨v, rfl, d1, d2, d3, d4, d5⟩ | ⟨e, ob, cls, rfl, d1, d2, d3, d4, d5⟩
  · exact .inl ⟨v, rfl, d1, d2, d3, fun b o y _ => d4 b o y, d5⟩
  · exact .inr ⟨e, ob, cls, rfl, d1, d2, d3, d4, fun b o y _ => d5 b o y⟩
end Mine.PySem.W
namespace Mine.hp
noncomputable abbrev pg : Program := PySem.Challenge.rw_rw0045_01.row.toRowW.prog
noncomputable def st (i : Nat) : Stmt := match pg.main.body[i]? with | some x => x | none => .Pass ⟨0, 0, 0, 0⟩
noncomputable def fp (i : Nat) : Arguments := match st i with | .FunctionDef _ a _ _ _ _ _ _ _ _ => a | _ => ⟨[], [], none, [], [], none, []⟩
noncomputable def fb (i : Nat) : List Stmt := match st i with | .FunctionDef _ _ b _ _ _ _ _ _ _ => b | _ => []
noncomputable def fs (i : Nat) : Scope := match st i with | .FunctionDef _ _ _ _ _ _ s _ _ _ => s | _ => ⟨.module, [], false, false, []⟩
noncomputable def o0_11 : Obj := ⟨(.«type» "tuple"), none, (.«seq» #[] 0), #[]⟩
noncomputable def o0_12 : Obj := ⟨.«none», none, (.«fields» #[]), #[]⟩
noncomputable def o0_13 : Obj := ⟨(.«type» "code"), none, (.«fields» #[(.«str» (PySem.Str.ofString "<module>") 182), (.«str» (PySem.Str.ofString "<module>") 183), (.«str» (PySem.Str.ofString "/claim/cut.py") 184), (.«int» 1 0), (.«int» 0 0), (.«int» 0 0), (.«int» 0 0), (.«int» 0 0), (.«ref» 11), (.«bool» false), (.«int» 181 0), (.«ref» 12), .«none», .«none», .«none», .«none», (.«int» 185 0), (.«int» 1 0), (.«str» (PySem.Str.ofString "/claim/cut.py") 186)]), #[]⟩
noncomputable def o0_14 : Obj := ⟨(.«type» "frame"), none, .«plain», #[(.«some» (.«ref» 13)), (.«some» (.«ref» 3)), (.«some» (.«ref» 3)), none, (.«some» (.«str» (PySem.Str.ofString "__main__") 164)), none, (.«some» (.«ref» 0))]⟩
noncomputable def heapAt0 (P : Params) : Heap := ⟨⟨[PySem.W.boot_o_0 P, PySem.W.boot_o_1 P, PySem.W.boot_o_2 P, PySem.W.boot_o_3 P, PySem.W.boot_o_4 P, PySem.W.boot_o_5 P, PySem.W.boot_o_6 P, PySem.W.boot_o_7 P, PySem.W.boot_o_8 P, PySem.W.boot_o_9 P, PySem.W.boot_o_10 P, o0_11, o0_12, o0_13, o0_14]⟩, ⟨[], [], [], 0, [], [], false, #[], [], 0, false, false, false, 0, [2000, 10, 10], false, 0, true, [], [], 0, false⟩⟩
noncomputable def o1_2 (P : Params) : Obj := ⟨.«none», none, (.«dict» #[⟨(PySem.PyData.keyHash P (PySem.Str.ofString "type.__subclasses__.Exception.0")), (.«str» (PySem.Str.ofString "type.__subclasses__.Exception.0") 205), (.«int» 24 0)⟩, ⟨(PySem.PyData.keyHash P (PySem.Str.ofString "type.__subclasses__.Exception.n")), (.«str» (PySem.Str.ofString "type.__subclasses__.Exception.n") 206), (.«int» 1 0)⟩] 2), #[]⟩
noncomputable def o1_3 (P : Params) : Obj := ⟨(.«type» "dict"), none, (.«dict» #[⟨(PySem.PyData.keyHash P (PySem.Str.ofString "__name__")), (.«str» (PySem.Str.ofString "__name__") 165), (.«str» (PySem.Str.ofString "cpy313.ftplib") 187)⟩, ⟨(PySem.PyData.keyHash P (PySem.Str.ofString "__doc__")), (.«str» (PySem.Str.ofString "__doc__") 166), .«none»⟩, ⟨(PySem.PyData.keyHash P (PySem.Str.ofString "__package__")), (.«str» (PySem.Str.ofString "__package__") 167), .«none»⟩, ⟨(PySem.PyData.keyHash P (PySem.Str.ofString "__loader__")), (.«str» (PySem.Str.ofString "__loader__") 168), (.«builtin» "__main__.__loader__#opaque")⟩, ⟨(PySem.PyData.keyHash P (PySem.Str.ofString "__spec__")), (.«str» (PySem.Str.ofString "__spec__") 169), .«none»⟩, ⟨(PySem.PyData.keyHash P (PySem.Str.ofString "__annotations__")), (.«str» (PySem.Str.ofString "__annotations__") 170), (.«ref» 6)⟩, ⟨(PySem.PyData.keyHash P (PySem.Str.ofString "__builtins__")), (.«str» (PySem.Str.ofString "__builtins__") 171), (.«ref» 4)⟩, ⟨(PySem.PyData.keyHash P (PySem.Str.ofString "__file__")), (.«str» (PySem.Str.ofString "__file__") 173), (.«str» (PySem.Str.ofString "/claim/cut.py") 172)⟩, ⟨(PySem.PyData.keyHash P (PySem.Str.ofString "__cached__")), (.«str» (PySem.Str.ofString "__cached__") 174), .«none»⟩, ⟨(PySem.PyData.keyHash P (PySem.Str.ofString "Error")), (.«str» (PySem.Str.ofString "Error") 208), (.«ref» 24)⟩, ⟨(PySem.PyData.keyHash P (PySem.Str.ofString "error_reply")), (.«str» (PySem.Str.ofString "error_reply") 224), (.«ref» 37)⟩, ⟨(PySem.PyData.keyHash P (PySem.Str.ofString "error_proto")), (.«str» (PySem.Str.ofString "error_proto") 240), (.«ref» 49)⟩] 12), #[]⟩
noncomputable def o1_12 : Obj := ⟨.«none», none, (.«fields» #[(.«int» 2 0), (.«int» 0 0), (.«ref» 20), (.«int» 4 0), (.«int» 0 0), (.«ref» 33), (.«int» 6 0), (.«int» 0 0), (.«ref» 45)]), #[]⟩
noncomputable def o1_15 : Obj := ⟨(.«type» "tuple"), none, (.«seq» #[(.«type» "Exception")] 0), #[]⟩
noncomputable def o1_16 : Obj := ⟨(.«type» "builtin_function_or_method"), none, (.«fields» #[(.«builtin» "type.__prepare__"), (.«type» "type")]), #[]⟩
noncomputable def o1_17 (P : Params) : Obj := ⟨(.«type» "dict"), none, (.«dict» #[⟨(PySem.PyData.keyHash P (PySem.Str.ofString "__module__")), (.«str» (PySem.Str.ofString "__module__") 196), (.«str» (PySem.Str.ofString "cpy313.ftplib") 187)⟩, ⟨(PySem.PyData.keyHash P (PySem.Str.ofString "__qualname__")), (.«str» (PySem.Str.ofString "__qualname__") 198), (.«str» (PySem.Str.ofString "Error") 197)⟩, ⟨(PySem.PyData.keyHash P (PySem.Str.ofString "__firstlineno__")), (.«str» (PySem.Str.ofString "__firstlineno__") 200), (.«int» 2 199)⟩, ⟨(PySem.PyData.keyHash P (PySem.Str.ofString "__static_attributes__")), (.«str» (PySem.Str.ofString "__static_attributes__") 201), (.«ref» 22)⟩] 4), #[]⟩
noncomputable def o1_18 : Obj := ⟨(.«type» "tuple"), none, (.«seq» #[] 0), #[]⟩
noncomputable def o1_19 : Obj := ⟨.«none», none, (.«fields» #[]), #[]⟩
noncomputable def o1_20 : Obj := ⟨(.«type» "code"), none, (.«fields» #[(.«str» (PySem.Str.ofString "Error") 191), (.«str» (PySem.Str.ofString "Error") 192), (.«str» (PySem.Str.ofString "/claim/cut.py") 193), (.«int» 2 0), (.«int» 0 0), (.«int» 0 0), (.«int» 0 0), (.«int» 0 0), (.«ref» 18), (.«bool» false), (.«int» 181 0), (.«ref» 19), .«none», .«none», .«none», .«none», (.«int» 194 0), (.«int» 2 0), (.«str» (PySem.Str.ofString "/claim/cut.py") 195)]), #[]⟩
noncomputable def o1_21 : Obj := ⟨(.«type» "frame"), none, .«plain», #[(.«some» (.«ref» 20)), (.«some» (.«ref» 3)), (.«some» (.«ref» 17)), none, (.«some» (.«str» (PySem.Str.ofString "cpy313.ftplib") 187)), none, (.«some» (.«ref» 0))]⟩
noncomputable def o1_22 : Obj := ⟨(.«type» "tuple"), none, (.«seq» #[] 0), #[]⟩
noncomputable def o1_23 (P : Params) : Obj := ⟨(.«type» "dict"), none, (.«dict» #[⟨(PySem.PyData.keyHash P (PySem.Str.ofString "__module__")), (.«str» (PySem.Str.ofString "__module__") 196), (.«str» (PySem.Str.ofString "cpy313.ftplib") 187)⟩, ⟨(PySem.PyData.keyHash P (PySem.Str.ofString "__firstlineno__")), (.«str» (PySem.Str.ofString "__firstlineno__") 200), (.«int» 2 199)⟩, ⟨(PySem.PyData.keyHash P (PySem.Str.ofString "__static_attributes__")), (.«str» (PySem.Str.ofString "__static_attributes__") 201), (.«ref» 22)⟩, ⟨(PySem.PyData.keyHash P (PySem.Str.ofString "__weakref__")), (.«str» (PySem.Str.ofString "__weakref__") 203), (.«ref» 25)⟩, ⟨(PySem.PyData.keyHash P (PySem.Str.ofString "__doc__")), (.«str» (PySem.Str.ofString "__doc__") 204), .«none»⟩] 3), #[]⟩
noncomputable def o1_24 : Obj := ⟨(.«type» "type"), none, (.«cls» ⟨(PySem.Str.ofString "Error"), [(.«type» "Exception")], [(.«ref» 24), (.«type» "Exception"), (.«type» "BaseException"), (.«type» "object")], 23, (PySem.Str.ofString "Error"), true, [], [(.«ref» 37), (.«ref» 49)], false, none, false⟩), #[(.«some» (.«ref» 15)), none, (.«some» (.«str» (PySem.Str.ofString "Error") 189)), (.«some» (.«str» (PySem.Str.ofString "Error") 197)), (.«some» (.«builtin» "Exception.__new__")), (.«some» (.«bool» true))]⟩
noncomputable def o1_25 : Obj := ⟨(.«type» "getset_descriptor"), none, (.«fields» #[(.«str» (PySem.Str.ofString "__weakref__") 202), (.«ref» 24), (.«builtin» "ExceptionGroup.__weakref__"), .«none»]), #[]⟩
noncomputable def o1_26 : Obj := ⟨(.«type» "super"), none, (.«fields» #[(.«ref» 24), (.«ref» 24), (.«ref» 24)]), #[]⟩
noncomputable def o1_27 : Obj := ⟨(.«type» "builtin_function_or_method"), none, (.«fields» #[(.«builtin» "object.__init_subclass__"), (.«ref» 24)]), #[]⟩
noncomputable def o1_28 : Obj := ⟨(.«type» "tuple"), none, (.«seq» #[(.«ref» 24)] 0), #[]⟩
noncomputable def o1_29 : Obj := ⟨(.«type» "builtin_function_or_method"), none, (.«fields» #[(.«builtin» "type.__prepare__"), (.«type» "type")]), #[]⟩
noncomputable def o1_30 (P : Params) : Obj := ⟨(.«type» "dict"), none, (.«dict» #[⟨(PySem.PyData.keyHash P (PySem.Str.ofString "__module__")), (.«str» (PySem.Str.ofString "__module__") 216), (.«str» (PySem.Str.ofString "cpy313.ftplib") 187)⟩, ⟨(PySem.PyData.keyHash P (PySem.Str.ofString "__qualname__")), (.«str» (PySem.Str.ofString "__qualname__") 218), (.«str» (PySem.Str.ofString "error_reply") 217)⟩, ⟨(PySem.PyData.keyHash P (PySem.Str.ofString "__firstlineno__")), (.«str» (PySem.Str.ofString "__firstlineno__") 220), (.«int» 4 219)⟩, ⟨(PySem.PyData.keyHash P (PySem.Str.ofString "__static_attributes__")), (.«str» (PySem.Str.ofString "__static_attributes__") 221), (.«ref» 35)⟩] 4), #[]⟩
noncomputable def o1_31 : Obj := ⟨(.«type» "tuple"), none, (.«seq» #[] 0), #[]⟩
noncomputable def o1_32 : Obj := ⟨.«none», none, (.«fields» #[]), #[]⟩
noncomputable def o1_33 : Obj := ⟨(.«type» "code"), none, (.«fields» #[(.«str» (PySem.Str.ofString "error_reply") 211), (.«str» (PySem.Str.ofString "error_reply") 212), (.«str» (PySem.Str.ofString "/claim/cut.py") 213), (.«int» 4 0), (.«int» 0 0), (.«int» 0 0), (.«int» 0 0), (.«int» 0 0), (.«ref» 31), (.«bool» false), (.«int» 181 0), (.«ref» 32), .«none», .«none», .«none», .«none», (.«int» 214 0), (.«int» 4 0), (.«str» (PySem.Str.ofString "/claim/cut.py") 215)]), #[]⟩
noncomputable def o1_34 : Obj := ⟨(.«type» "frame"), none, .«plain», #[(.«some» (.«ref» 33)), (.«some» (.«ref» 3)), (.«some» (.«ref» 30)), none, (.«some» (.«str» (PySem.Str.ofString "cpy313.ftplib") 187)), none, (.«some» (.«ref» 0))]⟩
noncomputable def o1_35 : Obj := ⟨(.«type» "tuple"), none, (.«seq» #[] 0), #[]⟩
noncomputable def o1_36 (P : Params) : Obj := ⟨(.«type» "dict"), none, (.«dict» #[⟨(PySem.PyData.keyHash P (PySem.Str.ofString "__module__")), (.«str» (PySem.Str.ofString "__module__") 216), (.«str» (PySem.Str.ofString "cpy313.ftplib") 187)⟩, ⟨(PySem.PyData.keyHash P (PySem.Str.ofString "__firstlineno__")), (.«str» (PySem.Str.ofString "__firstlineno__") 220), (.«int» 4 219)⟩, ⟨(PySem.PyData.keyHash P (PySem.Str.ofString "__static_attributes__")), (.«str» (PySem.Str.ofString "__static_attributes__") 221), (.«ref» 35)⟩, ⟨(PySem.PyData.keyHash P (PySem.Str.ofString "__doc__")), (.«str» (PySem.Str.ofString "__doc__") 222), .«none»⟩] 2), #[]⟩
noncomputable def o1_37 : Obj := ⟨(.«type» "type"), none, (.«cls» ⟨(PySem.Str.ofString "error_reply"), [(.«ref» 24)], [(.«ref» 37), (.«ref» 24), (.«type» "Exception"), (.«type» "BaseException"), (.«type» "object")], 36, (PySem.Str.ofString "error_reply"), true, [], [], false, none, false⟩), #[(.«some» (.«ref» 28)), none, (.«some» (.«str» (PySem.Str.ofString "error_reply") 209)), (.«some» (.«str» (PySem.Str.ofString "error_reply") 217)), (.«some» (.«builtin» "Exception.__new__")), (.«some» (.«bool» true))]⟩
noncomputable def o1_38 : Obj := ⟨(.«type» "super"), none, (.«fields» #[(.«ref» 37), (.«ref» 37), (.«ref» 37)]), #[]⟩
noncomputable def o1_39 : Obj := ⟨(.«type» "builtin_function_or_method"), none, (.«fields» #[(.«builtin» "object.__init_subclass__"), (.«ref» 37)]), #[]⟩
noncomputable def o1_40 : Obj := ⟨(.«type» "tuple"), none, (.«seq» #[(.«ref» 24)] 0), #[]⟩
noncomputable def o1_41 : Obj := ⟨(.«type» "builtin_function_or_method"), none, (.«fields» #[(.«builtin» "type.__prepare__"), (.«type» "type")]), #[]⟩
noncomputable def o1_42 (P : Params) : Obj := ⟨(.«type» "dict"), none, (.«dict» #[⟨(PySem.PyData.keyHash P (PySem.Str.ofString "__module__")), (.«str» (PySem.Str.ofString "__module__") 232), (.«str» (PySem.Str.ofString "cpy313.ftplib") 187)⟩, ⟨(PySem.PyData.keyHash P (PySem.Str.ofString "__qualname__")), (.«str» (PySem.Str.ofString "__qualname__") 234), (.«str» (PySem.Str.ofString "error_proto") 233)⟩, ⟨(PySem.PyData.keyHash P (PySem.Str.ofString "__firstlineno__")), (.«str» (PySem.Str.ofString "__firstlineno__") 236), (.«int» 6 235)⟩, ⟨(PySem.PyData.keyHash P (PySem.Str.ofString "__static_attributes__")), (.«str» (PySem.Str.ofString "__static_attributes__") 237), (.«ref» 47)⟩] 4), #[]⟩
noncomputable def o1_43 : Obj := ⟨(.«type» "tuple"), none, (.«seq» #[] 0), #[]⟩
noncomputable def o1_44 : Obj := ⟨.«none», none, (.«fields» #[]), #[]⟩
noncomputable def o1_45 : Obj := ⟨(.«type» "code"), none, (.«fields» #[(.«str» (PySem.Str.ofString "error_proto") 227), (.«str» (PySem.Str.ofString "error_proto") 228), (.«str» (PySem.Str.ofString "/claim/cut.py") 229), (.«int» 6 0), (.«int» 0 0), (.«int» 0 0), (.«int» 0 0), (.«int» 0 0), (.«ref» 43), (.«bool» false), (.«int» 181 0), (.«ref» 44), .«none», .«none», .«none», .«none», (.«int» 230 0), (.«int» 6 0), (.«str» (PySem.Str.ofString "/claim/cut.py") 231)]), #[]⟩
noncomputable def o1_46 : Obj := ⟨(.«type» "frame"), none, .«plain», #[(.«some» (.«ref» 45)), (.«some» (.«ref» 3)), (.«some» (.«ref» 42)), none, (.«some» (.«str» (PySem.Str.ofString "cpy313.ftplib") 187)), none, (.«some» (.«ref» 0))]⟩
noncomputable def o1_47 : Obj := ⟨(.«type» "tuple"), none, (.«seq» #[] 0), #[]⟩
noncomputable def o1_48 (P : Params) : Obj := ⟨(.«type» "dict"), none, (.«dict» #[⟨(PySem.PyData.keyHash P (PySem.Str.ofString "__module__")), (.«str» (PySem.Str.ofString "__module__") 232), (.«str» (PySem.Str.ofString "cpy313.ftplib") 187)⟩, ⟨(PySem.PyData.keyHash P (PySem.Str.ofString "__firstlineno__")), (.«str» (PySem.Str.ofString "__firstlineno__") 236), (.«int» 6 235)⟩, ⟨(PySem.PyData.keyHash P (PySem.Str.ofString "__static_attributes__")), (.«str» (PySem.Str.ofString "__static_attributes__") 237), (.«ref» 47)⟩, ⟨(PySem.PyData.keyHash P (PySem.Str.ofString "__doc__")), (.«str» (PySem.Str.ofString "__doc__") 238), .«none»⟩] 2), #[]⟩
noncomputable def o1_49 : Obj := ⟨(.«type» "type"), none, (.«cls» ⟨(PySem.Str.ofString "error_proto"), [(.«ref» 24)], [(.«ref» 49), (.«ref» 24), (.«type» "Exception"), (.«type» "BaseException"), (.«type» "object")], 48, (PySem.Str.ofString "error_proto"), true, [], [], false, none, false⟩), #[(.«some» (.«ref» 40)), none, (.«some» (.«str» (PySem.Str.ofString "error_proto") 225)), (.«some» (.«str» (PySem.Str.ofString "error_proto") 233)), (.«some» (.«builtin» "Exception.__new__")), (.«some» (.«bool» true))]⟩
noncomputable def o1_50 : Obj := ⟨(.«type» "super"), none, (.«fields» #[(.«ref» 49), (.«ref» 49), (.«ref» 49)]), #[]⟩
noncomputable def o1_51 : Obj := ⟨(.«type» "builtin_function_or_method"), none, (.«fields» #[(.«builtin» "object.__init_subclass__"), (.«ref» 49)]), #[]⟩
noncomputable def heapAt1 (P : Params) : Heap := ⟨⟨[PySem.W.boot_o_0 P, PySem.W.boot_o_1 P, o1_2 P, o1_3 P, PySem.W.boot_o_4 P, PySem.W.boot_o_5 P, PySem.W.boot_o_6 P, PySem.W.boot_o_7 P, PySem.W.boot_o_8 P, PySem.W.boot_o_9 P, PySem.W.boot_o_10 P, o0_11, o1_12, o0_13, o0_14, o1_15, o1_16, o1_17 P, o1_18, o1_19, o1_20, o1_21, o1_22, o1_23 P, o1_24, o1_25, o1_26, o1_27, o1_28, o1_29, o1_30 P, o1_31, o1_32, o1_33, o1_34, o1_35, o1_36 P, o1_37, o1_38, o1_39, o1_40, o1_41, o1_42 P, o1_43, o1_44, o1_45, o1_46, o1_47, o1_48 P, o1_49, o1_50, o1_51]⟩, ⟨[], [], [], 0, [], [], false, #[], [], 0, false, false, false, 0, [2000, 10, 10], false, 0, true, [], [], 0, false⟩⟩
noncomputable def o2_3 (P : Params) : Obj := ⟨(.«type» "dict"), none, (.«dict» #[⟨(PySem.PyData.keyHash P (PySem.Str.ofString "__name__")), (.«str» (PySem.Str.ofString "__name__") 165), (.«str» (PySem.Str.ofString "cpy313.statistics") 265)⟩, ⟨(PySem.PyData.keyHash P (PySem.Str.ofString "__doc__")), (.«str» (PySem.Str.ofString "__doc__") 166), .«none»⟩, ⟨(PySem.PyData.keyHash P (PySem.Str.ofString "__package__")), (.«str» (PySem.Str.ofString "__package__") 167), .«none»⟩, ⟨(PySem.PyData.keyHash P (PySem.Str.ofString "__loader__")), (.«str» (PySem.Str.ofString "__loader__") 168), (.«builtin» "__main__.__loader__#opaque")⟩, ⟨(PySem.PyData.keyHash P (PySem.Str.ofString "__spec__")), (.«str» (PySem.Str.ofString "__spec__") 169), .«none»⟩, ⟨(PySem.PyData.keyHash P (PySem.Str.ofString "__annotations__")), (.«str» (PySem.Str.ofString "__annotations__") 170), (.«ref» 6)⟩, ⟨(PySem.PyData.keyHash P (PySem.Str.ofString "__builtins__")), (.«str» (PySem.Str.ofString "__builtins__") 171), (.«ref» 4)⟩, ⟨(PySem.PyData.keyHash P (PySem.Str.ofString "__file__")), (.«str» (PySem.Str.ofString "__file__") 173), (.«str» (PySem.Str.ofString "/claim/cut.py") 172)⟩, ⟨(PySem.PyData.keyHash P (PySem.Str.ofString "__cached__")), (.«str» (PySem.Str.ofString "__cached__") 174), .«none»⟩, ⟨(PySem.PyData.keyHash P (PySem.Str.ofString "Error")), (.«str» (PySem.Str.ofString "Error") 208), (.«ref» 24)⟩, ⟨(PySem.PyData.keyHash P (PySem.Str.ofString "error_reply")), (.«str» (PySem.Str.ofString "error_reply") 224), (.«ref» 37)⟩, ⟨(PySem.PyData.keyHash P (PySem.Str.ofString "error_proto")), (.«str» (PySem.Str.ofString "error_proto") 240), (.«ref» 49)⟩, ⟨(PySem.PyData.keyHash P (PySem.Str.ofString "parse229")), (.«str» (PySem.Str.ofString "parse229") 253), (.«ref» 58)⟩, ⟨(PySem.PyData.keyHash P (PySem.Str.ofString "parse257")), (.«str» (PySem.Str.ofString "parse257") 264), (.«ref» 65)⟩, ⟨(PySem.PyData.keyHash P (PySem.Str.ofString "StatisticsError")), (.«str» (PySem.Str.ofString "StatisticsError") 284), (.«ref» 75)⟩] 15), #[]⟩
noncomputable def o2_12 : Obj := ⟨.«none», none, (.«fields» #[(.«int» 2 0), (.«int» 0 0), (.«ref» 20), (.«int» 4 0), (.«int» 0 0), (.«ref» 33), (.«int» 6 0), (.«int» 0 0), (.«ref» 45), (.«int» 8 0), (.«int» 0 0), (.«ref» 57), (.«int» 25 0), (.«int» 0 0), (.«ref» 64), (.«int» 43 0), (.«int» 0 0), (.«ref» 71)]), #[]⟩
noncomputable def o2_52 : Obj := ⟨(.«type» "tuple"), none, (.«seq» #[] 0), #[]⟩
noncomputable def o2_53 : Obj := ⟨.«none», none, (.«fields» #[]), #[]⟩
noncomputable def o2_54 : Obj := ⟨(.«type» "tuple"), none, (.«seq» #[(.«str» (PySem.Str.ofString "resp") 244), (.«str» (PySem.Str.ofString "peer") 245), (.«str» (PySem.Str.ofString "left") 246), (.«str» (PySem.Str.ofString "right") 247), (.«str» (PySem.Str.ofString "parts") 248), (.«str» (PySem.Str.ofString "host") 249), (.«str» (PySem.Str.ofString "port") 250)] 0), #[]⟩
noncomputable def o2_55 : Obj := ⟨(.«type» "tuple"), none, (.«seq» #[] 0), #[]⟩
noncomputable def o2_56 : Obj := ⟨.«none», none, (.«func» ⟨(PySem.Str.ofString "parse229"), (PySem.Str.ofString "parse229"), (fp 4), (.«stmts» (fb 4)), (fs 4), 0, [], .«none», .«none», .«none», .«none», none, .«none», .«none», 0⟩), #[]⟩
noncomputable def o2_57 : Obj := ⟨(.«type» "code"), none, (.«fields» #[(.«str» (PySem.Str.ofString "parse229") 241), (.«str» (PySem.Str.ofString "parse229") 242), (.«str» (PySem.Str.ofString "/claim/cut.py") 243), (.«int» 8 0), (.«int» 2 0), (.«int» 0 0), (.«int» 0 0), (.«int» 3 0), (.«ref» 52), (.«bool» true), (.«int» 181 0), (.«ref» 53), .«none», (.«ref» 54), (.«ref» 55), (.«ref» 56), (.«int» 251 0), (.«int» 8 0), (.«str» (PySem.Str.ofString "/claim/cut.py") 252)]), #[]⟩
noncomputable def o2_58 : Obj := ⟨(.«type» "function"), none, (.«func» ⟨(PySem.Str.ofString "parse229"), (PySem.Str.ofString "parse229"), (fp 4), (.«stmts» (fb 4)), (fs 4), 3, [], .«none», .«none», .«none», (.«str» (PySem.Str.ofString "cpy313.ftplib") 187), none, (.«ref» 57), .«none», 0⟩), #[]⟩
noncomputable def o2_59 : Obj := ⟨(.«type» "tuple"), none, (.«seq» #[] 0), #[]⟩
noncomputable def o2_60 : Obj := ⟨.«none», none, (.«fields» #[]), #[]⟩
noncomputable def o2_61 : Obj := ⟨(.«type» "tuple"), none, (.«seq» #[(.«str» (PySem.Str.ofString "resp") 257), (.«str» (PySem.Str.ofString "dirname") 258), (.«str» (PySem.Str.ofString "i") 259), (.«str» (PySem.Str.ofString "n") 260), (.«str» (PySem.Str.ofString "c") 261)] 0), #[]⟩
noncomputable def o2_62 : Obj := ⟨(.«type» "tuple"), none, (.«seq» #[] 0), #[]⟩
noncomputable def o2_63 : Obj := ⟨.«none», none, (.«func» ⟨(PySem.Str.ofString "parse257"), (PySem.Str.ofString "parse257"), (fp 5), (.«stmts» (fb 5)), (fs 5), 0, [], .«none», .«none», .«none», .«none», none, .«none», .«none», 0⟩), #[]⟩
noncomputable def o2_64 : Obj := ⟨(.«type» "code"), none, (.«fields» #[(.«str» (PySem.Str.ofString "parse257") 254), (.«str» (PySem.Str.ofString "parse257") 255), (.«str» (PySem.Str.ofString "/claim/cut.py") 256), (.«int» 25 0), (.«int» 1 0), (.«int» 0 0), (.«int» 0 0), (.«int» 3 0), (.«ref» 59), (.«bool» true), (.«int» 181 0), (.«ref» 60), .«none», (.«ref» 61), (.«ref» 62), (.«ref» 63), (.«int» 262 0), (.«int» 25 0), (.«str» (PySem.Str.ofString "/claim/cut.py") 263)]), #[]⟩
noncomputable def o2_65 : Obj := ⟨(.«type» "function"), none, (.«func» ⟨(PySem.Str.ofString "parse257"), (PySem.Str.ofString "parse257"), (fp 5), (.«stmts» (fb 5)), (fs 5), 3, [], .«none», .«none», .«none», (.«str» (PySem.Str.ofString "cpy313.ftplib") 187), none, (.«ref» 64), .«none», 0⟩), #[]⟩
noncomputable def o2_66 : Obj := ⟨(.«type» "tuple"), none, (.«seq» #[(.«type» "ValueError")] 0), #[]⟩
noncomputable def o2_67 : Obj := ⟨(.«type» "builtin_function_or_method"), none, (.«fields» #[(.«builtin» "type.__prepare__"), (.«type» "type")]), #[]⟩
noncomputable def o2_68 (P : Params) : Obj := ⟨(.«type» "dict"), none, (.«dict» #[⟨(PySem.PyData.keyHash P (PySem.Str.ofString "__module__")), (.«str» (PySem.Str.ofString "__module__") 274), (.«str» (PySem.Str.ofString "cpy313.statistics") 265)⟩, ⟨(PySem.PyData.keyHash P (PySem.Str.ofString "__qualname__")), (.«str» (PySem.Str.ofString "__qualname__") 276), (.«str» (PySem.Str.ofString "StatisticsError") 275)⟩, ⟨(PySem.PyData.keyHash P (PySem.Str.ofString "__firstlineno__")), (.«str» (PySem.Str.ofString "__firstlineno__") 278), (.«int» 43 277)⟩, ⟨(PySem.PyData.keyHash P (PySem.Str.ofString "__static_attributes__")), (.«str» (PySem.Str.ofString "__static_attributes__") 279), (.«ref» 73)⟩] 4), #[]⟩
noncomputable def o2_69 : Obj := ⟨(.«type» "tuple"), none, (.«seq» #[] 0), #[]⟩
noncomputable def o2_70 : Obj := ⟨.«none», none, (.«fields» #[]), #[]⟩
noncomputable def o2_71 : Obj := ⟨(.«type» "code"), none, (.«fields» #[(.«str» (PySem.Str.ofString "StatisticsError") 269), (.«str» (PySem.Str.ofString "StatisticsError") 270), (.«str» (PySem.Str.ofString "/claim/cut.py") 271), (.«int» 43 0), (.«int» 0 0), (.«int» 0 0), (.«int» 0 0), (.«int» 0 0), (.«ref» 69), (.«bool» false), (.«int» 181 0), (.«ref» 70), .«none», .«none», .«none», .«none», (.«int» 272 0), (.«int» 43 0), (.«str» (PySem.Str.ofString "/claim/cut.py") 273)]), #[]⟩
noncomputable def o2_72 : Obj := ⟨(.«type» "frame"), none, .«plain», #[(.«some» (.«ref» 71)), (.«some» (.«ref» 3)), (.«some» (.«ref» 68)), none, (.«some» (.«str» (PySem.Str.ofString "cpy313.statistics") 265)), none, (.«some» (.«ref» 0))]⟩
noncomputable def o2_73 : Obj := ⟨(.«type» "tuple"), none, (.«seq» #[] 0), #[]⟩
noncomputable def o2_74 (P : Params) : Obj := ⟨(.«type» "dict"), none, (.«dict» #[⟨(PySem.PyData.keyHash P (PySem.Str.ofString "__module__")), (.«str» (PySem.Str.ofString "__module__") 274), (.«str» (PySem.Str.ofString "cpy313.statistics") 265)⟩, ⟨(PySem.PyData.keyHash P (PySem.Str.ofString "__firstlineno__")), (.«str» (PySem.Str.ofString "__firstlineno__") 278), (.«int» 43 277)⟩, ⟨(PySem.PyData.keyHash P (PySem.Str.ofString "__static_attributes__")), (.«str» (PySem.Str.ofString "__static_attributes__") 279), (.«ref» 73)⟩, ⟨(PySem.PyData.keyHash P (PySem.Str.ofString "__weakref__")), (.«str» (PySem.Str.ofString "__weakref__") 281), (.«ref» 76)⟩, ⟨(PySem.PyData.keyHash P (PySem.Str.ofString "__doc__")), (.«str» (PySem.Str.ofString "__doc__") 282), .«none»⟩] 3), #[]⟩
noncomputable def o2_75 : Obj := ⟨(.«type» "type"), none, (.«cls» ⟨(PySem.Str.ofString "StatisticsError"), [(.«type» "ValueError")], [(.«ref» 75), (.«type» "ValueError"), (.«type» "Exception"), (.«type» "BaseException"), (.«type» "object")], 74, (PySem.Str.ofString "StatisticsError"), true, [], [], false, none, false⟩), #[(.«some» (.«ref» 66)), none, (.«some» (.«str» (PySem.Str.ofString "StatisticsError") 267)), (.«some» (.«str» (PySem.Str.ofString "StatisticsError") 275)), (.«some» (.«builtin» "ValueError.__new__")), (.«some» (.«bool» true))]⟩
noncomputable def o2_76 : Obj := ⟨(.«type» "getset_descriptor"), none, (.«fields» #[(.«str» (PySem.Str.ofString "__weakref__") 280), (.«ref» 75), (.«builtin» "ExceptionGroup.__weakref__"), .«none»]), #[]⟩
noncomputable def o2_77 : Obj := ⟨(.«type» "super"), none, (.«fields» #[(.«ref» 75), (.«ref» 75), (.«ref» 75)]), #[]⟩
noncomputable def o2_78 : Obj := ⟨(.«type» "builtin_function_or_method"), none, (.«fields» #[(.«builtin» "object.__init_subclass__"), (.«ref» 75)]), #[]⟩
noncomputable def heapAt2 (P : Params) : Heap := ⟨⟨[PySem.W.boot_o_0 P, PySem.W.boot_o_1 P, o1_2 P, o2_3 P, PySem.W.boot_o_4 P, PySem.W.boot_o_5 P, PySem.W.boot_o_6 P, PySem.W.boot_o_7 P, PySem.W.boot_o_8 P, PySem.W.boot_o_9 P, PySem.W.boot_o_10 P, o0_11, o2_12, o0_13, o0_14, o1_15, o1_16, o1_17 P, o1_18, o1_19, o1_20, o1_21, o1_22, o1_23 P, o1_24, o1_25, o1_26, o1_27, o1_28, o1_29, o1_30 P, o1_31, o1_32, o1_33, o1_34, o1_35, o1_36 P, o1_37, o1_38, o1_39, o1_40, o1_41, o1_42 P, o1_43, o1_44, o1_45, o1_46, o1_47, o1_48 P, o1_49, o1_50, o1_51, o2_52, o2_53, o2_54, o2_55, o2_56, o2_57, o2_58, o2_59, o2_60, o2_61, o2_62, o2_63, o2_64, o2_65, o2_66, o2_67, o2_68 P, o2_69, o2_70, o2_71, o2_72, o2_73, o2_74 P, o2_75, o2_76, o2_77, o2_78]⟩, ⟨[], [], [], 0, [], [], false, #[], [], 0, false, false, false, 0, [2000, 10, 10], false, 0, true, [], [], 0, false⟩⟩
noncomputable def o3_3 (P : Params) : Obj := ⟨(.«type» "dict"), none, (.«dict» #[⟨(PySem.PyData.keyHash P (PySem.Str.ofString "__name__")), (.«str» (PySem.Str.ofString "__name__") 165), (.«str» (PySem.Str.ofString "law_rw0045_01") 321)⟩, ⟨(PySem.PyData.keyHash P (PySem.Str.ofString "__doc__")), (.«str» (PySem.Str.ofString "__doc__") 166), .«none»⟩, ⟨(PySem.PyData.keyHash P (PySem.Str.ofString "__package__")), (.«str» (PySem.Str.ofString "__package__") 167), .«none»⟩, ⟨(PySem.PyData.keyHash P (PySem.Str.ofString "__loader__")), (.«str» (PySem.Str.ofString "__loader__") 168), (.«builtin» "__main__.__loader__#opaque")⟩, ⟨(PySem.PyData.keyHash P (PySem.Str.ofString "__spec__")), (.«str» (PySem.Str.ofString "__spec__") 169), .«none»⟩, ⟨(PySem.PyData.keyHash P (PySem.Str.ofString "__annotations__")), (.«str» (PySem.Str.ofString "__annotations__") 170), (.«ref» 6)⟩, ⟨(PySem.PyData.keyHash P (PySem.Str.ofString "__builtins__")), (.«str» (PySem.Str.ofString "__builtins__") 171), (.«ref» 4)⟩, ⟨(PySem.PyData.keyHash P (PySem.Str.ofString "__file__")), (.«str» (PySem.Str.ofString "__file__") 173), (.«str» (PySem.Str.ofString "/claim/cut.py") 172)⟩, ⟨(PySem.PyData.keyHash P (PySem.Str.ofString "__cached__")), (.«str» (PySem.Str.ofString "__cached__") 174), .«none»⟩, ⟨(PySem.PyData.keyHash P (PySem.Str.ofString "Error")), (.«str» (PySem.Str.ofString "Error") 208), (.«ref» 24)⟩, ⟨(PySem.PyData.keyHash P (PySem.Str.ofString "error_reply")), (.«str» (PySem.Str.ofString "error_reply") 224), (.«ref» 37)⟩, ⟨(PySem.PyData.keyHash P (PySem.Str.ofString "error_proto")), (.«str» (PySem.Str.ofString "error_proto") 240), (.«ref» 49)⟩, ⟨(PySem.PyData.keyHash P (PySem.Str.ofString "parse229")), (.«str» (PySem.Str.ofString "parse229") 253), (.«ref» 58)⟩, ⟨(PySem.PyData.keyHash P (PySem.Str.ofString "parse257")), (.«str» (PySem.Str.ofString "parse257") 264), (.«ref» 65)⟩, ⟨(PySem.PyData.keyHash P (PySem.Str.ofString "StatisticsError")), (.«str» (PySem.Str.ofString "StatisticsError") 284), (.«ref» 75)⟩, ⟨(PySem.PyData.keyHash P (PySem.Str.ofString "median_low")), (.«str» (PySem.Str.ofString "median_low") 292), (.«ref» 85)⟩, ⟨(PySem.PyData.keyHash P (PySem.Str.ofString "median_high")), (.«str» (PySem.Str.ofString "median_high") 300), (.«ref» 92)⟩, ⟨(PySem.PyData.keyHash P (PySem.Str.ofString "quantiles")), (.«str» (PySem.Str.ofString "quantiles") 320), (.«ref» 100)⟩, ⟨(PySem.PyData.keyHash P (PySem.Str.ofString "_law_piece")), (.«str» (PySem.Str.ofString "_law_piece") 329), (.«ref» 107)⟩, ⟨(PySem.PyData.keyHash P (PySem.Str.ofString "_law_due_name")), (.«str» (PySem.Str.ofString "_law_due_name") 341), (.«ref» 114)⟩, ⟨(PySem.PyData.keyHash P (PySem.Str.ofString "_law_fields")), (.«str» (PySem.Str.ofString "_law_fields") 347), (.«ref» 119)⟩, ⟨(PySem.PyData.keyHash P (PySem.Str.ofString "_law_due_port")), (.«str» (PySem.Str.ofString "_law_due_port") 357), (.«ref» 126)⟩, ⟨(PySem.PyData.keyHash P (PySem.Str.ofString "_law_name")), (.«str» (PySem.Str.ofString "_law_name") 365), (.«ref» 133)⟩, ⟨(PySem.PyData.keyHash P (PySem.Str.ofString "_law_port")), (.«str» (PySem.Str.ofString "_law_port") 374), (.«ref» 140)⟩, ⟨(PySem.PyData.keyHash P (PySem.Str.ofString "law")), (.«str» (PySem.Str.ofString "law") 380), (.«ref» 145)⟩] 25), #[]⟩
noncomputable def o3_12 : Obj := ⟨.«none», none, (.«fields» #[(.«int» 2 0), (.«int» 0 0), (.«ref» 20), (.«int» 4 0), (.«int» 0 0), (.«ref» 33), (.«int» 6 0), (.«int» 0 0), (.«ref» 45), (.«int» 8 0), (.«int» 0 0), (.«ref» 57), (.«int» 25 0), (.«int» 0 0), (.«ref» 64), (.«int» 43 0), (.«int» 0 0), (.«ref» 71), (.«int» 45 0), (.«int» 0 0), (.«ref» 84), (.«int» 54 0), (.«int» 0 0), (.«ref» 91), (.«int» 60 0), (.«int» 0 0), (.«ref» 99), (.«int» 89 0), (.«int» 0 0), (.«ref» 106), (.«int» 91 0), (.«int» 0 0), (.«ref» 113), (.«int» 109 0), (.«int» 0 0), (.«ref» 118), (.«int» 124 0), (.«int» 0 0), (.«ref» 125), (.«int» 131 0), (.«int» 0 0), (.«ref» 132), (.«int» 136 0), (.«int» 0 0), (.«ref» 139), (.«int» 145 0), (.«int» 0 0), (.«ref» 144)]), #[]⟩
noncomputable def o3_79 : Obj := ⟨(.«type» "tuple"), none, (.«seq» #[] 0), #[]⟩
noncomputable def o3_80 : Obj := ⟨.«none», none, (.«fields» #[]), #[]⟩
noncomputable def o3_81 : Obj := ⟨(.«type» "tuple"), none, (.«seq» #[(.«str» (PySem.Str.ofString "data") 288), (.«str» (PySem.Str.ofString "n") 289)] 0), #[]⟩
noncomputable def o3_82 : Obj := ⟨(.«type» "tuple"), none, (.«seq» #[] 0), #[]⟩
noncomputable def o3_83 : Obj := ⟨.«none», none, (.«func» ⟨(PySem.Str.ofString "median_low"), (PySem.Str.ofString "median_low"), (fp 8), (.«stmts» (fb 8)), (fs 9), 0, [], .«none», .«none», .«none», .«none», none, .«none», .«none», 0⟩), #[]⟩
noncomputable def o3_84 : Obj := ⟨(.«type» "code"), none, (.«fields» #[(.«str» (PySem.Str.ofString "median_low") 285), (.«str» (PySem.Str.ofString "median_low") 286), (.«str» (PySem.Str.ofString "/claim/cut.py") 287), (.«int» 45 0), (.«int» 1 0), (.«int» 0 0), (.«int» 0 0), (.«int» 3 0), (.«ref» 79), (.«bool» true), (.«int» 181 0), (.«ref» 80), .«none», (.«ref» 81), (.«ref» 82), (.«ref» 83), (.«int» 290 0), (.«int» 45 0), (.«str» (PySem.Str.ofString "/claim/cut.py") 291)]), #[]⟩
noncomputable def o3_85 : Obj := ⟨(.«type» "function"), none, (.«func» ⟨(PySem.Str.ofString "median_low"), (PySem.Str.ofString "median_low"), (fp 8), (.«stmts» (fb 8)), (fs 9), 3, [], .«none», .«none», .«none», (.«str» (PySem.Str.ofString "cpy313.statistics") 265), none, (.«ref» 84), .«none», 0⟩), #[]⟩
noncomputable def o3_86 : Obj := ⟨(.«type» "tuple"), none, (.«seq» #[] 0), #[]⟩
noncomputable def o3_87 : Obj := ⟨.«none», none, (.«fields» #[]), #[]⟩
noncomputable def o3_88 : Obj := ⟨(.«type» "tuple"), none, (.«seq» #[(.«str» (PySem.Str.ofString "data") 296), (.«str» (PySem.Str.ofString "n") 297)] 0), #[]⟩
noncomputable def o3_89 : Obj := ⟨(.«type» "tuple"), none, (.«seq» #[] 0), #[]⟩
noncomputable def o3_90 : Obj := ⟨.«none», none, (.«func» ⟨(PySem.Str.ofString "median_high"), (PySem.Str.ofString "median_high"), (fp 9), (.«stmts» (fb 9)), (fs 9), 0, [], .«none», .«none», .«none», .«none», none, .«none», .«none», 0⟩), #[]⟩
noncomputable def o3_91 : Obj := ⟨(.«type» "code"), none, (.«fields» #[(.«str» (PySem.Str.ofString "median_high") 293), (.«str» (PySem.Str.ofString "median_high") 294), (.«str» (PySem.Str.ofString "/claim/cut.py") 295), (.«int» 54 0), (.«int» 1 0), (.«int» 0 0), (.«int» 0 0), (.«int» 3 0), (.«ref» 86), (.«bool» true), (.«int» 181 0), (.«ref» 87), .«none», (.«ref» 88), (.«ref» 89), (.«ref» 90), (.«int» 298 0), (.«int» 54 0), (.«str» (PySem.Str.ofString "/claim/cut.py") 299)]), #[]⟩
noncomputable def o3_92 : Obj := ⟨(.«type» "function"), none, (.«func» ⟨(PySem.Str.ofString "median_high"), (PySem.Str.ofString "median_high"), (fp 9), (.«stmts» (fb 9)), (fs 9), 3, [], .«none», .«none», .«none», (.«str» (PySem.Str.ofString "cpy313.statistics") 265), none, (.«ref» 91), .«none», 0⟩), #[]⟩
noncomputable def o3_93 (P : Params) : Obj := ⟨(.«type» "dict"), none, (.«dict» #[⟨(PySem.PyData.keyHash P (PySem.Str.ofString "n")), (.«str» (PySem.Str.ofString "n") 303), (.«int» 4 301)⟩, ⟨(PySem.PyData.keyHash P (PySem.Str.ofString "method")), (.«str» (PySem.Str.ofString "method") 304), (.«str» (PySem.Str.ofString "exclusive") 302)⟩] 2), #[]⟩
noncomputable def o3_94 : Obj := ⟨(.«type» "tuple"), none, (.«seq» #[] 0), #[]⟩
noncomputable def o3_95 : Obj := ⟨.«none», none, (.«fields» #[]), #[]⟩
noncomputable def o3_96 : Obj := ⟨(.«type» "tuple"), none, (.«seq» #[(.«str» (PySem.Str.ofString "data") 308), (.«str» (PySem.Str.ofString "n") 309), (.«str» (PySem.Str.ofString "method") 310), (.«str» (PySem.Str.ofString "ld") 311), (.«str» (PySem.Str.ofString "m") 312), (.«str» (PySem.Str.ofString "result") 313), (.«str» (PySem.Str.ofString "i") 314), (.«str» (PySem.Str.ofString "j") 315), (.«str» (PySem.Str.ofString "delta") 316), (.«str» (PySem.Str.ofString "interpolated") 317)] 0), #[]⟩
noncomputable def o3_97 : Obj := ⟨(.«type» "tuple"), none, (.«seq» #[] 0), #[]⟩
noncomputable def o3_98 : Obj := ⟨.«none», none, (.«func» ⟨(PySem.Str.ofString "quantiles"), (PySem.Str.ofString "quantiles"), (fp 10), (.«stmts» (fb 10)), (fs 10), 0, [], .«none», .«none», .«none», .«none», none, .«none», .«none», 0⟩), #[]⟩
noncomputable def o3_99 : Obj := ⟨(.«type» "code"), none, (.«fields» #[(.«str» (PySem.Str.ofString "quantiles") 305), (.«str» (PySem.Str.ofString "quantiles") 306), (.«str» (PySem.Str.ofString "/claim/cut.py") 307), (.«int» 60 0), (.«int» 1 0), (.«int» 0 0), (.«int» 2 0), (.«int» 3 0), (.«ref» 94), (.«bool» true), (.«int» 181 0), (.«ref» 95), .«none», (.«ref» 96), (.«ref» 97), (.«ref» 98), (.«int» 318 0), (.«int» 60 0), (.«str» (PySem.Str.ofString "/claim/cut.py") 319)]), #[]⟩
noncomputable def o3_100 : Obj := ⟨(.«type» "function"), none, (.«func» ⟨(PySem.Str.ofString "quantiles"), (PySem.Str.ofString "quantiles"), (fp 10), (.«stmts» (fb 10)), (fs 10), 3, [], .«none», (.«ref» 93), .«none», (.«str» (PySem.Str.ofString "cpy313.statistics") 265), none, (.«ref» 99), .«none», 0⟩), #[]⟩
noncomputable def o3_101 : Obj := ⟨(.«type» "tuple"), none, (.«seq» #[] 0), #[]⟩
noncomputable def o3_102 : Obj := ⟨.«none», none, (.«fields» #[]), #[]⟩
noncomputable def o3_103 : Obj := ⟨(.«type» "tuple"), none, (.«seq» #[(.«str» (PySem.Str.ofString "n") 326)] 0), #[]⟩
noncomputable def o3_104 : Obj := ⟨(.«type» "tuple"), none, (.«seq» #[] 0), #[]⟩
noncomputable def o3_105 : Obj := ⟨.«none», none, (.«func» ⟨(PySem.Str.ofString "_law_piece"), (PySem.Str.ofString "_law_piece"), (fp 12), (.«stmts» (fb 12)), (fs 12), 0, [], .«none», .«none», .«none», .«none», none, .«none», .«none», 0⟩), #[]⟩
noncomputable def o3_106 : Obj := ⟨(.«type» "code"), none, (.«fields» #[(.«str» (PySem.Str.ofString "_law_piece") 323), (.«str» (PySem.Str.ofString "_law_piece") 324), (.«str» (PySem.Str.ofString "/claim/cut.py") 325), (.«int» 89 0), (.«int» 1 0), (.«int» 0 0), (.«int» 0 0), (.«int» 3 0), (.«ref» 101), (.«bool» true), (.«int» 181 0), (.«ref» 102), .«none», (.«ref» 103), (.«ref» 104), (.«ref» 105), (.«int» 327 0), (.«int» 89 0), (.«str» (PySem.Str.ofString "/claim/cut.py") 328)]), #[]⟩
noncomputable def o3_107 : Obj := ⟨(.«type» "function"), none, (.«func» ⟨(PySem.Str.ofString "_law_piece"), (PySem.Str.ofString "_law_piece"), (fp 12), (.«stmts» (fb 12)), (fs 12), 3, [], .«none», .«none», .«none», (.«str» (PySem.Str.ofString "law_rw0045_01") 321), none, (.«ref» 106), .«none», 0⟩), #[]⟩
noncomputable def o3_108 : Obj := ⟨(.«type» "tuple"), none, (.«seq» #[] 0), #[]⟩
noncomputable def o3_109 : Obj := ⟨.«none», none, (.«fields» #[]), #[]⟩
noncomputable def o3_110 : Obj := ⟨(.«type» "tuple"), none, (.«seq» #[(.«str» (PySem.Str.ofString "reply") 333), (.«str» (PySem.Str.ofString "name") 334), (.«str» (PySem.Str.ofString "stretch") 335), (.«str» (PySem.Str.ofString "place") 336), (.«str» (PySem.Str.ofString "sign") 337), (.«str» (PySem.Str.ofString "high") 338)] 0), #[]⟩
noncomputable def o3_111 : Obj := ⟨(.«type» "tuple"), none, (.«seq» #[] 0), #[]⟩
noncomputable def o3_112 : Obj := ⟨.«none», none, (.«func» ⟨(PySem.Str.ofString "_law_due_name"), (PySem.Str.ofString "_law_due_name"), (fp 13), (.«stmts» (fb 13)), (fs 13), 0, [], .«none», .«none», .«none», .«none», none, .«none», .«none», 0⟩), #[]⟩
noncomputable def o3_113 : Obj := ⟨(.«type» "code"), none, (.«fields» #[(.«str» (PySem.Str.ofString "_law_due_name") 330), (.«str» (PySem.Str.ofString "_law_due_name") 331), (.«str» (PySem.Str.ofString "/claim/cut.py") 332), (.«int» 91 0), (.«int» 1 0), (.«int» 0 0), (.«int» 0 0), (.«int» 3 0), (.«ref» 108), (.«bool» true), (.«int» 181 0), (.«ref» 109), .«none», (.«ref» 110), (.«ref» 111), (.«ref» 112), (.«int» 339 0), (.«int» 91 0), (.«str» (PySem.Str.ofString "/claim/cut.py") 340)]), #[]⟩
noncomputable def o3_114 : Obj := ⟨(.«type» "function"), none, (.«func» ⟨(PySem.Str.ofString "_law_due_name"), (PySem.Str.ofString "_law_due_name"), (fp 13), (.«stmts» (fb 13)), (fs 13), 3, [], .«none», .«none», .«none», (.«str» (PySem.Str.ofString "law_rw0045_01") 321), none, (.«ref» 113), .«none», 0⟩), #[]⟩
noncomputable def o3_115 : Obj := ⟨(.«type» "tuple"), none, (.«seq» #[] 0), #[]⟩
noncomputable def o3_116 : Obj := ⟨.«none», none, (.«fields» #[]), #[]⟩
noncomputable def o3_117 : Obj := ⟨.«none», none, (.«func» ⟨(PySem.Str.ofString "_law_fields"), (PySem.Str.ofString "_law_fields"), (fp 14), (.«stmts» (fb 14)), (fs 14), 0, [], .«none», .«none», .«none», .«none», none, .«none», .«none», 0⟩), #[]⟩
noncomputable def o3_118 : Obj := ⟨(.«type» "code"), none, (.«fields» #[(.«str» (PySem.Str.ofString "_law_fields") 342), (.«str» (PySem.Str.ofString "_law_fields") 343), (.«str» (PySem.Str.ofString "/claim/cut.py") 344), (.«int» 109 0), (.«int» 1 0), (.«int» 0 0), (.«int» 0 0), (.«int» 3 0), (.«ref» 115), (.«bool» true), (.«int» 181 0), (.«ref» 116), .«none», .«none», .«none», (.«ref» 117), (.«int» 345 0), (.«int» 109 0), (.«str» (PySem.Str.ofString "/claim/cut.py") 346)]), #[]⟩
noncomputable def o3_119 : Obj := ⟨(.«type» "function"), none, (.«func» ⟨(PySem.Str.ofString "_law_fields"), (PySem.Str.ofString "_law_fields"), (fp 14), (.«stmts» (fb 14)), (fs 14), 3, [], .«none», .«none», .«none», (.«str» (PySem.Str.ofString "law_rw0045_01") 321), none, (.«ref» 118), .«none», 0⟩), #[]⟩
noncomputable def o3_120 : Obj := ⟨(.«type» "tuple"), none, (.«seq» #[] 0), #[]⟩
noncomputable def o3_121 : Obj := ⟨.«none», none, (.«fields» #[]), #[]⟩
noncomputable def o3_122 : Obj := ⟨(.«type» "tuple"), none, (.«seq» #[(.«str» (PySem.Str.ofString "reply") 351), (.«str» (PySem.Str.ofString "fields") 352), (.«str» (PySem.Str.ofString "k") 353), (.«str» (PySem.Str.ofString "host") 354)] 0), #[]⟩
noncomputable def o3_123 : Obj := ⟨(.«type» "tuple"), none, (.«seq» #[] 0), #[]⟩
noncomputable def o3_124 : Obj := ⟨.«none», none, (.«func» ⟨(PySem.Str.ofString "_law_due_port"), (PySem.Str.ofString "_law_due_port"), (fp 15), (.«stmts» (fb 15)), (fs 15), 0, [], .«none», .«none», .«none», .«none», none, .«none», .«none», 0⟩), #[]⟩
noncomputable def o3_125 : Obj := ⟨(.«type» "code"), none, (.«fields» #[(.«str» (PySem.Str.ofString "_law_due_port") 348), (.«str» (PySem.Str.ofString "_law_due_port") 349), (.«str» (PySem.Str.ofString "/claim/cut.py") 350), (.«int» 124 0), (.«int» 4 0), (.«int» 0 0), (.«int» 0 0), (.«int» 3 0), (.«ref» 120), (.«bool» true), (.«int» 181 0), (.«ref» 121), .«none», (.«ref» 122), (.«ref» 123), (.«ref» 124), (.«int» 355 0), (.«int» 124 0), (.«str» (PySem.Str.ofString "/claim/cut.py") 356)]), #[]⟩
noncomputable def o3_126 : Obj := ⟨(.«type» "function"), none, (.«func» ⟨(PySem.Str.ofString "_law_due_port"), (PySem.Str.ofString "_law_due_port"), (fp 15), (.«stmts» (fb 15)), (fs 15), 3, [], .«none», .«none», .«none», (.«str» (PySem.Str.ofString "law_rw0045_01") 321), none, (.«ref» 125), .«none», 0⟩), #[]⟩
noncomputable def o3_127 : Obj := ⟨(.«type» "tuple"), none, (.«seq» #[] 0), #[]⟩
noncomputable def o3_128 : Obj := ⟨.«none», none, (.«fields» #[]), #[]⟩
noncomputable def o3_129 : Obj := ⟨(.«type» "tuple"), none, (.«seq» #[(.«str» (PySem.Str.ofString "reply") 361), (.«str» (PySem.Str.ofString "error") 362)] 0), #[]⟩
noncomputable def o3_130 : Obj := ⟨(.«type» "tuple"), none, (.«seq» #[] 0), #[]⟩
noncomputable def o3_131 : Obj := ⟨.«none», none, (.«func» ⟨(PySem.Str.ofString "_law_name"), (PySem.Str.ofString "_law_name"), (fp 16), (.«stmts» (fb 16)), (fs 16), 0, [], .«none», .«none», .«none», .«none», none, .«none», .«none», 0⟩), #[]⟩
noncomputable def o3_132 : Obj := ⟨(.«type» "code"), none, (.«fields» #[(.«str» (PySem.Str.ofString "_law_name") 358), (.«str» (PySem.Str.ofString "_law_name") 359), (.«str» (PySem.Str.ofString "/claim/cut.py") 360), (.«int» 131 0), (.«int» 1 0), (.«int» 0 0), (.«int» 0 0), (.«int» 3 0), (.«ref» 127), (.«bool» true), (.«int» 181 0), (.«ref» 128), .«none», (.«ref» 129), (.«ref» 130), (.«ref» 131), (.«int» 363 0), (.«int» 131 0), (.«str» (PySem.Str.ofString "/claim/cut.py") 364)]), #[]⟩
noncomputable def o3_133 : Obj := ⟨(.«type» "function"), none, (.«func» ⟨(PySem.Str.ofString "_law_name"), (PySem.Str.ofString "_law_name"), (fp 16), (.«stmts» (fb 16)), (fs 16), 3, [], .«none», .«none», .«none», (.«str» (PySem.Str.ofString "law_rw0045_01") 321), none, (.«ref» 132), .«none», 0⟩), #[]⟩
noncomputable def o3_134 : Obj := ⟨(.«type» "tuple"), none, (.«seq» #[] 0), #[]⟩
noncomputable def o3_135 : Obj := ⟨.«none», none, (.«fields» #[]), #[]⟩
noncomputable def o3_136 : Obj := ⟨(.«type» "tuple"), none, (.«seq» #[(.«str» (PySem.Str.ofString "reply") 369), (.«str» (PySem.Str.ofString "peer") 370), (.«str» (PySem.Str.ofString "error") 371)] 0), #[]⟩
noncomputable def o3_137 : Obj := ⟨(.«type» "tuple"), none, (.«seq» #[] 0), #[]⟩
noncomputable def o3_138 : Obj := ⟨.«none», none, (.«func» ⟨(PySem.Str.ofString "_law_port"), (PySem.Str.ofString "_law_port"), (fp 17), (.«stmts» (fb 17)), (fs 17), 0, [], .«none», .«none», .«none», .«none», none, .«none», .«none», 0⟩), #[]⟩
noncomputable def o3_139 : Obj := ⟨(.«type» "code"), none, (.«fields» #[(.«str» (PySem.Str.ofString "_law_port") 366), (.«str» (PySem.Str.ofString "_law_port") 367), (.«str» (PySem.Str.ofString "/claim/cut.py") 368), (.«int» 136 0), (.«int» 2 0), (.«int» 0 0), (.«int» 0 0), (.«int» 3 0), (.«ref» 134), (.«bool» true), (.«int» 181 0), (.«ref» 135), .«none», (.«ref» 136), (.«ref» 137), (.«ref» 138), (.«int» 372 0), (.«int» 136 0), (.«str» (PySem.Str.ofString "/claim/cut.py") 373)]), #[]⟩
noncomputable def o3_140 : Obj := ⟨(.«type» "function"), none, (.«func» ⟨(PySem.Str.ofString "_law_port"), (PySem.Str.ofString "_law_port"), (fp 17), (.«stmts» (fb 17)), (fs 17), 3, [], .«none», .«none», .«none», (.«str» (PySem.Str.ofString "law_rw0045_01") 321), none, (.«ref» 139), .«none», 0⟩), #[]⟩
noncomputable def o3_141 : Obj := ⟨(.«type» "tuple"), none, (.«seq» #[] 0), #[]⟩
noncomputable def o3_142 : Obj := ⟨.«none», none, (.«fields» #[]), #[]⟩
noncomputable def o3_143 : Obj := ⟨.«none», none, (.«func» ⟨(PySem.Str.ofString "law"), (PySem.Str.ofString "law"), (fp 18), (.«stmts» (fb 18)), (fs 18), 0, [], .«none», .«none», .«none», .«none», none, .«none», .«none», 0⟩), #[]⟩
noncomputable def o3_144 : Obj := ⟨(.«type» "code"), none, (.«fields» #[(.«str» (PySem.Str.ofString "law") 375), (.«str» (PySem.Str.ofString "law") 376), (.«str» (PySem.Str.ofString "/claim/cut.py") 377), (.«int» 145 0), (.«int» 1 0), (.«int» 0 0), (.«int» 0 0), (.«int» 3 0), (.«ref» 141), (.«bool» true), (.«int» 181 0), (.«ref» 142), .«none», .«none», .«none», (.«ref» 143), (.«int» 378 0), (.«int» 145 0), (.«str» (PySem.Str.ofString "/claim/cut.py") 379)]), #[]⟩
noncomputable def o3_145 : Obj := ⟨(.«type» "function"), none, (.«func» ⟨(PySem.Str.ofString "law"), (PySem.Str.ofString "law"), (fp 18), (.«stmts» (fb 18)), (fs 18), 3, [], .«none», .«none», .«none», (.«str» (PySem.Str.ofString "law_rw0045_01") 321), none, (.«ref» 144), .«none», 0⟩), #[]⟩
noncomputable def heapAt3 (P : Params) : Heap := ⟨⟨[PySem.W.boot_o_0 P, PySem.W.boot_o_1 P, o1_2 P, o3_3 P, PySem.W.boot_o_4 P, PySem.W.boot_o_5 P, PySem.W.boot_o_6 P, PySem.W.boot_o_7 P, PySem.W.boot_o_8 P, PySem.W.boot_o_9 P, PySem.W.boot_o_10 P, o0_11, o3_12, o0_13, o0_14, o1_15, o1_16, o1_17 P, o1_18, o1_19, o1_20, o1_21, o1_22, o1_23 P, o1_24, o1_25, o1_26, o1_27, o1_28, o1_29, o1_30 P, o1_31, o1_32, o1_33, o1_34, o1_35, o1_36 P, o1_37, o1_38, o1_39, o1_40, o1_41, o1_42 P, o1_43, o1_44, o1_45, o1_46, o1_47, o1_48 P, o1_49, o1_50, o1_51, o2_52, o2_53, o2_54, o2_55, o2_56, o2_57, o2_58, o2_59, o2_60, o2_61, o2_62, o2_63, o2_64, o2_65, o2_66, o2_67, o2_68 P, o2_69, o2_70, o2_71, o2_72, o2_73, o2_74 P, o2_75, o2_76, o2_77, o2_78, o3_79, o3_80, o3_81, o3_82, o3_83, o3_84, o3_85, o3_86, o3_87, o3_88, o3_89, o3_90, o3_91, o3_92, o3_93 P, o3_94, o3_95, o3_96, o3_97, o3_98, o3_99, o3_100, o3_101, o3_102, o3_103, o3_104, o3_105, o3_106, o3_107, o3_108, o3_109, o3_110, o3_111, o3_112, o3_113, o3_114, o3_115, o3_116, o3_117, o3_118, o3_119, o3_120, o3_121, o3_122, o3_123, o3_124, o3_125, o3_126, o3_127, o3_128, o3_129, o3_130, o3_131, o3_132, o3_133, o3_134, o3_135, o3_136, o3_137, o3_138, o3_139, o3_140, o3_141, o3_142, o3_143, o3_144, o3_145]⟩, ⟨[], [], [], 0, [], [], false, #[], [], 0, false, false, false, 0, [2000, 10, 10], false, 0, true, [], [], 0, false⟩⟩
noncomputable def bd : List Stmt := behindTheImports pg
noncomputable def env : Env := { scope := pg.main.scope, locals := mainNs, globals := mainNs, cells := [], code := .ref 13, frame := some 14 }
noncomputable def cd : Code := .body bd env
noncomputable abbrev p0 : Pos := ⟨0, 0, 0, 0⟩
noncomputable abbrev ann : Option Value := some (.ref 6)
noncomputable abbrev B : List Frame := [topFrame p0]
noncomputable abbrev dr : Drawn := ⟨0, 0, 0, 0⟩
noncomputable abbrev sa (h : Params → Heap) (k : Nat) (w : World) (os : OsState) : Shared := ⟨h w.params, #[], dr, k, os⟩
theorem pre (w : World) (os : OsState) : topGo treeTable pg w 11 ann 12 (sa PySem.W.boot_heap PySem.W.boot_toks w os) (topStub pg) = some (sa heapAt0 187 w os, ⟨denote treeTable cd, cd, p0, B⟩) := by kernel_rfl
theorem blk (w : World) (os : OsState) : segRun treeTable pg w 11 ann 1 1 (sa heapAt0 187 w os) (blockOf bd env cd p0 B) = some (.next, sa heapAt0 187 w os, cd, p0) := by kernel_rfl
noncomputable abbrev l0 : List Stmt := [st 0, st 1, st 2, st 3]
theorem seg0 (w : World) (os : OsState) : segRun treeTable pg w 11 ann 1 632 (sa heapAt0 187 w os) (piecesOf l0 env cd p0 B) = some (.next, sa heapAt1 241 w os, cd, ⟨6, 0, 7, 8⟩) := by kernel_rfl
noncomputable abbrev l1 : List Stmt := [st 4, st 5, st 6, st 7]
theorem seg1 (w : World) (os : OsState) : segRun treeTable pg w 11 ann 1 264 (sa heapAt1 241 w os) (piecesOf l1 env cd ⟨6, 0, 7, 8⟩ B) = some (.next, sa heapAt2 285 w os, cd, ⟨43, 0, 44, 8⟩) := by kernel_rfl
noncomputable abbrev l2 : List Stmt := [st 8, st 9, st 10, st 11, st 12, st 13, st 14, st 15, st 16, st 17, st 18]
theorem seg2 (w : World) (os : OsState) : segRun treeTable pg w 11 ann 1 327 (sa heapAt2 285 w os) (piecesOf l2 env cd ⟨43, 0, 44, 8⟩ B) = some (.next, sa heapAt3 381 w os, cd, ⟨145, 0, 169, 15⟩) := by kernel_rfl
theorem fin (w : World) (os : OsState) : topRun treeTable pg w 11 ann 2 (sa heapAt3 381 w os) ⟨doneF .next, cd, ⟨145, 0, 169, 15⟩, B⟩ = some (sa heapAt3 381 w os) := by kernel_rfl
theorem bd_eq : bd = l0 ++ (l1 ++ (l2 ++ [])) := by kernel_rfl
theorem run (w : World) (os : OsState) : topRun treeTable pg w 11 ann (12 + (1 + (632 + (264 + (327 + 2))))) (sa PySem.W.boot_heap PySem.W.boot_toks w os) (topStub pg) = some (sa heapAt3 381 w os) := by
  have h := piece_app (seg0 w os) (piece_app (seg1 w os) (piece_app (seg2 w os) (piece_nil (fin w os))))
  rw [← bd_eq] at h
  exact go_top (pre w os) (piece_block (blk w os) h)
end Mine.hp
namespace Mine
def hd.view_39 : Program := PySem.W.view PySem.Challenge.rw_rw0045_01.row.toRowW.prog [1, 2, 3, 4, 5, 7, 8, 9, 12, 13, 14, 15, 16, 17, 18]
theorem well : PySem.Challenge.rw_rw0045_01.wellSaid = true := by
  unfold OpenLaw.wellSaid OpenRow.wellSaid OpenRow.partSaid looksOpen
  repeat' with_reducible refine look_both ?_ ?_
  all_goals decide +kernel
local macro_rules | `(tactic| o_law) => `(tactic| refine holds_law Mine.well fun said => ?_)
local macro_rules | `(tactic| o_head $H) => `(tactic| (
  refine Mine.PySem.W.holds_open (r := PySem.Challenge.rw_rw0045_01.row) (q := Mine.hd.view_39) (loose := [Str.ofString "quantiles"]) (Xt := fun s => xlAt Mine.hd.view_39 [] s && recOk (RowW.records PySem.Challenge.rw_rw0045_01.row.toRowW) s) (XP := XL Mine.hd.view_39 []) (Yf := Hook.obs $H) (Ya := Hook.val $H) (YP := Hook.says $H) (N := 2566) ?hl (Hook.of $H) (Hook.keeps $H) (fun s e => xl_of s (Bool.and_eq_true_iff.mp e).1) XL.keeps (by rfl) (by rfl) (by rfl) (fun s e => recFacts_of (Bool.and_eq_true_iff.mp e).2) (by rfl) (by assumption) (by decide +kernel) ⟨rfl, rfl, rfl, rfl, rfl, by decide +kernel⟩ ?hw ?hc
  (case hl => exact LeftO.of_pieces (H₀ := PySem.W.boot_heap) (H₁ := Mine.hp.heapAt3) (PySem.W.boot_open (by kernel_rfl) (by decide) (fun _ => by kernel_rfl)) (fun w => by kernel_rfl) Mine.hp.run (by decide) (fun w => by kernel_rfl))))
open_top hd for PySem.Challenge.rw_rw0045_01
end Mine
end

open PySem.W PyProof.Rows in
theorem Mine.top_off : True := by
  w_top off
  trivial
section
open PySem.W PyProof.Rows
local macro_rules | `(tactic| k_room) => `(tactic| ktr_room)
local macro_rules | `(tactic| k_units) => `(tactic| ktr_units)

section
open PySem PySem.W PyProof.Rows
set_option Elab.async false
namespace Mine
set_option maxRecDepth 100000
set_option maxHeartbeats 8000000

def Calls (w : World) (mean : ExcName → Option Value) (mg mb : Str → Option Value) (news : List (Addr × Obj)) (f : Addr) (vs : List Value) (P : Value → List (Addr × Obj) → Prop) : Prop :=
  ∀ (dp un : Nat) (gd : Option (List Code)) (cn : Str) (cs : Scope) (a : Addr) (ccd : Value) (cl : List (Str × Addr)) (outer : List Env) (A₀ : Around) (base h₀ : Heap) (L : Addr) (m : Str → Option Value) (s : Shared) (Q E : Value → Shared → Prop),
    (hd.heap_1 w.params).In h₀ → Below A₀ base outer h₀ → Fr h₀ L s.heap m → News h₀ L s.heap news → Top hd.view_39 (looseW hd.view_39 [Str.ofString "quantiles"]) mean mg mb h₀ → cs.kind = .function →
    dp + 10 < recursionLimit → un + 80 < cLine →
    (∀ (r : Value) (tl : List (Addr × Obj)) (h' : Heap) (tk' : Nat), Fr h₀ L h' m → News h₀ L h' (tl ++ news) → P r tl → Q r { s with heap := h', toks := tk' }) →
    wpAny (model PySem.Challenge.rw_rw0045_01.row.prog w) (ktrTop dp un gd cn cs L a ccd cl outer) (call (.ref f) vs) Q E s

end Mine
end

section
open PySem PySem.W PyProof.Rows PySem.Calls PySem.Spec
set_option Elab.async false
namespace Mine
set_option maxRecDepth 100000
set_option maxHeartbeats 8000000

section
variable {prog : Program} {w : World} {A₀ A : Around} {s : Shared} {base h₀ : Heap} {L : Addr} {m : Str → Option Value} {env : Env} {news : List (Addr × Obj)} {K : Frag} {p : Program} {loose : List Str} {mean : ExcName → Option Value} {mg mb : Str → Option Value}
    {R : Result → Shared → Prop} {name qual : Str} {params : Arguments} {body : List Stmt} {scope : Scope} {dV kV doc pm cdv ct oc : Value} {an od : Option Addr} {osl : Array (Option Value)} {f : Addr} {args : Args} {binds : List (Str × Value)}

theorem memFr {b : Addr} (hf : env.frame = some L) (hm : b ∈ [env].filterMap (·.frame)) : b = L := by
  simp [hf] at hm
  exact hm

theorem leave0 (F : Fr h₀ L s.heap m) (N : News h₀ L s.heap news) (hf : env.frame = some L) {v : Value} {s' : Shared}
    (hl : LeaveS0 ([env].filterMap (·.frame)) h₀ L m (hideAll s.heap (news.map (·.1))) R v s') : R (.ok (.ret v)) s' := by
  have nm : ∀ b o, h₀.get? b = some o → b ∉ news.map (·.1) := fun b o e q => by
    obtain ⟨p, hp, rfl⟩ := List.mem_map.mp q
    rw [(N p hp).2.2] at e; cases e
  have st : h₀.StaysIn (hideAll s.heap (news.map (·.1))) := fun b o e => hideAll_get _ (F.keep b o e) (nm b o e)
  obtain ⟨oL, es, ep, hL, hLd, hLk, hLf⟩ := F.ns
  have nL : L ∉ news.map (·.1) := fun q => by
    obtain ⟨p, hp, e⟩ := List.mem_map.mp q
    exact (N p hp).2.1 e
  have hLg := hideAll_get (news.map (·.1)) hL nL
  have nL₀ : h₀.get? L = none := kts_self F
  obtain ⟨g', L', m', news', T', F', N', k⟩ := hl
  obtain ⟨sl, hs⟩ := T'.up hLg
  refine k ⟨⟨_, es, ep, F'.keep _ _ hs, hLd, hLk, hLf⟩, fun b o e => F'.keep b o (T'.other b o (st b o e) (fun q => ?_)), F.above⟩ fun p hp => ⟨(N' p hp).1, fun q => ?_, ?_⟩
  · rw [memFr hf q, nL₀] at e; cases e
  · have := (N' p hp).2.2; rw [q, hs] at this; cases this
  · cases q : h₀.get? p.1 with
    | none => rfl
    | some o =>
      obtain ⟨sl', hs'⟩ := T'.up (st _ _ q)
      have := (N' p hp).2.2
      rw [hs'] at this
      cases this

theorem dicts0 (F : Fr h₀ L s.heap m) (N : News h₀ L s.heap news) (hf : env.frame = some L) : KtsDicts ([env].filterMap (·.frame)) (hideAll s.heap (news.map (·.1))) := by
  intro b hb
  obtain rfl := memFr hf hb
  obtain ⟨oL, es, ep, hL, hLd, _⟩ := F.ns
  exact ⟨oL, es, ep, hideAll_get _ hL (fun q => by obtain ⟨p, hp, e⟩ := List.mem_map.mp q; exact (N p hp).2.1 e), hLd⟩

theorem code_def0 (B : Below A₀ base [] h₀) (F : Fr h₀ L s.heap m) (X₀ : K.In h₀) (N : News h₀ L s.heap news) (T : Top p loose mean mg mb h₀) (hA : A.frames = some [env]) (hf : env.frame = some L) (hke : env.scope.kind = .function)
    (ho : K.lookup f = some ⟨oc, od, .func (fnOf name qual params body scope dV kV doc pm an cdv ct), osl⟩) (hcd : codeIn K cdv qual = true) (hroom : A.depth < recursionLimit)
    (hbind : BindsTo s (fnOf name qual params body scope dV kV doc pm an cdv ct) args binds) (hloc : ∀ y ∈ binds, scope.names.lookup y.1 = some .local)
    (h : ∀ g L' h₁, Fr h₀ L g m → Fr g L' h₁ (fun y => binds.reverse.lookup y) → News g L' h₁ news → Below A base [env] g → K.In g → Top p loose mean mg mb g → KtsDicts ([env].filterMap (·.frame)) g →
      wpAny (model prog w) (A.deeper (envOf qual scope L' f cdv)) (execs body (envOf qual scope L' f cdv))
        (fun fl s' => LeaveS0 ([env].filterMap (·.frame)) h₀ L m g R (match fl with | .ret v => v | _ => .none) s')
        (fun e s' => wpAny (model prog w) (A.deeper (envOf qual scope L' f cdv)) (leaving (envOf qual scope L' f cdv) e) (fun _ s'' => R (.error e) s'') (fun e' s'' => R (.error e') s'') s')
        { s with heap := h₁, toks := s.toks + binds.length })
    (hco : scope.isCoroutine = false) (hgen : scope.isGenerator = false) (hk : scope.kind = .function)
    (hcell : ∀ x ∈ scope.names, x.2 ≠ .cell) : codeAny (model prog w) A (.call (.ref f) args) R s := by
  have X := X₀.keeps F.keep
  refine codeAny_call_def (fd := fnOf name qual params body scope dV kV doc pm an cdv ct) (body := body) (binds := binds) hroom (X _ _ ho) rfl (T.nolimit.keeps F.keep) (codeRec_of X hcd) rfl hbind hcell hloc (fun h₁ hns hk₁ => ?_) hco hgen hk
  obtain ⟨FG, BG, st, _⟩ := groundX (R := R) B F N hA hf hke
  exact wpAny_mono (h _ s.heap.objs.size h₁ FG ⟨hns, fun b o e => hk₁ b o (of_hideAll _ e), Nat.le_of_eq (hideAll_size _ _)⟩
    (fun p hp => ⟨hk₁ _ _ (N p hp).1, Nat.ne_of_lt (Heap.lt_size (N p hp).1), hideAll_none _ (List.mem_map_of_mem hp)⟩) BG (X₀.keeps st) (T.keeps st) (dicts0 F N hf)) (fun fl s' hl => leave0 F N hf hl) fun _ _ y => y
end

def Calls0 (w : World) (mean : ExcName → Option Value) (mg mb : Str → Option Value) (news : List (Addr × Obj)) (f : Addr) (vs : List Value) (P : Value → List (Addr × Obj) → Prop) : Prop :=
  ∀ (dp un : Nat) (gd : Option (List Code)) (cn : Str) (cs : Scope) (a : Addr) (ccd : Value) (cl : List (Str × Addr)) (A₀ : Around) (h₀ : Heap) (L : Addr) (m : Str → Option Value) (s : Shared) (Q E : Value → Shared → Prop),
    (hd.heap_1 w.params).In h₀ → Below A₀ h₀ [] h₀ → Fr h₀ L s.heap m → News h₀ L s.heap news → Top hd.view_39 (looseW hd.view_39 [Str.ofString "quantiles"]) mean mg mb h₀ → cs.kind = .function →
    dp + 10 < recursionLimit → un + 80 < cLine →
    (∀ (r : Value) (tl : List (Addr × Obj)) (h' : Heap) (tk' : Nat), Fr h₀ L h' m → News h₀ L h' (tl ++ news) → P r (tl ++ news) → Q r { s with heap := h', toks := tk' }) →
    wpAny (model PySem.Challenge.rw_rw0045_01.row.prog w) (ktrTop dp un gd cn cs L a ccd cl []) (call (.ref f) vs) Q E s

end Mine
end

section
open PySem PySem.W PyProof.Rows PySem.Calls PySem.Spec PySem.Builtin PySem.Builtin.Str PySem.Builtin.BaseException PySem.Builtin.Exceptions
set_option Elab.async false
namespace Mine
set_option maxRecDepth 100000
set_option maxHeartbeats 8000000

structure OwnExc (K : Frag) (h : Heap) (e C : Addr) (m : Str) (tk : Tok) : Prop where
  k : K.In h
  str : findIn K (.ref C) "__str__" = some (some (.builtin "BaseException.__str__"))
  sub : subIn K (.ref C) (.type "BaseException") = some true
  obj : ∃ o vs t0, h.get? e = some o ∧ o.cls = .ref C ∧ o.data = .fields vs ∧ vs[0]? = some (.ref t0) ∧ h.TupAt t0 [.str m tk]

theorem bs_kind : builtinKind "BaseException.__str__" = some .slot := by decide +kernel
theorem bs_split : splitId "BaseException.__str__" = some ("BaseException", "__str__") := by decide +kernel

section
variable {prog : Program} {w : World} {A : Around} {E : Value → Shared → Prop} {s : Shared} {K : Frag} {e C : Addr} {m : Str} {tk : Tok} {Q : Value → Shared → Prop}

theorem OwnExc.type {M : Model} {h : Heap} (x : OwnExc K h e C m tk) : Looks M h (typeOf (.ref e)) (.ref C) := by
  obtain ⟨o, vs, t0, ho, hc, _⟩ := x.obj
  have := (Looks.ld (M := M) (part := none) ho).andThen (f := fun o => pure o.cls) Looks.now
  rw [hc] at this
  exact this

theorem own_entry {Q : Fin → Shared → Prop} (x : OwnExc K s.heap e C m tk) (hq : Q (.done (.ret (.str m tk))) s) :
    wpAny (model prog w) A (Builtin.«BaseException.__str__» ⟨[.ref e], []⟩) Q E s := by
  obtain ⟨o, vs, t0, ho, hc, hd, h0, ht⟩ := x.obj
  have args : ∀ {Q' : Value × List Value → Shared → Prop}, Q' (.ref t0, [.str m tk]) s → wpAny (model prog w) A (bexcArgs (.ref e)) Q' E s := by
    intro Q' hq
    obtain ⟨ot, k, hto, _, htd⟩ := ht
    unfold bexcArgs
    refine wpAny_bind (wpAny_field ho hd h0 (wpAny_bind (wpAny_seqItems hto htd ?_)))
    show wpAny _ A (pure (Value.ref t0, [Value.str m tk].toArray.toList)) Q' E s
    exact wpAny_pure hq
  unfold Builtin.«BaseException.__str__»
  repeat (first | with_reducible refine args ?_ | wp_step)
  exact hq

theorem own_call (x : OwnExc K s.heap e C m tk) (hq : Q (.str m tk) s) :
    wpAny (model prog w) A (call (.builtin "BaseException.__str__") [.ref e]) Q E s := by
  refine wpAny_call (codeAny_call_builtin F.excStr_Exception.str.plain F.entry_bexc_str (@check_slot (model prog w) _ _ s "BaseException.__str__" "BaseException" "__str__" (.ref e) [] [] _ bs_kind bs_split (x.type.andThen (looks_subIn x.k x.sub)) (F.args_bexc_str (.ref e)) ?_))
  exact own_entry x hq

theorem own_special {Q : Option Value → Shared → Prop} (x : OwnExc K s.heap e C m tk) (hq : Q (some (.str m tk)) s) :
    wpAny (model prog w) A (callSpecial? (.ref e) "__str__") Q E s := by
  simp only [callSpecial?]
  refine wpAny_bind ((x.type.andThen (looks_findIn x.k x.str)).here ?_)
  simp only [F.excStr_Exception.str.bind]
  exact wpAny_holding (wpAny_bind (wpAny_pure (wpAny_bind (own_call x (wpAny_pure hq)))))

theorem own_strOf (hu : A.units < cLine) (x : OwnExc K s.heap e C m tk) (hq : Q (.str m tk) s) : wpAny (model prog w) A (Builtin.Str.strOf (.ref e)) Q E s := by
  unfold Builtin.Str.strOf
  repeat (first | with_reducible refine wpAny_cRoomFor hu ?_ | with_reducible refine own_special x ?_ | wp_step)
  exact hq

theorem own_str (hu : A.units + 2 < cLine) (x : OwnExc K s.heap e C m tk) (hq : Q (.str m tk) s) : wpAny (model prog w) A (call (.type "str") [.ref e]) Q E s :=
  callType_new F.called_str (by decide) (F.typeCall_str_1 _) (F.newCall_str_1 _) (fun obj => F.args_object_init_2 obj _) F.entry_str_new
    (meets_str_new (S := fun A' R s' => A'.units + 1 < cLine ∧ OwnExc K s'.heap e C m tk ∧ R (.ok (.ret (.str m tk))) s')
      fun _ _ A' _ _ hq => own_strOf (A := A'.in1) hq.1 hq.2.1 hq.2.2)
    ⟨(show A.units + 1 + 1 < cLine from hu), x, typeIs_str _ _ _, hq⟩

theorem own_of {h₀ h : Heap} {L t : Addr} {news : List (Addr × Obj)} (X : K.In h₀) (F : ∀ b o, h₀.get? b = some o → h.get? b = some o) (N : News h₀ L h news) (G : Got news e t (.ref C) [.str m tk])
    (hs : findIn K (.ref C) "__str__" = some (some (.builtin "BaseException.__str__"))) (hb : subIn K (.ref C) (.type "BaseException") = some true) : OwnExc K h e C m tk := by
  obtain ⟨oe, ot, ws, nt, h1, h2, hc, hd, h0, htc, htd⟩ := G
  exact ⟨X.keeps F, hs, hb, oe, ws, t, N.get h1, hc, hd, h0, ot, nt, N.get h2, htc, htd⟩
end
end Mine
end

section
open PySem PySem.W PyProof.Rows PySem.Calls PySem.Spec
set_option Elab.async false
namespace Mine
set_option maxRecDepth 100000
set_option maxHeartbeats 8000000

theorem find1_lt (x : Str) (c : Nat) : Txt.find x ⟨#[c]⟩ < x.length := by
  have := fact_find x ⟨#[c]⟩
  have e : (⟨#[c]⟩ : Str).length = 1 := rfl
  rw [e] at this
  omega
theorem find3_at (x : Str) (c : Nat) (i : Int) (h0 : 0 ≤ i) : Txt.find3 x ⟨#[c]⟩ i < 0 ∨ (i ≤ Txt.find3 x ⟨#[c]⟩ i ∧ Txt.find3 x ⟨#[c]⟩ i < x.length) := by
  rcases StrLaws.find3_spec x c i with h | ⟨k, h, h1, h2, h3⟩
  · omega
  · have e : i.toNat ≤ fromIndex x.length i := by
      unfold fromIndex
      split <;> omega
    omega
theorem s_lp : Str.ofString "(" = ⟨#[40]⟩ := by decide +kernel
theorem s_rp : Str.ofString ")" = ⟨#[41]⟩ := by decide +kernel
theorem lp_lt (x : Str) : Txt.find x (Str.ofString "(") < x.length ∧ -1 ≤ Txt.find x (Str.ofString "(") := by
  have := find_geG x (Str.ofString "(")
  rw [s_lp] at *; exact ⟨find1_lt x 40, this⟩
theorem rp_at (x : Str) (i : Int) (h0 : 0 ≤ i) : Txt.find3 x (Str.ofString ")") i < 0 ∨ (i ≤ Txt.find3 x (Str.ofString ")") i ∧ Txt.find3 x (Str.ofString ")") i < x.length) := by
  rw [s_rp]; exact find3_at x 41 i h0
end Mine
end

section
open PySem PySem.W PyProof.Rows PySem.Calls PySem.Spec
set_option Elab.async false
namespace Mine
set_option maxRecDepth 100000
set_option maxHeartbeats 4000000

def codeC (M : Model) (A : Around) (c : Code) (R : Result → Shared → Prop) (s : Shared) : Prop :=
  ∀ Γ p, Γ.code = c → Γ.Below A → CalledB Γ.below → wpCode M Γ R p s

theorem calledB_tail {x : Code × Pos} {l : List (Code × Pos)} (h : CalledB l) : CalledB (x :: l) := by
  unfold CalledB at *
  rw [List.map_cons, List.any_cons, h, Bool.or_true]

section
variable {α β : Type} {M : Model} {A : Around} {E : Value → Shared → Prop} {s : Shared}

theorem codeC_of {c : Code} {R : Result → Shared → Prop} (h : codeAny M A c R s) : codeC M A c R s := fun Γ p hc hΓ _ => h Γ p hc hΓ
theorem wpC_throw {e : Value} {Q : α → Shared → Prop} (h : E e s) : wpC M A (throw e : Sem α) Q E s := fun _ _ _ _ => h
theorem wpC_first {m : Sem α} {f : α → Sem β} {Q : β → Shared → Prop} (h : wpAny M A m (fun a s' => wpC M A (f a) Q E s') E s) :
    wpC M A (m >>= f) Q E s := wpC_bind (wpC_of h)
theorem wpC_then {m : Sem α} {f : α → Sem β} {Q : β → Shared → Prop} (h : wpC M A m (fun a s' => wpAny M A (f a) Q E s') E s) :
    wpC M A (m >>= f) Q E s := wpC_bind (wpC_mono h (fun _ _ x => wpC_of x) fun _ _ x => x)
theorem wpC_onRaise {m : Sem α} {k : Value → Sem Unit} {Q : α → Shared → Prop}
    (h : wpC M A m Q (fun e s' => wpC M A (k e) (fun _ s'' => E e s'') E s') s) : wpC M A (m.onRaise k) Q E s := fun Γ p hΓ hc => by
  rw [Sem.wp_onRaise]
  exact Sem.wp_mono M Γ m (fun _ _ _ h' => h') (fun e p' s' h' => h' Γ p' hΓ (calledB_at hc)) p s (h Γ p hΓ hc)
theorem wpC_attempt {m : Sem α} {Q : Except Value α → Shared → Prop} (h : wpC M A m (fun a => Q (.ok a)) (fun e => Q (.error e)) s) :
    wpC M A m.attempt Q E s := fun Γ p hΓ hc => by rw [Sem.wp_attempt]; exact h Γ p hΓ hc
theorem wpC_holding {vs : List Value} {m : Sem α} {Q : α → Shared → Prop} (h : wpC M A m Q E s) : wpC M A (holding vs m) Q E s :=
  fun Γ p hΓ hc => by rw [Sem.wp_holding]; exact h Γ p hΓ hc
theorem wpC_keep {vs : List Value} {m : Sem α} {Q : α → Shared → Prop} (h : wpC M A m Q E s) : wpC M A (m.keep vs) Q E s :=
  fun Γ p hΓ hc => by rw [Sem.wp_keep]; exact h Γ p hΓ hc
theorem wpC_standAt {pos : Pos} {Q : Unit → Shared → Prop} (h : Q () s) : wpC M A (standAt pos) Q E s := fun _ _ _ _ => h
theorem wpC_point {Q : Unit → Shared → Prop} (h : Q () s) : wpC M A point Q E s := fun _ _ _ _ => h

theorem wpC_yes {c : Prop} [Decidable c] {a b : Sem α} {Q : α → Shared → Prop} (hc : c) (h : wpC M A a Q E s) : wpC M A (if c then a else b) Q E s := by rw [if_pos hc]; exact h
theorem wpC_no {c : Prop} [Decidable c] {a b : Sem α} {Q : α → Shared → Prop} (hc : ¬ c) (h : wpC M A b Q E s) : wpC M A (if c then a else b) Q E s := by rw [if_neg hc]; exact h
theorem wpC_unpure {a : α} {f : α → Sem β} {Q : β → Shared → Prop} (h : wpC M A (f a) Q E s) : wpC M A (pure a >>= f) Q E s := h
theorem wpC_rule {tag : String} {f : Unit → Sem β} {Q : β → Shared → Prop} (h : wpC M A (f ()) Q E s) : wpC M A (rule tag >>= f) Q E s := h
theorem wpC_eq {m : Sem α} {a : α} {f : α → Sem β} {Q : β → Shared → Prop} (e : m = pure a) (h : wpC M A (f a) Q E s) : wpC M A (m >>= f) Q E s := by rw [e]; exact h
theorem codeC_mono {c : Code} {R R' : Result → Shared → Prop} (h : codeC M A c R s) (hR : ∀ r s, R r s → R' r s) : codeC M A c R' s :=
  fun Γ p hc hΓ hb => wpCode_mono hR (h Γ p hc hΓ hb)
theorem wpC_run {c : Code} {h : Option Value} {Q : Flow → Shared → Prop}
    (hc : codeC M (A.mark h) c (fun r s' => match r with | .ok f => Q f s' | .error e => E e s') s) (hnb : h ≠ some byPass := by intro x; cases x) :
    wpC M A (run c h) Q E s :=
  fun Γ p hΓ hb => by rw [Sem.wp_run]; exact hc _ p rfl (hΓ.enter c h p hnb) hb
theorem wpC_runValue {c : Code} {Q : Value → Shared → Prop}
    (hc : codeC M A c (fun r s' => match r with | .ok (.ret v) => Q v s' | .ok _ => False | .error e => E e s') s) :
    wpC M A (runValue c) Q E s := fun Γ p hΓ hb => by rw [Sem.wp_runValue]; exact hc _ p rfl (hΓ.enter c none p (by intro x; cases x)) hb
theorem wpC_call {f : Value} {pos : List Value} {kw : List (Str × Value)} {Q : Value → Shared → Prop}
    (hc : codeC M A (.call f ⟨pos, kw⟩) (fun r s' => match r with | .ok (.ret v) => Q v s' | .ok _ => False | .error e => E e s') s) :
    wpC M A (call f pos kw) Q E s := wpC_runValue hc
theorem codeC_tree {c : Code} {R : Result → Shared → Prop}
    (h : wpC M (A.under c) (M.den c) (fun fin s' => match fin with | .done f => R (.ok f) s' | .again c' => c'.quiet = true ∧ codeC M A c' R s')
      (fun e s' => R (.error e) s') s) : codeC M A c R s := fun Γ p hc hΓ hb => by
  rw [wpCode_iff_wp, hc]
  refine Sem.wp_mono M Γ _ (fun fin p' s' h' => ?_) (fun _ _ _ h' => h') p s (h Γ p (hc ▸ hΓ.in) (calledB_tail hb))
  cases fin with
  | done f => exact h'
  | again c' => exact ⟨h'.1, h'.2 (Γ.goto c') p' rfl (hΓ.goto c') hb⟩

theorem wpC_mark {own : List String} {e : Value} {Q : Unit → Shared → Prop} (h : Q () s) : wpC M A (markTheRefusal own e) Q E s := by
  unfold markTheRefusal
  refine wpC_bind fun Γ p hΓ hc => ?_
  show wpC M A (if pythonCodeMadeTheCall own (((Γ.code, p) :: Γ.below).map (·.1)) = true then _ else _) Q E s
  have e : pythonCodeMadeTheCall own (((Γ.code, p) :: Γ.below).map (·.1)) = false := by
    have h3 : ∀ (a b c : Bool), a = true → ((!a && b) && c) = false := by decide
    exact h3 _ _ _ hc
  rw [e]
  exact wpC_pure h
end
end Mine
end

section
open PySem PySem.W PyProof.Rows PySem.Calls PySem.Spec PySem.NumText
set_option Elab.async false
namespace Mine
set_option maxRecDepth 100000
set_option maxHeartbeats 4000000

theorem bad_text {prog : Program} {w : World} {A : Around} {E : Value → Shared → Prop} {s : Shared} {Q : Value → Shared → Prop} {x : Str} {u : Tok}
    (hy : PyData.layable0 (.str x) = true) (hl : x.length ≤ 640) (hn : PySem.intText? x = none) (hh : A.handled = none) (hE : ∀ h' tk e, Heap.NewExc s.heap h' e "ValueError" → E (.ref e) { s with heap := h', toks := tk }) :
    wpC (model prog w) A ((int_private% "intFromText") (.str x u) (numTextOf x) 10) Q E s := by
  have hs : (numSeenOf x).length ≤ 640 := Nat.le_trans (seen_length x) hl
  have hr := read0 x hs
  rw [hn] at hr
  replace hr := hr.resolve_left (fun ⟨_, h, _⟩ => by cases h)
  replace hr := hr.2
  with_unfolding_all refine wpC_yes (c := (numSeenOf x).length ≤ 640) hs ?_
  refine wpC_unpure ?_
  dsimp only
  have e0 : List.takeWhile (fun x => x != 0) (numTextOf x) = numSeenOf x := rfl
  rw [e0]
  have hz : (reprText x).length ≤ sizeLine := fits_repr_of_layable hy
  have tail : ∀ (k : Str → Str) , (∀ y, (k y).length ≤ 400) → wpC (model prog w) A (do
      let sh ← pyRepr (.str x u)
      let l ← mkStr (k sh)
      let e ← newExc (Value.type "ValueError") [l]
      markTheRefusal ["int.__new__"] e
      raiseNew e : Sem Value) Q E s := by
    intro k hk
    refine wpC_first (wpAny_pyRepr_str ?_ hz)
    refine wpC_first (wpAny_mkStr ?_ (Nat.le_trans (hk _) (by rw [sizeLine_eq]; decide)))
    refine wpC_first ?_
    unfold newExc newTuple
    refine wpAny_bind (wpAny_newObj_type ?_)
    refine wpAny_bind (m := firstArgMember _ _) (wpAny_of_eq (a := Value.none) (by simp only [firstArgMember, plainExc_ValueError.first]; rfl) ?_)
    rw [plainExc_ValueError.own]
    refine wpAny_newObj_type ?_
    refine wpC_bind (wpC_mark (wpC_of ?_))
    unfold raiseNew
    refine wpAny_bind (wpAny_handled ?_)
    rw [hh]
    refine wpAny_bind (wpAny_pure (wpAny_throw ?_))
    exact hE _ _ _ ⟨fun b o hb => Heap.get?_push_of_some _ (Heap.get?_push_of_some _ hb), Heap.get?_none_of_le (by simp), _, .ref s.heap.objs.size, Heap.get?_push_size _ rfl, rfl, by simp⟩
  have shown : ∀ y : Str, (Str.ofString (toString "invalid literal for int() with base " ++ toString (10 : Nat) ++ toString ": ") ++ ({ cps := y.cps.extract 0 200 } : Str)).length ≤ 400 := by
    intro y
    rw [Str.length_append]
    have e1 : (Str.ofString (toString "invalid literal for int() with base " ++ toString (10 : Nat) ++ toString ": ")).length ≤ 100 := by decide +kernel
    have e2 : ({ cps := y.cps.extract 0 200 } : Str).length ≤ 200 := by
      show (y.cps.extract 0 200).size ≤ 200
      rw [Array.size_extract]; omega
    omega
  rcases hr with hr | ⟨i, hr, hlen⟩
  · rw [hr]
    dsimp only
    with_unfolding_all refine wpC_eq (a := none) rfl ?_
    refine wpC_no (by simp) ?_
    refine wpC_rule ?_
    with_unfolding_all refine wpC_eq (a := none) rfl ?_
    dsimp only
    with_reducible refine tail _ ?_
    with_reducible exact shown
  · rw [hr]
    dsimp only
    refine wpC_no hlen ?_
    refine wpC_rule ?_
    with_unfolding_all refine wpC_eq (a := none) rfl ?_
    dsimp only
    with_reducible refine tail _ ?_
    with_reducible exact shown
end Mine
end

section
open PySem PySem.W PyProof.Rows PySem.Calls PySem.Spec PySem.NumText
set_option Elab.async false
namespace Mine
set_option maxRecDepth 100000
set_option maxHeartbeats 4000000
section
variable {prog : Program} {w : World} {A : Around} {E : Value → Shared → Prop} {s : Shared} {R : Result → Shared → Prop}
theorem codeC_builtin {id : String} {args : Args} {b : Builtin} (hb : entryFor table id = some b)
    (h : wpC (model prog w) (A.under (.builtin id args)) (b args) (fun fin s' => match fin with | .done f => R (.ok f) s' | .again c' => c'.quiet = true ∧ codeC (model prog w) A c' R s') (fun e s' => R (.error e) s') s) :
    codeC (model prog w) A (.builtin id args) R s := by
  refine codeC_tree ?_
  show wpC _ _ (match entryFor table id with | some b => b args | none => unsupported ((withoutEnding? id "#data").getD id)) _ _ s
  rw [hb]; exact h
theorem int_bad {Q : Value → Shared → Prop} {x : Str} {u : Tok}
    (hy : PyData.layable0 (.str x) = true) (hl : x.length ≤ 640) (hn : PySem.intText? x = none) (hh : A.handled = none) (hE : ∀ h' tk e, Heap.NewExc s.heap h' e "ValueError" → E (.ref e) { s with heap := h', toks := tk }) :
    wpC (model prog w) A (call (.type "int") [.str x u]) Q E s := by
  have ft := F.called_int
  obtain ⟨c, tl, hmro⟩ := ft.mro
  have hmade := ft.made
  have h1 := ft.notType
  have h2 := ft.canCreate
  refine wpC_call (codeC_tree ?_)
  show wpC _ _ (callAny (.type "int") _) _ _ _
  refine wpC_pure ⟨Code.quiet_builtin _ (by decide +kernel), codeC_builtin F.entry_type_call ?_⟩
  unfold Builtin.«type.__call__»
  dsimp only
  refine wpC_no (by simp) ?_
  refine wpC_no (by rw [h2]; exact Bool.false_ne_true) ?_
  refine wpC_eq (F.typeCall_int_1 (.str x u)) ?_
  refine wpC_eq hmro ?_
  refine wpC_no (by simp) ?_
  refine wpC_eq hmade ?_
  dsimp only
  refine wpC_unpure ?_
  refine wpC_bind (wpC_holding (wpC_call (codeC_tree ?_)))
  show wpC _ _ (do checkBuiltinCall "int.__new__" _; again (.builtin "int.__new__" _)) _ _ _
  refine wpC_eq (F.newCall_int_1 (.str x u)) ?_
  refine wpC_pure ⟨Code.quiet_builtin _ (by decide +kernel), codeC_builtin F.entry_int_new ?_⟩
  unfold Builtin.«int.__new__»
  dsimp only
  refine wpC_eq (a := true) rfl ?_
  refine wpC_no (by simp) ?_
  refine wpC_eq F.conv_sub_int ?_
  refine wpC_no (by simp) ?_
  refine wpC_eq F.madeHere_int ?_
  refine wpC_no (by simp) ?_
  refine wpC_no (by simp) ?_
  with_unfolding_all refine wpC_eq (a := PUnit.unit) rfl ?_
  dsimp only [List.head?_cons]
  refine wpC_bind ?_
  have f3 := KIN.str_int
  have f4 := KIN.str_idx
  have f5 := KIN.str_trunc
  have f6 : typeOf (.str x u) = pure (.type "str") := rfl
  have g1 : callSpecial? (.str x u) (Str.ofString "__int__") = pure none := by
    unfold callSpecial? specialOf
    rw [f6]
    simp only [pure_bind, f3]
  have g2 : specialOf (.str x u) (Str.ofString "__index__") = pure none := by
    unfold specialOf
    rw [f6]
    simp only [pure_bind, f4]
  have g3 : specialOf (.str x u) (Str.ofString "__trunc__") = pure none := by
    unfold specialOf
    rw [f6]
    simp only [pure_bind, f5]
  with_unfolding_all refine wpC_eq g1 ?_
  dsimp only
  refine wpC_eq g2 ?_
  refine wpC_no (by simp) ?_
  refine wpC_eq g3 ?_
  dsimp only
  with_unfolding_all refine wpC_eq (a := some (numTextOf x)) rfl ?_
  dsimp only
  exact bad_text hy hl hn hh hE
end
end Mine
end

section
open PySem PySem.W PyProof.Rows PySem.Calls PySem.Spec
set_option Elab.async false
namespace Mine
set_option maxRecDepth 100000
set_option maxHeartbeats 8000000
section
variable {prog : Program} {w : World} {A₀ A : Around} {s : Shared} {base h₀ : Heap} {L : Addr} {m : Str → Option Value} {env : Env} {news : List (Addr × Obj)} {K : Frag} {p : Program} {loose : List Str} {mean : ExcName → Option Value} {mg mb : Str → Option Value}
    {R : Result → Shared → Prop} {name qual : Str} {params : Arguments} {body : List Stmt} {scope : Scope} {dV kV doc pm cdv ct oc : Value} {an od : Option Addr} {osl : Array (Option Value)} {f : Addr} {args : Args} {binds : List (Str × Value)}

theorem code_defC0 (B : Below A₀ base [] h₀) (F : Fr h₀ L s.heap m) (X₀ : K.In h₀) (N : News h₀ L s.heap news) (T : Top p loose mean mg mb h₀) (hA : A.frames = some [env]) (hf : env.frame = some L) (hke : env.scope.kind = .function)
    (ho : K.lookup f = some ⟨oc, od, .func (fnOf name qual params body scope dV kV doc pm an cdv ct), osl⟩) (hcd : codeIn K cdv qual = true) (hroom : A.depth < recursionLimit)
    (hbind : BindsTo s (fnOf name qual params body scope dV kV doc pm an cdv ct) args binds) (hkind : (binds.all fun y => scope.names.lookup y.1 == some .local || scope.names.lookup y.1 == some .cell) = true)
    (hnd : ((cellsFrom 0 scope.names []).map (·.1)).Nodup)
    (h : ∀ g L' h₁ tk cells, Fr h₀ L g m → Fr g L' h₁ (bindL (envOfC qual scope L' f cdv).kindOf binds fun _ => none) → News g L' h₁ (cells ++ news) →
      CellsAre (bindC (envOfC qual scope L' f cdv).kindOf binds fun _ => none) (cellsFrom (L' + 1) scope.names []) cells → Below A base [env] g → K.In g → Top p loose mean mg mb g → KtsDicts ([env].filterMap (·.frame)) g →
      wpAny (model prog w) (A.deeper (envOfC qual scope L' f cdv)) (execs body (envOfC qual scope L' f cdv))
        (fun fl s' => LeaveS0 ([env].filterMap (·.frame)) h₀ L m g R (match fl with | .ret v => v | _ => .none) s')
        (fun e s' => wpAny (model prog w) (A.deeper (envOfC qual scope L' f cdv)) (leaving (envOfC qual scope L' f cdv) e) (fun _ s'' => R (.error e) s'') (fun e' s'' => R (.error e') s'') s')
        { s with heap := h₁, toks := tk })
    (hco : scope.isCoroutine = false) (hgen : scope.isGenerator = false) (hk : scope.kind = .function) : codeAny (model prog w) A (.call (.ref f) args) R s := by
  have X := X₀.keeps F.keep
  obtain ⟨FG, BG, st, _⟩ := groundX (R := R) B F N hA hf hke
  refine codeAny_call_function hroom (X _ _ ho) rfl hco hgen rfl (codeRec_of X hcd) (hbind _ _ _ _ ?_)
  refine wpAny_newFunctionEnv_cells hk (kindsX hkind _) fun env' he s' x => ?_
  subst he
  refine ⟨(T.nolimit.keeps F.keep).keeps x.toInCall.keep, codeAny_func ?_⟩
  obtain ⟨h₁, tk, rfl, _⟩ := x.done
  have hk₁ := x.toInCall.keep
  obtain ⟨cells, NC, Y⟩ := Cl.news (h₀ := s.heap) (Nat.le_refl _) fun n c hm => ⟨x.cell n c (lookup_of_mem_nodup (cellsFrom_names scope.names 0 (s.heap.objs.size + 1) [] [] rfl ▸ hnd) hm), x.above n c hm⟩
  refine wpAny_mono (h _ s.heap.objs.size h₁ tk cells FG ⟨x.toInCall.ns, fun b o e => hk₁ b o (of_hideAll _ e), Nat.le_of_eq (hideAll_size _ _)⟩ (fun p hp => ?_) Y BG (X₀.keeps st) (T.keeps st) (dicts0 F N hf)) (fun fl s' hl => leave0 F N hf hl) fun _ _ y => y
  rcases List.mem_append.mp hp with hp | hp
  · refine ⟨(NC p hp).1, (NC p hp).2.1, ?_⟩
    cases q : (hideAll s.heap (news.map (·.1))).get? p.1 with
    | none => rfl
    | some o => have := of_hideAll _ q; rw [(NC p hp).2.2] at this; cases this
  · exact ⟨hk₁ _ _ (N p hp).1, Nat.ne_of_lt (Heap.lt_size (N p hp).1), hideAll_none _ (List.mem_map_of_mem hp)⟩
end

def Stop (p : Prop) : Prop := p
theorem execs_cut (env : Env) : ∀ (n : Nat) (l : List Stmt), execs l env = (do match ← execs (l.take n) env with | .next => execs (l.drop n) env | f => pure f)
  | 0, l => by
    show execs l env = (pure Flow.next >>= _)
    rw [pure_bind]; rfl
  | n + 1, [] => by
    show pure Flow.next = (pure Flow.next >>= _)
    rw [pure_bind]; rfl
  | n + 1, s :: l => by
    show execs (s :: l) env = (execs (s :: l.take n) env >>= _)
    simp only [execs, bind_assoc]
    refine bind_congr fun fl => ?_
    cases fl with
    | next => exact execs_cut env n l
    | brk => rw [pure_bind]
    | cont => rw [pure_bind]
    | ret v => rw [pure_bind]
section
variable {M : Model} {A : Around} {E : Value → Shared → Prop} {s : Shared} {env : Env} {l : List Stmt} {Q : Flow → Shared → Prop}
theorem cut_any (n : Nat) (h : wpAny M A (execs (l.take n) env) (fun fl s' => match fl with | .next => Stop (wpAny M A (execs (l.drop n) env) Q E s') | f => Q f s') E s) : wpAny M A (execs l env) Q E s := by
  rw [execs_cut env n l]
  refine wpAny_bind (wpAny_mono h (fun fl s' x => ?_) fun _ _ x => x)
  cases fl <;> first | exact x | exact wpAny_pure x
theorem cut_C (n : Nat) (h : wpAny M A (execs (l.take n) env) (fun fl s' => match fl with | .next => Stop (wpC M A (execs (l.drop n) env) Q E s') | f => Q f s') E s) : wpC M A (execs l env) Q E s := by
  rw [execs_cut env n l]
  refine wpC_bind (wpC_of (wpAny_mono h (fun fl s' x => ?_) fun _ _ x => x))
  cases fl <;> first | exact x | exact wpC_pure x
end
end Mine
end

section
open PySem PySem.W PyProof.Rows PySem.Calls PySem.Spec
set_option Elab.async false
namespace Mine
set_option maxRecDepth 100000
set_option maxHeartbeats 8000000

def Old (news : List (Addr × Obj)) (R : Result → Shared → Prop) (r : Result) (s' : Shared) : Prop := (∀ p ∈ news, s'.heap.get? p.1 = some p.2) → R r s'

section
variable {prog : Program} {w : World} {A₀ A : Around} {s : Shared} {base h₀ : Heap} {outer : List Env} {L : Addr} {m : Str → Option Value} {env : Env} {news : List (Addr × Obj)} {K : Frag} {p : Program} {loose : List Str} {mean : ExcName → Option Value} {mg mb : Str → Option Value}
    {R : Result → Shared → Prop} {name qual : Str} {params : Arguments} {body : List Stmt} {scope : Scope} {dV kV doc pm cdv ct oc : Value} {an od : Option Addr} {osl : Array (Option Value)} {f : Addr} {args : Args} {binds : List (Str × Value)} {pre : Heap → Prop}

theorem frame_in (F : Fr h₀ L s.heap m) : Fr h₀ L s.heap m ∧ ∃ oL es ep, s.heap.get? L = some oL ∧ oL.data = .dict es ep ∧ (∀ (sl : Array (Option Value)) h', h'.get? L = some { oL with slots := sl } → Heap.Ns h' L m) := by
  obtain ⟨oL, es, ep, hL, hLd, hLk, hLf⟩ := id F.ns
  exact ⟨F, oL, es, ep, hL, hLd, fun sl h' e => ⟨_, es, ep, e, hLd, hLk, hLf⟩⟩

theorem back_K {v : Value} {s' : Shared} (F : Fr h₀ L s.heap m) (N : News h₀ L s.heap news) (hl : LeaveK h₀ L m s.heap (Old news R) v s') : R (.ok (.ret v)) s' := by
  obtain ⟨L', m', news', F', N', k⟩ := hl
  obtain ⟨_, oL, es, ep, hL, hLd, hN⟩ := frame_in F
  refine k ⟨hN oL.slots _ (F'.keep _ _ hL), fun b o e => F'.keep _ _ (F.keep _ _ e), F.above⟩ (fun p hp => ⟨(N' p hp).1, fun q => ?_, ?_⟩) fun p hp => F'.keep _ _ (N p hp).1
  · have := (N' p hp).2.2; rw [q, hL] at this; cases this
  · cases q : h₀.get? p.1 with
    | none => rfl
    | some o => have := (N' p hp).2.2; rw [F.keep _ _ q] at this; cases this

theorem back_S {v : Value} {s' : Shared} (F : Fr h₀ L s.heap m) (N : News h₀ L s.heap news) (hf : env.frame = some L) (hl : LeaveS0 ([env].filterMap (·.frame)) h₀ L m s.heap (Old news R) v s') : R (.ok (.ret v)) s' := by
  obtain ⟨g', L', m', news', T', F', N', k⟩ := hl
  obtain ⟨_, oL, es, ep, hL, hLd, hN⟩ := frame_in F
  obtain ⟨sl, hs⟩ := T'.up hL
  have nL₀ : h₀.get? L = none := kts_self F
  refine k ⟨hN sl _ (F'.keep _ _ hs), fun b o e => F'.keep b o (T'.other b o (F.keep _ _ e) (fun q => ?_)), F.above⟩ (fun p hp => ⟨(N' p hp).1, fun q => ?_, ?_⟩) fun p hp => F'.keep _ _ (T'.other _ _ (N p hp).1 fun q => (N p hp).2.1 (memFr hf q))
  · rw [memFr hf q, nL₀] at e; cases e
  · have := (N' p hp).2.2; rw [q, hs] at this; cases this
  · cases q : h₀.get? p.1 with
    | none => rfl
    | some o =>
      obtain ⟨sl', hs'⟩ := T'.up (F.keep _ _ q)
      have := (N' p hp).2.2
      rw [hs'] at this
      cases this

theorem dicts1 (F : Fr h₀ L s.heap m) (hf : env.frame = some L) : KtsDicts ([env].filterMap (·.frame)) s.heap := by
  intro b hb
  obtain rfl := memFr hf hb
  obtain ⟨oL, es, ep, hL, hLd, _⟩ := F.ns
  exact ⟨oL, es, ep, hL, hLd⟩

theorem below1 (B : Below A₀ base outer h₀) (F : Fr h₀ L s.heap m) (hA : A.frames = some (env :: outer)) (hf : env.frame = some L) (hke : env.scope.kind = .function) : Below A base (env :: outer) s.heap := by
  have b := pushX B F hf hke
  exact ⟨hA, b.stays, b.frames⟩

theorem code_1K (B : Below A₀ base outer h₀) (F : Fr h₀ L s.heap m) (X₀ : K.In h₀) (N : News h₀ L s.heap news) (T : Top p loose mean mg mb h₀) (hA : A.frames = some (env :: outer)) (hf : env.frame = some L) (hke : env.scope.kind = .function) (hp : pre s.heap)
    (ho : K.lookup f = some ⟨oc, od, .func (fnOf name qual params body scope dV kV doc pm an cdv ct), osl⟩) (hcd : codeIn K cdv qual = true) (hroom : A.depth < recursionLimit)
    (hbind : BindsTo s (fnOf name qual params body scope dV kV doc pm an cdv ct) args binds) (hloc : ∀ y ∈ binds, scope.names.lookup y.1 = some .local)
    (h : ∀ g L' h₁, pre g → Fr h₀ L g m → Fr g L' h₁ (fun y => binds.reverse.lookup y) → News g L' h₁ [] → Below A base (env :: outer) g → K.In g → Top p loose mean mg mb g →
      wpAny (model prog w) (A.deeper (envOf qual scope L' f cdv)) (execs body (envOf qual scope L' f cdv))
        (fun fl s' => LeaveK h₀ L m g (Old news R) (match fl with | .ret v => v | _ => .none) s')
        (fun e s' => wpAny (model prog w) (A.deeper (envOf qual scope L' f cdv)) (leaving (envOf qual scope L' f cdv) e) (fun _ s'' => R (.error e) s'') (fun e' s'' => R (.error e') s'') s')
        { s with heap := h₁, toks := s.toks + binds.length })
    (hco : scope.isCoroutine = false) (hgen : scope.isGenerator = false) (hk : scope.kind = .function)
    (hcell : ∀ x ∈ scope.names, x.2 ≠ .cell) : codeAny (model prog w) A (.call (.ref f) args) R s := by
  have X := X₀.keeps F.keep
  refine codeAny_call_def (fd := fnOf name qual params body scope dV kV doc pm an cdv ct) (body := body) (binds := binds) hroom (X _ _ ho) rfl (T.nolimit.keeps F.keep) (codeRec_of X hcd) rfl hbind hcell hloc (fun h₁ hns hk₁ => ?_) hco hgen hk
  exact wpAny_mono (h s.heap s.heap.objs.size h₁ hp F ⟨hns, hk₁, Nat.le_refl _⟩ News.nil (below1 B F hA hf hke) X (T.keeps F.keep)) (fun fl s' hl => back_K F N hl) fun _ _ y => y

theorem code_1S (B : Below A₀ base [] h₀) (F : Fr h₀ L s.heap m) (X₀ : K.In h₀) (N : News h₀ L s.heap news) (T : Top p loose mean mg mb h₀) (hA : A.frames = some [env]) (hf : env.frame = some L) (hke : env.scope.kind = .function) (hp : pre s.heap)
    (ho : K.lookup f = some ⟨oc, od, .func (fnOf name qual params body scope dV kV doc pm an cdv ct), osl⟩) (hcd : codeIn K cdv qual = true) (hroom : A.depth < recursionLimit)
    (hbind : BindsTo s (fnOf name qual params body scope dV kV doc pm an cdv ct) args binds) (hloc : ∀ y ∈ binds, scope.names.lookup y.1 = some .local)
    (h : ∀ g L' h₁, pre g → Fr h₀ L g m → Fr g L' h₁ (fun y => binds.reverse.lookup y) → News g L' h₁ [] → Below A base [env] g → K.In g → Top p loose mean mg mb g → KtsDicts ([env].filterMap (·.frame)) g →
      wpAny (model prog w) (A.deeper (envOf qual scope L' f cdv)) (execs body (envOf qual scope L' f cdv))
        (fun fl s' => LeaveS0 ([env].filterMap (·.frame)) h₀ L m g (Old news R) (match fl with | .ret v => v | _ => .none) s')
        (fun e s' => wpAny (model prog w) (A.deeper (envOf qual scope L' f cdv)) (leaving (envOf qual scope L' f cdv) e) (fun _ s'' => R (.error e) s'') (fun e' s'' => R (.error e') s'') s')
        { s with heap := h₁, toks := s.toks + binds.length })
    (hco : scope.isCoroutine = false) (hgen : scope.isGenerator = false) (hk : scope.kind = .function)
    (hcell : ∀ x ∈ scope.names, x.2 ≠ .cell) : codeAny (model prog w) A (.call (.ref f) args) R s := by
  have X := X₀.keeps F.keep
  refine codeAny_call_def (fd := fnOf name qual params body scope dV kV doc pm an cdv ct) (body := body) (binds := binds) hroom (X _ _ ho) rfl (T.nolimit.keeps F.keep) (codeRec_of X hcd) rfl hbind hcell hloc (fun h₁ hns hk₁ => ?_) hco hgen hk
  exact wpAny_mono (h s.heap s.heap.objs.size h₁ hp F ⟨hns, hk₁, Nat.le_refl _⟩ News.nil (below1 B F hA hf hke) X (T.keeps F.keep) (dicts1 F hf)) (fun fl s' hl => back_S F N hf hl) fun _ _ y => y

theorem code_1C (B : Below A₀ base [] h₀) (F : Fr h₀ L s.heap m) (X₀ : K.In h₀) (N : News h₀ L s.heap news) (T : Top p loose mean mg mb h₀) (hA : A.frames = some [env]) (hf : env.frame = some L) (hke : env.scope.kind = .function) (hp : pre s.heap)
    (ho : K.lookup f = some ⟨oc, od, .func (fnOf name qual params body scope dV kV doc pm an cdv ct), osl⟩) (hcd : codeIn K cdv qual = true) (hroom : A.depth < recursionLimit)
    (hbind : BindsTo s (fnOf name qual params body scope dV kV doc pm an cdv ct) args binds) (hkind : (binds.all fun y => scope.names.lookup y.1 == some .local || scope.names.lookup y.1 == some .cell) = true)
    (hnd : ((cellsFrom 0 scope.names []).map (·.1)).Nodup)
    (h : ∀ g L' h₁ tk cells, pre g → Fr h₀ L g m → Fr g L' h₁ (bindL (envOfC qual scope L' f cdv).kindOf binds fun _ => none) → News g L' h₁ cells →
      CellsAre (bindC (envOfC qual scope L' f cdv).kindOf binds fun _ => none) (cellsFrom (L' + 1) scope.names []) cells → Below A base [env] g → K.In g → Top p loose mean mg mb g → KtsDicts ([env].filterMap (·.frame)) g →
      wpAny (model prog w) (A.deeper (envOfC qual scope L' f cdv)) (execs body (envOfC qual scope L' f cdv))
        (fun fl s' => LeaveS0 ([env].filterMap (·.frame)) h₀ L m g (Old news R) (match fl with | .ret v => v | _ => .none) s')
        (fun e s' => wpAny (model prog w) (A.deeper (envOfC qual scope L' f cdv)) (leaving (envOfC qual scope L' f cdv) e) (fun _ s'' => R (.error e) s'') (fun e' s'' => R (.error e') s'') s')
        { s with heap := h₁, toks := tk })
    (hco : scope.isCoroutine = false) (hgen : scope.isGenerator = false) (hk : scope.kind = .function) : codeAny (model prog w) A (.call (.ref f) args) R s := by
  have X := X₀.keeps F.keep
  refine codeAny_call_function hroom (X _ _ ho) rfl hco hgen rfl (codeRec_of X hcd) (hbind _ _ _ _ ?_)
  refine wpAny_newFunctionEnv_cells hk (kindsX hkind _) fun env' he s' x => ?_
  subst he
  refine ⟨(T.nolimit.keeps F.keep).keeps x.toInCall.keep, codeAny_func ?_⟩
  obtain ⟨h₁, tk, rfl, _⟩ := x.done
  obtain ⟨cells, NC, Y⟩ := Cl.news (h₀ := s.heap) (Nat.le_refl _) fun n c hm => ⟨x.cell n c (lookup_of_mem_nodup (cellsFrom_names scope.names 0 (s.heap.objs.size + 1) [] [] rfl ▸ hnd) hm), x.above n c hm⟩
  exact wpAny_mono (h s.heap s.heap.objs.size h₁ tk cells hp F ⟨x.toInCall.ns, x.toInCall.keep, Nat.le_refl _⟩ NC Y (below1 B F hA hf hke) X (T.keeps F.keep) (dicts1 F hf)) (fun fl s' hl => back_S F N hf hl) fun _ _ y => y
end

def Tell (w : World) (mean : ExcName → Option Value) (mg mb : Str → Option Value) (f : Addr) (vs : List Value) (kw : List (Str × Value)) (pre : Heap → Prop) (P : Value → List (Addr × Obj) → Prop) : Prop :=
  ∀ (dp un : Nat) (gd : Option (List Code)) (cn : Str) (cs : Scope) (a : Addr) (ccd : Value) (cl : List (Str × Addr)) (outer : List Env) (A₀ : Around) (base h₀ : Heap) (L : Addr) (m : Str → Option Value) (news : List (Addr × Obj)) (s : Shared) (Q E : Value → Shared → Prop),
    (hd.heap_1 w.params).In h₀ → Below A₀ base outer h₀ → Fr h₀ L s.heap m → News h₀ L s.heap news → Top hd.view_39 (looseW hd.view_39 [Str.ofString "quantiles"]) mean mg mb h₀ → cs.kind = .function →
    dp + 5 < recursionLimit → un + 40 < cLine → pre s.heap →
    (∀ (r : Value) (tl : List (Addr × Obj)) (h' : Heap) (tk' : Nat), Fr h₀ L h' m → News h₀ L h' (tl ++ news) → P r tl → Q r { s with heap := h', toks := tk' }) →
    wpAny (model PySem.Challenge.rw_rw0045_01.row.prog w) (ktrTop dp un gd cn cs L a ccd cl outer) (call (.ref f) vs kw) Q E s
def Tell0 (w : World) (mean : ExcName → Option Value) (mg mb : Str → Option Value) (f : Addr) (vs : List Value) (pre : Heap → Prop) (P : Value → List (Addr × Obj) → Prop) : Prop :=
  ∀ (dp un : Nat) (gd : Option (List Code)) (cn : Str) (cs : Scope) (a : Addr) (ccd : Value) (cl : List (Str × Addr)) (A₀ : Around) (h₀ : Heap) (L : Addr) (m : Str → Option Value) (news : List (Addr × Obj)) (s : Shared) (Q E : Value → Shared → Prop),
    (hd.heap_1 w.params).In h₀ → Below A₀ h₀ [] h₀ → Fr h₀ L s.heap m → News h₀ L s.heap news → Top hd.view_39 (looseW hd.view_39 [Str.ofString "quantiles"]) mean mg mb h₀ → cs.kind = .function →
    dp + 10 < recursionLimit → un + 80 < cLine → pre s.heap →
    (∀ (r : Value) (tl : List (Addr × Obj)) (h' : Heap) (tk' : Nat), Fr h₀ L h' m → News h₀ L h' (tl ++ news) → P r tl → Q r { s with heap := h', toks := tk' }) →
    wpAny (model PySem.Challenge.rw_rw0045_01.row.prog w) (ktrTop dp un gd cn cs L a ccd cl []) (call (.ref f) vs) Q E s
theorem news_both {h₀ h : Heap} {L : Addr} {tl news : List (Addr × Obj)} {s₀ : Heap} (N : News h₀ L h tl) (N₀ : News h₀ L s₀ news) (hk : ∀ p ∈ news, h.get? p.1 = some p.2) : News h₀ L h (tl ++ news) :=
  fun p hp => (List.mem_append.mp hp).elim (N p) fun q => ⟨hk p q, (N₀ p q).2⟩
end Mine
end

section
open PySem PySem.W PyProof.Rows PySem.Calls PySem.Spec
set_option Elab.async false
namespace Mine
set_option maxRecDepth 100000
set_option maxHeartbeats 8000000

def kn : List (Str × Value) → (Str → Option Value) → Str → Option Value
  | [], m => m
  | (k, v) :: r, m => fun y => if y = k then some v else kn r m y
def Knows (m : Str → Option Value) : List (Str × Value) → Prop
  | [] => True
  | (k, v) :: r => m k = some v ∧ Knows m r
theorem kn_eq {m : Str → Option Value} : ∀ {ps : List (Str × Value)}, Knows m ps → kn ps m = m
  | [], _ => rfl
  | (k, v) :: r, h => by
    show (fun y => if y = k then some v else kn r m y) = m
    rw [kn_eq h.2]
    funext y
    by_cases e : y = k
    · rw [if_pos e, e, h.1]
    · rw [if_neg e]
theorem fr_kn {h₀ h : Heap} {L : Addr} {m : Str → Option Value} {ps : List (Str × Value)} (F : Fr h₀ L h m) (K : Knows m ps) : Fr h₀ L h (kn ps m) := by rw [kn_eq K]; exact F
theorem fr_kn1 {h₀ h : Heap} {L : Addr} {m : Str → Option Value} {ps : List (Str × Value)} {x : Str} {v : Value} (F : Fr h₀ L h (fun y => if y = x then some v else m y)) (K : Knows m ps) : Fr h₀ L h (kn ((x, v) :: ps) m) := by
  show Fr h₀ L h (fun y => if y = x then some v else kn ps m y)
  rw [kn_eq K]; exact F

section
variable {prog : Program} {w : World} {A : Around} {E : Value → Shared → Prop} {s : Shared} {env : Env} {h₀ : Heap} {x : Str} {body : List Stmt} {Q : Flow → Shared → Prop}
theorem stopIter {v : Value} {Q : Value → Shared → Prop} (h : Stop (wpAny (model prog w) A (pyIter v) Q E s)) : wpAny (model prog w) A (pyIter v) Q E s := h
theorem unr_mono {L I : Addr} {it : Obj} {r r' : (Str → Option Value) → List (Addr × Obj) → Prop} {s₁ : Shared} (h : ∀ m n, r m n → r' m n) {f : Flow} {s₂ : Shared} (p : UnrPost h₀ L s₁ I it r Q f s₂) : UnrPost h₀ L s₁ I it r' Q f s₂ := by
  cases f with
  | ret v => exact p
  | brk => exact p
  | next => obtain ⟨h', tk, m', n', e, F, N, off, q⟩ := p; exact ⟨h', tk, m', n', e, F, N, off, h _ _ q⟩
  | cont => obtain ⟨h', tk, m', n', e, F, N, off, q⟩ := p; exact ⟨h', tk, m', n', e, F, N, off, h _ _ q⟩

theorem range_by {I : Addr} {a : Int} {n : Nat} (Inv : Nat → (Str → Option Value) → List (Addr × Obj) → Prop)
    (turn : ∀ i m news t h tk, i < n → Inv i m news → Fr h₀ env.locals h (fun y => if y = x then some (.int (a + (i : Int)) t) else m y) → News h₀ env.locals h ((I, itR (a + ((i + 1 : Nat) : Int)) ((n : Int) - ((i + 1 : Nat) : Int))) :: news) →
      wpAny (model prog w) A (execs body env) (UnrPost h₀ env.locals { s with heap := h, toks := tk } I (itR (a + ((i + 1 : Nat) : Int)) ((n : Int) - ((i + 1 : Nat) : Int))) (Inv (i + 1)) Q) E { s with heap := h, toks := tk })
    (done : ∀ m news h tk, Inv n m news → Fr h₀ env.locals h m → News h₀ env.locals h news → Q .next { s with heap := h, toks := tk }) :
    ∀ k i m news, i + k = n → Inv i m news → RangeRest prog w A E h₀ env x body Q s I a n k i m news
  | 0, i, m, news, e, v => by
    obtain rfl : i = n := by omega
    exact RangeRest.zero fun h tk F N => done _ _ _ _ v F N
  | k + 1, i, m, news, e, v => RangeRest.succ fun t h tk F N => wpAny_mono (turn i m news t h tk (by omega) v F N)
      (fun _ _ p => unr_mono (fun m' n' q => range_by Inv turn done k (i + 1) m' n' (by omega) q) p) fun _ _ x => x

theorem list_by {I : Addr} {lp : Addr × Obj} {vs : List Value} (Inv : List Value → (Str → Option Value) → List (Addr × Obj) → Prop)
    (turn : ∀ v r m news (it : Obj) h tk, Inv (v :: r) m news → it.cls = .type "list_iterator" → Fr h₀ env.locals h (fun y => if y = x then some v else m y) → News h₀ env.locals h ((I, it) :: news) →
      wpAny (model prog w) A (execs body env) (UnrPost h₀ env.locals { s with heap := h, toks := tk } I it (fun m' n' => lp ∈ n' ∧ Inv r m' n') Q) E { s with heap := h, toks := tk })
    (done : ∀ m news h tk, Inv [] m news → Fr h₀ env.locals h m → News h₀ env.locals h news → Q .next { s with heap := h, toks := tk }) :
    ∀ vs m news, Inv vs m news → ListRest prog w A E h₀ env x body Q s I lp vs m news
  | [], m, news, v => ListRest.zero fun h tk F N => done _ _ _ _ v F N
  | v :: r, m, news, i => ListRest.succ fun it h tk hc F N => wpAny_mono (turn v r m news it h tk i hc F N)
      (fun _ _ p => unr_mono (fun m' n' q => ⟨q.1, list_by (vs := vs) Inv turn done r m' n' q.2⟩) p) fun _ _ x => x
end

inductive FloatsAre : List Value → List UInt64 → Prop where
  | nil : FloatsAre [] []
  | cons (f : UInt64) (t : Tok) (ht : t ≠ 0) {vs : List Value} {fs : List UInt64} : FloatsAre vs fs → FloatsAre (.float f t :: vs) (f :: fs)
theorem FloatsAre.length : ∀ {vs : List Value} {fs : List UInt64}, FloatsAre vs fs → vs.length = fs.length
  | _, _, .nil => rfl
  | _, _, .cons _ _ _ h => congrArg (· + 1) h.length
theorem FloatsAre.push : ∀ {vs : List Value} {fs : List UInt64} {f : UInt64} {t : Tok}, FloatsAre vs fs → t ≠ 0 → FloatsAre (vs ++ [.float f t]) (fs ++ [f])
  | _, _, f, t, .nil, ht => .cons f t ht .nil
  | _, _, _, _, .cons g u hu h, ht => .cons g u hu (h.push ht)

def qj (ld n i : Int) : Int := if (i * (ld + 1)).fdiv n < 1 then 1 else if (i * (ld + 1)).fdiv n > ld - 1 then ld - 1 else (i * (ld + 1)).fdiv n
def qn (l : List Int) (n i : Int) : Int :=
  let j := qj l.length n i
  let d := i * ((l.length : Int) + 1) - j * n
  l.getD (j - 1).toNat 0 * (n - d) + l.getD j.toNat 0 * d
def frac (p q : Int) : UInt64 := Float64.ofFrac (decide (p < 0) != decide (q < 0)) p.natAbs q.natAbs
end Mine
end

section
open PySem PySem.W PyProof.Rows PySem.Calls PySem.Spec
set_option Elab.async false
namespace Mine
set_option maxRecDepth 100000
set_option maxHeartbeats 8000000
variable {w : World} {mean : ExcName → Option Value} {mg mb : Str → Option Value}
theorem half_at {n' ns : List Int} (h : n'.length = ns.length) (h0 : 0 < ns.length) : n'[ns.length / 2]? = some (n'.getD ((n'.length : Int).fdiv 2).toNat 0) := by
  have e : ((n'.length : Int).fdiv 2).toNat = ns.length / 2 := by
    rw [Int.fdiv_eq_ediv_of_nonneg _ (by decide)]; omega
  rw [e, List.getD_eq_getElem?_getD, List.getElem?_eq_getElem (by omega)]; rfl
theorem below_at {n' ns : List Int} (h : n'.length = ns.length) (h0 : 1 < ns.length) : n'[ns.length / 2 - 1]? = some (n'.getD ((n'.length : Int).fdiv 2 - 1).toNat 0) := by
  have e : ((n'.length : Int).fdiv 2 - 1).toNat = ns.length / 2 - 1 := by
    rw [Int.fdiv_eq_ediv_of_nonneg _ (by decide)]; omega
  rw [e, List.getD_eq_getElem?_getD, List.getElem?_eq_getElem (by omega)]; rfl
theorem mhigh {l : Addr} {vs : List Value} {ns : List Int} (hi : IntsAre vs ns) (hne : 0 < ns.length) (hlen : ns.length < 64) :
    Tell w mean mg mb 92 [.ref l] [] (fun h => h.IsList l vs.toArray) (fun r tl => tl = [] ∧ ∃ (k : Int) (t : Tok) (ns' : List Int), r = .int k t ∧ ns'.Perm ns ∧ ns'.Pairwise (· ≤ ·) ∧ ns'[ns.length / 2]? = some k) := by
  unfold Tell
  intro dp un gd cn cs a ccd cl outer A₀ base h₀ L m news s Q E X B F N T hk hd hu hp hret
  refine wpAny_call ?_
  k_dflt (refine' code_1K (A := ktrTop dp un gd cn cs L a ccd cl outer) (pre := fun h => h.IsList l vs.toArray) ?k1 ?k2 ?k3 ?k4 ?k5 ?kA ?kF ?kK ?kp ?k6 ?k7 ?k8 ?k9 ?kB ?_ ?c2 ?c3 ?c4 ?c5; (case kA => exact rfl); (case kF => exact rfl); (case kK => assumption); (case k1 => k_asm); (case k2 => k_asm); (case k3 => k_asm); (case k4 => k_asm); (case k5 => k_asm); (case kp => exact hp); (case k6 => k_is); (case k7 => k_is); (case k8 => ktr_room); (case k9 => first | exact BindsTo.of_eq rfl | exact kp_binds (by k_in) (fun _ => rfl)); (case c5 => decide); (case kB => exact locs rfl); (case c2 => exact rfl); (case c3 => exact rfl); (case c4 => exact rfl); k_whole; intro g' L' h' hp' FG' F' N' B' X' T'; (try dsimp only); (try k_fold))
  k_steps
  · exfalso; omega
  · intro hN
    exact hret _ [] _ _ (by k_asm) (news_both News.nil N hN) ⟨rfl, _, _, _, rfl, by assumption, by assumption, half_at (by omega) hne⟩
theorem mlow {l : Addr} {vs : List Value} {ns : List Int} (hi : IntsAre vs ns) (hne : 0 < ns.length) (hlen : ns.length < 64) :
    Tell w mean mg mb 85 [.ref l] [] (fun h => h.IsList l vs.toArray) (fun r tl => tl = [] ∧ ∃ (k : Int) (t : Tok) (ns' : List Int), r = .int k t ∧ ns'.Perm ns ∧ ns'.Pairwise (· ≤ ·) ∧ ns'[if ns.length % 2 = 1 then ns.length / 2 else ns.length / 2 - 1]? = some k) := by
  unfold Tell
  intro dp un gd cn cs a ccd cl outer A₀ base h₀ L m news s Q E X B F N T hk hd hu hp hret
  refine wpAny_call ?_
  k_dflt (refine' code_1K (A := ktrTop dp un gd cn cs L a ccd cl outer) (pre := fun h => h.IsList l vs.toArray) ?k1 ?k2 ?k3 ?k4 ?k5 ?kA ?kF ?kK ?kp ?k6 ?k7 ?k8 ?k9 ?kB ?_ ?c2 ?c3 ?c4 ?c5; (case kA => exact rfl); (case kF => exact rfl); (case kK => assumption); (case k1 => k_asm); (case k2 => k_asm); (case k3 => k_asm); (case k4 => k_asm); (case k5 => k_asm); (case kp => exact hp); (case k6 => k_is); (case k7 => k_is); (case k8 => ktr_room); (case k9 => first | exact BindsTo.of_eq rfl | exact kp_binds (by k_in) (fun _ => rfl)); (case c5 => decide); (case kB => exact locs rfl); (case c2 => exact rfl); (case c3 => exact rfl); (case c4 => exact rfl); k_whole; intro g' L' h' hp' FG' F' N' B' X' T'; (try dsimp only); (try k_fold))
  k_steps
  · exfalso; omega
  · intro hN
    exact hret _ [] _ _ (by k_asm) (news_both News.nil N hN) ⟨rfl, _, _, _, rfl, by assumption, by assumption, by
      rw [if_pos (by (simp only [Int.fmod_eq_emod_of_nonneg _ (show (0:Int) ≤ 2 by decide)] at *; omega))]
      exact half_at (by omega) hne⟩
  · intro hN
    exact hret _ [] _ _ (by k_asm) (news_both News.nil N hN) ⟨rfl, _, _, _, rfl, by assumption, by assumption, by
      rw [if_neg (by simp only [Int.fmod_eq_emod_of_nonneg _ (show (0:Int) ≤ 2 by decide)] at *; omega)]
      exact below_at (by omega) (by simp only [Int.fmod_eq_emod_of_nonneg _ (show (0:Int) ≤ 2 by decide)] at *; omega)⟩
local macro_rules | `(tactic| walk_at "pyIter ref") => `(tactic| refine stopIter ?_)
theorem pack_fin {neg : Bool} {mag : Nat} (h : mag < 2047 * 2 ^ 52) : Float64.isInf (Float64.pack neg mag) = false := by
  have hx : ∃ s : Nat, s < 2 ∧ (Float64.pack neg mag).toNat = s * 2 ^ 63 + mag := by
    unfold Float64.pack
    cases neg with
    | true => exact ⟨1, by decide, by rw [Nat.toUInt64_eq, UInt64.toNat_ofNat']; simp only [if_true]; omega⟩
    | false => exact ⟨0, by decide, by rw [Nat.toUInt64_eq, UInt64.toNat_ofNat']; simp only [Bool.false_eq_true, if_false]; omega⟩
  obtain ⟨s, hs, hx⟩ := hx
  have he : ((Float64.pack neg mag).toNat / 2 ^ 52 % 2048 == 2047) = false := by
    rw [beq_eq_false_iff_ne, hx]; omega
  have hd : ∃ a m e, Float64.decode (Float64.pack neg mag) = .fin a m e := by
    simp only [Float64.decode, he, Bool.false_eq_true, if_false]
    split <;> exact ⟨_, _, _, rfl⟩
  obtain ⟨a, m, e, h⟩ := hd
  unfold Float64.isInf
  rw [h]
theorem half_le (n d : Nat) : Float64.halfEven n d ≤ n + 1 := by
  unfold Float64.halfEven
  have := Nat.div_le_self n d
  dsimp only
  split <;> omega
theorem mag_fin {n d : Nat} (hn : n < 4096) (hd : d.log2 ≤ 2) : Float64.roundMag n d < 2047 * 2 ^ 52 := by
  unfold Float64.roundMag
  by_cases h0 : n = 0
  · subst h0; rw [if_pos (by decide)]; decide
  have hl : n.log2 ≤ 11 := Nat.lt_succ_iff.mp ((Nat.log2_lt h0).mpr (by omega))
  have hb : n < 2 ^ (n.log2 + 1) := Nat.lt_log2_self
  rw [if_neg (by simpa using h0)]
  dsimp only
  generalize hL : n.log2 = L at *
  generalize hD : d.log2 = D at *
  generalize Float64.shift n d (-((L : Int) - (D : Int))) = ab
  generalize he : max (if ab.1 ≥ ab.2 then (L : Int) - (D : Int) - 52 else (L : Int) - (D : Int) - 53) (-1074) = e
  have e1 : e ≤ 11 - 52 ∧ (L : Int) - 2 - 53 ≤ e := by split at he <;> omega
  have e2 : Float64.shift n d (-e) = (n * 2 ^ (-e).toNat, d) := by
    unfold Float64.shift; rw [if_pos (by omega)]
  rw [e2]
  have h1 := half_le (n * 2 ^ (-e).toNat) d
  have h2 : n * 2 ^ (-e).toNat ≤ 2 ^ 56 := by
    calc n * 2 ^ (-e).toNat ≤ 2 ^ (L + 1) * 2 ^ (55 - L) := Nat.mul_le_mul (by omega) (Nat.pow_le_pow_right (by decide) (by omega))
      _ = 2 ^ 56 := by rw [← Nat.pow_add]; congr 1; omega
  have h3 : (e + 1074).toNat * 2 ^ 52 ≤ 1033 * 2 ^ 52 := Nat.mul_le_mul_right _ (by omega)
  refine Nat.lt_of_le_of_lt (Nat.min_le_right _ _) ?_
  dsimp only
  omega
theorem not_inf {neg : Bool} {n d : Nat} (hn : n < 4096) (hd : d.log2 ≤ 2) : Float64.isInf (Float64.ofFrac neg n d) = false := by
  unfold Float64.ofFrac
  exact pack_fin (mag_fin hn hd)
theorem fin6 (n : Fin 2401) : Float64.isInf (Float64.ofFrac false n.val 6) = false ∧ Float64.isInf (Float64.ofFrac true n.val 6) = false := ⟨not_inf (by omega) (by decide), not_inf (by omega) (by decide)⟩
theorem fin2 (n : Fin 2401) : Float64.isInf (Float64.ofFrac false n.val 2) = false ∧ Float64.isInf (Float64.ofFrac true n.val 2) = false := ⟨not_inf (by omega) (by decide), not_inf (by omega) (by decide)⟩
theorem abs_prod {a b : Int} (ha : 0 ≤ a ∧ a ≤ 100) (hb : -12 ≤ b ∧ b ≤ 12) : (a * b).natAbs ≤ 1200 := by
  rw [Int.natAbs_mul]
  exact Nat.mul_le_mul (show a.natAbs ≤ 100 by omega) (show b.natAbs ≤ 12 by omega)
theorem not_inf6 {a b c d : Int} (ha : 0 ≤ a ∧ a ≤ 100) (hb : -12 ≤ b ∧ b ≤ 12) (hc : 0 ≤ c ∧ c ≤ 100) (hd : -12 ≤ d ∧ d ≤ 12)
    (h : Float64.isInf (Float64.ofFrac (decide (a * b + c * d < 0) != decide ((6 : Int) < 0)) (a * b + c * d).natAbs (6 : Int).natAbs) = true) : False := by
  have h1 := abs_prod ha hb
  have h2 := abs_prod hc hd
  have h3 := fin6 ⟨(a * b + c * d).natAbs, by omega⟩
  have e : (decide ((6 : Int) < 0)) = false := rfl
  rw [e, show (6 : Int).natAbs = 6 from rfl] at h
  cases hq : decide (a * b + c * d < 0) with
  | true => rw [hq] at h; exact absurd h (by rw [show (true != false) = true from rfl, h3.2]; exact Bool.false_ne_true)
  | false => rw [hq] at h; exact absurd h (by rw [show (false != false) = false from rfl, h3.1]; exact Bool.false_ne_true)
theorem push_q {ws : List Value} {fs : Nat → UInt64} {i : Nat} {f : UInt64} {u : Tok} (h : FloatsAre ws ((List.range i).map fs)) (hu : u ≠ 0) (e : f = fs i) : FloatsAre (ws.toArray.push (.float f u)).toList ((List.range (i + 1)).map fs) := by
  rw [List.range_succ, List.map_append, e]
  simp only [Array.toList_push]
  exact h.push hu
theorem small_prod {i n : Nat} (hi : i < 5) (hn : n < 40) : 0 ≤ (1 + (i : Int)) * ((n : Int) + 1) ∧ (1 + (i : Int)) * ((n : Int) + 1) ≤ 200 ∧ (1 + (i : Int)) * ((n : Int) + 1) ≤ 5 * ((n : Int) + 1) := by
  have h1 : (1 + (i : Int)) ≤ 5 := by omega
  have h2 : ((n : Int) + 1) ≤ 40 := by omega
  exact ⟨Int.mul_nonneg (by omega) (by omega), Int.le_trans (Int.mul_le_mul h1 h2 (by omega) (by decide)) (by decide), Int.mul_le_mul_of_nonneg_right h1 (by omega)⟩
theorem fdiv6 (p : Int) : 6 * p.fdiv 6 ≤ p ∧ p < 6 * p.fdiv 6 + 6 := by
  rw [Int.fdiv_eq_ediv_of_nonneg _ (by decide)]; omega
theorem not_inf2 {a b c d : Int} (ha : 0 ≤ a ∧ a ≤ 100) (hb : -12 ≤ b ∧ b ≤ 12) (hc : 0 ≤ c ∧ c ≤ 100) (hd : -12 ≤ d ∧ d ≤ 12)
    (h : Float64.isInf (Float64.ofFrac (decide (a * b + c * d < 0) != decide ((2 : Int) < 0)) (a * b + c * d).natAbs (2 : Int).natAbs) = true) : False := by
  have h1 := abs_prod ha hb
  have h2 := abs_prod hc hd
  have h3 := fin2 ⟨(a * b + c * d).natAbs, by omega⟩
  have e : (decide ((2 : Int) < 0)) = false := rfl
  rw [e, show (2 : Int).natAbs = 2 from rfl] at h
  cases hq : decide (a * b + c * d < 0) with
  | true => rw [hq] at h; exact absurd h (by rw [show (true != false) = true from rfl, h3.2]; exact Bool.false_ne_true)
  | false => rw [hq] at h; exact absurd h (by rw [show (false != false) = false from rfl, h3.1]; exact Bool.false_ne_true)
theorem fdiv2 (p : Int) : 2 * p.fdiv 2 ≤ p ∧ p < 2 * p.fdiv 2 + 2 := by
  rw [Int.fdiv_eq_ediv_of_nonneg _ (by decide)]; omega
theorem quant {l : Addr} {vs : List Value} {ns : List Int} {t : Tok} (hi : IntsAre vs ns) (h2 : 2 ≤ ns.length) (h40 : ns.length < 40) (hb : ∀ x ∈ ns, 0 ≤ x ∧ x ≤ 100) :
    Tell w mean mg mb 100 [.ref l] [(Str.ofString "n", .int 6 t)] (fun h => h.IsList l vs.toArray) (fun r tl => ∃ R ws c ns', r = .ref R ∧ tl = [(R, W.listOf ws.toArray c)] ∧ FloatsAre ws ((List.range 5).map fun (k : Nat) => frac (qn ns' 6 (1 + (k : Int))) 6) ∧ ns'.Perm ns ∧ List.Pairwise (· ≤ ·) ns') := by
  unfold Tell
  intro dp un gd cn cs a ccd cl outer A₀ base h₀ L m news s Q E X B F N T hk hd hu hp hret
  refine wpAny_call ?_
  k_dflt (refine' code_1K (A := ktrTop dp un gd cn cs L a ccd cl outer) (pre := fun h => h.IsList l vs.toArray) ?k1 ?k2 ?k3 ?k4 ?k5 ?kA ?kF ?kK ?kp ?k6 ?k7 ?k8 ?k9 ?kB ?_ ?c2 ?c3 ?c4 ?c5; (case kA => exact rfl); (case kF => exact rfl); (case kK => assumption); (case k1 => k_asm); (case k2 => k_asm); (case k3 => k_asm); (case k4 => k_asm); (case k5 => k_asm); (case kp => exact hp); (case k6 => k_is); (case k7 => k_is); (case k8 => ktr_room); (case k9 => first | exact BindsTo.of_eq rfl | exact kp_binds (by k_in) (fun _ => rfl)); (case c5 => decide); (case kB => exact locs rfl); (case c2 => exact rfl); (case c3 => exact rfl); (case c4 => exact rfl); k_whole; intro g' L' h' hp' FG' F' N' B' X' T'; (try dsimp only); (try k_fold))
  k_steps
  show wpAny _ _ _ _ _ _
  rename_i D v n' c hA iH eH pH oH bH p0 l1 s1 z1 z2 z3 z4 z5 z6 z7 z8 R h4 l2 h5 F5 N5 h6 tk t₁ u₁ v₁ isR F6 N6 keep6
  have hb' : ∀ k : Nat, 0 ≤ n'.getD k 0 ∧ n'.getD k 0 ≤ 100 := by
    intro k
    rw [List.getD_eq_getElem?_getD]
    cases hk : n'[k]? with
    | none => exact ⟨by decide, by decide⟩
    | some x => exact hb x (pH.mem_iff.mp (List.mem_of_getElem? hk))
  refine iter_rangeUnr (n := 5) rfl isR (by decide) (by decide) F6 N6 (fun I hI => range_by (fun i m nx => Stop (∃ ta tb vs c2, Knows m [(Str.ofString "result", .ref R), (Str.ofString "m", .int ((n'.length : Int) + 1) ta), (Str.ofString "ld", .int (n'.length : Int) tb), (Str.ofString "data", .ref D), (Str.ofString "n", .int 6 t)] ∧ nx = [(R, W.listOf vs.toArray c2), (D, W.listOf v.toArray c)] ∧
    FloatsAre vs ((List.range i).map fun (k : Nat) => frac (qn n' 6 (1 + (k : Int))) 6))) ?turn ?done 5 0 _ _ rfl ?start)
  case start => exact ⟨_, _, [], 0, ⟨rfl, rfl, rfl, rfl, rfl, trivial⟩, rfl, .nil⟩
  case turn =>
    rintro i m nx ti h tk' hi5 ⟨ta, tb, ws, c2, hkn, rfl, hfl⟩ F9 N9
    replace F9 := fr_kn1 F9 hkn
    dsimp only [kn] at F9
    clear F5 F6 N5 N6 isR keep6
    have hI2 := ltN (hI _ (.head _))
    have hI3 := ltN (hI _ (.tail _ (.head _)))
    have hws := hfl.length
    rw [List.length_map, List.length_range] at hws
    have hP := small_prod (i := i) (n := n'.length) (by omega) (by omega)
    have hJ := fdiv6 ((1 + (i : Int)) * ((n'.length : Int) + 1))
    have hb1 := hb' (1 - 1 : Int).toNat
    have hb2 := hb' (1 : Int).toNat
    have hb3 := hb' ((n'.length : Int) - 1 - 1).toNat
    have hb4 := hb' ((n'.length : Int) - 1).toNat
    have hb5 := hb' (((1 + (i : Int)) * ((n'.length : Int) + 1)).fdiv 6 - 1).toNat
    have hb6 := hb' (((1 + (i : Int)) * ((n'.length : Int) + 1)).fdiv 6).toNat
    k_steps
    all_goals first
      | (exfalso; (with_reducible rename Float64.isInf _ = true => hinf); exact not_inf6 (hb' _) ⟨by omega, by omega⟩ (hb' _) ⟨by omega, by omega⟩ hinf)
      | (refine ⟨ta, tb, _, _, ⟨rfl, rfl, rfl, rfl, rfl, trivial⟩, rfl, push_q hfl (Nat.succ_ne_zero _) ?_⟩; show frac _ 6 = frac _ 6; congr 1; unfold qn qj; first | rw [if_pos (by first | assumption | omega)] | rw [if_neg (by first | assumption | omega), if_pos (by first | assumption | omega)] | rw [if_neg (by first | assumption | omega), if_neg (by first | assumption | omega)])
      | skip
  case done =>
    rintro m' nx h tk' ⟨ta, tb, ws, c2, hkn, rfl, hfl⟩ F9 N9
    replace F9 := fr_kn F9 hkn
    dsimp only [kn] at F9
    clear F5 F6 N5 N6 isR keep6
    dsimp only
    k_steps
    intro hN
    exact hret _ [_] _ _ (by k_asm) (news_both (fun p hp => (by k_asm : News h₀ L _ [(R, W.listOf ws.toArray c2), (D, W.listOf v.toArray c)]) p (by rcases List.mem_singleton.mp hp with rfl; exact .head _)) N hN) ⟨R, ws, c2, n', rfl, rfl, hfl, pH, oH⟩
theorem quant2 {l : Addr} {vs : List Value} {ns : List Int} {t : Tok} (hi : IntsAre vs ns) (h2 : 2 ≤ ns.length) (h40 : ns.length < 40) (hb : ∀ x ∈ ns, 0 ≤ x ∧ x ≤ 100) :
    Tell w mean mg mb 100 [.ref l] [(Str.ofString "n", .int 2 t)] (fun h => h.IsList l vs.toArray) (fun r tl => ∃ R ws c ns', r = .ref R ∧ tl = [(R, W.listOf ws.toArray c)] ∧ FloatsAre ws ((List.range 1).map fun (k : Nat) => frac (qn ns' 2 (1 + (k : Int))) 2) ∧ ns'.Perm ns ∧ List.Pairwise (· ≤ ·) ns') := by
  unfold Tell
  intro dp un gd cn cs a ccd cl outer A₀ base h₀ L m news s Q E X B F N T hk hd hu hp hret
  refine wpAny_call ?_
  k_dflt (refine' code_1K (A := ktrTop dp un gd cn cs L a ccd cl outer) (pre := fun h => h.IsList l vs.toArray) ?k1 ?k2 ?k3 ?k4 ?k5 ?kA ?kF ?kK ?kp ?k6 ?k7 ?k8 ?k9 ?kB ?_ ?c2 ?c3 ?c4 ?c5; (case kA => exact rfl); (case kF => exact rfl); (case kK => assumption); (case k1 => k_asm); (case k2 => k_asm); (case k3 => k_asm); (case k4 => k_asm); (case k5 => k_asm); (case kp => exact hp); (case k6 => k_is); (case k7 => k_is); (case k8 => ktr_room); (case k9 => first | exact BindsTo.of_eq rfl | exact kp_binds (by k_in) (fun _ => rfl)); (case c5 => decide); (case kB => exact locs rfl); (case c2 => exact rfl); (case c3 => exact rfl); (case c4 => exact rfl); k_whole; intro g' L' h' hp' FG' F' N' B' X' T'; (try dsimp only); (try k_fold))
  k_steps
  show wpAny _ _ _ _ _ _
  rename_i D v n' c hA iH eH pH oH bH p0 l1 s1 z1 z2 z3 z4 z5 z6 z7 z8 R h4 l2 h5 F5 N5 h6 tk t₁ u₁ v₁ isR F6 N6 keep6
  have hb' : ∀ k : Nat, 0 ≤ n'.getD k 0 ∧ n'.getD k 0 ≤ 100 := by
    intro k
    rw [List.getD_eq_getElem?_getD]
    cases hk : n'[k]? with
    | none => exact ⟨by decide, by decide⟩
    | some x => exact hb x (pH.mem_iff.mp (List.mem_of_getElem? hk))
  refine iter_rangeUnr (n := 1) rfl isR (by decide) (by decide) F6 N6 (fun I hI => range_by (fun i m nx => Stop (∃ ta tb vs c2, Knows m [(Str.ofString "result", .ref R), (Str.ofString "m", .int ((n'.length : Int) + 1) ta), (Str.ofString "ld", .int (n'.length : Int) tb), (Str.ofString "data", .ref D), (Str.ofString "n", .int 2 t)] ∧ nx = [(R, W.listOf vs.toArray c2), (D, W.listOf v.toArray c)] ∧
    FloatsAre vs ((List.range i).map fun (k : Nat) => frac (qn n' 2 (1 + (k : Int))) 2))) ?turn ?done 1 0 _ _ rfl ?start)
  case start => exact ⟨_, _, [], 0, ⟨rfl, rfl, rfl, rfl, rfl, trivial⟩, rfl, .nil⟩
  case turn =>
    rintro i m nx ti h tk' hi5 ⟨ta, tb, ws, c2, hkn, rfl, hfl⟩ F9 N9
    replace F9 := fr_kn1 F9 hkn
    dsimp only [kn] at F9
    clear F5 F6 N5 N6 isR keep6
    obtain rfl : i = 0 := by omega
    have hI2 := ltN (hI _ (.head _))
    have hI3 := ltN (hI _ (.tail _ (.head _)))
    have hws := hfl.length
    rw [List.length_map, List.length_range] at hws
    have hP := small_prod (i := 0) (n := n'.length) (by omega) (by omega)
    have hJ := fdiv2 ((1 + ((0 : Nat) : Int)) * ((n'.length : Int) + 1))
    have hb1 := hb' (1 - 1 : Int).toNat
    have hb2 := hb' (1 : Int).toNat
    have hb3 := hb' ((n'.length : Int) - 1 - 1).toNat
    have hb4 := hb' ((n'.length : Int) - 1).toNat
    have hb5 := hb' (((1 + ((0 : Nat) : Int)) * ((n'.length : Int) + 1)).fdiv 2 - 1).toNat
    have hb6 := hb' (((1 + ((0 : Nat) : Int)) * ((n'.length : Int) + 1)).fdiv 2).toNat
    k_steps
    all_goals first
      | (exfalso; (with_reducible rename Float64.isInf _ = true => hinf); exact not_inf2 (hb' _) ⟨by omega, by omega⟩ (hb' _) ⟨by omega, by omega⟩ hinf)
      | (refine ⟨ta, tb, _, _, ⟨rfl, rfl, rfl, rfl, rfl, trivial⟩, rfl, push_q hfl (Nat.succ_ne_zero _) ?_⟩; show frac _ 2 = frac _ 2; congr 1; unfold qn qj; first | rw [if_pos (by first | assumption | omega)] | rw [if_neg (by first | assumption | omega), if_pos (by first | assumption | omega)] | rw [if_neg (by first | assumption | omega), if_neg (by first | assumption | omega)])
      | skip
  case done =>
    rintro m' nx h tk' ⟨ta, tb, ws, c2, hkn, rfl, hfl⟩ F9 N9
    replace F9 := fr_kn F9 hkn
    dsimp only [kn] at F9
    clear F5 F6 N5 N6 isR keep6
    dsimp only
    k_steps
    intro hN
    exact hret _ [_] _ _ (by k_asm) (news_both (fun p hp => (by k_asm : News h₀ L _ [(R, W.listOf ws.toArray c2), (D, W.listOf v.toArray c)]) p (by rcases List.mem_singleton.mp hp with rfl; exact .head _)) N hN) ⟨R, ws, c2, n', rfl, rfl, hfl, pH, oH⟩

theorem tell_use {w : World} {mean : ExcName → Option Value} {mg mb : Str → Option Value} {f : Addr} {vs : List Value} {kw : List (Str × Value)} {pre : Heap → Prop} {P : Value → List (Addr × Obj) → Prop}
    {dp un : Nat} {gd : Option (List Code)} {cn : Str} {cs : Scope} {a : Addr} {ccd : Value} {cl : List (Str × Addr)} {outer : List Env} {A₀ : Around} {base h₀ : Heap} {L : Addr} {m : Str → Option Value} {news : List (Addr × Obj)} {s : Shared} {Q E : Value → Shared → Prop}
    (W : Tell w mean mg mb f vs kw pre P) (B : Below A₀ base outer h₀) (F : Fr h₀ L s.heap m) (X : (hd.heap_1 w.params).In h₀) (N : News h₀ L s.heap news) (T : Top hd.view_39 (looseW hd.view_39 [Str.ofString "quantiles"]) mean mg mb h₀) (hk : cs.kind = .function)
    (hd : dp + 5 < recursionLimit) (hu : un + 40 < cLine) (hp : pre s.heap)
    (ret : ∀ (r : Value) (tl : List (Addr × Obj)) (h' : Heap) (tk' : Nat), Fr h₀ L h' m → News h₀ L h' (tl ++ news) → P r tl → Q r { s with heap := h', toks := tk' }) :
    wpAny (model PySem.Challenge.rw_rw0045_01.row.prog w) (ktrTop dp un gd cn cs L a ccd cl outer) (call (.ref f) vs kw) Q E s := W _ _ _ _ _ _ _ _ _ _ _ _ _ _ _ _ _ _ X B F N T hk hd hu hp ret
end Mine
end

section
open PySem PySem.W PyProof.Rows PySem.Calls PySem.Spec
set_option Elab.async false
namespace Mine
set_option maxRecDepth 100000
set_option maxHeartbeats 8000000
variable {w : World} {mean : ExcName → Option Value} {mg mb : Str → Option Value}
def PieceOk (x : Str) : Bool := decide (x.length ≤ 2) && x.cps.toList.all (fun c => decide (32 ≤ c) && decide (c ≤ 126)) && (decide (x.length ≠ 2) || x.cps.toList.head? == some 34)
theorem pick_in {vs : List Value} {P : Value → Prop} {n : Int} (hl : vs.length = 12) (h : ∀ v ∈ vs, P v) : ∃ v, vs[(n.fmod 12).toNat]? = some v ∧ P v := by
  have h1 : (n.fmod 12).toNat < vs.length := by
    rw [Int.fmod_eq_emod_of_nonneg _ (by decide), hl]; omega
  exact ⟨vs[(n.fmod 12).toNat], List.getElem?_eq_getElem h1, h _ (List.getElem_mem h1)⟩
theorem sign_ok (n : Int) : PieceOk ⟨#[(32 + (n.fdiv 12).fmod 95).toNat]⟩ = true := by
  have h : 0 ≤ (n.fdiv 12).fmod 95 ∧ (n.fdiv 12).fmod 95 ≤ 94 := by
    rw [Int.fmod_eq_emod_of_nonneg _ (by decide)]; omega
  unfold PieceOk
  simp only [Str.length, List.size_toArray, List.length_cons, List.length_nil, List.all_cons, List.all_nil, Bool.and_true, Bool.and_eq_true, decide_eq_true_eq, Bool.or_eq_true]
  refine ⟨⟨by decide, by omega, by omega⟩, .inl (by decide)⟩
theorem piece_item {prog : Program} {A : Around} {E : Value → Shared → Prop} {s : Shared} {value slice : PySem.Expr} {l : Addr} {vs : List Value} {n : Int} {u : Tok} {Q : Value → Shared → Prop} (hl : s.heap.IsList l vs.toArray)
    (hs : subscripted slice false (.ref l) (.int (n.fmod 12) u) = operate [.ref l, .int (n.fmod 12) u] (getItem (.ref l) (.int (n.fmod 12) u)))
    (hlen : vs.length = 12) (hall : ∀ v ∈ vs, ∃ x u, v = .str x u ∧ PieceOk x = true) (h : ∀ x u, PieceOk x = true → Q (.str x u) s) : wpAny (model prog w) A (subscriptTail value slice (.ref l) (.int (n.fmod 12) u)) Q E s := by
  have hm : 0 ≤ n.fmod 12 ∧ n.fmod 12 < 12 := by
    rw [Int.fmod_eq_emod_of_nonneg _ (by decide)]; omega
  obtain ⟨v, hv, x, u', rfl, hx⟩ := pick_in (n := n) hlen hall
  exact item_litK hl hm.1 (by omega) hv (h x u' hx) hs
theorem piece {n : Int} {t : Tok} :
    Tell w mean mg mb 107 [.int n t] [] (fun _ => True) (fun r tl => tl = [] ∧ ∃ x u, r = .str x u ∧ PieceOk x = true) := by
  unfold Tell
  intro dp un gd cn cs a ccd cl outer A₀ base h₀ L m news s Q E X B F N T hk hd hu hp hret
  refine wpAny_call ?_
  k_dflt (refine' code_1K (A := ktrTop dp un gd cn cs L a ccd cl outer) (pre := fun _ => True) ?k1 ?k2 ?k3 ?k4 ?k5 ?kA ?kF ?kK ?kp ?k6 ?k7 ?k8 ?k9 ?kB ?_ ?c2 ?c3 ?c4 ?c5; (case kA => exact rfl); (case kF => exact rfl); (case kK => assumption); (case k1 => k_asm); (case k2 => k_asm); (case k3 => k_asm); (case k4 => k_asm); (case k5 => k_asm); (case kp => exact hp); (case k6 => k_is); (case k7 => k_is); (case k8 => ktr_room); (case k9 => first | exact BindsTo.of_eq rfl | exact kp_binds (by k_in) (fun _ => rfl)); (case c5 => decide); (case kB => exact locs rfl); (case c2 => exact rfl); (case c3 => exact rfl); (case c4 => exact rfl); k_whole; intro g' L' h' hp' FG' F' N' B' X' T'; (try dsimp only); (try k_fold))
  k_steps
  (with_reducible rename News _ _ _ [_] => N9)
  refine piece_item (News.isList N9 (List.Mem.head _)) (by with_unfolding_all rfl) rfl ?_ fun x u hx => ?_
  · simp only [List.forall_mem_cons]
    exact ⟨⟨_, _, rfl, by decide +kernel⟩, ⟨_, _, rfl, by decide +kernel⟩, ⟨_, _, rfl, by decide +kernel⟩, ⟨_, _, rfl, by decide +kernel⟩, ⟨_, _, rfl, by decide +kernel⟩, ⟨_, _, rfl, by decide +kernel⟩, ⟨_, _, rfl, by decide +kernel⟩, ⟨_, _, rfl, by decide +kernel⟩, ⟨_, _, rfl, by decide +kernel⟩, ⟨_, _, rfl, by decide +kernel⟩, ⟨_, _, rfl, by decide +kernel⟩, ⟨_, _, rfl, sign_ok n⟩, List.forall_mem_nil _⟩
  k_steps
  intro hN
  exact hret _ [] _ _ (by k_asm) (news_both News.nil N hN) ⟨rfl, x, u, rfl, hx⟩
end Mine
end

section
open PySem PySem.W PyProof.Rows PySem.Calls PySem.Spec PySem.SeqAt
set_option Elab.async false
namespace Mine
set_option maxRecDepth 100000
set_option maxHeartbeats 4000000
theorem ns_none {K : Frag} {h : Heap} {mg : Str → Option Value} {a : Addr} {n : Str} (X : K.In h) (G : h.Ns a mg) (e : nsIn K a n = some none) : mg n = none := by
  obtain ⟨o, es, ep, ho, hd, hk, hf⟩ := G
  unfold nsIn at e
  split at e
  · rename_i c d es' n' sl q
    have z := X _ _ q
    rw [ho] at z
    cases z
    cases hd
    rw [← hf]
    split at e
    · cases e
    · rename_i hq
      unfold nsFind findBy
      rw [← Array.find?_toList, hq]; rfl
  · cases e
def Told (h : Heap) : Prop := ∃ mc, h.Ns cStatics mc ∧ mc sharingNotToldKey = none
theorem told_of {K : Frag} {h : Heap} (X : K.In h) (hl : h.NoLimit) (e : nsIn K cStatics sharingNotToldKey = some none) : Told h := by
  obtain ⟨mc, hn, _⟩ := hl
  exact ⟨mc, hn, ns_none X hn e⟩
section
variable {prog : Program} {w : World} {A : Around} {E : Value → Shared → Prop} {s : Shared}
theorem not_told {t : Tok} {Q : Bool → Shared → Prop} (hs : Told s.heap) (h : Q false s) : wpAny (model prog w) A (sharingNotTold t) Q E s := by
  obtain ⟨mc, hn, hk⟩ := hs
  unfold sharingNotTold
  refine wpAny_bind (wpAny_nsGet hn ?_)
  rw [hk]
  exact wpAny_pure h
theorem eqat_fi {f : UInt64} {k : Int} {t u : Tok} : EqAt A s (.float f t) (.int k u) (Float64.cmpInt f k == some Ordering.eq) := fun prog w E Q h => by
  unfold eqBool
  refine wpAny_holding ?_
  refine wpAny_ite_split (fun hab => absurd (eq_of_beq hab) (by simp)) (fun _ => ?_)
  dsimp only
  exact wpAny_bind (eq_fi (wpAny_truthy_bool h))
theorem eqat_ff {f : UInt64} {t u : Tok} (hs : Told s.heap) (ht : t ≠ 0) (hu : u ≠ 0) (hf : (Float64.cmp f f == some Ordering.eq) = true) : EqAt A s (.float f t) (.float f u) true := fun prog w E Q h => by
  unfold eqBool
  refine wpAny_holding ?_
  refine wpAny_ite_split (fun _ => ?_) (fun _ => ?_)
  · exact wpAny_bind (wpAny_rule (wpAny_pure h))
  · dsimp only
    have fin : wpAny (model prog w) A (do truthOfDropped (← richCompare .Eq (.float f t) (.float f u))) Q E s :=
      wpAny_bind (AutoFloatOps.eq_0 (by rw [hf]; exact wpAny_truthy_bool h))
    refine wpAny_bind ?_
    unfold isSame
    dsimp only
    unfold isSame.created
    have e0 : (t == 0 || u == 0) = false := by simp [ht, hu]
    rw [e0]
    refine wpAny_ite_split (fun q => absurd q Bool.false_ne_true) (fun _ => ?_)
    refine wpAny_ite_split (fun _ => wpAny_pure (wpAny_pure h)) (fun _ => ?_)
    refine wpAny_ite_split (fun _ => wpAny_pure fin) (fun _ => ?_)
    refine wpAny_bind (not_told hs ?_)
    refine wpAny_ite_split (fun q => absurd q Bool.false_ne_true) (fun _ => ?_)
    refine wpAny_bind (not_told hs ?_)
    refine wpAny_ite_split (fun q => absurd q Bool.false_ne_true) (fun _ => ?_)
    refine wpAny_bind (wpAny_rule ?_)
    refine wpAny_bind (wpAny_askSetting ?_)
    refine wpAny_pure ?_
    cases h5 : ((Setting.params ⟨(model prog w).prog, (model prog w).w.params⟩).mergeTok t == (Setting.params ⟨(model prog w).prog, (model prog w).w.params⟩).mergeTok u) with
    | true => exact wpAny_pure h
    | false => exact fin

theorem ne_len {a b : Addr} {xs ys : Array Value} {Q : Value → Shared → Prop} (ha : s.heap.IsList a xs) (hb : s.heap.IsList b ys) (hsz : xs.size ≠ ys.size) (hu : A.units < cLine) (h : Q (.bool true) s) :
    wpAny (model prog w) A (compareOp .NotEq (.ref a) (.ref b)) Q E s := RcNeAt.lists_lengths ha hb (by simpa using hsz) hu prog w E Q h
theorem ne_same {a b : Addr} {xs ys : Array Value} {Q : Value → Shared → Prop} (ha : s.heap.IsList a xs) (hb : s.heap.IsList b ys) (hsz : xs.size = ys.size) (hu : A.units < cLine)
    (he : ∀ j (h1 : j < xs.size) (h2 : j < ys.size), EqAt A.in1 s xs[j] ys[j] true) (h : Q (.bool false) s) :
    wpAny (model prog w) A (compareOp .NotEq (.ref a) (.ref b)) Q E s := RcNeAt.lists ha hb hsz hu (e := fun _ => true) he prog w E Q (by
      have : ((List.range xs.size).all fun _ => true) = true := by simp
      rw [this]; exact h)
end
end Mine
end

section
open PySem PySem.W PyProof.Rows PySem.Calls PySem.Spec PySem.SeqAt
set_option Elab.async false
namespace Mine
set_option maxRecDepth 100000
set_option maxHeartbeats 4000000
theorem sorted_one {a b : List Int} (p : a.Perm b) (h1 : List.Pairwise (· ≤ ·) a) (h2 : List.Pairwise (· ≤ ·) b) : a = b :=
  p.eq_of_pairwise (fun _ _ _ _ hx hy => Int.le_antisymm hx hy) h1 h2
theorem cmp6 : ∀ p : Fin 101, (Float64.cmpInt (frac (6 * (p.val : Int)) 6) p.val == some Ordering.eq) = true := by decide +kernel
theorem cmp6' {p : Int} (h0 : 0 ≤ p) (h1 : p ≤ 100) : (Float64.cmpInt (frac (6 * p) 6) p == some Ordering.eq) = true := by
  have := cmp6 ⟨p.toNat, by omega⟩
  have e : ((p.toNat : Nat) : Int) = p := by omega
  simp only [e] at this
  exact this
theorem cmp2 : ∀ p : Fin 201, (Float64.cmp (frac (p.val : Int) 2) (frac (p.val : Int) 2) == some Ordering.eq) = true := by decide +kernel
theorem cmp2' {p : Int} (h0 : 0 ≤ p) (h1 : p ≤ 200) : (Float64.cmp (frac p 2) (frac p 2) == some Ordering.eq) = true := by
  have := cmp2 ⟨p.toNat, by omega⟩
  have e : ((p.toNat : Nat) : Int) = p := by omega
  simp only [e] at this
  exact this
theorem eq_pairs {A : Around} {s : Shared} : ∀ {ws : List Value} {fs : List UInt64} {vs : List Value} {ks : List Int}, FloatsAre ws fs → IntsAre vs ks → (∀ q ∈ fs.zip ks, (Float64.cmpInt q.1 q.2 == some Ordering.eq) = true) →
    ∀ j (h1 : j < ws.length) (h2 : j < vs.length), EqAt A s ws[j] vs[j] true
  | _, _, _, _, .nil, _, _, j, h1, _ => absurd h1 (Nat.not_lt_zero _)
  | _, _, _, _, .cons _ _ _ _, .nil, _, j, _, h2 => absurd h2 (Nat.not_lt_zero _)
  | _, _, _, _, .cons f t ht h, .cons k u hk, hq, 0, _, _ => by
    have := hq (f, k) (List.mem_cons_self)
    show EqAt A s (.float f t) (.int k u) true
    rw [← this]
    exact eqat_fi
  | _, _, _, _, .cons f t ht h, .cons k u hk, hq, j + 1, h1, h2 => eq_pairs h hk (fun q hq' => hq q (List.mem_cons_of_mem _ hq')) j (by simpa using h1) (by simpa using h2)

theorem cuts6 {a b c d : Int} : (List.range 5).map (fun (k : Nat) => frac (qn [a, b, c, d, d] 6 (1 + (k : Int))) 6) = [frac (6 * a) 6, frac (6 * b) 6, frac (6 * c) 6, frac (6 * d) 6, frac (6 * d) 6] := by
  have e : List.range 5 = [0, 1, 2, 3, 4] := rfl
  have e0 : qn [a, b, c, d, d] 6 (1 + ((0 : Nat) : Int)) = a * 6 + b * 0 := by
    unfold qn
    have hj : qj (([a, b, c, d, d].length : Nat) : Int) 6 (1 + ((0 : Nat) : Int)) = 1 := by show qj 5 6 (1 + 0) = 1; decide
    rw [hj]; rfl
  have e1 : qn [a, b, c, d, d] 6 (1 + ((1 : Nat) : Int)) = b * 6 + c * 0 := by
    unfold qn
    have hj : qj (([a, b, c, d, d].length : Nat) : Int) 6 (1 + ((1 : Nat) : Int)) = 2 := by show qj 5 6 (1 + 1) = 2; decide
    rw [hj]; rfl
  have e2 : qn [a, b, c, d, d] 6 (1 + ((2 : Nat) : Int)) = c * 6 + d * 0 := by
    unfold qn
    have hj : qj (([a, b, c, d, d].length : Nat) : Int) 6 (1 + ((2 : Nat) : Int)) = 3 := by show qj 5 6 (1 + 2) = 3; decide
    rw [hj]; rfl
  have e3 : qn [a, b, c, d, d] 6 (1 + ((3 : Nat) : Int)) = d * 6 + d * 0 := by
    unfold qn
    have hj : qj (([a, b, c, d, d].length : Nat) : Int) 6 (1 + ((3 : Nat) : Int)) = 4 := by show qj 5 6 (1 + 3) = 4; decide
    rw [hj]; rfl
  have e4 : qn [a, b, c, d, d] 6 (1 + ((4 : Nat) : Int)) = d * 0 + d * 6 := by
    unfold qn
    have hj : qj (([a, b, c, d, d].length : Nat) : Int) 6 (1 + ((4 : Nat) : Int)) = 4 := by show qj 5 6 (1 + 4) = 4; decide
    rw [hj]; rfl
  rw [e]
  simp only [List.map_cons, List.map_nil]
  rw [e0, e1, e2, e3, e4, show a * 6 + b * 0 = 6 * a by omega, show b * 6 + c * 0 = 6 * b by omega, show c * 6 + d * 0 = 6 * c by omega, show d * 6 + d * 0 = 6 * d by omega, show d * 0 + d * 6 = 6 * d by omega]
theorem cuts2 {a b c d : Int} : (List.range 1).map (fun (k : Nat) => frac (qn [a, b, c, d] 2 (1 + (k : Int))) 2) = [frac (b + c) 2] := by
  have e : List.range 1 = [0] := rfl
  have e0 : qn [a, b, c, d] 2 (1 + ((0 : Nat) : Int)) = b * 1 + c * 1 := by
    unfold qn
    have hj : qj (([a, b, c, d].length : Nat) : Int) 2 (1 + ((0 : Nat) : Int)) = 2 := by show qj 4 2 (1 + 0) = 2; decide
    rw [hj]; rfl
  rw [e]
  simp only [List.map_cons, List.map_nil]
  rw [e0, show b * 1 + c * 1 = b + c by omega]
theorem rangeKs_rise (a : Int) (n : Nat) : List.Pairwise (· < ·) (rangeKs a n) := by
  unfold rangeKs
  rw [List.pairwise_map]
  exact List.Pairwise.imp (fun h => by omega) List.pairwise_lt_range
theorem four {l : List Int} (h : l.length = 4) : ∃ a b c d, l = [a, b, c, d] := by
  match l, h with
  | [a, b, c, d], _ => exact ⟨a, b, c, d, rfl⟩
end Mine
end

section
open PySem PySem.W PyProof.Rows PySem.Calls PySem.Spec
set_option Elab.async false
namespace Mine
set_option maxRecDepth 100000
set_option maxHeartbeats 4000000
theorem stopAny {α : Type} {M : Model} {A : Around} {E : Value → Shared → Prop} {s : Shared} {t : Sem α} {Q : α → Shared → Prop} (h : Stop (wpAny M A t Q E s)) : wpAny M A t Q E s := h
theorem stopP {p : Prop} (h : Stop p) : p := h
section
variable {w : World} {mean : ExcName → Option Value} {mg mb : Str → Option Value} {dp un : Nat} {gd : Option (List Code)} {cn : Str} {cs : Scope} {a : Addr} {ccd : Value} {cl : List (Str × Addr)} {outer : List Env} {A₀ : Around} {base h₀ : Heap} {L l : Addr} {m : Str → Option Value} {news : List (Addr × Obj)} {s : Shared} {Q E : Value → Shared → Prop}
  {vs : List Value} {ns : List Int} {t : Tok}
  (hp : s.heap.IsList l vs.toArray) (hi : IntsAre vs ns) (B : Below A₀ base outer h₀) (F : Fr h₀ L s.heap m) (X : (hd.heap_1 w.params).In h₀) (N : News h₀ L s.heap news) (T : Top hd.view_39 (looseW hd.view_39 [Str.ofString "quantiles"]) mean mg mb h₀) (hk : cs.kind = .function)
  (hd : dp + 5 < recursionLimit) (hu : un + 40 < cLine)
include hp hi B F X N T hk hd hu
theorem quant_use (h2 : 2 ≤ ns.length) (h40 : ns.length < 40) (hb : ∀ x ∈ ns, 0 ≤ x ∧ x ≤ 100)
    (ret : ∀ (R : Addr) (ws : List Value) (c : Nat) (ns' : List Int) (h' : Heap) (tk' : Nat), Fr h₀ L h' m → News h₀ L h' ((R, W.listOf ws.toArray c) :: news) → FloatsAre ws ((List.range 5).map fun (k : Nat) => frac (qn ns' 6 (1 + (k : Int))) 6) → ns'.Perm ns → List.Pairwise (· ≤ ·) ns' → Q (.ref R) { s with heap := h', toks := tk' }) :
    wpAny (model PySem.Challenge.rw_rw0045_01.row.prog w) (ktrTop dp un gd cn cs L a ccd cl outer) (call (.ref 100) [.ref l] [(Str.ofString "n", .int 6 t)]) Q E s :=
  tell_use (quant hi h2 h40 hb) B F X N T hk hd hu hp fun r tl h' tk' F' N' P => by
    obtain ⟨R, ws, c, ns', e, e', q1, q2, q3⟩ := P
    subst e e'
    exact ret R ws c ns' h' tk' F' N' q1 q2 q3
theorem quant2_use (h2 : 2 ≤ ns.length) (h40 : ns.length < 40) (hb : ∀ x ∈ ns, 0 ≤ x ∧ x ≤ 100)
    (ret : ∀ (R : Addr) (ws : List Value) (c : Nat) (ns' : List Int) (h' : Heap) (tk' : Nat), Fr h₀ L h' m → News h₀ L h' ((R, W.listOf ws.toArray c) :: news) → FloatsAre ws ((List.range 1).map fun (k : Nat) => frac (qn ns' 2 (1 + (k : Int))) 2) → ns'.Perm ns → List.Pairwise (· ≤ ·) ns' → Q (.ref R) { s with heap := h', toks := tk' }) :
    wpAny (model PySem.Challenge.rw_rw0045_01.row.prog w) (ktrTop dp un gd cn cs L a ccd cl outer) (call (.ref 100) [.ref l] [(Str.ofString "n", .int 2 t)]) Q E s :=
  tell_use (quant2 hi h2 h40 hb) B F X N T hk hd hu hp fun r tl h' tk' F' N' P => by
    obtain ⟨R, ws, c, ns', e, e', q1, q2, q3⟩ := P
    subst e e'
    exact ret R ws c ns' h' tk' F' N' q1 q2 q3
theorem mhigh_use (h0 : 0 < ns.length) (h64 : ns.length < 64)
    (ret : ∀ (k : Int) (t : Tok) (ns' : List Int) (h' : Heap) (tk' : Nat), Fr h₀ L h' m → News h₀ L h' news → ns'.Perm ns → ns'.Pairwise (· ≤ ·) → ns'[ns.length / 2]? = some k → Q (.int k t) { s with heap := h', toks := tk' }) :
    wpAny (model PySem.Challenge.rw_rw0045_01.row.prog w) (ktrTop dp un gd cn cs L a ccd cl outer) (call (.ref 92) [.ref l] []) Q E s :=
  tell_use (mhigh hi h0 h64) B F X N T hk hd hu hp fun r tl h' tk' F' N' P => by
    obtain ⟨e, k, t, ns', e', q1, q2, q3⟩ := P
    subst e e'
    exact ret k t ns' h' tk' F' N' q1 q2 q3
theorem mlow_use (h0 : 0 < ns.length) (h64 : ns.length < 64)
    (ret : ∀ (k : Int) (t : Tok) (ns' : List Int) (h' : Heap) (tk' : Nat), Fr h₀ L h' m → News h₀ L h' news → ns'.Perm ns → ns'.Pairwise (· ≤ ·) → ns'[if ns.length % 2 = 1 then ns.length / 2 else ns.length / 2 - 1]? = some k → Q (.int k t) { s with heap := h', toks := tk' }) :
    wpAny (model PySem.Challenge.rw_rw0045_01.row.prog w) (ktrTop dp un gd cn cs L a ccd cl outer) (call (.ref 85) [.ref l] []) Q E s :=
  tell_use (mlow hi h0 h64) B F X N T hk hd hu hp fun r tl h' tk' F' N' P => by
    obtain ⟨e, k, t, ns', e', q1, q2, q3⟩ := P
    subst e e'
    exact ret k t ns' h' tk' F' N' q1 q2 q3
end
end Mine
end

section
open PySem PySem.W PyProof.Rows PySem.Calls PySem.Spec
set_option Elab.async false
namespace Mine
set_option maxRecDepth 100000
set_option maxHeartbeats 8000000
variable {w : World} {mean : ExcName → Option Value} {mg mb : Str → Option Value}
def pl (x : Str) : List Int := (rangeKs 0 x.length).filter fun k => Txt.item x k == Txt.item x 0
theorem fold_pl (x : Str) : List.foldl (fun l' k' => if (1 ≤ (Txt.item x k').length ∧ (Txt.item x k').length ≤ 1) ∧ (1 ≤ (Txt.item x 0).length ∧ (Txt.item x 0).length ≤ 1) ∧ Txt.item x k' = Txt.item x 0 then l' ++ [k']
      else if (1 ≤ (Txt.item x k').length ∧ (Txt.item x k').length ≤ 1) ∧ (1 ≤ (Txt.item x 0).length ∧ (Txt.item x 0).length ≤ 1) ∧ ¬Txt.item x k' = Txt.item x 0 then l' else l') [] (rangeKs 0 ((x.length : Int) - 0).toNat) = pl x := by
  have h1 : ∀ k, (Txt.item x k).length = 1 := fun k => rfl
  have key : ∀ (ks acc : List Int), List.foldl (fun l' k' => if (1 ≤ (Txt.item x k').length ∧ (Txt.item x k').length ≤ 1) ∧ (1 ≤ (Txt.item x 0).length ∧ (Txt.item x 0).length ≤ 1) ∧ Txt.item x k' = Txt.item x 0 then l' ++ [k']
      else if (1 ≤ (Txt.item x k').length ∧ (Txt.item x k').length ≤ 1) ∧ (1 ≤ (Txt.item x 0).length ∧ (Txt.item x 0).length ≤ 1) ∧ ¬Txt.item x k' = Txt.item x 0 then l' else l') acc ks = acc ++ ks.filter fun k => Txt.item x k == Txt.item x 0 := by
    intro ks
    induction ks with
    | nil => intro acc; simp
    | cons k r ih =>
      intro acc
      rw [List.foldl_cons, ih, List.filter_cons]
      by_cases e : Txt.item x k = Txt.item x 0
      · simp [h1, e]
      · simp [h1, e]
  rw [key]
  simp [pl]
theorem pl_pos {x : Str} (h : 0 < x.length) : 0 < (pl x).length := by
  refine List.length_pos_of_mem (a := 0) (List.mem_filter.mpr ⟨?_, by simp⟩)
  simp only [rangeKs, List.mem_map, List.mem_range]
  exact ⟨0, h, rfl⟩
theorem pl_le (x : Str) : (pl x).length ≤ x.length := by
  have := List.length_filter_le (fun k => Txt.item x k == Txt.item x 0) (rangeKs 0 x.length)
  rw [rangeKs_length] at this
  exact this
theorem pl_mem {x : Str} {k : Int} (h : k ∈ pl x) : 0 ≤ k ∧ k < x.length := by
  have := mem_rangeKs (List.mem_filter.mp h).1
  omega
theorem stopCmp {prog : Program} {w : World} {A : Around} {E : Value → Shared → Prop} {s : Shared} {a b : Value} {Q : Value → Shared → Prop} (h : Stop (wpAny (model prog w) A (compareOp .NotEq a b) Q E s)) : wpAny (model prog w) A (compareOp .NotEq a b) Q E s := h
local macro_rules | `(tactic| walk_at "compareOp NotEq ref ref") => `(tactic| refine stopCmp ?_)
local macro_rules | `(tactic| walk_at "exec Try") => `(tactic| refine wpAny_Try_except ?_)
theorem row_len {x : Str} (h : 0 < (pl x).length) : (List.drop ((pl x).length - 1) (pl x) ++ (pl x).reverse).length = (pl x).length + 1 := by
  rw [List.length_append, List.length_drop, List.length_reverse]; omega
theorem row_in {x : Str} (h : x.length ≤ 30) : ∀ k ∈ List.drop ((pl x).length - 1) (pl x) ++ (pl x).reverse, 0 ≤ k ∧ k ≤ 100 := by
  intro k hk
  have : k ∈ pl x := (List.mem_append.mp hk).elim List.mem_of_mem_drop List.mem_reverse.mp
  have := pl_mem this
  omega
local macro_rules | `(tactic| walk_at "call ref") => `(tactic| (k_here; refine stopAny ?_))
theorem row_rise {x : Str} {a b c d : Int} (h : pl x = [a, b, c, d]) (hx : x.length ≤ 30) : (0 ≤ a ∧ a < b ∧ b < c ∧ c < d ∧ d < 30) := by
  have hp : List.Pairwise (· < ·) (pl x) := (rangeKs_rise 0 x.length).filter _
  rw [h] at hp
  have ha := pl_mem (x := x) (k := a) (by rw [h]; simp)
  have hd := pl_mem (x := x) (k := d) (by rw [h]; simp)
  simp only [List.pairwise_cons, List.mem_cons, forall_eq_or_imp, List.not_mem_nil, false_implies, implies_true, and_true, List.Pairwise.nil] at hp
  omega
theorem sorted_row {x : Str} {a b c d : Int} {n' : List Int} (h : pl x = [a, b, c, d]) (hx : x.length ≤ 30) (hp : n'.Perm (List.drop ((pl x).length - 1) (pl x) ++ (pl x).reverse)) (hs : List.Pairwise (· ≤ ·) n') : n' = [a, b, c, d, d] := by
  have r := row_rise h hx
  refine sorted_one (hp.trans ?_) hs ?_
  · rw [h]
    show [d, d, c, b, a].Perm [a, b, c, d, d]
    exact (List.reverse_perm [a, b, c, d, d])
  · simp only [List.pairwise_cons, List.mem_cons, forall_eq_or_imp, List.not_mem_nil, false_implies, implies_true, and_true, List.Pairwise.nil]
    omega
theorem mid_high {x : Str} {a b c d k : Int} {n' : List Int} (h : pl x = [a, b, c, d]) (hx : x.length ≤ 30) (hp : n'.Perm ((pl x).reverse ++ List.take 1 (pl x))) (hs : List.Pairwise (· ≤ ·) n') (hk : n'[((pl x).reverse ++ List.take 1 (pl x)).length / 2]? = some k) : k = b := by
  have r := row_rise h hx
  have e : n' = [a, a, b, c, d] := by
    refine sorted_one (hp.trans ?_) hs ?_
    · rw [h]
      show [d, c, b, a, a].Perm [a, a, b, c, d]
      exact (List.reverse_perm [a, a, b, c, d])
    · simp only [List.pairwise_cons, List.mem_cons, forall_eq_or_imp, List.not_mem_nil, false_implies, implies_true, and_true, List.Pairwise.nil]
      omega
  rw [e, h] at hk
  simp at hk
  exact hk.symm
theorem mid_low {x : Str} {a b c d k : Int} {n' : List Int} (h : pl x = [a, b, c, d]) (hx : x.length ≤ 30) (hp : n'.Perm (List.drop ((pl x).length - 1) (pl x) ++ (pl x).reverse)) (hs : List.Pairwise (· ≤ ·) n')
    (hk : n'[if (List.drop ((pl x).length - 1) (pl x) ++ (pl x).reverse).length % 2 = 1 then (List.drop ((pl x).length - 1) (pl x) ++ (pl x).reverse).length / 2 else (List.drop ((pl x).length - 1) (pl x) ++ (pl x).reverse).length / 2 - 1]? = some k) : k = c := by
  have e := sorted_row h hx hp hs
  rw [e, h] at hk
  simp at hk
  exact hk.symm
theorem sorted_fall {x : Str} {a b c d : Int} {n' : List Int} (h : pl x = [a, b, c, d]) (hx : x.length ≤ 30) (hp : n'.Perm (pl x).reverse) (hs : List.Pairwise (· ≤ ·) n') : n' = [a, b, c, d] := by
  have r := row_rise h hx
  refine sorted_one (hp.trans ?_) hs ?_
  · rw [h]
    exact (List.reverse_perm [a, b, c, d])
  · simp only [List.pairwise_cons, List.mem_cons, forall_eq_or_imp, List.not_mem_nil, false_implies, implies_true, and_true, List.Pairwise.nil]
    omega
theorem not_inf_sum {p : Int} (h0 : 0 ≤ p) (h1 : p ≤ 200) (h : Float64.isInf (Float64.ofFrac (decide (p < 0) != decide ((2 : Int) < 0)) p.natAbs (2 : Int).natAbs) = true) : False := by
  have h3 := fin2 ⟨p.natAbs, by omega⟩
  rw [show decide (p < 0) = false from decide_eq_false (by omega), show (2 : Int).natAbs = 2 from rfl] at h
  exact absurd h (by rw [show (false != decide ((2 : Int) < 0)) = false from rfl, h3.1]; exact Bool.false_ne_true)
theorem one_float {ws : List Value} {f : UInt64} (h : FloatsAre ws [f]) : ∃ t, t ≠ 0 ∧ ws = [.float f t] := by
  match h with
  | .cons _ t ht .nil => exact ⟨t, ht, rfl⟩
theorem four_of {l : List Int} (h : l.length = 4) : ∃ a b c d, l = [a, b, c, d] := by
  match l, h with
  | [a, b, c, d], _ => exact ⟨a, b, c, d, rfl⟩
def Good (x : Str) : Prop := ∃ k0 k1 k2 k3, pl x = [k0, k1, k2, k3] ∧ k3 = (x.length : Int) - 1
abbrev FieldsPost (x : Str) (r : Value) (tl : List (Addr × Obj)) : Prop :=
  (¬ Good x ∧ ∃ R c, r = .ref R ∧ tl = [(R, W.listOf #[] c)]) ∨
  (∃ k0 k1 k2 k3, pl x = [k0, k1, k2, k3] ∧ k3 = (x.length : Int) - 1 ∧ ∃ R c t1 t2 u, r = .ref R ∧ tl = [(R, W.listOf #[.str (Txt.slice x (some (k2 + 1)) (some (-1))) t1, .str (Txt.sliceBy (Txt.slice x (some 1) (some k1)) none none (-1, u)) t2] c)])
theorem fields1 {x : Str} {t : Tok} (hx : x.length ≤ 30) (h0 : 0 < x.length) : Tell0 w mean mg mb 119 [.str x t] (fun _ => True) (FieldsPost x) := by
  unfold Tell0
  intro dp un gd cn cs a ccd cl A₀ h₀ L m news s Q E X B F N T hk hd hu hp hret
  refine wpAny_call ?_
  k_dflt (refine' code_1C (A := ktrTop dp un gd cn cs L a ccd cl []) (pre := fun _ => True) ?k1 ?k2 ?k3 ?k4 ?k5 ?kA ?kF ?kK ?kp ?k6 ?k7 ?k8 ?k9 ?kB ?kD ?_ ?c2 ?c3 ?c4; (case kA => exact rfl); (case kF => exact rfl); (case kK => assumption); (case k1 => k_asm); (case k2 => k_asm); (case k3 => k_asm); (case k4 => k_asm); (case k5 => k_asm); (case kp => exact hp); (case k6 => k_is); (case k7 => k_is); (case k8 => ktr_room); (case k9 => exact BindsTo.of_eq rfl); (case kB => exact rfl); (case kD => decide +kernel); (case c2 => exact rfl); (case c3 => exact rfl); (case c4 => exact rfl); k_whole; intro g' L' h' tk' cells' hp' FG' F' N' Y' B' X' T' D'; k_cells Y'; (try simp only [List.cons_append, List.nil_append] at N'); (try dsimp only); (try k_fold))
  refine cut_any 1 ?_
  dsimp only [List.take, List.drop]
  try k_fold
  k_steps
  show wpAny _ _ _ _ _ _
  (with_reducible rename IntsAre _ _ => i9)
  rw [fold_pl] at i9
  have p1 := pl_pos h0
  have p2 := pl_le x
  refine cut_any 2 ?_
  dsimp only [List.take, List.drop]
  try k_fold
  k_steps
  show wpAny _ _ _ _ _ _
  refine cut_any 1 ?_
  dsimp only [List.take, List.drop]
  try k_fold
  k_steps
  ((with_reducible show Stop _); unfold Stop; k_dflt (refine' quant_use (News.isList (by k_asm) (by k_mem)) (by assumption) (by k_asm) (by k_asm) (by k_asm) (by k_asm) (by k_asm) rfl (by ktr_room) (by ktr_units) (by rw [row_len (by assumption)]; omega) (by rw [row_len (by assumption)]; omega) (row_in (by assumption)) ?_; k_whole); intro R9 ws9 c9 ns9 h9 tk9 F9 N9 hfl9 hperm9 hsort9; (try dsimp only))
  k_steps
  show wpAny _ _ _ _ _ _
  (with_reducible rename FloatsAre _ _ => fl9)
  have fl8 := fl9.length
  rw [List.length_map, List.length_range] at fl8
  by_cases h4 : (pl x).length = 4
  · obtain ⟨k0, k1, k2, k3, h4⟩ := four_of h4
    have p3 : (pl x).length = 4 := by rw [h4]; rfl
    have rr := row_rise h4 hx
    (with_reducible rename List.Perm _ _ => pm9)
    (with_reducible rename List.Pairwise _ _ => ps9)
    have sr := sorted_row h4 hx pm9 ps9
    subst sr
    rw [cuts6] at fl9
    have hg : (pl x).getD (-1 + ((pl x).length : Int)).toNat 0 = k3 := by rw [h4]; rfl
    refine cut_any 1 ?_
    (dsimp only [List.take, List.drop]; try k_fold)
    k_steps
    show wpAny _ _ _ _ _ _
    (with_reducible rename IntsAre _ (pl x ++ _) => iC)
    have lC := iC.length
    have lF := fl9.length
    have iD := iC
    rw [h4] at iD
    rw [List.length_append, List.length_drop] at lC
    refine ne_same (News.isList (by k_asm) (by k_mem)) (News.isList (by k_asm) (by k_mem)) (by rw [List.size_toArray, List.size_toArray, lF]; simp only [List.length_cons, List.length_nil]; omega) (by ktr_units) (fun j h1 h2 => ?_) ?_
    · exact eq_pairs fl9 iD (by
        show ∀ q ∈ [(frac (6 * k0) 6, k0), (frac (6 * k1) 6, k1), (frac (6 * k2) 6, k2), (frac (6 * k3) 6, k3), (frac (6 * k3) 6, k3)], _
        simp only [List.forall_mem_cons]
        exact ⟨cmp6' (by omega) (by omega), cmp6' (by omega) (by omega), cmp6' (by omega) (by omega), cmp6' (by omega) (by omega), cmp6' (by omega) (by omega), List.forall_mem_nil _⟩) j (by simpa using h1) (by simpa using h2)
    clear fl9 pm9 ps9 lF lC iD
    k_steps
    · intro hN
      (with_reducible rename News h₀ L _ ((_, W.listOf #[] _) :: _) => kN)
      exact hret _ [_] _ _ (by k_asm) (news_both (fun p hp => kN p (by rcases List.mem_singleton.mp hp with rfl; exact .head _)) N hN) (.inl ⟨fun hg' => by obtain ⟨j0, j1, j2, j3, e, e'⟩ := hg'; rw [h4] at e; cases e; omega, _, _, rfl, rfl⟩)
    show wpAny _ _ _ _ _ _
    have hlast : k3 = (x.length : Int) - 1 := by omega
    refine cut_any 2 ?_
    (dsimp only [List.take, List.drop]; try k_fold)
    k_steps
    ((with_reducible show Stop _); unfold Stop; k_dflt (refine' mhigh_use (News.isList (by k_asm) (by k_mem)) (by assumption) (by k_asm) (by k_asm) (by k_asm) (by k_asm) (by k_asm) rfl (by ktr_room) (by ktr_units) (by simp only [List.length_append, List.length_reverse, List.length_take]; omega) (by simp only [List.length_append, List.length_reverse, List.length_take]; omega) ?_; k_whole); intro k9 t9 ns9 h9 tk9 F9 N9 pm9 ps9 at9; (try dsimp only))
    k_steps
    ((with_reducible show Stop _); unfold Stop; k_dflt (refine' mlow_use (News.isList (by k_asm) (by k_mem)) (by assumption) (by k_asm) (by k_asm) (by k_asm) (by k_asm) (by k_asm) rfl (by ktr_room) (by ktr_units) (by rw [row_len (by assumption)]; omega) (by rw [row_len (by assumption)]; omega) ?_; k_whole); intro k9 t9 ns9 h9 tk9 F9 N9 pm9 ps9 at9; (try dsimp only))
    k_steps
    show wpAny _ _ _ _ _ _
    (with_reducible rename List.Perm _ (List.drop _ _ ++ _) => pmL)
    (with_reducible rename List.Pairwise _ _ => psL)
    (with_reducible rename _ = some _ => atL)
    have eL := mid_low h4 hx pmL psL atL
    subst eL
    clear atL psL pmL
    (with_reducible rename List.Perm _ (_ ++ List.take _ _) => pmH)
    (with_reducible rename List.Pairwise _ _ => psH)
    (with_reducible rename _ = some _ => atH)
    have eH := mid_high h4 hx pmH psH atH
    subst eH
    clear atH psH pmH
    refine cut_any 1 ?_
    (dsimp only [List.take, List.drop]; try k_fold)
    k_steps
    ((with_reducible show Stop _); unfold Stop; k_dflt (refine' quant2_use (News.isList (by k_asm) (by k_mem)) (by assumption) (by k_asm) (by k_asm) (by k_asm) (by k_asm) (by k_asm) rfl (by ktr_room) (by ktr_units) (by rw [List.length_reverse]; omega) (by rw [List.length_reverse]; omega) (by intro k hk; have := pl_mem (List.mem_reverse.mp hk); omega) ?_; k_whole); intro R9 ws9 c9 ns9 h9 tk9 F9 N9 hfl9 hperm9 hsort9; (try dsimp only))
    k_steps
    show wpAny _ _ _ _ _ _
    (with_reducible rename FloatsAre _ _ => fl9)
    (with_reducible rename List.Perm _ _ => pm9)
    (with_reducible rename List.Pairwise _ _ => ps9)
    have sr := sorted_fall h4 hx pm9 ps9
    subst sr
    rw [cuts2] at fl9
    obtain ⟨t9, ht9, rfl⟩ := one_float fl9
    refine ne_same (News.isList (by k_asm) (by k_mem)) (News.isList (by k_asm) (by k_mem)) (by rfl) (by ktr_units) (fun j h1 h2 => ?_) ?_
    · obtain rfl : j = 0 := by simpa using h1
      exact eqat_ff (told_of (Frag.In.keeps (by k_asm) (Fr.keep (by k_asm))) (Heap.NoLimit.keeps (Top.nolimit (by k_asm)) (Fr.keep (by k_asm))) (by k_is)) ht9 (Nat.succ_ne_zero _) (cmp2' (by omega) (by omega))
    k_steps
    show wpAny _ _ _ _ _ _
    k_steps
    intro hN
    (with_reducible rename News h₀ L _ ((_, W.listOf #[Value.str _ _, Value.str _ _] _) :: _) => kN)
    exact hret _ [_] _ _ (by k_asm) (news_both (fun p hp => kN p (by rcases List.mem_singleton.mp hp with rfl; exact .head _)) N hN) (.inr ⟨_, _, _, _, h4, hlast, _, _, _, _, _, rfl, rfl⟩)
  · k_steps
    show wpAny _ _ _ _ _ _
    (with_reducible rename IntsAre _ (pl x ++ _) => iC)
    have lC := iC.length
    rw [List.length_append, List.length_drop] at lC
    refine ne_len (News.isList (by k_asm) (by k_mem)) (News.isList (by k_asm) (by k_mem)) (by rw [List.size_toArray, List.size_toArray]; omega) (by ktr_units) ?_
    k_steps
    intro hN
    (with_reducible rename News h₀ L _ ((_, W.listOf #[] _) :: _) => kN)
    exact hret _ [_] _ _ (by k_asm) (news_both (fun p hp => kN p (by rcases List.mem_singleton.mp hp with rfl; exact .head _)) N hN) (.inl ⟨fun hg' => by obtain ⟨j0, j1, j2, j3, e, e'⟩ := hg'; rw [e] at h4; exact h4 rfl, _, _, rfl, rfl⟩)
end Mine
end

section
open PySem PySem.W PyProof.Rows PySem.Calls PySem.Spec
set_option Elab.async false
namespace Mine
set_option maxRecDepth 100000
set_option maxHeartbeats 8000000
variable {w : World} {mean : ExcName → Option Value} {mg mb : Str → Option Value}
theorem eq_len {prog : Program} {A : Around} {E : Value → Shared → Prop} {s : Shared} {a b : Addr} {xs ys : Array Value} {Q : Value → Shared → Prop} (ha : s.heap.IsList a xs) (hb : s.heap.IsList b ys) (hsz : (xs.size != ys.size) = true) (hu : A.units < cLine) (h : Q (.bool false) s) :
    wpAny (model prog w) A (compareOp .Eq (.ref a) (.ref b)) Q E s := PySem.SeqAt.RcAt.lists_lengths ha hb hsz hu prog w E Q h
local macro_rules | `(tactic| walk_at "compareOp Eq ref ref") => `(tactic| (k_here; k_dflt (refine' eq_len ?a ?b ?c ?u ?_; (case a => is_list); (case b => is_list); (case c => rfl); (case u => ktr_units); k_whole)))
theorem dueport0 {x h : Str} {t t1 t2 : Tok} {f : Addr} {k : Int} (hx : x.length ≤ 100) :
    Tell0 w mean mg mb 126 [.str x t, .ref f, .int k t1, .str h t2] (fun g => g.IsList f #[]) (fun r tl => ∃ R c u, r = .ref R ∧ tl = [(R, W.listOf #[.str (Str.ofString "form") u, .str x t] c)]) := by
  unfold Tell0
  intro dp un gd cn cs a ccd cl A₀ h₀ L m news s Q E X B F N T hk hd hu hp hret
  refine wpAny_call ?_
  k_dflt (refine' code_1S (A := ktrTop dp un gd cn cs L a ccd cl []) (pre := fun g => g.IsList f #[]) ?k1 ?k2 ?k3 ?k4 ?k5 ?kA ?kF ?kK ?kp ?k6 ?k7 ?k8 ?k9 ?kB ?_ ?c2 ?c3 ?c4 ?c5; (case kA => exact rfl); (case kF => exact rfl); (case kK => assumption); (case k1 => k_asm); (case k2 => k_asm); (case k3 => k_asm); (case k4 => k_asm); (case k5 => k_asm); (case kp => exact hp); (case k6 => k_is); (case k7 => k_is); (case k8 => ktr_room); (case k9 => exact BindsTo.of_eq rfl); (case c5 => decide); (case kB => exact locs rfl); (case c2 => exact rfl); (case c3 => exact rfl); (case c4 => exact rfl); k_whole; intro g' L' h' hp' FG' F' N' B' X' T' D'; (try dsimp only); (try k_fold))
  k_steps
  intro hN
  (with_reducible rename News h₀ L _ ((_, W.listOf #[Value.str _ _, Value.str _ _] _) :: _) => kN)
  exact hret _ [_] _ _ (by k_asm) (news_both (fun p hp => kN p (by rcases List.mem_singleton.mp hp with rfl; exact .head _)) N hN) ⟨_, _, _, rfl, rfl⟩
theorem dueport_0 {x h y0 y1 : Str} {t t1 t2 t3 t4 : Tok} {f : Addr} (n : Int) (hy : y0.length ≤ 100) (hn : PySem.intText? y0 = some n) :
    Tell0 w mean mg mb 126 [.str x t, .ref f, .int 0 t1, .str h t2] (fun g => g.IsList f [Value.str y0 t3, Value.str y1 t4].toArray) (fun r tl => ∃ (R : Addr) (c : Nat) (u : Tok), r = .ref R ∧ tl = [(R, ({ cls := .type "tuple", data := .seq #[.str h t2, .int n u] c } : Obj))]) := by
  unfold Tell0
  intro dp un gd cn cs a ccd cl A₀ h₀ L m news s Q E X B F N T hk hd hu hp hret
  refine wpAny_call ?_
  k_dflt (refine' code_1S (A := ktrTop dp un gd cn cs L a ccd cl []) (pre := fun g => g.IsList f [Value.str y0 t3, Value.str y1 t4].toArray) ?k1 ?k2 ?k3 ?k4 ?k5 ?kA ?kF ?kK ?kp ?k6 ?k7 ?k8 ?k9 ?kB ?_ ?c2 ?c3 ?c4 ?c5; (case kA => exact rfl); (case kF => exact rfl); (case kK => assumption); (case k1 => k_asm); (case k2 => k_asm); (case k3 => k_asm); (case k4 => k_asm); (case k5 => k_asm); (case kp => exact hp); (case k6 => k_is); (case k7 => k_is); (case k8 => ktr_room); (case k9 => exact BindsTo.of_eq rfl); (case c5 => decide); (case kB => exact locs rfl); (case c2 => exact rfl); (case c3 => exact rfl); (case c4 => exact rfl); k_whole; intro g' L' h' hp' FG' F' N' B' X' T' D'; (try dsimp only); (try k_fold))
  k_steps
  intro hN
  (with_reducible rename News h₀ L _ ((_, _) :: _) => kN)
  exact hret _ [_] _ _ (by k_asm) (news_both (fun p hp => kN p (by rcases List.mem_singleton.mp hp with rfl; exact .head _)) N hN) ⟨_, _, _, rfl, rfl⟩
theorem dueport_1 {x h y0 y1 : Str} {t t1 t2 t3 t4 : Tok} {f : Addr} (n : Int) (hy : y1.length ≤ 100) (hn : PySem.intText? y1 = some n) :
    Tell0 w mean mg mb 126 [.str x t, .ref f, .int 1 t1, .str h t2] (fun g => g.IsList f [Value.str y0 t3, Value.str y1 t4].toArray) (fun r tl => ∃ (R : Addr) (c : Nat) (u : Tok), r = .ref R ∧ tl = [(R, ({ cls := .type "tuple", data := .seq #[.str h t2, .int n u] c } : Obj))]) := by
  unfold Tell0
  intro dp un gd cn cs a ccd cl A₀ h₀ L m news s Q E X B F N T hk hd hu hp hret
  refine wpAny_call ?_
  k_dflt (refine' code_1S (A := ktrTop dp un gd cn cs L a ccd cl []) (pre := fun g => g.IsList f [Value.str y0 t3, Value.str y1 t4].toArray) ?k1 ?k2 ?k3 ?k4 ?k5 ?kA ?kF ?kK ?kp ?k6 ?k7 ?k8 ?k9 ?kB ?_ ?c2 ?c3 ?c4 ?c5; (case kA => exact rfl); (case kF => exact rfl); (case kK => assumption); (case k1 => k_asm); (case k2 => k_asm); (case k3 => k_asm); (case k4 => k_asm); (case k5 => k_asm); (case kp => exact hp); (case k6 => k_is); (case k7 => k_is); (case k8 => ktr_room); (case k9 => exact BindsTo.of_eq rfl); (case c5 => decide); (case kB => exact locs rfl); (case c2 => exact rfl); (case c3 => exact rfl); (case c4 => exact rfl); k_whole; intro g' L' h' hp' FG' F' N' B' X' T' D'; (try dsimp only); (try k_fold))
  k_steps
  intro hN
  (with_reducible rename News h₀ L _ ((_, _) :: _) => kN)
  exact hret _ [_] _ _ (by k_asm) (news_both (fun p hp => kN p (by rcases List.mem_singleton.mp hp with rfl; exact .head _)) N hN) ⟨_, _, _, rfl, rfl⟩
end Mine
end

section
open PySem PySem.W PyProof.Rows PySem.Calls PySem.Spec
set_option Elab.async false
namespace Mine
set_option maxRecDepth 100000
set_option maxHeartbeats 4000000
section
variable {prog : Program} {w : World} {A : Around} {E : Value → Shared → Prop} {s : Shared} {R : Result → Shared → Prop} {env : Env}
theorem codeC_func {body : List Stmt}
    (h : wpC (model prog w) (A.deeper env) (execs body env) (fun f s' => R (.ok (.ret (match f with | .ret v => v | _ => .none))) s')
      (fun e s' => wpAny (model prog w) (A.deeper env) (leaving env e) (fun _ s'' => R (.error e) s'') (fun e' s'' => R (.error e') s'') s') s) :
    codeC (model prog w) A (.func body env) R s := by
  refine codeC_tree ?_
  show wpC _ (A.deeper env) (do point; match ← (execs body env).onRaise (leaving env) with | .ret v => ret v | _ => ret .none) _ _ s
  refine wpC_bind (wpC_point (wpC_bind (wpC_onRaise (wpC_mono h (fun f s' h' => ?_) fun _ _ h' => wpC_of h'))))
  cases f <;> exact wpC_pure h'
theorem codeC_call {a : Addr} {args : Args} {o : Obj} {fd : FuncData} {body : List Stmt} (hroom : A.depth < recursionLimit) (ho : s.heap.get? a = some o)
    (hd' : o.data = .func fd) (hco : fd.scope.isCoroutine = false) (hgen : fd.scope.isGenerator = false) (hbody : fd.body = .stmts body) (hcd : s.heap.CodeRec fd.code fd.qualname)
    (h : wpAny (model prog w) A.in1 (bindArgs fd args) (fun binds s₁ =>
      wpAny (model prog w) A.in1 (newFunctionEnv fd.scope fd.globals fd.closure binds (fd.qualname ++ ".<locals>.") (some a) fd.code none fd.builtins)
        (fun env s₂ => s₂.heap.NoLimit ∧ codeC (model prog w) A (.func body env) R s₂) (fun e s' => R (.error e) s') s₁) (fun e s' => R (.error e) s') s) :
    codeC (model prog w) A (.call (.ref a) args) R s := by
  refine codeC_tree ?_
  show wpC _ A.in1 (callAny (.ref a) args) _ _ s
  simp only [callAny]
  refine wpC_first (wpAny_load ho ?_)
  obtain ⟨c, oc, vs, tq, hc, hoc, hdc, hq⟩ := hcd
  simp only [hd', callFunction, hco, hgen, hbody, hc]
  rw [hc] at h
  refine wpC_first (m := field (.ref c) 1) (wpAny_field hoc hdc hq (wpC_first (wpAny_pure ?_)))
  exact wpC_first (wpAny_mono h (fun binds s₁ h₁ => wpC_first (wpAny_mono h₁ (fun env s₂ h₂ => wpC_first (wpAny_enterFrame h₂.1 hroom (wpC_pure (And.intro rfl h₂.2)))) fun _ _ h' => h')) fun _ _ h' => h')
theorem wpC_try {body orelse : List Stmt} {h₀ : ExceptHandler} {hs : List ExceptHandler} {pos : Pos} {Q : Flow → Shared → Prop}
    (h : wpC (model prog w) A (execs body env) (fun f s₁ => match f with | .next => wpAny (model prog w) A (execs orelse env) Q E s₁ | f => Q f s₁)
      (fun e s₁ => wpAny (model prog w) A (noteFrame e env) (fun _ s₂ => wpAny (model prog w) A (setFlight e none) (fun _ s₃ => wpAny (model prog w) A (handleBy e env (h₀ :: hs)) Q E s₃) E s₂) E s₁) s) :
    wpC (model prog w) A (exec (.Try body (h₀ :: hs) orelse [] pos) env) Q E s := by
  rw [arm_exec_Try]
  refine wpC_bind (wpC_standAt ?_)
  unfold tryStmt
  simp only [List.isEmpty_nil, if_true, List.isEmpty_cons, Bool.false_and, Bool.false_eq_true, if_false]
  refine wpC_bind (wpC_attempt (wpC_mono h (fun f s₁ h₁ => ?_) fun e s₁ h₁ => ?_))
  · cases f with
    | next => exact wpC_of h₁
    | brk => exact wpC_pure h₁
    | cont => exact wpC_pure h₁
    | ret v => exact wpC_pure h₁
  · refine wpC_first (wpAny_mono h₁ (fun _ s₂ h₂ => ?_) fun _ _ x => x)
    first
      | exact wpC_first (wpAny_mono h₂ (fun _ s₃ h₃ => wpC_of h₃) fun _ _ x => x)
      | exact wpC_bind (wpC_pure (wpC_first (wpAny_mono h₂ (fun _ s₃ h₃ => wpC_of h₃) fun _ _ x => x)))
theorem execs_one {st : Stmt} {Q : Flow → Shared → Prop} (h : wpC (model prog w) A (exec st env) (fun f s' => Q f s') E s) : wpC (model prog w) A (execs [st] env) Q E s := by
  show wpC _ A (exec st env >>= fun f => match f with | .next => execs [] env | f => pure f) Q E s
  refine wpC_bind (wpC_mono h (fun f s' x => ?_) fun _ _ x => x)
  cases f <;> exact wpC_pure x
end
end Mine
end

section
open PySem PySem.W PyProof.Rows PySem.Calls PySem.Spec
set_option Elab.async false
namespace Mine
set_option maxRecDepth 100000
set_option maxHeartbeats 4000000
def RaisesC {α : Type} (M : Model) (A : Around) (t : Sem α) (E : Value → Shared → Prop) (s : Shared) : Prop := wpC M A t (fun _ _ => False) E s
section
variable {α β : Type} {M : Model} {prog : Program} {w : World} {A : Around} {E : Value → Shared → Prop} {s : Shared} {env : Env}
theorem RaisesC.any {t : Sem α} {Q : α → Shared → Prop} (h : RaisesC M A t E s) : wpC M A t Q E s := wpC_mono h (fun _ _ x => x.elim) fun _ _ x => x
theorem RaisesC.bind {m : Sem α} {f : α → Sem β} (h : RaisesC M A m E s) : RaisesC M A (m >>= f) E s := wpC_bind (wpC_mono h (fun _ _ x => x.elim) fun _ _ x => x)
theorem RaisesC.first {m : Sem α} {f : α → Sem β} (h : wpAny M A m (fun a s' => RaisesC M A (f a) E s') E s) : RaisesC M A (m >>= f) E s := wpC_first h
theorem RaisesC.spl {x : Sem Value} {rest : List (Bool × Sem Value)} (h : RaisesC M A x E s) : RaisesC M A (spliced ((false, x) :: rest)) E s := by
  rw [spliced]; exact h.bind
theorem RaisesC.spl2 {x : Sem Value} {rest : List (Bool × Sem Value)} (h : wpAny M A x (fun _ s' => RaisesC M A (spliced rest) E s') E s) : RaisesC M A (spliced ((false, x) :: rest)) E s := by
  rw [spliced]
  refine RaisesC.first (wpAny_mono h (fun v s' hs => ?_) fun _ _ x => x)
  show RaisesC M A (pure [v] >>= fun here => _) E s'
  exact RaisesC.first (wpAny_pure (RaisesC.bind (wpC_holding hs)))
theorem RaisesC.tuple {elts : List Expr} {k : Nat} {pos : Pos} (h : RaisesC M A (spliced (backTo pos (starEach elts env))) E s) : RaisesC M A (eval (.Tuple elts k pos) env) E s := by
  show RaisesC M A (do standAt pos; newTuple (← spliced (backTo pos (starEach elts env)))) E s
  exact RaisesC.first (wpAny_standAt h.bind)
theorem RaisesC.ret {e : Expr} {pos : Pos} (h : RaisesC M A (eval e env) E s) : RaisesC M A (exec (.Return (some e) pos) env) E s := by
  rw [arm_exec_Return]
  refine RaisesC.first (wpAny_standAt ?_)
  show RaisesC M A (eval e env >>= fun v => pure (Flow.ret v)) E s
  exact h.bind
theorem RaisesC.assign {x : Str} {pos' pos : Pos} {value : Expr} (h : RaisesC M A (eval value env) E s) (hs : swapsWith value (some (.Name x pos')) pos.line env = pure false) :
    RaisesC M A (exec (.Assign [.Name x pos'] value pos) env) E s := by
  rw [exec_Assign_Name env x pos' value pos hs]
  exact RaisesC.first (wpAny_standAt (by first | exact h.bind | exact RaisesC.first (wpAny_standAt h.bind)))
theorem RaisesC.execs {st : Stmt} {rest : List Stmt} (h : RaisesC M A (exec st env) E s) : RaisesC M A (PySem.execs (st :: rest) env) E s := by
  show RaisesC M A (exec st env >>= fun f => match f with | .next => PySem.execs rest env | f => pure f) E s
  exact h.bind
theorem RaisesC.int {x : Str} {u : Tok} {pos : Pos} {args : List (Bool × Sem Value)} (hplain : args.any (·.1) = false) (hy : PyData.layable0 (.str x) = true) (hl : x.length ≤ 640) (hn : PySem.intText? x = none) (hh : A.handled = none)
    (h : wpAny (model prog w) A (evalArgs (.type "int") true args []) (fun a s₁ => a = ⟨[.str x u], []⟩ ∧ ∀ h' tk e, Heap.NewExc s₁.heap h' e "ValueError" → E (.ref e) { s₁ with heap := h', toks := tk }) E s) :
    RaisesC (model prog w) A (callWith pos (.type "int") [] args []) E s := by
  unfold callWith
  refine RaisesC.first (wpAny_holding (wpAny_mono h (fun a s₁ h₁ => ?_) fun _ _ x => x))
  obtain ⟨rfl, hE⟩ := h₁
  refine RaisesC.first (wpAny_standAt ?_)
  simp only [hplain, List.any_nil, Bool.or_false]
  refine RaisesC.first (wpAny_pure ?_)
  exact RaisesC.bind (int_bad hy hl hn hh hE)
theorem RaisesC.def {f : Addr} {pos : Pos} {args : List (Bool × Sem Value)} (hplain : args.any (·.1) = false)
    (h : wpAny (model prog w) A (evalArgs (.ref f) true args []) (fun a s₁ => (∃ o fd, s₁.heap.get? f = some o ∧ o.data = .func fd) ∧ RaisesC (model prog w) A (call (.ref f) a.pos a.kw) E s₁) E s) :
    RaisesC (model prog w) A (callWith pos (.ref f) [] args []) E s := by
  unfold callWith
  refine RaisesC.first (wpAny_holding (wpAny_mono h (fun a s₁ h₁ => ?_) fun _ _ x => x))
  obtain ⟨⟨o, fd, ho, hd⟩, h₂⟩ := h₁
  refine RaisesC.first (wpAny_standAt ?_)
  simp only [hplain, List.any_nil, Bool.or_false]
  refine RaisesC.first (m := keeperOf (.ref f)) ?_
  unfold keeperOf
  refine wpAny_bind (wpAny_load ho ?_)
  rw [hd]
  refine wpAny_pure ?_
  dsimp only
  split
  · exact RaisesC.bind h₂
  · exact RaisesC.bind (by unfold callMarked; exact wpC_keep h₂)
end
end Mine
end

section
open PySem PySem.W PyProof.Rows PySem.Calls PySem.Spec
set_option Elab.async false
namespace Mine
set_option maxRecDepth 100000
set_option maxHeartbeats 4000000
section
variable {prog : Program} {w : World} {A₀ A : Around} {s : Shared} {base h₀ : Heap} {outer : List Env} {L : Addr} {m : Str → Option Value} {env : Env} {news : List (Addr × Obj)} {K : Frag} {p : Program} {loose : List Str} {mean : ExcName → Option Value} {mg mb : Str → Option Value}
    {R : Result → Shared → Prop} {name qual : Str} {params : Arguments} {body : List Stmt} {scope : Scope} {dV kV doc pm cdv ct oc : Value} {an od : Option Addr} {osl : Array (Option Value)} {f : Addr} {args : Args} {binds : List (Str × Value)} {pre : Heap → Prop}
theorem codeC_def {a : Addr} {o : Obj} {fd : FuncData} {body : List Stmt} {args : Args} {binds : List (Str × Value)}
    (hroom : A.depth < recursionLimit) (ho : s.heap.get? a = some o) (hdata : o.data = .func fd) (hlim : s.heap.NoLimit) (hcd : s.heap.CodeRec fd.code fd.qualname)
    (hbody : fd.body = .stmts body) (hbind : BindsTo s fd args binds)
    (hcell : ∀ x ∈ fd.scope.names, x.2 ≠ .cell) (hloc : ∀ x ∈ binds, fd.scope.names.lookup x.1 = some .local)
    (h : ∀ h₀, h₀.Ns s.heap.objs.size (fun x => binds.reverse.lookup x) → (∀ b o, s.heap.get? b = some o → h₀.get? b = some o) →
      wpC (model prog w) (A.deeper (callEnv fd s.heap.objs.size a)) (execs body (callEnv fd s.heap.objs.size a)) (fun f s' => R (.ok (.ret (match f with | .ret v => v | _ => .none))) s')
        (fun e s' => wpAny (model prog w) (A.deeper (callEnv fd s.heap.objs.size a)) (leaving (callEnv fd s.heap.objs.size a) e) (fun _ s'' => R (.error e) s'') (fun e' s'' => R (.error e') s'') s')
        { s with heap := h₀, toks := s.toks + binds.length })
    (hco : fd.scope.isCoroutine = false) (hgen : fd.scope.isGenerator = false) (hk : fd.scope.kind = .function) :
    codeC (model prog w) A (.call (.ref a) args) R s := by
  refine codeC_call hroom ho hdata hco hgen hbody hcd (hbind _ _ _ _ ?_)
  refine wpAny_newFunctionEnv hcell hloc (fun h₀ hns₀ hsb₀ => ⟨hlim.fresh _ hsb₀, codeC_func (h h₀ hns₀ fun b o e => ?_)⟩) hk
  exact hsb₀.extBut b o (Nat.ne_of_lt (Heap.lt_size e)) (Heap.get?_push_of_some _ e)

theorem codeC_1S (B : Below A₀ base [] h₀) (F : Fr h₀ L s.heap m) (X₀ : K.In h₀) (N : News h₀ L s.heap news) (T : Top p loose mean mg mb h₀) (hA : A.frames = some [env]) (hf : env.frame = some L) (hke : env.scope.kind = .function) (hp : pre s.heap)
    (ho : K.lookup f = some ⟨oc, od, .func (fnOf name qual params body scope dV kV doc pm an cdv ct), osl⟩) (hcd : codeIn K cdv qual = true) (hroom : A.depth < recursionLimit)
    (hbind : BindsTo s (fnOf name qual params body scope dV kV doc pm an cdv ct) args binds) (hloc : ∀ y ∈ binds, scope.names.lookup y.1 = some .local)
    (h : ∀ g L' h₁, pre g → Fr h₀ L g m → Fr g L' h₁ (fun y => binds.reverse.lookup y) → News g L' h₁ [] → Below A base [env] g → K.In g → Top p loose mean mg mb g → KtsDicts ([env].filterMap (·.frame)) g →
      wpC (model prog w) (A.deeper (envOf qual scope L' f cdv)) (execs body (envOf qual scope L' f cdv))
        (fun fl s' => LeaveS0 ([env].filterMap (·.frame)) h₀ L m g (Old news R) (match fl with | .ret v => v | _ => .none) s')
        (fun e s' => wpAny (model prog w) (A.deeper (envOf qual scope L' f cdv)) (leaving (envOf qual scope L' f cdv) e) (fun _ s'' => R (.error e) s'') (fun e' s'' => R (.error e') s'') s')
        { s with heap := h₁, toks := s.toks + binds.length })
    (hco : scope.isCoroutine = false) (hgen : scope.isGenerator = false) (hk : scope.kind = .function)
    (hcell : ∀ x ∈ scope.names, x.2 ≠ .cell) : codeC (model prog w) A (.call (.ref f) args) R s := by
  have X := X₀.keeps F.keep
  refine codeC_def (fd := fnOf name qual params body scope dV kV doc pm an cdv ct) (body := body) (binds := binds) hroom (X _ _ ho) rfl (T.nolimit.keeps F.keep) (codeRec_of X hcd) rfl hbind hcell hloc (fun h₁ hns hk₁ => ?_) hco hgen hk
  exact wpC_mono (h s.heap s.heap.objs.size h₁ hp F ⟨hns, hk₁, Nat.le_refl _⟩ News.nil (below1 B F hA hf hke) X (T.keeps F.keep) (dicts1 F hf)) (fun fl s' hl => back_S F N hf hl) fun _ _ y => y

theorem codeC_1K (B : Below A₀ base outer h₀) (F : Fr h₀ L s.heap m) (X₀ : K.In h₀) (N : News h₀ L s.heap news) (T : Top p loose mean mg mb h₀) (hA : A.frames = some (env :: outer)) (hf : env.frame = some L) (hke : env.scope.kind = .function)
    (ho : K.lookup f = some ⟨oc, od, .func (fnOf name qual params body scope dV kV doc pm an cdv ct), osl⟩) (hcd : codeIn K cdv qual = true) (hroom : A.depth < recursionLimit)
    (hbind : BindsTo s (fnOf name qual params body scope dV kV doc pm an cdv ct) args binds) (hloc : ∀ y ∈ binds, scope.names.lookup y.1 = some .local)
    (h : ∀ g L' h₁, Fr h₀ L g m → Fr g L' h₁ (fun y => binds.reverse.lookup y) → News g L' h₁ news → Below A base (env :: outer) g → K.In g → Top p loose mean mg mb g →
      wpC (model prog w) (A.deeper (envOf qual scope L' f cdv)) (execs body (envOf qual scope L' f cdv))
        (fun fl s' => LeaveK h₀ L m g R (match fl with | .ret v => v | _ => .none) s')
        (fun e s' => wpAny (model prog w) (A.deeper (envOf qual scope L' f cdv)) (leaving (envOf qual scope L' f cdv) e) (fun _ s'' => R (.error e) s'') (fun e' s'' => R (.error e') s'') s')
        { s with heap := h₁, toks := s.toks + binds.length })
    (hco : scope.isCoroutine = false) (hgen : scope.isGenerator = false) (hk : scope.kind = .function)
    (hcell : ∀ x ∈ scope.names, x.2 ≠ .cell) : codeC (model prog w) A (.call (.ref f) args) R s := by
  have X := X₀.keeps F.keep
  refine codeC_def (fd := fnOf name qual params body scope dV kV doc pm an cdv ct) (body := body) (binds := binds) hroom (X _ _ ho) rfl (T.nolimit.keeps F.keep) (codeRec_of X hcd) rfl hbind hcell hloc (fun h₁ hns hk₁ => ?_) hco hgen hk
  obtain ⟨FG, BG, st, lv⟩ := groundX (R := R) B F N hA hf hke
  exact wpC_mono (h _ s.heap.objs.size h₁ FG ⟨hns, fun b o e => hk₁ b o (of_hideAll _ e), Nat.le_of_eq (hideAll_size _ _)⟩
    (fun p hp => ⟨hk₁ _ _ (N p hp).1, Nat.ne_of_lt (Heap.lt_size (N p hp).1), hideAll_none _ (List.mem_map_of_mem hp)⟩) BG (X₀.keeps st) (T.keeps st)) (fun fl s' hl => lv _ _ hl) fun _ _ y => y
end
def TellC (w : World) (mean : ExcName → Option Value) (mg mb : Str → Option Value) (f : Addr) (vs : List Value) (pre : Heap → Prop) (P : Value → List (Addr × Obj) → Prop) : Prop :=
  ∀ (dp un : Nat) (gd : Option (List Code)) (cn : Str) (cs : Scope) (a : Addr) (ccd : Value) (cl : List (Str × Addr)) (A₀ : Around) (h₀ : Heap) (L : Addr) (m : Str → Option Value) (news : List (Addr × Obj)) (s : Shared) (Q E : Value → Shared → Prop),
    (hd.heap_1 w.params).In h₀ → Below A₀ h₀ [] h₀ → Fr h₀ L s.heap m → News h₀ L s.heap news → Top hd.view_39 (looseW hd.view_39 [Str.ofString "quantiles"]) mean mg mb h₀ → cs.kind = .function →
    dp + 10 < recursionLimit → un + 80 < cLine → pre s.heap →
    (∀ (r : Value) (tl : List (Addr × Obj)) (h' : Heap) (tk' : Nat), Fr h₀ L h' m → News h₀ L h' (tl ++ news) → P r tl → Q r { s with heap := h', toks := tk' }) →
    wpC (model PySem.Challenge.rw_rw0045_01.row.prog w) (ktrTop dp un gd cn cs L a ccd cl []) (call (.ref f) vs) Q E s
theorem Tell0.c {w : World} {mean : ExcName → Option Value} {mg mb : Str → Option Value} {f : Addr} {vs : List Value} {pre : Heap → Prop} {P : Value → List (Addr × Obj) → Prop} (h : Tell0 w mean mg mb f vs pre P) : TellC w mean mg mb f vs pre P := by
  intro dp un gd cn cs a ccd cl A₀ h₀ L m news s Q E X B F N T hk hd hu hp hret
  exact wpC_of (h _ _ _ _ _ _ _ _ _ _ _ _ _ _ _ _ X B F N T hk hd hu hp hret)
end Mine
end

section
open PySem PySem.W PyProof.Rows PySem.Calls PySem.Spec
set_option Elab.async false
namespace Mine
set_option maxRecDepth 100000
set_option maxHeartbeats 4000000
section
variable {prog : Program} {w : World} {A : Around} {E : Value → Shared → Prop} {s : Shared} {env : Env}
theorem RaisesC.intCall {x : Str} {p pos : Pos} {e : Expr} {rest : List Expr} {id : Str}
    (hy : PyData.layable0 (.str x) = true) (hl : x.length ≤ 640) (hn : PySem.intText? x = none) (hh : A.handled = none)
    (h : wpAny (model prog w) A (eval (.Name id p) env) (fun f s₀ => f = .type "int" ∧ wpAny (model prog w) A (spliced (backTo pos (starEach (e :: rest) env)))
      (fun vs s₁ => ∃ u, vs = [.str x u] ∧ ∀ h' tk e, Heap.NewExc s₁.heap h' e "ValueError" → E (.ref e) { s₁ with heap := h', toks := tk }) E s₀) E s)
    (he : starEach (e :: rest) env = (false, eval e env) :: starEach rest env := by rfl)
    (hplain : (backTo pos (starEach rest env)).any (·.1) = false := by rfl) :
    RaisesC (model prog w) A (eval (.Call (.Name id p) (e :: rest) [] pos) env) E s := by
  rw [arm_eval_Call_Name']
  refine RaisesC.first (wpAny_mono h (fun f s₀ h₀ => ?_) fun _ _ x => x)
  obtain ⟨rfl, h₀⟩ := h₀
  rw [he] at h₀ ⊢
  have hc : backTo pos ((false, eval e env) :: starEach rest env) = (false, eval e env) :: backTo pos (starEach rest env) := rfl
  rw [hc] at h₀ ⊢
  unfold callWith
  refine RaisesC.first (wpAny_holding (evalArgs_plain (wpAny_mono h₀ (fun vs s₁ h₁ => ?_) fun _ _ x => x)))
  obtain ⟨u, rfl, hE⟩ := h₁
  refine RaisesC.first (wpAny_standAt ?_)
  have hp : (List.any ((false, eval e env) :: backTo pos (starEach rest env)) (·.1)) = false := by
    rw [List.any_cons, hplain]; rfl
  simp only [hp, keywordEach, backToKw, List.map_nil, List.any_nil, Bool.or_false]
  refine RaisesC.first (wpAny_pure ?_)
  exact RaisesC.bind (int_bad hy hl hn hh hE)
theorem RaisesC.tuple2 {e1 e2 : Expr} {k : Nat} {pos : Pos} (h : wpAny (model prog w) A (eval e1 env) (fun _ s' => RaisesC (model prog w) A (eval e2 env) E s') E s)
    (he : starEach [e1, e2] env = [(false, eval e1 env), (false, eval e2 env)] := by rfl) : RaisesC (model prog w) A (eval (.Tuple [e1, e2] k pos) env) E s := by
  refine RaisesC.tuple ?_
  rw [he]
  exact RaisesC.spl2 (wpAny_mono h (fun _ _ x => RaisesC.spl x) fun _ _ x => x)
end
end Mine
end

section
open PySem PySem.W PyProof.Rows PySem.Calls PySem.Spec
set_option Elab.async false
namespace Mine
set_option maxRecDepth 100000
set_option maxHeartbeats 4000000
section
variable {M : Model} {A : Around} {E : Value → Shared → Prop} {s' : Shared} {base g h : Heap} {outer : List Env} {L e : Addr} {m : Str → Option Value} {env : Env} {Q : Unit → Shared → Prop}
theorem noted_newX {cls : String} (hf : env.frame = some L) (hke : env.scope.kind = .function) (K : Below A base outer g) (F : Fr g L h m) (hx : Heap.NewExc h s'.heap e cls)
    (hQ : ∀ h' a0, Heap.HeldW (hideAll h ((env :: outer).filterMap (·.frame))) (env :: outer) e (.type cls) a0 L h' → s'.heap.UpToSlots h' → Q () { s' with heap := h' }) :
    wpAny M (A.deeper env) (noteFrame (.ref e) env) Q E s' := by
  have K' := pushX K F hf hke
  have hin : ∀ x ∈ (env :: outer), ∀ b, x.frame = some b → b ∈ (env :: outer).filterMap (·.frame) := fun x he b hb => List.mem_filterMap.mpr ⟨x, he, hb⟩
  obtain ⟨ob, tp, he, hcls, hd⟩ := hx.there
  have hen : (hideAll h ((env :: outer).filterMap (·.frame))).get? e = none := by
    cases q : (hideAll h ((env :: outer).filterMap (·.frame))).get? e with
    | none => rfl
    | some o => have := of_hideAll _ q; rw [hx.new] at this; cases this
  unfold noteFrame
  simp only [hf]
  refine wpAny_bind (wpAny_field he hd rfl ?_)
  rw [if_neg (by simp)]
  refine wpAny_entryW K'.stack ((funFrames_hide K'.frames hin).of_keeps fun b o hb _ => ⟨o, hx.keeps b o hb, rfl⟩) hf he (fun b o hb => hx.keeps b o (of_hideAll _ hb)) hen hd (by simp) rfl fun h' hN => ?_
  obtain ⟨k1, k2, k3, k4⟩ := hN
  exact hQ h' _ ⟨k1, hen, k2, by rw [← hcls]; exact k3⟩ k4
end
section
variable {prog : Program} {w : World} {A₀ : Around} {E : Value → Shared → Prop} {s' : Shared} {base g g₀ G B : Heap} {outer : List Env} {L a e : Addr} {m : Str → Option Value} {env : Env} {a0 : Value}
  {b₀ : Stmt} {suite : List Stmt} {pos np : Pos} {rest : List ExceptHandler} {Q : Flow → Shared → Prop} {news : List (Addr × Obj)} {KF : Frag}
  {p : Program} {loose : List Str} {mean : ExcName → Option Value} {mg mb : Str → Option Value} {x : Str} {X T' : String}
theorem ground_of (hf : env.frame = some L) (K : Below A₀ base outer g) (F : Fr g L G m) (hBG : ∀ b o, G.get? b = some o → b ∉ (env :: outer).filterMap (·.frame) → B.get? b = some o) {h₅ : Heap} (hBh : B.StaysIn h₅) (hsm : G.UpToSlots h₅) :
    ∃ g', KtsTurn (outer.filterMap (·.frame)) g g' ∧ Fr g' L h₅ m ∧ Below A₀ base outer g' := by
  refine kts_ground (B := B) (name := Str.ofString "") (scope := env.scope) (a := 0) (cd := .none) K F (fun b o e nm => hBG b o e ?_) hBh hsm
  have e1 : (env :: outer).filterMap (·.frame) = L :: outer.filterMap (·.frame) := by simp [hf]
  rw [e1]; exact nm
theorem caught_held (hf : env.frame = some L) (K : Below A₀ base outer g) (F : Fr g L G m) (hBG : ∀ b o, G.get? b = some o → b ∉ (env :: outer).filterMap (·.frame) → B.get? b = some o)
    (hl : ∀ q ∈ news, B.get? q.1 = some q.2 ∧ g.get? q.1 = none) (hheld : Heap.HeldW B (env :: outer) e (.type X) a0 L s'.heap) (hsm : G.UpToSlots s'.heap) (XB : KF.In base) (TB : Top p loose mean mg mb base)
    (D : KtsDicts (outer.filterMap (·.frame)) g) (T0 : KtsTurn (outer.filterMap (·.frame)) g₀ g)
    (hname : ∀ g₅ s₅ Q' E', Fr g₅ L s₅.heap m → KF.In g₅ → TopRead p loose mg mb g₅ → Q' (.type T') s₅ → wpAny (model prog w) ((A₀.deeper env).mark (some (.ref e))) (eval (.Name x np) env) Q' E' s₅)
    (hexc : isSubtype (.type T') (.type "BaseException") = pure true) (hnt : isSubtype (.type ((Manifest.find? T').elim "type" fun y => y.metatype)) (.type "tuple") = pure false) (hsub : isSubtype (.type X) (.type T') = pure true)
    (k : ∀ h' g', KtsTurn (outer.filterMap (·.frame)) g₀ g' → Fr g' L h' m → News g' L h' news → Below A₀ base outer g' → KF.In g' → Top p loose mean mg mb g' → KtsDicts (outer.filterMap (·.frame)) g' →
      wpAny (model prog w) ((A₀.deeper env).mark (some (.ref e))) (execs (b₀ :: suite) env) Q E { s' with heap := h' })
    (hE : PassesOwnAt (model prog w) ((A₀.deeper env).mark (some (.ref e))) (A₀.deeper env) env E) :
    wpAny (model prog w) (A₀.deeper env) (setFlight (.ref e) none) (fun _ s₃ =>
        wpAny (model prog w) (A₀.deeper env) (handleBy (.ref e) env (.ExceptHandler (some (.Name x np)) none (b₀ :: suite) pos :: rest)) Q E s₃) E s' := by
  have hL : B.get? L = none := by
    obtain ⟨_, ⟨L', _, hf', hn', _⟩, _⟩ := hheld.2.2.1
    rw [hf] at hf'
    obtain rfl : L = L' := Option.some.inj hf'
    exact hn'
  refine wpAny_landsW hheld fun h₅ hheld hsm₅ => ?_
  obtain ⟨g₅, T₅, F₅, K₅⟩ := ground_of hf K F hBG hheld.1 (hsm.trans hsm₅)
  have X₅ : KF.In g₅ := XB.keeps K₅.stays
  have P₅ : TopRead p loose mg mb g₅ := topRead_of (TB.keeps K₅.stays)
  obtain ⟨ob, hob, hobc⟩ := hheld.there
  refine wpAny_handleBy_builtin (X := X) (T := T') (b := true) hexc hnt hsub (hname g₅ _ _ _ F₅ X₅ P₅ ⟨rfl, ⟨ob, hob, hobc⟩, ?_⟩)
  refine lands_againW hheld fun h₆ hfl₆ hsm₆ => ?_
  obtain ⟨g₆, T₆, F₆, K₆⟩ := ground_of hf K F hBG hfl₆.1 ((hsm.trans hsm₅).trans hsm₆)
  have Nl : News g₆ L h₆ news := fun q hq => ⟨hfl₆.1 _ _ (hl q hq).1, (fun z => by have := (hl q hq).1; rw [z, hL] at this; cases this), T₆.none_ _ (hl q hq).2⟩
  have X₆ : KF.In g₆ := XB.keeps K₆.stays
  have P₆ : Top p loose mean mg mb g₆ := TB.keeps K₆.stays
  have D₆ : KtsDicts (outer.filterMap (·.frame)) g₆ := D.turn T₆
  exact wpAny_passesOwnAt hE (k h₆ g₆ (T0.trans T₆) F₆ Nl K₆ X₆ P₆ D₆)
theorem caught_new {h : Heap} (hf : env.frame = some L) (hke : env.scope.kind = .function) (K : Below A₀ base outer g) (F : Fr g L h m) (N : News g L h news) (hx : Heap.NewExc h s'.heap e X) (XB : KF.In base) (TB : Top p loose mean mg mb base)
    (D : KtsDicts (outer.filterMap (·.frame)) g) (T0 : KtsTurn (outer.filterMap (·.frame)) g₀ g)
    (hname : ∀ g₅ s₅ Q' E', Fr g₅ L s₅.heap m → KF.In g₅ → TopRead p loose mg mb g₅ → Q' (.type T') s₅ → wpAny (model prog w) ((A₀.deeper env).mark (some (.ref e))) (eval (.Name x np) env) Q' E' s₅)
    (hexc : isSubtype (.type T') (.type "BaseException") = pure true) (hnt : isSubtype (.type ((Manifest.find? T').elim "type" fun y => y.metatype)) (.type "tuple") = pure false) (hsub : isSubtype (.type X) (.type T') = pure true)
    (k : ∀ h' g', KtsTurn (outer.filterMap (·.frame)) g₀ g' → Fr g' L h' m → News g' L h' news → Below A₀ base outer g' → KF.In g' → Top p loose mean mg mb g' → KtsDicts (outer.filterMap (·.frame)) g' →
      wpAny (model prog w) ((A₀.deeper env).mark (some (.ref e))) (execs (b₀ :: suite) env) Q E { s' with heap := h' })
    (hE : PassesOwnAt (model prog w) ((A₀.deeper env).mark (some (.ref e))) (A₀.deeper env) env E) :
    wpAny (model prog w) (A₀.deeper env) (noteFrame (.ref e) env) (fun _ s₂ => wpAny (model prog w) (A₀.deeper env) (setFlight (.ref e) none) (fun _ s₃ =>
        wpAny (model prog w) (A₀.deeper env) (handleBy (.ref e) env (.ExceptHandler (some (.Name x np)) none (b₀ :: suite) pos :: rest)) Q E s₃) E s₂) E s' := by
  refine noted_newX hf hke K F hx fun h' a0 hheld hsm => ?_
  refine caught_held (news := news) hf K F (fun b o e nm => hideAll_get _ e nm) (fun q hq => ⟨hideAll_get _ (N q hq).1 fun hm => ?_, (N q hq).2.2⟩) hheld ((Heap.UpToSlots.of_keeps hx.keeps).trans hsm) XB TB D T0 hname hexc hnt hsub k hE
  obtain ⟨env', he, hf'⟩ := List.mem_filterMap.mp hm
  rcases List.mem_cons.mp he with rfl | he
  · rw [hf] at hf'; exact (N q hq).2.1 (Option.some.inj hf').symm
  · obtain ⟨o, ho, _⟩ := (K.frames.mem (List.mem_filterMap.mpr ⟨env', he, hf'⟩)).2
    rw [(N q hq).2.2] at ho; cases ho
end
section
variable {prog : Program} {w : World} {A : Around} {E : Value → Shared → Prop} {s : Shared} {env : Env}
theorem RaisesC.defCall {f : Addr} {p pos : Pos} {e : Expr} {rest : List Expr} {id : Str}
    (h : wpAny (model prog w) A (eval (.Name id p) env) (fun fv s₀ => fv = .ref f ∧ wpAny (model prog w) A (spliced (backTo pos (starEach (e :: rest) env)))
      (fun vs s₁ => Stop ((∃ o fd, s₁.heap.get? f = some o ∧ o.data = .func fd) ∧ RaisesC (model prog w) A (call (.ref f) vs) E s₁)) E s₀) E s)
    (he : starEach (e :: rest) env = (false, eval e env) :: starEach rest env := by rfl)
    (hplain : (backTo pos (starEach rest env)).any (·.1) = false := by rfl) :
    RaisesC (model prog w) A (eval (.Call (.Name id p) (e :: rest) [] pos) env) E s := by
  rw [arm_eval_Call_Name']
  refine RaisesC.first (wpAny_mono h (fun fv s₀ h₀ => ?_) fun _ _ x => x)
  obtain ⟨rfl, h₀⟩ := h₀
  rw [he] at h₀ ⊢
  have hc : backTo pos ((false, eval e env) :: starEach rest env) = (false, eval e env) :: backTo pos (starEach rest env) := rfl
  rw [hc] at h₀ ⊢
  have hp : (List.any ((false, eval e env) :: backTo pos (starEach rest env)) (·.1)) = false := by
    rw [List.any_cons, hplain]; rfl
  have hk0 : backToKw pos (keywordEach [] env) = [] := rfl
  rw [hk0]
  exact RaisesC.def hp (evalArgs_plain (wpAny_mono h₀ (fun vs s₁ h₁ => h₁) fun _ _ x => x))
end
end Mine
end

section
open PySem PySem.W PyProof.Rows PySem.Calls PySem.Spec
set_option Elab.async false
namespace Mine
set_option maxRecDepth 100000
set_option maxHeartbeats 8000000
local macro_rules | `(tactic| walk_at "compareOp Eq ref ref") => `(tactic| (k_here; k_dflt (refine' eq_len ?a ?b ?c ?u ?_; (case a => is_list); (case b => is_list); (case c => rfl); (case u => ktr_units); k_whole)))
variable {w : World} {mean : ExcName → Option Value} {mg mb : Str → Option Value}
theorem dueportC_0 {x h y0 y1 : Str} {t t1 t2 t3 t4 : Tok} {f : Addr} (hy : y0.length ≤ 100) (hn : PySem.intText? y0 = none) (hlay : PyData.layable0 (.str y0) = true) :
    TellC w mean mg mb 126 [.str x t, .ref f, .int 0 t1, .str h t2] (fun g => g.IsList f [Value.str y0 t3, Value.str y1 t4].toArray) (fun r tl => ∃ (R : Addr) (c : Nat) (u : Tok), r = .ref R ∧ tl = [(R, W.listOf #[.str (Str.ofString "number") u] c)]) := by
  unfold TellC
  intro dp un gd cn cs a ccd cl A₀ h₀ L m news s Q E X B F N T hk hd hu hp hret
  refine wpC_call ?_
  k_dflt (refine' codeC_1S (A := ktrTop dp un gd cn cs L a ccd cl []) (pre := fun g => g.IsList f [Value.str y0 t3, Value.str y1 t4].toArray) ?k1 ?k2 ?k3 ?k4 ?k5 ?kA ?kF ?kK ?kp ?k6 ?k7 ?k8 ?k9 ?kB ?_ ?c2 ?c3 ?c4 ?c5; (case kA => exact rfl); (case kF => exact rfl); (case kK => assumption); (case k1 => k_asm); (case k2 => k_asm); (case k3 => k_asm); (case k4 => k_asm); (case k5 => k_asm); (case kp => exact hp); (case k6 => k_is); (case k7 => k_is); (case k8 => ktr_room); (case k9 => exact BindsTo.of_eq rfl); (case c5 => decide); (case kB => exact locs rfl); (case c2 => exact rfl); (case c3 => exact rfl); (case c4 => exact rfl); k_whole; intro g' L' h' hp' FG' F' N' B' X' T' D'; (try dsimp only); (try k_fold))
  refine cut_C 1 ?_
  dsimp only [List.take, List.drop]
  try k_fold
  k_steps
  (with_reducible show Stop _)
  unfold Stop
  
  refine execs_one (wpC_try (RaisesC.execs (RaisesC.ret (RaisesC.tuple2 ?_))).any)
  k_steps
  (with_reducible show RaisesC _ _ _ _ _)
  refine RaisesC.intCall (x := y0) hlay (by omega) hn rfl ?_
  k_steps
  k_dflt ((with_reducible rename Heap.NewExc _ _ _ _ => x9); refine' caught_new (T' := "ValueError") rfl rfl ?K ?F ?N x9 ?XB ?TB ?D ?T0 ?hname PySem.F.isExc_ValueError PySem.F.notTuple_ValueError ?hsub ?k ?hE; (case K => assumption); (case F => assumption); (case N => assumption); (case XB => assumption); (case TB => assumption); (case D => assumption); (case T0 => exact KtsTurn.refl); (case hsub => kts_sub); (case hname => exact fun g₅ s₅ Q' E' F5 X5 P5 q => nameX_B F5 X5 P5 (by k_is) PyProof.Rows.Boot.«ValueError» (by decide) q rfl rfl (by decide)); (case hE => passes_own); k_whole; intro h9 g9 T9 F9 N9 K9 X9 P9 D9; (try k_lift K9); (try k_sweep))
  k_steps
  intro hN
  (with_reducible rename News h₀ L _ (_ :: _) => kN)
  exact hret _ [_] _ _ (by k_asm) (news_both (fun p hp => kN p (by rcases List.mem_singleton.mp hp with rfl; exact .head _)) N hN) ⟨_, _, _, rfl, rfl⟩
theorem dueportC_1 {x h y0 y1 : Str} {t t1 t2 t3 t4 : Tok} {f : Addr} (hy : y1.length ≤ 100) (hn : PySem.intText? y1 = none) (hlay : PyData.layable0 (.str y1) = true) :
    TellC w mean mg mb 126 [.str x t, .ref f, .int 1 t1, .str h t2] (fun g => g.IsList f [Value.str y0 t3, Value.str y1 t4].toArray) (fun r tl => ∃ (R : Addr) (c : Nat) (u : Tok), r = .ref R ∧ tl = [(R, W.listOf #[.str (Str.ofString "number") u] c)]) := by
  unfold TellC
  intro dp un gd cn cs a ccd cl A₀ h₀ L m news s Q E X B F N T hk hd hu hp hret
  refine wpC_call ?_
  k_dflt (refine' codeC_1S (A := ktrTop dp un gd cn cs L a ccd cl []) (pre := fun g => g.IsList f [Value.str y0 t3, Value.str y1 t4].toArray) ?k1 ?k2 ?k3 ?k4 ?k5 ?kA ?kF ?kK ?kp ?k6 ?k7 ?k8 ?k9 ?kB ?_ ?c2 ?c3 ?c4 ?c5; (case kA => exact rfl); (case kF => exact rfl); (case kK => assumption); (case k1 => k_asm); (case k2 => k_asm); (case k3 => k_asm); (case k4 => k_asm); (case k5 => k_asm); (case kp => exact hp); (case k6 => k_is); (case k7 => k_is); (case k8 => ktr_room); (case k9 => exact BindsTo.of_eq rfl); (case c5 => decide); (case kB => exact locs rfl); (case c2 => exact rfl); (case c3 => exact rfl); (case c4 => exact rfl); k_whole; intro g' L' h' hp' FG' F' N' B' X' T' D'; (try dsimp only); (try k_fold))
  refine cut_C 1 ?_
  dsimp only [List.take, List.drop]
  try k_fold
  k_steps
  (with_reducible show Stop _)
  unfold Stop
  
  refine execs_one (wpC_try (RaisesC.execs (RaisesC.ret (RaisesC.tuple2 ?_))).any)
  k_steps
  (with_reducible show RaisesC _ _ _ _ _)
  refine RaisesC.intCall (x := y1) hlay (by omega) hn rfl ?_
  k_steps
  k_dflt ((with_reducible rename Heap.NewExc _ _ _ _ => x9); refine' caught_new (T' := "ValueError") rfl rfl ?K ?F ?N x9 ?XB ?TB ?D ?T0 ?hname PySem.F.isExc_ValueError PySem.F.notTuple_ValueError ?hsub ?k ?hE; (case K => assumption); (case F => assumption); (case N => assumption); (case XB => assumption); (case TB => assumption); (case D => assumption); (case T0 => exact KtsTurn.refl); (case hsub => kts_sub); (case hname => exact fun g₅ s₅ Q' E' F5 X5 P5 q => nameX_B F5 X5 P5 (by k_is) PyProof.Rows.Boot.«ValueError» (by decide) q rfl rfl (by decide)); (case hE => passes_own); k_whole; intro h9 g9 T9 F9 N9 K9 X9 P9 D9; (try k_lift K9); (try k_sweep))
  k_steps
  intro hN
  (with_reducible rename News h₀ L _ (_ :: _) => kN)
  exact hret _ [_] _ _ (by k_asm) (news_both (fun p hp => kN p (by rcases List.mem_singleton.mp hp with rfl; exact .head _)) N hN) ⟨_, _, _, rfl, rfl⟩
end Mine
end

section
open PySem PySem.W PyProof.Rows PySem.Calls PySem.Spec
set_option Elab.async false
namespace Mine
set_option maxRecDepth 100000
set_option maxHeartbeats 8000000
local macro_rules | `(tactic| walk_at "call type:str") => `(tactic| (k_here; (with_reducible show wpAny _ _ (call (Value.type "str") [Value.ref _]) _ _ _); k_dflt (refine' own_str ?u (own_of ?X (Fr.keep ?F) ?N ?G ?hs ?hb) ?_; (case G => assumption); (case X => k_asm); (case F => k_asm); (case N => k_asm); (case hs => k_is); (case hb => k_is); (case u => ktr_units); k_whole)))
theorem tup_keep {g h : Heap} {L x : Addr} {m : Str → Option Value} {vs : Array Value} (ht : IsTup g x vs) (F : Fr g L h m) : IsTup h x vs := by
  obtain ⟨o, ho, hc, n, hn⟩ := ht
  exact ⟨o, F.keep _ _ ho, hc, n, hn⟩
local macro_rules | `(tactic| walk_at "subscriptTail Name Constant ref int") => `(tactic| (k_here; (with_reducible show wpAny _ _ (subscriptTail _ _ (Value.ref _) (Value.int _ _)) _ _ _); k_dflt (refine' item_tupleT ?t ?a ?b ?c ?d ?_; (case t => first | exact tup_keep (by assumption) (by assumption) | (refine' tup_keep (tup_keep (by assumption) ?q1) ?q2; (case q2 => assumption); (case q1 => assumption))); (case a => decide); (case b => decide); (case c => rfl); (case d => rfl); k_whole)))
def portOut (r : Str) : Except Bool Str :=
  if (Txt.slice r none (some 3) != Str.ofString "229") = true then .error true
  else if Txt.find r (Str.ofString "(") < 0 then .error false
  else if Txt.find3 r (Str.ofString ")") (Txt.find r (Str.ofString "(") + 1) < 0 then .error false
  else if (Txt.item r (Txt.find r (Str.ofString "(") + 1) != Txt.item r (Txt.find3 r (Str.ofString ")") (Txt.find r (Str.ofString "(") + 1) - 1)) = true then .error false
  else if (Txt.split (Txt.slice r (some (Txt.find r (Str.ofString "(") + 1)) (some (Txt.find3 r (Str.ofString ")") (Txt.find r (Str.ofString "(") + 1)))) (Txt.item r (Txt.find r (Str.ofString "(") + 1))).length ≠ 5 then .error false
  else match (Txt.split (Txt.slice r (some (Txt.find r (Str.ofString "(") + 1)) (some (Txt.find3 r (Str.ofString ")") (Txt.find r (Str.ofString "(") + 1)))) (Txt.item r (Txt.find r (Str.ofString "(") + 1)))[3]? with
    | some y => .ok y
    | none => .error false
theorem portOut_code {r : Str} (h : (Txt.slice r none (some 3) != Str.ofString "229") = true) : portOut r = .error true := if_pos h
section
variable {r : Str} (h1 : (Txt.slice r none (some 3) != Str.ofString "229") = false)
include h1
theorem portOut_1 (h2 : Txt.find r (Str.ofString "(") < 0) : portOut r = .error false := by
  unfold portOut; rw [if_neg (by rw [h1]; exact Bool.false_ne_true), if_pos h2]
variable (h2 : ¬ Txt.find r (Str.ofString "(") < 0)
include h2
theorem portOut_2 (h3 : Txt.find3 r (Str.ofString ")") (Txt.find r (Str.ofString "(") + 1) < 0) : portOut r = .error false := by
  unfold portOut; rw [if_neg (by rw [h1]; exact Bool.false_ne_true), if_neg h2, if_pos h3]
variable (h3 : ¬ Txt.find3 r (Str.ofString ")") (Txt.find r (Str.ofString "(") + 1) < 0)
include h3
theorem portOut_3 (h4 : (Txt.item r (Txt.find r (Str.ofString "(") + 1) != Txt.item r (Txt.find3 r (Str.ofString ")") (Txt.find r (Str.ofString "(") + 1) - 1)) = true) : portOut r = .error false := by
  unfold portOut; rw [if_neg (by rw [h1]; exact Bool.false_ne_true), if_neg h2, if_neg h3, if_pos h4]
variable (h4 : (Txt.item r (Txt.find r (Str.ofString "(") + 1) != Txt.item r (Txt.find3 r (Str.ofString ")") (Txt.find r (Str.ofString "(") + 1) - 1)) = false)
  {l : List (Str × Tok)} (hl : List.map (fun x => x.fst) l = Txt.split (Txt.slice r (some (Txt.find r (Str.ofString "(") + 1)) (some (Txt.find3 r (Str.ofString ")") (Txt.find r (Str.ofString "(") + 1)))) (Txt.item r (Txt.find r (Str.ofString "(") + 1)))
include h4 hl
theorem portOut_4 (h5 : ¬ (l.length : Int) = 5) : portOut r = .error false := by
  unfold portOut; rw [if_neg (by rw [h1]; exact Bool.false_ne_true), if_neg h2, if_neg h3, if_neg (by rw [h4]; exact Bool.false_ne_true), ← hl, if_pos (by rw [List.length_map]; omega)]
theorem portOut_5 (h5 : (l.length : Int) = 5) {y : Str} (hy : (List.map (fun x => x.fst) l)[Int.toNat 3]? = some y) : portOut r = .ok y := by
  unfold portOut; rw [if_neg (by rw [h1]; exact Bool.false_ne_true), if_neg h2, if_neg h3, if_neg (by rw [h4]; exact Bool.false_ne_true), ← hl, if_neg (by rw [List.length_map]; omega)]
  have e : (List.map (fun x => x.fst) l)[3]? = some y := hy
  rw [e]
end
def PortSays (drawn reply : Str) (r : Value) (tl : List (Addr × Obj)) : Prop :=
  match portOut reply with
  | .error true => ∃ R c u u', r = .ref R ∧ tl = [(R, W.listOf #[.str (Str.ofString "code") u, .str reply u'] c)]
  | .error false => ∃ R c u u', r = .ref R ∧ tl = [(R, W.listOf #[.str (Str.ofString "form") u, .str reply u'] c)]
  | .ok y => match PySem.intText? y with
    | some n => ∃ (R : Addr) (c : Nat) (u u' : Tok), r = .ref R ∧ tl = [(R, ({ cls := .type "tuple", data := .seq #[.str drawn u, .int n u'] c } : Obj))]
    | none => ∃ R c u, r = .ref R ∧ tl = [(R, W.listOf #[.str (Str.ofString "number") u] c)]
theorem says_code {drawn reply : Str} {R : Addr} {c : Nat} {u u' : Tok} (h : portOut reply = .error true) : PortSays drawn reply (.ref R) [(R, W.listOf #[.str (Str.ofString "code") u, .str reply u'] c)] := by
  unfold PortSays; rw [h]; exact ⟨_, _, _, _, rfl, rfl⟩
theorem says_form {drawn reply : Str} {R : Addr} {c : Nat} {u u' : Tok} (h : portOut reply = .error false) : PortSays drawn reply (.ref R) [(R, W.listOf #[.str (Str.ofString "form") u, .str reply u'] c)] := by
  unfold PortSays; rw [h]; exact ⟨_, _, _, _, rfl, rfl⟩
theorem says_port {drawn reply y : Str} {n : Int} {R : Addr} {c : Nat} {u u' : Tok} (h : portOut reply = .ok y) (hn : PySem.intText? y = some n) : PortSays drawn reply (.ref R) [(R, ({ cls := .type "tuple", data := .seq #[.str drawn u, .int n u'] c } : Obj))] := by
  unfold PortSays; rw [h]; dsimp only; rw [hn]; exact ⟨_, _, _, _, rfl, rfl⟩
theorem says_number {drawn reply y : Str} {R : Addr} {c : Nat} {u : Tok} (h : portOut reply = .ok y) (hn : PySem.intText? y = none) : PortSays drawn reply (.ref R) [(R, W.listOf #[.str (Str.ofString "number") u] c)] := by
  unfold PortSays; rw [h]; dsimp only; rw [hn]; exact ⟨_, _, _, rfl, rfl⟩
variable {w : World} {mean : ExcName → Option Value} {mg mb : Str → Option Value}
theorem port {p : Addr} {reply drawn : Str} {t t1 t2 : Tok} (hlen : reply.length ≤ 100) (hgood : ∀ y, portOut reply = .ok y → ∃ n, PySem.intText? y = some n) :
    Tell0 w mean mg mb 140 [.str reply t, .ref p] (fun g => IsTup g p [Value.str drawn t1, Value.int 21 t2].toArray) (PortSays drawn reply) := by
  unfold Tell0
  intro dp un gd cn cs a ccd cl A₀ h₀ L m news s Q E X B F N T hk hd hu hp hret
  refine wpAny_call ?_
  k_dflt (refine' code_1S (A := ktrTop dp un gd cn cs L a ccd cl []) (pre := fun g => IsTup g p [Value.str drawn t1, Value.int 21 t2].toArray) ?k1 ?k2 ?k3 ?k4 ?k5 ?kA ?kF ?kK ?kp ?k6 ?k7 ?k8 ?k9 ?kB ?_ ?c2 ?c3 ?c4 ?c5; (case kA => exact rfl); (case kF => exact rfl); (case kK => assumption); (case k1 => k_asm); (case k2 => k_asm); (case k3 => k_asm); (case k4 => k_asm); (case k5 => k_asm); (case kp => exact hp); (case k6 => k_is); (case k7 => k_is); (case k8 => ktr_room); (case k9 => exact BindsTo.of_eq rfl); (case c5 => decide); (case kB => exact locs rfl); (case c2 => exact rfl); (case c3 => exact rfl); (case c4 => exact rfl); k_whole; intro g' L' h' hp' FG' F' N' B' X' T' D'; (try dsimp only); (try k_fold))
  have hL := lp_lt reply
  have hR := rp_at reply (Txt.find reply (Str.ofString "(") + 1) (by omega)
  k_steps
  iterate 5 (focus (intro hN; (with_reducible rename News _ _ _ (_ :: _) => kN0); (with_reducible rename News h₀ L _ (_ :: _) => kN); exact hret _ [_] _ _ (by k_asm) (news_both (fun p hp => kN p (by rcases List.mem_singleton.mp hp with rfl; exact .head _)) N hN) (by first | exact says_code (portOut_code (by assumption)) | refine says_form ?_; first | exact portOut_1 (by assumption) (by assumption) | exact portOut_2 (by assumption) (by assumption) (by assumption) | exact portOut_3 (by assumption) (by assumption) (by assumption) (by assumption) | exact portOut_4 (by assumption) (by assumption) (by assumption) (by assumption) (by assumption) (by assumption))))
  (with_reducible show wpAny _ _ (call (Value.type "int") [Value.str _ _]) _ _ _)
  have hO := portOut_5 (by assumption) (by assumption) (by assumption) (by assumption) (by assumption) (by assumption) (by assumption)
  obtain ⟨n, hn⟩ := hgood _ hO
  (with_reducible rename ∀ a, a ∈ _ → Str.length a ≤ _ => hle)
  (with_reducible rename (List.map _ _)[Int.toNat 3]? = some _ => h3)
  (with_reducible rename Str.length (Txt.slice reply (some _) (some _)) ≤ _ => hsl)
  have hy9 := Nat.le_trans (Nat.le_trans (hle _ (List.mem_of_getElem? h3)) hsl) hlen
  k_steps
  intro hN
  (with_reducible rename News h₀ L _ (_ :: _) => kN)
  exact hret _ [_] _ _ (by k_asm) (news_both (fun p hp => kN p (by rcases List.mem_singleton.mp hp with rfl; exact .head _)) N hN) (says_port hO hn)
end Mine
end

section
open PySem PySem.W PyProof.Rows PySem.Calls PySem.Spec
set_option Elab.async false
namespace Mine
set_option maxRecDepth 100000
set_option maxHeartbeats 8000000
local macro_rules | `(tactic| walk_at "call type:str") => `(tactic| (k_here; (with_reducible show wpAny _ _ (call (Value.type "str") [Value.ref _]) _ _ _); k_dflt (refine' own_str ?u (own_of ?X (Fr.keep ?F) ?N ?G ?hs ?hb) ?_; (case G => assumption); (case X => k_asm); (case F => k_asm); (case N => k_asm); (case hs => k_is); (case hb => k_is); (case u => ktr_units); k_whole)))
local macro_rules | `(tactic| walk_at "subscriptTail Name Constant ref int") => `(tactic| (k_here; (with_reducible show wpAny _ _ (subscriptTail _ _ (Value.ref _) (Value.int _ _)) _ _ _); k_dflt (refine' item_tupleT ?t ?a ?b ?c ?d ?_; (case t => first | exact tup_keep (by assumption) (by assumption) | (refine' tup_keep (tup_keep (by assumption) ?q1) ?q2; (case q2 => assumption); (case q1 => assumption))); (case a => decide); (case b => decide); (case c => rfl); (case d => rfl); k_whole)))
theorem RaisesC.intCallS {prog : Program} {w : World} {A : Around} {E : Value → Shared → Prop} {s : Shared} {env : Env} {x : Str} {p pos : Pos} {e : Expr} {rest : List Expr} {id : Str}
    (hy : PyData.layable0 (.str x) = true) (hl : x.length ≤ 640) (hn : PySem.intText? x = none) (hh : A.handled = none)
    (h : wpAny (model prog w) A (eval (.Name id p) env) (fun f s₀ => f = .type "int" ∧ wpAny (model prog w) A (spliced (backTo pos (starEach (e :: rest) env)))
      (fun vs s₁ => Stop (∃ u, vs = [.str x u] ∧ ∀ h' tk e, Heap.NewExc s₁.heap h' e "ValueError" → E (.ref e) { s₁ with heap := h', toks := tk })) E s₀) E s)
    (he : starEach (e :: rest) env = (false, eval e env) :: starEach rest env := by rfl)
    (hplain : (backTo pos (starEach rest env)).any (·.1) = false := by rfl) :
    RaisesC (model prog w) A (eval (.Call (.Name id p) (e :: rest) [] pos) env) E s := RaisesC.intCall hy hl hn hh h he hplain
theorem third_at {l : List (Str × Tok)} (h : (l.length : Int) = 5) : ∃ y, (List.map (fun x => x.fst) l)[Int.toNat 3]? = some y :=
  ⟨_, List.getElem?_eq_getElem (by rw [List.length_map]; show 3 < _; omega)⟩
variable {w : World} {mean : ExcName → Option Value} {mg mb : Str → Option Value}
theorem portC {p : Addr} {reply drawn y : Str} {t t1 t2 : Tok} (hlen : reply.length ≤ 100) (hO : portOut reply = .ok y) (hn : PySem.intText? y = none) (hlay : PyData.layable0 (.str y) = true) :
    TellC w mean mg mb 140 [.str reply t, .ref p] (fun g => IsTup g p [Value.str drawn t1, Value.int 21 t2].toArray) (PortSays drawn reply) := by
  unfold TellC
  intro dp un gd cn cs a ccd cl A₀ h₀ L m news s Q E X B F N T hk hd hu hp hret
  refine wpC_call ?_
  k_dflt (refine' codeC_1S (A := ktrTop dp un gd cn cs L a ccd cl []) (pre := fun g => IsTup g p [Value.str drawn t1, Value.int 21 t2].toArray) ?k1 ?k2 ?k3 ?k4 ?k5 ?kA ?kF ?kK ?kp ?k6 ?k7 ?k8 ?k9 ?kB ?_ ?c2 ?c3 ?c4 ?c5; (case kA => exact rfl); (case kF => exact rfl); (case kK => assumption); (case k1 => k_asm); (case k2 => k_asm); (case k3 => k_asm); (case k4 => k_asm); (case k5 => k_asm); (case kp => exact hp); (case k6 => k_is); (case k7 => k_is); (case k8 => ktr_room); (case k9 => exact BindsTo.of_eq rfl); (case c5 => decide); (case kB => exact locs rfl); (case c2 => exact rfl); (case c3 => exact rfl); (case c4 => exact rfl); k_whole; intro g' L' h' hp' FG' F' N' B' X' T' D'; (try dsimp only); (try k_fold))
  refine execs_one (wpC_try (RaisesC.execs (RaisesC.ret (RaisesC.defCall (f := 58) ?_))).any)
  k_steps
  (with_reducible show Stop _)
  unfold Stop
  refine ⟨⟨_, _, (X'.keeps (Fr.keep (by assumption))) 58 _ (by k_is), rfl⟩, ?_⟩
  unfold RaisesC
  refine wpC_call ?_
  k_dflt (refine' codeC_1K ?k1 ?k2 ?k3 ?k4 ?k5 ?kA ?kF ?kK ?k6 ?k7 ?k8 ?k9 ?kB ?_ ?c2 ?c3 ?c4 ?c5; (case kA => exact rfl); (case kF => exact rfl); (case kK => exact rfl); (case k1 => k_asm); (case k2 => k_asm); (case k3 => k_asm); (case k4 => k_asm); (case k5 => k_asm); (case k6 => k_is); (case k7 => k_is); (case k8 => ktr_room); (case k9 => exact BindsTo.of_eq rfl); (case c5 => decide); (case kB => exact locs rfl); (case c2 => exact rfl); (case c3 => exact rfl); (case c4 => exact rfl); k_whole; intro g2 L2 h2 FG2 F2 N2 B2 X2 T2; (try dsimp only); (try k_fold))
  have hL := lp_lt reply
  have hR := rp_at reply (Txt.find reply (Str.ofString "(") + 1) (by omega)
  refine cut_C 9 ?_
  dsimp only [List.take, List.drop]
  try k_fold
  k_steps
  all_goals try (exfalso; first | (have h9 := portOut_code (by assumption : (Txt.slice reply none (some 3) != Str.ofString "229") = true); rw [hO] at h9; cases h9) | (have h9 : portOut reply = .error false := by first | exact portOut_1 (by assumption) (by assumption) | exact portOut_2 (by assumption) (by assumption) (by assumption) | exact portOut_3 (by assumption) (by assumption) (by assumption) (by assumption) | exact portOut_4 (by assumption) (by assumption) (by assumption) (by assumption) (by assumption) (by assumption)); rw [hO] at h9; cases h9)
  (with_reducible show Stop _)
  unfold Stop
  (with_reducible rename (↑(List.length _) : Int) = 5 => hl5)
  obtain ⟨y', hy'⟩ := third_at hl5
  have hO' := portOut_5 (by assumption) (by assumption) (by assumption) (by assumption) (by assumption) hl5 hy'
  rw [hO] at hO'
  injection hO' with hO'
  subst hO'
  (with_reducible rename ∀ a, a ∈ _ → Str.length a ≤ _ => hle)
  (with_reducible rename Str.length (Txt.slice reply (some _) (some _)) ≤ _ => hsl)
  have hy9 := Nat.le_trans (Nat.le_trans (hle _ (List.mem_of_getElem? hy')) hsl) hlen
  refine (RaisesC.execs (RaisesC.assign (RaisesC.intCallS (x := y) hlay (by omega) hn rfl ?_) rfl)).any
  k_steps
  (with_reducible show Stop _)
  unfold Stop
  (with_reducible rename (List.map _ _)[Int.toNat 3]? = some _ => h3)
  rw [hy'] at h3
  injection h3 with h3
  subst h3
  refine ⟨_, rfl, ?_⟩
  k_steps
  intro hN
  (with_reducible rename News h₀ L _ (_ :: _) => kN)
  exact hret _ [_] _ _ (by k_asm) (news_both (fun p hp => kN p (by rcases List.mem_singleton.mp hp with rfl; exact .head _)) N hN) (says_number hO hn)
end Mine
end

section
open PySem PySem.W PyProof.Rows PySem.Calls PySem.Spec
set_option Elab.async false
open Builtin Builtin.Str
namespace Mine
set_option maxHeartbeats 1000000
def qt : Str := Str.ofString "\""
def e0 : Str := Str.ofString ""
def sg (x : Str) (i : Nat) : Str := Txt.slice x (some (i : Int)) (some ((i : Int) + 1))
theorem e0_eq : e0 = ⟨#[]⟩ := by decide +kernel
theorem app_e0 (x : Str) : x ++ e0 = x := by
  rw [e0_eq]; apply Str.ext'; show x.cps ++ #[] = x.cps; simp
theorem e0_app (x : Str) : e0 ++ x = x := by
  rw [e0_eq]; apply Str.ext'; show #[] ++ x.cps = x.cps; simp
theorem app_assoc (x y z : Str) : x ++ y ++ z = x ++ (y ++ z) := by
  apply Str.ext'; show x.cps ++ y.cps ++ z.cps = x.cps ++ (y.cps ++ z.cps); simp
theorem sg_in {x : Str} {i : Nat} (h : i < x.length) : sg x i = Txt.item x (i : Int) := by
  have e : sg x i = StrLaws.sliceText x (some (i : Int)) (some ((i + 1 : Nat) : Int)) := rfl
  have hs : i < x.cps.size := h
  rw [e, StrLaws.sliceText_nat x (by omega) h]
  unfold Txt.item Txt.charAt
  rw [StrLaws.seqIndex_nonneg (by omega) (by omega)]
  have e2 : (x.cps.toList.drop i).take (i + 1 - i) = [x.cps[i]] := by
    have h1 : i + 1 - i = 1 := by omega
    rw [h1, List.drop_eq_getElem_cons (by simpa using hs)]
    simp
  rw [e2]
  simp [hs]
theorem sg_len {x : Str} {i : Nat} (h : i < x.length) : (sg x i).length = 1 := by rw [sg_in h]; rfl
theorem sg_out (x : Str) : sg x x.length = e0 := by
  have e1 : strSliceIndices (some (x.length : Int)) (some ((x.length : Int) + 1)) 1 x.length = strSliceIndices (some (x.length : Int)) (some (x.length : Int)) 1 x.length := by
    have h0 : ¬ ((x.length : Int) < 0) := by omega
    have h1 : ¬ ((x.length : Int) + 1 < 0) := by omega
    have h2 : min ((x.length : Int) + 1) (x.length : Int) = x.length := by omega
    simp [strSliceIndices, h0, h1, h2]
  have e : sg x x.length = StrLaws.sliceText x (some (x.length : Int)) (some (x.length : Int)) := by
    show StrLaws.sliceText x _ _ = _
    unfold StrLaws.sliceText
    rw [e1]
  rw [e, StrLaws.sliceText_nat x (Nat.le_refl _) (Nat.le_refl _), e0_eq]
  simp
theorem qt_len : qt.length = 1 := by decide +kernel
theorem sg_le {x : Str} {i : Nat} (h : i ≤ x.length) : (sg x i).length ≤ 1 := by
  rcases Nat.lt_or_ge i x.length with h1 | h1
  · rw [sg_len h1]; exact Nat.le_refl _
  · have : i = x.length := by omega
    rw [this, sg_out]; exact Nat.zero_le _
theorem e0_ne : e0 ≠ qt := by decide +kernel
theorem sg_qt {x : Str} {i : Nat} (hi : i ≤ x.length) (h : sg x i = qt) : i < x.length := by
  rcases Nat.lt_or_ge i x.length with h1 | h1
  · exact h1
  · have : i = x.length := by omega
    rw [this, sg_out] at h
    exact absurd h e0_ne
def nm (x : Str) (i : Nat) : Str := if i < x.length then (if sg x i = qt then (if sg x (i + 1) = qt then qt ++ nm x (i + 2) else e0) else sg x i ++ nm x (i + 1)) else e0
termination_by x.length - i
theorem nm_end {x : Str} {i : Nat} (h : x.length ≤ i) : nm x i = e0 := by rw [nm, if_neg (by omega)]
theorem nm_sign {x : Str} {i : Nat} (hi : i ≤ x.length) (h : sg x i ≠ qt) : nm x i = sg x i ++ nm x (i + 1) := by
  rcases Nat.lt_or_ge i x.length with h1 | h1
  · rw [nm, if_pos h1, if_neg h]
  · have : i = x.length := by omega
    rw [nm_end h1, nm_end (by omega), this, sg_out, app_e0]
theorem nm_two {x : Str} {i : Nat} (hi : i < x.length) (h : sg x i = qt) (h1 : sg x (i + 1) = qt) : nm x i = qt ++ nm x (i + 2) := by
  rw [nm, if_pos hi, if_pos h, if_pos h1]
theorem nm_one {x : Str} {i : Nat} (h : sg x i = qt) (h1 : sg x (i + 1) ≠ qt) : nm x i = e0 := by
  rcases Nat.lt_or_ge i x.length with hi | hi
  · rw [nm, if_pos hi, if_pos h, if_neg h1]
  · exact nm_end hi
def qts : Nat → Str
  | 0 => e0
  | k + 1 => qt ++ qts k
theorem nm_quotes {x : Str} : ∀ (m p : Nat), p + m ≤ x.length → (∀ j, j < m → sg x (p + j) = qt) → sg x (p + m) ≠ qt → nm x p = qts (m / 2) ++ (if m % 2 = 1 then e0 else nm x (p + m))
  | 0, p, _, _, _ => by
    have h1 : ¬ ((0 : Nat) % 2 = 1) := by decide
    rw [if_neg h1]
    exact (e0_app _).symm
  | 1, p, _, hq, hn => by
    have h1 : (1 : Nat) % 2 = 1 := by decide
    rw [if_pos h1, nm_one (i := p) (hq 0 (by omega)) hn]
    exact (e0_app _).symm
  | m + 2, p, hp, hq, hn => by
    rw [nm_two (i := p) (by omega) (hq 0 (by omega)) (hq 1 (by omega)), nm_quotes m (p + 2) (by omega) (fun j hj => by rw [show p + 2 + j = p + (j + 2) by omega]; exact hq _ (by omega)) (by rw [show p + 2 + m = p + (m + 2) by omega]; exact hn)]
    have e1 : (m + 2) / 2 = m / 2 + 1 := by omega
    have e2 : (m + 2) % 2 = m % 2 := by omega
    rw [e1, e2, qts, app_assoc, show p + 2 + m = p + (m + 2) by omega]
def desc (p : Nat) : Nat → List Int
  | 0 => []
  | m + 1 => ((p + m : Nat) : Int) :: desc p m
theorem desc_len (p : Nat) : ∀ m, (desc p m).length = m
  | 0 => rfl
  | m + 1 => by rw [desc, List.length_cons, desc_len p m]
theorem desc_mem {p : Nat} : ∀ {m : Nat} {k : Int}, k ∈ desc p m → (p : Int) ≤ k ∧ k < ((p + m : Nat) : Int)
  | 0, k, h => by cases h
  | m + 1, k, h => by
    rcases List.mem_cons.mp h with rfl | h
    · omega
    · have := desc_mem h; omega
theorem desc_fall (p : Nat) : ∀ m, (desc p m).Pairwise (fun a b => b ≤ a)
  | 0 => .nil
  | m + 1 => .cons (fun b hb => by have := desc_mem hb; omega) (desc_fall p m)
theorem desc_get (p : Nat) : ∀ (m k : Nat), k < m → (desc p m).reverse[k]? = some ((p + k : Nat) : Int)
  | m + 1, k, h => by
    rw [desc, List.reverse_cons]
    by_cases e : k < m
    · rw [List.getElem?_append_left (by rw [List.length_reverse, desc_len]; exact e)]
      exact desc_get p m k e
    · have : k = m := by omega
      subst this
      rw [List.getElem?_append_right (by rw [List.length_reverse, desc_len]; exact Nat.le_refl _), List.length_reverse, desc_len]
      simp
theorem desc_sorted {p m : Nat} {ns : List Int} (hp : ns.Perm (desc p m)) (hs : ns.Pairwise (· ≤ ·)) : ns = (desc p m).reverse :=
  sorted_one (hp.trans (List.reverse_perm _).symm) hs (by rw [List.pairwise_reverse]; exact desc_fall p m)
theorem desc_high {p m : Nat} {ns : List Int} {k : Int} (hm : 0 < m) (hp : ns.Perm (desc p m)) (hs : ns.Pairwise (· ≤ ·)) (hk : ns[(desc p m).length / 2]? = some k) : k = ((p + m / 2 : Nat) : Int) := by
  rw [desc_sorted hp hs, desc_len, desc_get p m _ (by omega)] at hk
  exact (Option.some.inj hk).symm
theorem desc_low {p m : Nat} {ns : List Int} {k : Int} (hm : 0 < m) (hp : ns.Perm (desc p m)) (hs : ns.Pairwise (· ≤ ·)) (hk : ns[if (desc p m).length % 2 = 1 then (desc p m).length / 2 else (desc p m).length / 2 - 1]? = some k) : k = ((p + (if m % 2 = 1 then m / 2 else m / 2 - 1) : Nat) : Int) := by
  rw [desc_sorted hp hs, desc_len, desc_get p m _ (by split <;> omega)] at hk
  exact (Option.some.inj hk).symm
theorem app_len (x y : Str) : (x ++ y).length = x.length + y.length := Str.length_append x y
theorem qts_len : ∀ k, (qts k).length = k
  | 0 => rfl
  | k + 1 => by rw [qts, app_len, qts_len k, qt_len]; omega
theorem fold_qts : ∀ (k : Nat) (acc : Array Nat), (List.replicate k qt.cps).foldl (· ++ ·) acc = acc ++ (qts k).cps
  | 0, acc => by
    show acc = acc ++ e0.cps
    rw [e0_eq]; simp
  | k + 1, acc => by
    rw [List.replicate_succ, List.foldl_cons, fold_qts k]
    show acc ++ qt.cps ++ (qts k).cps = acc ++ (qt.cps ++ (qts k).cps)
    simp
theorem mul_qts (k : Nat) : Txt.mul qt (k : Int) = qts k := by
  unfold Txt.mul
  rcases Nat.eq_zero_or_pos k with rfl | hk
  · rw [if_pos (by decide)]; exact e0_eq.symm
  · rw [if_neg (by omega)]
    by_cases h1 : k = 1
    · subst h1
      rw [if_pos (by decide)]
      exact (app_e0 qt).symm
    · have e : (((k : Int) == 1 || qt.length == 0)) = false := by
        rw [qt_len, Bool.or_eq_false_iff]
        exact ⟨by simp; omega, by decide⟩
      rw [e, if_neg Bool.false_ne_true, Int.toNat_natCast, fold_qts]
      apply Str.ext'
      show #[] ++ (qts k).cps = (qts k).cps
      simp
theorem desc_last (p : Nat) : ∀ m, (desc p (m + 1)).getD (-1 + ((desc p (m + 1)).length : Int)).toNat 0 = (p : Int) := by
  intro m
  rw [desc_len]
  have e : (-1 + ((m + 1 : Nat) : Int)).toNat = m := by omega
  rw [e]
  have h : ∀ m, (desc p (m + 1))[m]? = some (p : Int) := by
    intro m
    induction m with
    | zero => rfl
    | succ n ih => rw [desc, List.getElem?_cons_succ]; exact ih
  rw [List.getD_eq_getElem?_getD, h]; rfl
end Mine
end

section
open PySem PySem.W PyProof.Rows PySem.Calls PySem.Spec
set_option Elab.async false
namespace Mine
set_option maxRecDepth 100000
set_option maxHeartbeats 8000000
local macro_rules | `(tactic| walk_at "pyIter ref") => `(tactic| refine stopIter ?_)
theorem quot_mul (p m : Nat) : Txt.mul (Str.ofString "\"") (((p + m : Nat) : Int) - (p : Int)) = qts m := by
  rw [show (((p + m : Nat) : Int) - (p : Int)) = (m : Int) by omega]; exact mul_qts m
theorem stopEnd {h₀ : Heap} {L I : Addr} {it : Obj} {rest : (Str → Option Value) → List (Addr × Obj) → Prop} {s₁ s₂ : Shared} (h : Stop (UnrEnd h₀ L s₁ I it rest s₂)) : UnrEnd h₀ L s₁ I it rest s₂ := h
local macro_rules | `(tactic| walk_at "UnrEnd") => `(tactic| refine stopEnd ?_)
local macro_rules | `(tactic| walk_at "call ref") => `(tactic| (k_here; refine stopAny ?_))
local macro_rules | `(tactic| walk_at "compareOp NotEq ref ref") => `(tactic| (k_here; k_dflt (first | (refine' ne_len ?a ?b ?c ?u ?_; (case a => is_list); (case b => is_list); (case c => first | (simp only [List.size_toArray, List.length_nil]; omega) | decide); (case u => ktr_units); k_whole))))
local macro_rules | `(tactic| walk_at "binaryOp Mult str int") => `(tactic| (rw [desc_last]; refine SB.mul (mulOk_of 16 1048576 (by decide) (by omega) (by omega) (by decide) (by decide)) ?_; intro _ _; rw [quot_mul]))
variable {w : World} {mean : ExcName → Option Value} {mg mb : Str → Option Value}
theorem small_up {n : Nat} {a : Int} (ha : 0 ≤ a ∧ a < 100) (hn : n < 100) : Builtin.Range.small a ((n : Int) + 1) 1 = true := by
  unfold Builtin.Range.small Builtin.Range.rangeFitsLong Builtin.Range.rangeSize
  simp
  omega
theorem size_up {n : Nat} (hn : n < 100) : Builtin.Range.rangeSize 5 ((n : Int) + 1) 1 = ((n - 4 : Nat) : Int) := by
  unfold Builtin.Range.rangeSize
  simp
  omega
theorem duename {x : Str} {t : Tok} (hx : x.length ≤ 60) (h5 : 5 ≤ x.length) (hc : (Txt.slice x none (some 3) != Str.ofString "257") = false) (hpr : (Txt.slice x (some 3) (some 5) == Str.ofString " \"") = true) :
    Tell0 w mean mg mb 114 [.str x t] (fun _ => True) (fun r tl => tl = [] ∧ ∃ u, r = .str (nm x 5) u) := by
  unfold Tell0
  intro dp un gd cn cs a ccd cl A₀ h₀ L m news s Q E X B F N T hk hd hu hp hret
  refine wpAny_call ?_
  k_dflt (refine' code_1S (A := ktrTop dp un gd cn cs L a ccd cl []) (pre := fun _ => True) ?k1 ?k2 ?k3 ?k4 ?k5 ?kA ?kF ?kK ?kp ?k6 ?k7 ?k8 ?k9 ?kB ?_ ?c2 ?c3 ?c4 ?c5; (case kA => exact rfl); (case kF => exact rfl); (case kK => assumption); (case k1 => k_asm); (case k2 => k_asm); (case k3 => k_asm); (case k4 => k_asm); (case k5 => k_asm); (case kp => exact hp); (case k6 => k_is); (case k7 => k_is); (case k8 => ktr_room); (case k9 => exact BindsTo.of_eq rfl); (case c5 => decide); (case kB => exact locs rfl); (case c2 => exact rfl); (case c3 => exact rfl); (case c4 => exact rfl); k_whole; intro g' L' h' hp' FG' F' N' B' X' T' D'; (try dsimp only); (try k_fold))
  k_steps
  (with_reducible show Stop _)
  unfold Stop
  (with_reducible rename IsRange _ _ _ _ _ _ _ _ => isR)
  (with_reducible rename Fr g' L' _ _ => F6)
  (with_reducible rename News g' L' _ _ => N6)
  refine iter_rangeUnr (n := x.length - 4) rfl isR ?small ?size F6 N6 (fun I hI => range_by (fun i m0 nx => Stop (∃ (p mq : Nat) (name : Str) (tn : Tok) (R : Addr) (vs : List Value) (c : Nat), p + mq = 5 + i ∧ name.length ≤ p ∧ Knows m0 [(Str.ofString "stretch", .ref R), (Str.ofString "name", .str name tn), (Str.ofString "reply", .str x t)] ∧ (R, W.listOf vs.toArray c) ∈ nx ∧
    IntsAre vs (desc p mq) ∧ (∀ j, j < mq → sg x (p + j) = qt) ∧ name ++ nm x p = nm x 5)) ?turn ?done (x.length - 4) 0 _ _ (Nat.zero_add _) ?start)
  case small => exact small_up (by omega) (by omega)
  case size => exact size_up (by omega)
  case start => exact ⟨5, 0, e0, _, _, [], 0, rfl, Nat.zero_le _, ⟨rfl, rfl, rfl, trivial⟩, .head _, .nil, fun j hj => by omega, e0_app _⟩
  case turn =>
    rintro i m0 nx ti h tk' hi ⟨p, mq, name, tn, R, vs, c, hpm, hnl, hkn, hR, his, hqs, hnm⟩ F9 N9
    replace F9 : Fr g' L' h _ := fr_kn1 F9 hkn
    dsimp only [kn] at F9
    have N8 : News g' L' h [(I, itR (5 + ((i + 1 : Nat) : Int)) (((x.length - 4 : Nat) : Int) - ((i + 1 : Nat) : Int))), (R, W.listOf vs.toArray c)] := fun q hq => by
      rcases List.mem_cons.mp hq with rfl | hq
      · exact N9 _ (.head _)
      · rcases List.mem_cons.mp hq with rfl | hq
        · exact N9 _ (.tail _ hR)
        · cases hq
    clear F6 N6 isR N9
    have hvl := his.length
    rw [desc_len] at hvl
    have hi5 : 5 + i ≤ x.length := by omega
    have hsg : sg x (5 + i) = Txt.slice x (some (5 + (i : Int))) (some (5 + (i : Int) + 1)) := by unfold sg; rw [Int.natCast_add]; rfl
    have hs1 : (Txt.slice x (some (5 + (i : Int))) (some (5 + (i : Int) + 1))).length ≤ 1 := by rw [← hsg]; exact sg_le hi5
    have hI0 : R ≠ I := fun q => by
      have h1 := (N8 _ (.head _)).1
      have h2 := (N8 _ (.tail _ (.head _))).1
      dsimp only at h1 h2
      rw [q, h1] at h2
      exact absurd (congrArg Obj.cls (Option.some.inj h2)) (by show ¬ (Value.type "range_iterator" = Value.type "list"); simp)
    have hpi : ((5 + i : Nat) : Int) = 5 + (i : Int) := by rw [Int.natCast_add]; rfl
    rcases mq with _ | mq
    · obtain rfl : vs = [] := List.length_eq_zero_iff.mp (by omega)
      k_steps
      all_goals (with_reducible show Stop _)
      all_goals unfold Stop
      all_goals (with_reducible rename News _ _ _ ((_, _) :: _) => kN)
      all_goals (with_reducible rename Fr g' L' _ _ => kF)
      · (with_reducible rename ((Txt.slice x (some (5 + _)) _) == _) = true => hq)
        have hq' : sg x (5 + i) = qt := by rw [hsg]; exact eq_of_beq hq
        refine UnrEnd.intro2 kF kN [_] ?cI ?cS ?cO ⟨p, 1, name, _, _, [.int (5 + (i : Int)) ti], 0, by omega, hnl, ⟨rfl, rfl, rfl, trivial⟩, .head _, ?cK, fun j hj => ?cQ, hnm⟩
        case cK => rw [show desc p 1 = [((p + 0 : Nat) : Int)] from rfl, show ((p + 0 : Nat) : Int) = 5 + (i : Int) by omega]; exact .cons _ _ .nil
        case cQ => rw [show p + j = 5 + i by omega]; exact hq'
        case cI => k_mem
        case cS => k_subL
        case cO => k_clsL
      · (with_reducible rename ((Txt.slice x (some (5 + _)) _) == _) = false => hq)
        have hq' : sg x p ≠ qt := by
          rw [show p = 5 + i by omega, hsg]; intro e; rw [e] at hq; exact absurd hq (by decide +kernel)
        have hnm' : name ++ Txt.slice x (some (5 + (i : Int))) (some (5 + (i : Int) + 1)) ++ nm x (p + 1) = nm x 5 := by
          rw [← hsg, show 5 + i = p by omega, app_assoc, ← nm_sign (by omega) hq']; exact hnm
        refine UnrEnd.intro2 kF kN [_] ?cI ?cS ?cO ⟨p + 1, 0, _, _, R, [], c, by omega, by omega, ⟨rfl, rfl, rfl, trivial⟩, .head _, .nil, fun j hj => by omega, hnm'⟩
        case cI => k_mem
        case cS => k_subL
        case cO => k_clsL
    · have hq9 := qts_len (Nat.succ mq / 2)
      k_steps
      · (with_reducible show Stop _)
        unfold Stop
        (with_reducible rename News _ _ _ ((_, _) :: _) => kN)
        (with_reducible rename Fr g' L' _ _ => kF)
        (with_reducible rename ((Txt.slice x (some (5 + _)) _) == _) = true => hq)
        have hq' : sg x (5 + i) = qt := by rw [hsg]; exact eq_of_beq hq
        refine UnrEnd.intro2 kF kN [_] ?cI ?cS ?cO ⟨p, mq + 2, name, _, _, .int (5 + (i : Int)) ti :: vs, 0, by omega, hnl, ⟨rfl, rfl, rfl, trivial⟩, .head _, ?cK, fun j hj => ?cQ, hnm⟩
        case cK => rw [show desc p (mq + 2) = ((p + (mq + 1) : Nat) : Int) :: desc p (mq + 1) from rfl, show ((p + (mq + 1) : Nat) : Int) = 5 + (i : Int) by omega]; exact .cons _ _ his
        case cQ =>
          rcases Nat.lt_or_ge j (mq + 1) with h1 | h1
          · exact hqs j h1
          · rw [show p + j = 5 + i by omega]; exact hq'
        case cI => k_mem
        case cS => k_subL
        case cO => k_clsL
      · ((with_reducible show Stop _); unfold Stop; k_dflt (refine' mhigh_use (News.isList (by k_asm) (by k_mem)) (by assumption) (by k_asm) (by k_asm) (by k_asm) (by k_asm) (by k_asm) rfl (by ktr_room) (by ktr_units) (by rw [desc_len]; omega) (by rw [desc_len]; omega) ?_; k_whole); intro k9 t9 ns9 h9 tk9 F9 N9 pm9 ps9 at9; (try dsimp only)); (have hk9 := desc_high (Nat.succ_pos _) pm9 ps9 at9); subst hk9; (try dsimp only)
        k_steps
        ((with_reducible show Stop _); unfold Stop; k_dflt (refine' mlow_use (News.isList (by k_asm) (by k_mem)) (by assumption) (by k_asm) (by k_asm) (by k_asm) (by k_asm) (by k_asm) rfl (by ktr_room) (by ktr_units) (by rw [desc_len]; omega) (by rw [desc_len]; omega) ?_; k_whole); intro k9 t9 ns9 h9 tk9 F9 N9 pm9 ps9 at9; (try dsimp only)); (have hk9 := desc_low (Nat.succ_pos _) pm9 ps9 at9); subst hk9; (try dsimp only)
        k_steps
        · (with_reducible rename ((Txt.slice x (some (5 + _)) _) == _) = false => hq)
          have hq' : sg x (p + (mq + 1)) ≠ qt := by
            rw [hpm, hsg]; intro e; rw [e] at hq; exact absurd hq (by decide +kernel)
          have hnq := nm_quotes (mq + 1) p (by omega) hqs hq'
          (with_reducible rename ((p + ite _ _ _ : Nat) : Int) = _ => hlow)
          have hodd : (mq + 1) % 2 = 1 := by
            rcases Nat.mod_two_eq_zero_or_one (mq + 1) with h1 | h1
            · rw [if_neg (by show ¬ (mq + 1) % 2 = 1; omega)] at hlow
              have : mq.succ / 2 ≠ 0 := by show (mq + 1) / 2 ≠ 0; omega
              omega
            · exact h1
          rw [if_pos hodd, app_e0] at hnq
          rw [hnq] at hnm
          intro hN
          (with_reducible rename News h₀ L _ (_ :: _) => kN)
          exact hret _ [] _ _ (by k_asm) (news_both News.nil N hN) ⟨rfl, _, by rw [← hnm]⟩
        · (with_reducible show Stop _)
          unfold Stop
          (with_reducible rename News _ _ _ ((_, _) :: _) => kN)
          (with_reducible rename Fr g' L' _ _ => kF)
          (with_reducible rename ((Txt.slice x (some (5 + _)) _) == _) = false => hq)
          have hq' : sg x (p + (mq + 1)) ≠ qt := by
            rw [hpm, hsg]; intro e; rw [e] at hq; exact absurd hq (by decide +kernel)
          have hnq := nm_quotes (mq + 1) p (by omega) hqs hq'
          (with_reducible rename ((p + ite _ _ _ : Nat) : Int) ≠ _ => hlow)
          have heven : ¬ (mq + 1) % 2 = 1 := by
            intro h1
            rw [if_pos (by show (mq + 1) % 2 = 1; exact h1)] at hlow
            exact hlow rfl
          rw [if_neg heven, nm_sign (by omega) hq'] at hnq
          have hnm' : name ++ qts (mq.succ / 2) ++ Txt.slice x (some (5 + (i : Int))) (some (5 + (i : Int) + 1)) ++ nm x (p + (mq + 1) + 1) = nm x 5 := by
            rw [← hnm, hnq, ← hsg, ← hpm, app_assoc, app_assoc]
          have hd2 : mq.succ / 2 ≤ mq + 1 := by show (mq + 1) / 2 ≤ mq + 1; omega
          refine UnrEnd.intro2 kF kN [_] ?cI ?cS ?cO ⟨p + (mq + 1) + 1, 0, _, _, _, [], 0, by omega, by omega, ⟨rfl, rfl, rfl, trivial⟩, .head _, .nil, fun j hj => by omega, hnm'⟩
          case cI => k_mem
          case cS => k_subL
          case cO => k_clsL
  case done =>
    rintro m0 nx h tk' ⟨p, mq, name, tn, R, vs, c, hpm, hnl, hkn, hR, his, hqs, hnm⟩ F9 N9
    replace F9 : Fr g' L' h _ := fr_kn F9 hkn
    replace N9 : News g' L' h _ := N9
    dsimp only [kn] at F9
    clear F6 N6 isR
    dsimp only
    have hm0 : mq = 0 := by
      rcases mq with _ | mq
      · rfl
      · have := hqs mq (by omega)
        rw [show p + mq = x.length by omega, sg_out] at this
        exact absurd this e0_ne
    subst hm0
    rw [nm_end (by omega), app_e0] at hnm
    k_steps
    intro hN
    exact hret _ [] _ _ (by k_asm) (news_both News.nil N hN) ⟨rfl, _, by rw [← hnm]⟩
end Mine
end

section
open PySem PySem.W PyProof.Rows PySem.Calls PySem.Spec
set_option Elab.async false
namespace Mine
set_option maxRecDepth 100000
set_option maxHeartbeats 8000000
local macro_rules | `(tactic| walk_at "call type:str") => `(tactic| (k_here; (with_reducible show wpAny _ _ (call (Value.type "str") [Value.ref _]) _ _ _); k_dflt (refine' own_str ?u (own_of ?X (Fr.keep ?F) ?N ?G ?hs ?hb) ?_; (case G => assumption); (case X => k_asm); (case F => k_asm); (case N => k_asm); (case hs => k_is); (case hb => k_is); (case u => ktr_units); k_whole)))
variable {w : World} {mean : ExcName → Option Value} {mg mb : Str → Option Value}
theorem duename_code {x : Str} {t : Tok} (hx : x.length ≤ 60) (hc : (Txt.slice x none (some 3) != Str.ofString "257") = true) :
    Tell0 w mean mg mb 114 [.str x t] (fun _ => True) (fun r tl => ∃ R c u, r = .ref R ∧ tl = [(R, W.listOf #[.str (Str.ofString "code") u, .str x t] c)]) := by
  unfold Tell0
  intro dp un gd cn cs a ccd cl A₀ h₀ L m news s Q E X B F N T hk hd hu hp hret
  refine wpAny_call ?_
  k_dflt (refine' code_1S (A := ktrTop dp un gd cn cs L a ccd cl []) (pre := fun _ => True) ?k1 ?k2 ?k3 ?k4 ?k5 ?kA ?kF ?kK ?kp ?k6 ?k7 ?k8 ?k9 ?kB ?_ ?c2 ?c3 ?c4 ?c5; (case kA => exact rfl); (case kF => exact rfl); (case kK => assumption); (case k1 => k_asm); (case k2 => k_asm); (case k3 => k_asm); (case k4 => k_asm); (case k5 => k_asm); (case kp => exact hp); (case k6 => k_is); (case k7 => k_is); (case k8 => ktr_room); (case k9 => exact BindsTo.of_eq rfl); (case c5 => decide); (case kB => exact locs rfl); (case c2 => exact rfl); (case c3 => exact rfl); (case c4 => exact rfl); k_whole; intro g' L' h' hp' FG' F' N' B' X' T' D'; (try dsimp only); (try k_fold))
  k_steps
  intro hN
  (with_reducible rename News h₀ L _ (_ :: _) => kN)
  exact hret _ [_] _ _ (by k_asm) (news_both (fun p hp => kN p (by rcases List.mem_singleton.mp hp with rfl; exact .head _)) N hN) ⟨_, _, _, rfl, rfl⟩
theorem duename_none {x : Str} {t : Tok} (hx : x.length ≤ 60) (hc : (Txt.slice x none (some 3) != Str.ofString "257") = false) (hpr : (Txt.slice x (some 3) (some 5) == Str.ofString " \"") = false) :
    Tell0 w mean mg mb 114 [.str x t] (fun _ => True) (fun r tl => tl = [] ∧ ∃ u, r = .str e0 u) := by
  unfold Tell0
  intro dp un gd cn cs a ccd cl A₀ h₀ L m news s Q E X B F N T hk hd hu hp hret
  refine wpAny_call ?_
  k_dflt (refine' code_1S (A := ktrTop dp un gd cn cs L a ccd cl []) (pre := fun _ => True) ?k1 ?k2 ?k3 ?k4 ?k5 ?kA ?kF ?kK ?kp ?k6 ?k7 ?k8 ?k9 ?kB ?_ ?c2 ?c3 ?c4 ?c5; (case kA => exact rfl); (case kF => exact rfl); (case kK => assumption); (case k1 => k_asm); (case k2 => k_asm); (case k3 => k_asm); (case k4 => k_asm); (case k5 => k_asm); (case kp => exact hp); (case k6 => k_is); (case k7 => k_is); (case k8 => ktr_room); (case k9 => exact BindsTo.of_eq rfl); (case c5 => decide); (case kB => exact locs rfl); (case c2 => exact rfl); (case c3 => exact rfl); (case c4 => exact rfl); k_whole; intro g' L' h' hp' FG' F' N' B' X' T' D'; (try dsimp only); (try k_fold))
  k_steps
  intro hN
  exact hret _ [] _ _ (by k_asm) (news_both News.nil N hN) ⟨rfl, _, rfl⟩
theorem name_code {x : Str} {t : Tok} (hx : x.length ≤ 60) (hc : (Txt.slice x none (some 3) != Str.ofString "257") = true) :
    Tell0 w mean mg mb 133 [.str x t] (fun _ => True) (fun r tl => ∃ R c u u', r = .ref R ∧ tl = [(R, W.listOf #[.str (Str.ofString "code") u, .str x u'] c)]) := by
  unfold Tell0
  intro dp un gd cn cs a ccd cl A₀ h₀ L m news s Q E X B F N T hk hd hu hp hret
  refine wpAny_call ?_
  k_dflt (refine' code_1S (A := ktrTop dp un gd cn cs L a ccd cl []) (pre := fun _ => True) ?k1 ?k2 ?k3 ?k4 ?k5 ?kA ?kF ?kK ?kp ?k6 ?k7 ?k8 ?k9 ?kB ?_ ?c2 ?c3 ?c4 ?c5; (case kA => exact rfl); (case kF => exact rfl); (case kK => assumption); (case k1 => k_asm); (case k2 => k_asm); (case k3 => k_asm); (case k4 => k_asm); (case k5 => k_asm); (case kp => exact hp); (case k6 => k_is); (case k7 => k_is); (case k8 => ktr_room); (case k9 => exact BindsTo.of_eq rfl); (case c5 => decide); (case kB => exact locs rfl); (case c2 => exact rfl); (case c3 => exact rfl); (case c4 => exact rfl); k_whole; intro g' L' h' hp' FG' F' N' B' X' T' D'; (try dsimp only); (try k_fold))
  k_steps
  intro hN
  (with_reducible rename News h₀ L _ (_ :: _) => kN)
  exact hret _ [_] _ _ (by k_asm) (news_both (fun p hp => kN p (by rcases List.mem_singleton.mp hp with rfl; exact .head _)) N hN) ⟨_, _, _, _, rfl, rfl⟩
theorem name_none {x : Str} {t : Tok} (hx : x.length ≤ 60) (hc : (Txt.slice x none (some 3) != Str.ofString "257") = false) (hpr : (Txt.slice x (some 3) (some 5) != Str.ofString " \"") = true) :
    Tell0 w mean mg mb 133 [.str x t] (fun _ => True) (fun r tl => tl = [] ∧ ∃ u, r = .str e0 u) := by
  unfold Tell0
  intro dp un gd cn cs a ccd cl A₀ h₀ L m news s Q E X B F N T hk hd hu hp hret
  refine wpAny_call ?_
  k_dflt (refine' code_1S (A := ktrTop dp un gd cn cs L a ccd cl []) (pre := fun _ => True) ?k1 ?k2 ?k3 ?k4 ?k5 ?kA ?kF ?kK ?kp ?k6 ?k7 ?k8 ?k9 ?kB ?_ ?c2 ?c3 ?c4 ?c5; (case kA => exact rfl); (case kF => exact rfl); (case kK => assumption); (case k1 => k_asm); (case k2 => k_asm); (case k3 => k_asm); (case k4 => k_asm); (case k5 => k_asm); (case kp => exact hp); (case k6 => k_is); (case k7 => k_is); (case k8 => ktr_room); (case k9 => exact BindsTo.of_eq rfl); (case c5 => decide); (case kB => exact locs rfl); (case c2 => exact rfl); (case c3 => exact rfl); (case c4 => exact rfl); k_whole; intro g' L' h' hp' FG' F' N' B' X' T' D'; (try dsimp only); (try k_fold))
  k_steps
  intro hN
  exact hret _ [] _ _ (by k_asm) (news_both News.nil N hN) ⟨rfl, _, rfl⟩
theorem stopWhile {prog : Program} {w : World} {A : Around} {E : Value → Shared → Prop} {s : Shared} {env : Env} {st : Stmt} {Q : Flow → Shared → Prop} (h : Stop (wpAny (model prog w) A (exec st env) Q E s)) : wpAny (model prog w) A (exec st env) Q E s := h
local macro_rules | `(tactic| walk_at "exec While") => `(tactic| refine stopWhile ?_)
theorem stopStep {h₀ : Heap} {L : Addr} {s : Shared} {J : Nat → (Str → Option Value) → List (Addr × Obj) → Prop} {Q : Flow → Shared → Prop} {n : Nat} {f : Flow} {s₃ : Shared} (h : Stop (WhileStep2 h₀ L s J Q n f s₃)) : WhileStep2 h₀ L s J Q n f s₃ := h
local macro_rules | `(tactic| walk_at "WhileStep2") => `(tactic| refine stopStep ?_)
theorem name_ok {x : Str} {t : Tok} (hx : x.length ≤ 60) (h5 : 5 ≤ x.length) (hc : (Txt.slice x none (some 3) != Str.ofString "257") = false) (hpr : (Txt.slice x (some 3) (some 5) != Str.ofString " \"") = false) :
    Tell0 w mean mg mb 133 [.str x t] (fun _ => True) (fun r tl => tl = [] ∧ ∃ u, r = .str (nm x 5) u) := by
  unfold Tell0
  intro dp un gd cn cs a ccd cl A₀ h₀ L m news s Q E X B F N T hk hd hu hp hret
  refine wpAny_call ?_
  k_dflt (refine' code_1S (A := ktrTop dp un gd cn cs L a ccd cl []) (pre := fun _ => True) ?k1 ?k2 ?k3 ?k4 ?k5 ?kA ?kF ?kK ?kp ?k6 ?k7 ?k8 ?k9 ?kB ?_ ?c2 ?c3 ?c4 ?c5; (case kA => exact rfl); (case kF => exact rfl); (case kK => assumption); (case k1 => k_asm); (case k2 => k_asm); (case k3 => k_asm); (case k4 => k_asm); (case k5 => k_asm); (case kp => exact hp); (case k6 => k_is); (case k7 => k_is); (case k8 => ktr_room); (case k9 => exact BindsTo.of_eq rfl); (case c5 => decide); (case kB => exact locs rfl); (case c2 => exact rfl); (case c3 => exact rfl); (case c4 => exact rfl); k_whole; intro g' L' h' hp' FG' F' N' B' X' T' D'; (try dsimp only); (try k_fold))
  k_steps
  (with_reducible show Stop _)
  unfold Stop
  (with_reducible rename Fr _ _ _ _ => F6)
  (with_reducible rename News _ _ _ _ => N6)
  refine While_inv2 (fun n m1 nx => ∃ (i : Nat) (d : Str) (ti td tn tx : Tok), nx = [] ∧ Knows m1 [(Str.ofString "n", .int (x.length : Int) tn), (Str.ofString "i", .int (i : Int) ti), (Str.ofString "dirname", .str d td), (Str.ofString "resp", .str x tx)] ∧
    i ≤ x.length ∧ d.length ≤ i ∧ n = x.length - i ∧ d ++ nm x i = nm x 5) (n₀ := x.length - 5) F6 N6 ?start ?turn
  case start => exact ⟨5, e0, _, _, _, _, rfl, ⟨rfl, rfl, rfl, rfl, trivial⟩, h5, Nat.zero_le _, rfl, e0_app _⟩
  case turn =>
    rintro n m1 nx h tk F9 N9 ⟨i, d, ti, td, tn, tx, rfl, hkn, hi, hdl, rfl, hnm⟩
    replace F9 := fr_kn F9 hkn
    dsimp only [kn] at F9
    clear F6 N6
    have hqi : ∀ j : Nat, j < x.length → (Txt.item x (j : Int) == Str.ofString "\"") = true → sg x j = qt := fun j hj h => by rw [sg_in hj]; exact eq_of_beq h
    have hqn : ∀ j : Nat, j < x.length → (Txt.item x (j : Int) == Str.ofString "\"") = false → sg x j ≠ qt := fun j hj h e => by rw [sg_in hj] at e; rw [e] at h; exact absurd h (by decide +kernel)
    have hi1 : ((i + 1 : Nat) : Int) = (i : Int) + 1 := Int.natCast_succ i
    k_steps
    · (with_reducible rename (Txt.item x _ == _) = true => hq)
      have hq' := hqi i (by omega) hq
      rw [nm_one hq' (by rw [show i + 1 = x.length by omega, sg_out]; exact e0_ne), app_e0] at hnm
      unfold Stop
      unfold WhileStep2
      dsimp only
      k_steps
      intro hN
      exact hret _ [] _ _ (by k_asm) (news_both News.nil N hN) ⟨rfl, _, by rw [← hnm]⟩
    · (with_reducible rename (Txt.item x _ == _) = true => hq)
      (with_reducible rename (Txt.item x _ != _) = true => hq1)
      have hq' := hqi i (by omega) hq
      have hq1' := hqn (i + 1) (by omega) (by rw [hi1]; simpa [bne] using hq1)
      rw [nm_one hq' hq1', app_e0] at hnm
      unfold Stop
      unfold WhileStep2
      dsimp only
      k_steps
      intro hN
      exact hret _ [] _ _ (by k_asm) (news_both News.nil N hN) ⟨rfl, _, by rw [← hnm]⟩
    · (with_reducible rename (Txt.item x _ == _) = true => hq)
      (with_reducible rename (Txt.item x _ != _) = false => hq1)
      have hq' := hqi i (by omega) hq
      have hq1' := hqi (i + 1) (by omega) (by rw [hi1]; simpa [bne] using hq1)
      rw [nm_two (by omega) hq' hq1', ← app_assoc] at hnm
      have hit : Txt.item x (i : Int) = qt := eq_of_beq hq
      unfold Stop
      unfold WhileStep2
      dsimp only
      (with_reducible rename Fr _ _ _ (fun y => if y = Str.ofString "dirname" then _ else _) => kF)
      (with_reducible rename News _ _ _ [] => kN)
      exact ⟨_, _, _, _, x.length - (i + 2), rfl, kF, kN, by omega, i + 2, d ++ Txt.item x (i : Int), _, _, _, _, rfl, ⟨rfl, rfl, rfl, rfl, trivial⟩, by omega, by omega, rfl, by rw [hit]; exact hnm⟩
    · (with_reducible rename (Txt.item x _ == _) = false => hq)
      have hq' := hqn i (by omega) hq
      rw [nm_sign (by omega) hq', ← app_assoc, sg_in (by omega)] at hnm
      unfold Stop
      unfold WhileStep2
      dsimp only
      (with_reducible rename Fr _ _ _ (fun y => if y = Str.ofString "dirname" then _ else _) => kF)
      (with_reducible rename News _ _ _ [] => kN)
      exact ⟨_, _, _, _, x.length - (i + 1), rfl, kF, kN, by omega, i + 1, d ++ Txt.item x (i : Int), _, _, _, _, rfl, ⟨rfl, rfl, rfl, rfl, trivial⟩, by omega, by omega, rfl, hnm⟩
    · rw [nm_end (by omega), app_e0] at hnm
      intro hN
      exact hret _ [] _ _ (by k_asm) (news_both News.nil N hN) ⟨rfl, _, by rw [← hnm]⟩
end Mine
end

section
open PySem PySem.W PyProof.Rows PySem.Calls PySem.Spec
set_option Elab.async false
namespace Mine
set_option maxRecDepth 100000
set_option maxHeartbeats 4000000
section
variable {prog : Program} {w : World} {A₀ : Around} {E : Value → Shared → Prop} {s' : Shared} {base g g₀ G : Heap} {outer : List Env} {L t C e : Addr} {m : Str → Option Value} {env : Env} {vs : List Value}
  {b₀ : Stmt} {suite : List Stmt} {pos np : Pos} {rest : List ExceptHandler} {Q : Flow → Shared → Prop} {news : List (Addr × Obj)} {KF : Frag}
  {p : Program} {loose : List Str} {mean : ExcName → Option Value} {mg mb : Str → Option Value} {x : Str}
theorem caught_own (hf : env.frame = some L) (R : RaisedS base G (env :: outer) e (.ref C) t vs news s'.heap) (F : Fr g L G m) (K : Below A₀ base outer g) (hsm : G.UpToSlots s'.heap) (XB : KF.In base) (TB : Top p loose mean mg mb base)
    (D : KtsDicts (outer.filterMap (·.frame)) g) (T0 : KtsTurn (outer.filterMap (·.frame)) g₀ g) (q : ktsIn KF C "BaseException" = true)
    (hname : ∀ g₅ s₅ Q' E', Fr g₅ L s₅.heap m → KF.In g₅ → TopRead p loose mg mb g₅ → Q' (.ref C) s₅ → wpAny (model prog w) ((A₀.deeper env).mark (some (.ref e))) (eval (.Name x np) env) Q' E' s₅)
    (k : ∀ h' g', KtsTurn (outer.filterMap (·.frame)) g₀ g' → Fr g' L h' m → News g' L h' news → Below A₀ base outer g' → KF.In g' → Top p loose mean mg mb g' → KtsDicts (outer.filterMap (·.frame)) g' →
      wpAny (model prog w) ((A₀.deeper env).mark (some (.ref e))) (execs (b₀ :: suite) env) Q E { s' with heap := h' })
    (hE : PassesOwnAt (model prog w) ((A₀.deeper env).mark (some (.ref e))) (A₀.deeper env) env E) :
    wpAny (model prog w) (A₀.deeper env) (noteFrame (.ref e) env) (fun _ s₂ => wpAny (model prog w) (A₀.deeper env) (setFlight (.ref e) none) (fun _ s₃ =>
        wpAny (model prog w) (A₀.deeper env) (handleBy (.ref e) env (.ExceptHandler (some (.Name x np)) none (b₀ :: suite) pos :: rest)) Q E s₃) E s₂) E s' := by
  obtain ⟨⟨B, hB, hBG, hl, hfl, hnew⟩, htup⟩ := R
  have hL : B.get? L = none := by
    obtain ⟨_, ⟨L', _, hf', hn', _⟩, _⟩ := hfl.2.2.1
    rw [hf] at hf'
    obtain rfl : L = L' := Option.some.inj hf'
    exact hn'
  refine wpAny_looks_onW (Around.frames_deeper K.stack) hf hfl fun h₄ hheld₄ hsm₄ => ?_
  refine wpAny_landsW hheld₄ fun h₅ hheld hsm₅' => ?_
  have hsm₅ := hsm₄.trans hsm₅'
  obtain ⟨g₅, T₅, F₅, K₅⟩ := ground_of hf K F hBG hheld.1 (hsm.trans hsm₅)
  have X₅ : KF.In g₅ := XB.keeps K₅.stays
  have P₅ : TopRead p loose mg mb g₅ := topRead_of (TB.keeps K₅.stays)
  obtain ⟨ob, hob, hobc⟩ := hheld.there
  obtain ⟨nm, q', N, bs, bm, hdct, sn, sub, ab, col, dd, k0, k1, k2, k3, k5, newId, hC, hbase, hbT⟩ := kts_cls X₅ q
  have hC₅ := F₅.keep _ _ hC
  refine wpAny_handleBy_cons (codeAny_handlers_test (hname g₅ _ _ _ F₅ X₅ P₅ ?_)) (by intro q; cases q)
  refine wpAny_excMatches_sub_self hC₅ hob hobc hbase (codeAny_handlers_suite ?_)
  refine lands_againW hheld fun h₆ hfl₆ hsm₆ => ?_
  obtain ⟨g₆, T₆, F₆, K₆⟩ := ground_of hf K F hBG hfl₆.1 ((hsm.trans hsm₅).trans hsm₆)
  have Nl : News g₆ L h₆ news := fun q hq => ⟨hfl₆.1 _ _ (hl q hq).1, (fun z => by have := (hl q hq).1; rw [z, hL] at this; cases this), T₆.none_ _ (kts_none F.keep (hl q hq).2.1)⟩
  have X₆ : KF.In g₆ := XB.keeps K₆.stays
  have P₆ : Top p loose mean mg mb g₆ := TB.keeps K₆.stays
  have D₆ : KtsDicts (outer.filterMap (·.frame)) g₆ := D.turn T₆
  exact wpAny_passesOwnAt hE (k h₆ g₆ (T0.trans T₆) F₆ Nl K₆ X₆ P₆ D₆)
end
end Mine
end

section
open PySem PySem.W PyProof.Rows PySem.Calls PySem.Spec
set_option Elab.async false
namespace Mine
set_option maxRecDepth 100000
set_option maxHeartbeats 8000000
local macro_rules | `(tactic| walk_at "exec Try") => `(tactic| refine wpAny_Try_except ?_)
variable {w : World} {mean : ExcName → Option Value} {mg mb : Str → Option Value}
theorem fields0 {t : Tok} :
    Tell0 w mean mg mb 119 [.str (Str.ofString "") t] (fun _ => True) (fun r tl => ∃ R c, r = .ref R ∧ tl = [(R, W.listOf #[] c)]) := by
  unfold Tell0
  intro dp un gd cn cs a ccd cl A₀ h₀ L m news s Q E X B F N T hk hd hu hp hret
  refine wpAny_call ?_
  k_dflt (refine' code_1C (A := ktrTop dp un gd cn cs L a ccd cl []) (pre := fun _ => True) ?k1 ?k2 ?k3 ?k4 ?k5 ?kA ?kF ?kK ?kp ?k6 ?k7 ?k8 ?k9 ?kB ?kD ?_ ?c2 ?c3 ?c4; (case kA => exact rfl); (case kF => exact rfl); (case kK => assumption); (case k1 => k_asm); (case k2 => k_asm); (case k3 => k_asm); (case k4 => k_asm); (case k5 => k_asm); (case kp => exact hp); (case k6 => k_is); (case k7 => k_is); (case k8 => ktr_room); (case k9 => exact BindsTo.of_eq rfl); (case kB => exact rfl); (case kD => decide +kernel); (case c2 => exact rfl); (case c3 => exact rfl); (case c4 => exact rfl); k_whole; intro g' L' h' tk' cells' hp' FG' F' N' Y' B' X' T' D'; k_cells Y'; (try simp only [List.cons_append, List.nil_append] at N'); (try dsimp only); (try k_fold))
  refine cut_any 1 ?_
  dsimp only [List.take, List.drop]
  try k_fold
  k_steps
  show wpAny _ _ _ _ _ _
  refine cut_any 2 ?_
  dsimp only [List.take, List.drop]
  try k_fold
  k_steps
  show wpAny _ _ _ _ _ _
  (with_reducible rename IntsAre _ _ => i9)
  have i8 : IntsAre _ [] := i9
  cases i8
  clear i9
  refine cut_any 1 ?_
  dsimp only [List.take, List.drop]
  try k_fold
  k_steps
  · exfalso; omega
  k_dflt ((with_reducible rename RaisedS _ _ _ _ _ _ _ _ _ => rsX); refine' caught_own rfl rsX ?F ?K ?U ?XB ?TB ?D ?T0 ?q ?hname ?k ?hE; (case F => assumption); (case K => assumption); (case U => assumption); (case XB => assumption); (case TB => assumption); (case D => assumption); (case T0 => exact KtsTurn.refl); (case q => kts_isx); (case hname => exact fun g₅ s₅ Q' E' F5 X5 P5 q => nameX_K F5 X5 P5 (by k_is) q rfl rfl (by decide)); (case hE => passes_own); k_whole; intro h9 g9 T9 F9 N9 K9 X9 P9 D9; (try k_lift K9); (try k_sweep))
  k_steps
  intro hN
  (with_reducible rename News h₀ L _ ((_, W.listOf #[] _) :: _) => kN)
  exact hret _ [_] _ _ (by k_asm) (news_both (fun p hp => kN p (by rcases List.mem_singleton.mp hp with rfl; exact .head _)) N hN) ⟨_, _, rfl, rfl⟩
end Mine
end

section
open PySem PySem.W PyProof.Rows PySem.Calls PySem.Spec
set_option Elab.async false
namespace Mine
set_option maxRecDepth 100000
set_option maxHeartbeats 4000000
theorem enter_callC {M : Model} {A : Around} {s : Shared} {f : Value} {pos : List Value} {kw : List (Str × Value)} {c : ClaimW} {cl : Str → Option Addr} {mean : ExcName → Option Value} {args : List WData} {s₁ : Shared}
    (h : codeC M A (.call f ⟨pos, kw⟩) (GoodW c cl mean args s₁) s) : wpC M A (PySem.call f pos kw) (fun v s' => GoodWG c cl mean args s₁ (.ok (.ret v)) s') (fun e s' => GoodWG c cl mean args s₁ (.error e) s') s :=
  wpC_call (codeC_mono h fun res s' g0 => by
    have g := GoodW.toG g0
    rcases g.1 with ⟨v, _, _, rfl, _⟩ | ⟨e, _, _, rfl, _⟩ <;> exact g)
theorem call_cellsC {prog : Program} {w : World} {A : Around} {R : Result → Shared → Prop} {s : Shared} {name : Str} {params : Arguments} {body : List Stmt} {scope : Scope}
    {pm cd doc : Value} {a : Addr} {o : Obj} {args : List Value} {binds : List (Str × Value)}
    (hroom : A.depth < recursionLimit) (ho : s.heap.get? a = some o) (hdata : o.data = .func (Calls.docDef name params body scope pm cd doc)) (hlim : s.heap.NoLimit) (hcd : s.heap.CodeRec cd name)
    (hbind : bindArgs (Calls.docDef name params body scope pm cd doc) ⟨args, []⟩ = pure binds)
    (hkind : (binds.all fun y => scope.names.lookup y.1 == some .local || scope.names.lookup y.1 == some .cell) = true)
    (hnd : ((cellsFrom 0 scope.names []).map (·.1)).Nodup)
    (h : ∀ h₁ tk cells, Fr s.heap s.heap.objs.size h₁ (bindL (envOfC name scope s.heap.objs.size a cd).kindOf binds fun _ => none) → News s.heap s.heap.objs.size h₁ cells →
      CellsAre (bindC (envOfC name scope s.heap.objs.size a cd).kindOf binds fun _ => none) (cellsFrom (s.heap.objs.size + 1) scope.names []) cells →
      wpC (model prog w) (A.deeper (envOfC name scope s.heap.objs.size a cd)) (execs body (envOfC name scope s.heap.objs.size a cd))
        (fun f s' => R (.ok (.ret (match f with | .ret v => v | _ => .none))) s') (fun _ _ => False) { s with heap := h₁, toks := tk })
    (hco : scope.isCoroutine = false := by rfl) (hgen : scope.isGenerator = false := by rfl) (hk : scope.kind = .function := by rfl) :
    codeC (model prog w) A (.call (.ref a) ⟨args, []⟩) R s := by
  refine codeC_call (fd := Calls.docDef name params body scope pm cd doc) hroom ho hdata hco hgen rfl hcd ?_
  rw [hbind]
  refine wpAny_pure (wpAny_newFunctionEnv_cells hk (kindsX hkind _) fun env' he s' x => ?_)
  subst he
  refine ⟨hlim.keeps x.toInCall.keep, codeC_func ?_⟩
  obtain ⟨h₁, tk, rfl, _⟩ := x.done
  obtain ⟨cells, NC, Y⟩ := Cl.news (h₀ := s.heap) (Nat.le_refl _) fun n c hm => ⟨x.cell n c (lookup_of_mem_nodup (cellsFrom_names scope.names 0 (s.heap.objs.size + 1) [] [] rfl ▸ hnd) hm), x.above n c hm⟩
  exact wpC_mono (h h₁ tk cells ⟨x.toInCall.ns, x.toInCall.keep, Nat.le_refl _⟩ NC Y) (fun _ _ q => q) fun _ _ q => q.elim
end Mine
end

section
open PySem PySem.W PyProof.Rows PySem.Calls PySem.Spec PyProof.Rows.LCg PyProof.Rows.LCp
set_option Elab.async false
namespace Mine
set_option maxRecDepth 100000
set_option maxHeartbeats 4000000
def EndE (h₀ : Heap) (L : Addr) (m : Str → Option Value) (s₁ : Shared) (nws : List (Addr × Obj)) (q : Prop) (s : Shared) : Prop :=
  ∃ h' tk, s = { s₁ with heap := h', toks := tk } ∧ Fr h₀ L h' m ∧ News h₀ L h' nws ∧ q
section
variable {prog : Program} {w : World} {A : Around} {E : Value → Shared → Prop} {s : Shared} {h₀ : Heap} {L : Addr} {m : Str → Option Value} {env : Env}
theorem block_E {elt iter c : PySem.Expr} {x x₂ : Str} {px px₂ tp : Pos} {tk} {scope : Scope} {cl : List (Str × Addr)} {pos : Pos} {s₂ : Shared} {e it : Addr} {n : Nat} {P : Nat → Value → Prop} {St : Nat → Heap → Prop} {Mid : Nat → Addr → Heap → Prop} {news : List (Addr × Obj)}
    {RR : Value → Addr → Result → Shared → Prop}
    (W : WalksT prog w A e [e, it] [e, it] n (fun i vals => ∃ t y, P i y ∧ vals = #[.int i t, y]) St Mid) (hsz : n ≤ sizeLine) (hIo : ∀ i h, St i h → (∃ o, h.get? e = some o) ∧ ∃ o, h.get? it = some o)
    (hcell : ∀ y ∈ scope.names, y.2 ≠ .cell) (hkind : scope.kind = .function) (hx : scope.names.lookup x = some .local) (hx₂ : scope.names.lookup x₂ = some .local) (hxx : x ≠ x₂) (hh : A.handled = none) (hst : St 0 s₂.heap) (helt : e < s₂.heap.objs.size) (hitlt : it < s₂.heap.objs.size)
    (F : Fr h₀ L s₂.heap m) (N : News h₀ L s₂.heap news) (hLe : L ≠ e) (hLi : L ≠ it) (he₀ : h₀.get? e = none) (hi₀ : h₀.get? it = none) (off : ∀ p ∈ news, p.1 ≠ e ∧ p.1 ≠ it)
    (Inv : Nat → List Value → Prop) (inv0 : Inv 0 [])
    (turn : ∀ i ys t y oe oi C oC D m₂ h tk (E' : Value → Shared → Prop), i < n → P i y → Inv i ys → NsObj oC m₂ → m₂ x = some (.int i t) → m₂ x₂ = some y → Fr h₀ L h m → News h₀ L h ((e, oe) :: (it, oi) :: (C, oC) :: (D, lst ys) :: news) →
      wpAny (model prog w) A (isTrue c (compEnvC scope cl C env) (eval c (compEnvC scope cl C env))) (fun okb s₃ => if okb = true then
        wpAny (model prog w) A (eval elt (compEnvC scope cl C env)) (fun v s₄ => EndE h₀ L m { s₂ with heap := h, toks := tk } ((e, oe) :: (it, oi) :: (C, oC) :: (D, lst ys) :: news) (Inv (i + 1) (ys ++ [v])) s₄) E' s₃
        else EndE h₀ L m { s₂ with heap := h, toks := tk } ((e, oe) :: (it, oi) :: (C, oC) :: (D, lst ys) :: news) (Inv (i + 1) ys) s₃) E' { s₂ with heap := h, toks := tk })
    (hRR : ∀ D C h tk m' ys, Fr h₀ L h m → News h₀ L h ((D, lst ys) :: news) → Inv n ys → h.Ns C m' → h₀.get? C = none → C ≠ L → C ≠ D → (∀ p ∈ news, p.1 ≠ C) → RR (.ref D) C (.ok .next) { s₂ with heap := h, toks := tk }) :
    wpAny (model prog w) A (newList []) (fun acc s₃ => wpAny (model prog w) A (newFunctionEnv scope env.globals cl [] env.qual none .none (some env)) (fun cenv s₄ =>
      codeAny (model prog w) A (.compStart (.ListComp elt [⟨.Tuple [.Name x px, .Name x₂ px₂] tk tp, iter, [c], 0⟩] scope pos) 0 (.ref e) acc { cenv with scope := relabel scope env }) (RR acc cenv.locals) s₄) E s₃) E s₂ := by
  refine wpAny_newObj_type (wpAny_newFunctionEnv hcell (by intro y hy; simp at hy) (fun h₁ hns₁ hsb₁ => ?_) hkind)
  dsimp only at hns₁ hsb₁ ⊢
  generalize hH2 : s₂.heap.push { cls := .type "list", dict := none, data := .seq ([] : List Value).toArray } = H2 at hns₁ hsb₁ ⊢
  have hC : H2.objs.size = s₂.heap.objs.size + 1 := by rw [← hH2, Heap.size_push]
  have hDC : s₂.heap.objs.size ≠ H2.objs.size := by rw [hC]; exact Nat.ne_of_lt (Nat.lt_succ_self _)
  have below : ∀ b, b < s₂.heap.objs.size → b ≠ H2.objs.size ∧ b ≠ s₂.heap.objs.size := fun b hb => ⟨by rw [hC]; exact Nat.ne_of_lt (Nat.lt_succ_of_lt hb), Nat.ne_of_lt hb⟩
  have old : ∀ b o, s₂.heap.get? b = some o → h₁.get? b = some o := fun b o q => hsb₁.extBut b o (below b (Heap.lt_size q)).1 (Heap.get?_push_of_some _ (hH2 ▸ Heap.get?_push_of_some _ q))
  have hacc : h₁.get? s₂.heap.objs.size = some (lst []) := hsb₁.extBut _ _ hDC (Heap.get?_push_of_some _ (hH2 ▸ Heap.get?_push_size _ rfl))
  have hst₁ : St 0 h₁ := W.frame _ _ _ hst fun b _ o q => old b o q
  have fresh : ∀ a, s₂.heap.objs.size ≤ a → s₂.heap.get? a = none := fun a ha => by
    cases q : s₂.heap.get? a with
    | none => rfl
    | some o' => exact absurd (Heap.lt_size q) (Nat.not_lt.mpr ha)
  have fresh₀ : ∀ a, s₂.heap.objs.size ≤ a → h₀.get? a = none := fun a ha => by
    cases q : h₀.get? a with
    | none => rfl
    | some o' => have := F.keep a o' q; rw [fresh a ha] at this; cases this
  have hD₀ : h₀.get? s₂.heap.objs.size = none := fresh₀ _ (Nat.le_refl _)
  have hC₀ : h₀.get? H2.objs.size = none := fresh₀ _ (by rw [hC]; exact Nat.le_succ _)
  have hLlt : L < s₂.heap.objs.size := F.ns.lt
  have hDL : s₂.heap.objs.size ≠ L := Ne.symm (below L hLlt).2
  have hCL : H2.objs.size ≠ L := Ne.symm (below L hLlt).1
  have hCe : e ≠ H2.objs.size := (below e helt).1
  have hDe : e ≠ s₂.heap.objs.size := (below e helt).2
  have hCi : it ≠ H2.objs.size := (below it hitlt).1
  have hDi : it ≠ s₂.heap.objs.size := (below it hitlt).2
  have offN : ∀ p ∈ news, p.1 ≠ H2.objs.size ∧ p.1 ≠ s₂.heap.objs.size := fun p hp => below _ (Heap.lt_size (N p hp).1)
  have ein : ∀ b, b ∈ [e, it] → b = e ∨ b = it := fun b hb => by
    rcases List.mem_cons.mp hb with q | hb
    · exact .inl q
    · exact .inr (List.mem_singleton.mp hb)
  have nin : ∀ b, b ≠ e → b ≠ it → b ∉ [e, it] := fun b h1 h2 hb => (ein b hb).elim h1 h2
  have frB : ∀ (g g' : Heap), Fr h₀ L g m → (∀ b o, b ∉ [e, it] → g.get? b = some o → g'.get? b = some o) → Fr h₀ L g' m := fun g g' Fg hk =>
    ⟨Fg.ns.at' fun o q => hk L o (nin L hLe hLi) q, fun b o q => hk b o (nin b (fun z => by rw [z, he₀] at q; cases q) (fun z => by rw [z, hi₀] at q; cases q)) (Fg.keep b o q), Fg.above⟩
  have nwB : ∀ (g g' : Heap) (l : List (Addr × Obj)), News h₀ L g l → (∀ p ∈ l, p.1 ≠ e ∧ p.1 ≠ it) → (∀ b o, b ∉ [e, it] → g.get? b = some o → g'.get? b = some o) → News h₀ L g' l := fun g g' l Ng ho hk p hp =>
    ⟨hk _ _ (nin _ (ho p hp).1 (ho p hp).2) (Ng p hp).1, (Ng p hp).2⟩
  have offD : ∀ ys p, p ∈ (s₂.heap.objs.size, lst ys) :: news → p.1 ≠ e ∧ p.1 ≠ it := fun ys p hp => by
    rcases List.mem_cons.mp hp with rfl | hp
    · exact ⟨Ne.symm hDe, Ne.symm hDi⟩
    · exact off p hp
  have loop : ∀ s₃ : Shared, s₃ = { s₂ with heap := h₁, toks := s₂.toks + ([] : List (Str × Value)).length } →
      codeAny (model prog w) A (.compLoop (.ListComp elt [⟨.Tuple [.Name x px, .Name x₂ px₂] tk tp, iter, [c], 0⟩] scope pos) 0 (.ref e) (.ref s₂.heap.objs.size) (compEnvC scope cl H2.objs.size env))
        (RR (.ref s₂.heap.objs.size) H2.objs.size) s₃ := by
    rintro s₃ rfl
    refine kct_loop
      (fun k s' => ∃ h' tk i ys m', s' = { s₂ with heap := h', toks := tk } ∧ i ≤ n ∧ k = n + 1 - i ∧ ys.length ≤ i ∧ St i h' ∧ Fr h₀ L h' m ∧ h'.Ns H2.objs.size m' ∧ News h₀ L h' ((s₂.heap.objs.size, lst ys) :: news) ∧ Inv i ys) ?_ (n + 1)
      ⟨h₁, _, 0, [], _, rfl, Nat.zero_le _, rfl, Nat.le_refl _, hst₁, F.keeps old, hns₁, fun p hp => ?_, inv0⟩
    · rintro k s' ⟨h', tk, i, ys, m', rfl, hi, rfl, hyl, hst', F', hn', N', I'⟩
      by_cases hlt : i < n
      · refine W.item i _ _ _ hlt hst' fun T vals h₂ tk₂ hPv hT hIsT hMid hk₂ => ?_
        obtain ⟨t, y, hPy, rfl⟩ := hPv
        have hTn : T ∉ [e, it] := W.apart _ _ _ hMid
        have N₂ : News h₀ L h₂ ((s₂.heap.objs.size, lst ys) :: news) := nwB _ _ _ N' (offD ys) hk₂
        have F₂ : Fr h₀ L h₂ m := frB _ _ F' hk₂
        have n₂ : h₂.Ns H2.objs.size m' := hn'.at' fun o q => hk₂ _ o (nin _ (Ne.symm hCe) (Ne.symm hCi)) q
        refine W.go _ _ _ i T _ _ _ hMid fun h₄ hst₄ hk₄ => ?_
        have N₄ : News h₀ L h₄ ((s₂.heap.objs.size, lst ys) :: news) := nwB _ _ _ N₂ (offD ys) hk₄
        have F₄ : Fr h₀ L h₄ m := frB _ _ F₂ hk₄
        have n₄ : h₄.Ns H2.objs.size m' := n₂.at' fun o q => hk₄ _ o (nin _ (Ne.symm hCe) (Ne.symm hCi)) q
        have hT₄ : IsTup h₄ T #[.int i t, y] := by
          obtain ⟨oT, hoT, hc, nT, hd⟩ := hIsT
          exact ⟨oT, hk₄ _ _ hTn hoT, hc, nT, hd⟩
        refine assign_Tuple_tuple hh hT₄ rfl rfl fun h₅ he5 => ?_
        have he' : ∀ b o, h₄.get? b = some o → h₅.get? b = some o := fun b o q => he5 b o (Nat.ne_of_lt (Heap.lt_size q)) q
        refine assignInOrder_cons (wpAny_assign_Name (wpAny_storeName_local (lookup_relabel_local hx) (n₄.at' fun o q => he' _ o q) (fun h₆ hn₆ hs₆ => ?_) (by simp [compEnvC, relabel, hkind])))
        refine assignInOrder_cons (wpAny_assign_Name (wpAny_storeName_local (lookup_relabel_local hx₂) hn₆ (fun h₃ hn₃ hs₃ => ?_) (by simp [compEnvC, relabel, hkind])))
        refine assignInOrder_nil ?_
        have old3 : ∀ b o, b ≠ H2.objs.size → h₄.get? b = some o → h₃.get? b = some o := fun b o hb q => hs₃.extBut b o hb (hs₆.extBut b o hb (he' b o q))
        have hst₃ : St (i + 1) h₃ := W.frame _ _ _ hst₄ fun b hb o q => old3 b o (fun z => (ein b hb).elim (fun z' => hCe (z' ▸ z)) fun z' => hCi (z' ▸ z)) q
        obtain ⟨⟨oe, hoe⟩, oi, hoi⟩ := hIo _ _ hst₃
        obtain ⟨oC, heC, hoC⟩ := ns_obj hn₃
        have F₃ : Fr h₀ L h₃ m := ((F₄.keeps he').change hs₆ hCL hC₀).change hs₃ hCL hC₀
        have N₃ : News h₀ L h₃ ((e, oe) :: (it, oi) :: (H2.objs.size, oC) :: (s₂.heap.objs.size, lst ys) :: news) := fun p hp => by
          rcases List.mem_cons.mp hp with rfl | hp
          · exact ⟨hoe, Ne.symm hLe, he₀⟩
          · rcases List.mem_cons.mp hp with rfl | hp
            · exact ⟨hoi, Ne.symm hLi, hi₀⟩
            · rcases List.mem_cons.mp hp with rfl | hp
              · exact ⟨heC, hCL, hC₀⟩
              · have z := N₄ p hp
                refine ⟨old3 _ _ ?_ z.1, z.2⟩
                rcases List.mem_cons.mp hp with rfl | hp
                · exact hDC
                · exact (offN p hp).1
        have back : ∀ (g : Heap) (tkg : Nat), Fr h₀ L g m → News h₀ L g ((e, oe) :: (it, oi) :: (H2.objs.size, oC) :: (s₂.heap.objs.size, lst ys) :: news) → St (i + 1) g ∧ News h₀ L g ((s₂.heap.objs.size, lst ys) :: news) ∧ g.get? H2.objs.size = some oC := fun g tkg Fg Ng => by
          refine ⟨W.frame _ _ _ hst₃ fun b hb o q => ?_, fun p hp => Ng p (List.mem_cons_of_mem _ (List.mem_cons_of_mem _ (List.mem_cons_of_mem _ hp))), (Ng (H2.objs.size, oC) (List.mem_cons_of_mem _ (List.mem_cons_of_mem _ List.mem_cons_self))).1⟩
          rcases ein b hb with rfl | rfl
          · rw [hoe] at q; cases q; exact (Ng (b, oe) List.mem_cons_self).1
          · rw [hoi] at q; cases q; exact (Ng (b, oi) (List.mem_cons_of_mem _ List.mem_cons_self)).1
        refine wpAny_mono (turn i ys t y oe oi H2.objs.size oC s₂.heap.objs.size _ h₃ _ _ hlt hPy I' hoC (by simp [hxx]) (by simp) F₃ N₃) (fun okb s₅ h₅' => ?_) fun _ _ q => q
        cases okb with
        | false =>
          simp only [Bool.false_eq_true, if_false] at h₅' ⊢
          obtain ⟨g, tkg, rfl, Fg, Ng, I₂⟩ := h₅'
          obtain ⟨b1, b2, b3⟩ := back g tkg Fg Ng
          exact ⟨n + 1 - (i + 1), by omega, g, tkg, i + 1, ys, _, rfl, hlt, rfl, by omega, b1, Fg, hoC.ns b3, b2, I₂⟩
        | true =>
          simp only [if_true] at h₅' ⊢
          refine wpAny_mono h₅' (fun v s₆ h₆' => ?_) fun _ _ q => q
          obtain ⟨g, tkg, rfl, Fg, Ng, I₂⟩ := h₆'
          obtain ⟨b1, b2, b3⟩ := back g tkg Fg Ng
          have zD := (b2 (s₂.heap.objs.size, lst ys) List.mem_cons_self).1
          refine append_at (hsz := by show ys.toArray.size ≤ sizeLine; rw [List.size_toArray]; omega) zD fun h₅ hs₅ hD₅ => ?_
          refine ⟨n + 1 - (i + 1), by omega, h₅, tkg, i + 1, ys ++ [v], _, rfl, hlt, rfl, by rw [List.length_append, List.length_singleton]; omega,
            W.frame _ _ _ b1 fun b hb o q => hs₅.extBut b o (fun z => (ein b hb).elim (fun z' => hDe (z' ▸ z)) fun z' => hDi (z' ▸ z)) q, Fg.change hs₅ hDL hD₀,
            (hoC.ns b3).sameBut hs₅ (Ne.symm hDC), fun p hp => ?_, I₂⟩
          rcases List.mem_cons.mp hp with rfl | hp
          · exact ⟨hD₅.trans (congrArg some (lst_snoc ys v)), hDL, hD₀⟩
          · have z := b2 p (List.mem_cons_of_mem _ hp)
            exact ⟨hs₅.extBut _ _ (offN p hp).2 z.1, z.2⟩
      · obtain rfl : i = n := Nat.le_antisymm hi (Nat.not_lt.mp hlt)
        refine W.done _ _ _ hst' fun h₂ tk₂ hk₂ => ?_
        exact hRR _ _ h₂ tk₂ _ ys (frB _ _ F' hk₂) (nwB _ _ _ N' (offD ys) hk₂) I' (hn'.at' fun o q => hk₂ _ o (nin _ (Ne.symm hCe) (Ne.symm hCi)) q) hC₀ hCL (Ne.symm hDC) fun p hp => (offN p hp).1
    · rcases List.mem_cons.mp hp with rfl | hp
      · exact ⟨hacc, hDL, hD₀⟩
      · exact ⟨old _ _ (N p hp).1, (N p hp).2⟩
  exact codeAny_compStart_list (loop _ rfl) (W.self 0 _ _ _ hst₁ (loop _ rfl))
end
end Mine
end

section
open PySem PySem.W PyProof.Rows PySem.Calls PySem.Spec PyProof.Rows.LCg PyProof.Rows.LCp
set_option Elab.async false
namespace Mine
set_option maxRecDepth 100000
set_option maxHeartbeats 4000000
def SrcE (prog : Program) (w : World) (A : Around) (h₀ : Heap) (L : Addr) (m : Str → Option Value) (env : Env) (c elt : PySem.Expr) (x x₂ : Str) (scope : Scope) (cl : List (Str × Addr)) (Q : Value → Shared → Prop) (xv : Value) (s₁ : Shared) : Prop :=
  ∃ (X : Str) (tX : Tok) (e it : Addr) (news : List (Addr × Obj)) (Inv : Nat → List Value → Prop), xv = .ref e ∧ IsEnum s₁.heap e it 0 .none ∧ s₁.heap.IsStrIter it (strIterType X) X tX 0 ∧ A.handled = none ∧ Fr h₀ L s₁.heap m ∧ News h₀ L s₁.heap news ∧ e ≠ it ∧ L ≠ e ∧ L ≠ it ∧ h₀.get? e = none ∧ h₀.get? it = none ∧
    (∀ p ∈ news, p.1 ≠ e ∧ p.1 ≠ it) ∧ X.length ≤ sizeLine ∧ Inv 0 [] ∧
    (∀ i ys t y oe oi C oC D m₂ h tk (E' : Value → Shared → Prop), i < X.length → (∃ k u, X.cps[i]? = some k ∧ y = .str ⟨#[k]⟩ u) → Inv i ys → NsObj oC m₂ → m₂ x = some (.int i t) → m₂ x₂ = some y → Fr h₀ L h m → News h₀ L h ((e, oe) :: (it, oi) :: (C, oC) :: (D, lst ys) :: news) →
      wpAny (model prog w) A (isTrue c (compEnvC scope cl C env) (eval c (compEnvC scope cl C env))) (fun okb s₃ => if okb = true then
        wpAny (model prog w) A (eval elt (compEnvC scope cl C env)) (fun v s₄ => EndE h₀ L m { s₁ with heap := h, toks := tk } ((e, oe) :: (it, oi) :: (C, oC) :: (D, lst ys) :: news) (Inv (i + 1) (ys ++ [v])) s₄) E' s₃
        else EndE h₀ L m { s₁ with heap := h, toks := tk } ((e, oe) :: (it, oi) :: (C, oC) :: (D, lst ys) :: news) (Inv (i + 1) ys) s₃) E' { s₁ with heap := h, toks := tk }) ∧
    ∀ D h tk ys, Fr h₀ L h m → News h₀ L h ((D, lst ys) :: news) → Inv X.length ys → Q (.ref D) { s₁ with heap := h, toks := tk }
section
variable {prog : Program} {w : World} {A : Around} {E : Value → Shared → Prop} {s : Shared} {h₀ : Heap} {L : Addr} {m : Str → Option Value} {env : Env}
theorem ListComp_E {elt iter c : PySem.Expr} {x x₂ : Str} {px px₂ tp : Pos} {tk} {scope : Scope} {cl : List (Str × Addr)} {pos : Pos} {Q : Value → Shared → Prop} (_F₀ : Fr h₀ L s.heap m)
    (hclos : closureFor scope env = pure cl) (hcell : ∀ y ∈ scope.names, y.2 ≠ .cell) (hkind : scope.kind = .function)
    (hnames : ∀ y ∈ scope.names, y.2 = .local → scope.names.lookup y.1 = some .local) (hx : scope.names.lookup x = some .local) (hx₂ : scope.names.lookup x₂ = some .local) (hxx : x ≠ x₂)
    (h : wpAny (model prog w) A (eval iter env) (SrcE prog w A h₀ L m env c elt x x₂ scope cl Q) E s)
    (hs : ∀ x, foldedSetIterable iter env x = pure x := by intro _; rfl) :
    wpAny (model prog w) A (eval (.ListComp elt [⟨.Tuple [.Name x px, .Name x₂ px₂] tk tp, iter, [c], 0⟩] scope pos) env) Q E s := by
  rw [eval_ListComp]
  refine wpAny_comprehension_free (use := none) rfl hs hclos hkind hnames (wpAny_mono h (fun xv s₁ h₁ => ?_) fun _ _ e => e)
  obtain ⟨X, tX, e, it, news, Inv, rfl, hE, hI, hh, F, N, hei, hLe, hLi, he₀, hi₀, off, hsz, inv0, turn, fin⟩ := h₁
  refine wpAny_pyIter_enum hE ?_
  have helt : e < s₁.heap.objs.size := Heap.lt_size hE
  have hilt : it < s₁.heap.objs.size := by obtain ⟨o, ho, _⟩ := hI; exact Heap.lt_size ho
  have side : e ∉ [it] := fun hm => hei (List.mem_singleton.mp hm)
  cases ha : X.cps.all (· < 128)
  · refine block_E (WalksT.enumerateD (Draws.strWide (A := A.in1) hh it X tX) e hei side (List.mem_singleton.mpr rfl)) hsz (fun i h st => ?_) hcell hkind hx hx₂ hxx hh ⟨⟨_, hE⟩, by simpa [strIterType, ha] using hI⟩ helt hilt F N hLe hLi he₀ hi₀ off Inv inv0 turn ?_
    · obtain ⟨⟨old, z⟩, y⟩ := st
      obtain ⟨o, ho, _⟩ := y
      exact ⟨⟨_, z⟩, o, ho⟩
    · intro D C h tk m' ys F' N' I' hn hC₀ hCL hCD offC
      refine ⟨m', hn, fun h'' hs'' => fin D h'' tk ys (F'.change hs'' hCL hC₀) (fun p hp => ⟨hs''.extBut _ _ ?_ (N' p hp).1, (N' p hp).2⟩) I'⟩
      rcases List.mem_cons.mp hp with rfl | hp
      · exact Ne.symm hCD
      · exact offC p hp
  · refine block_E (WalksT.enumerateD (Draws.strAscii (A := A.in1) hh it X tX) e hei side (List.mem_singleton.mpr rfl)) hsz (fun i h st => ?_) hcell hkind hx hx₂ hxx hh ⟨⟨_, hE⟩, by simpa [strIterType, ha] using hI⟩ helt hilt F N hLe hLi he₀ hi₀ off Inv inv0 turn ?_
    · obtain ⟨⟨old, z⟩, y⟩ := st
      obtain ⟨o, ho, _⟩ := y
      exact ⟨⟨_, z⟩, o, ho⟩
    · intro D C h tk m' ys F' N' I' hn hC₀ hCL hCD offC
      refine ⟨m', hn, fun h'' hs'' => fin D h'' tk ys (F'.change hs'' hCL hC₀) (fun p hp => ⟨hs''.extBut _ _ ?_ (N' p hp).1, (N' p hp).2⟩) I'⟩
      rcases List.mem_cons.mp hp with rfl | hp
      · exact Ne.symm hCD
      · exact offC p hp
theorem call_enum_E {c elt : PySem.Expr} {x x₂ : Str} {scope : Scope} {cl : List (Str × Addr)} {Q : Value → Shared → Prop} {X : Str} {tX : Tok} {news : List (Addr × Obj)} (hh : A.handled = none) (F : Fr h₀ L s.heap m) (N : News h₀ L s.heap news) (Inv : Nat → List Value → Prop) (hsz : X.length ≤ sizeLine) (inv0 : Inv 0 [])
    (turn : ∀ e it i ys t y oe oi C oC D m₂ h tk (E' : Value → Shared → Prop), i < X.length → (∃ k u, X.cps[i]? = some k ∧ y = .str ⟨#[k]⟩ u) → Inv i ys → NsObj oC m₂ → m₂ x = some (.int i t) → m₂ x₂ = some y → Fr h₀ L h m → News h₀ L h ((e, oe) :: (it, oi) :: (C, oC) :: (D, lst ys) :: news) →
      wpAny (model prog w) A (isTrue c (compEnvC scope cl C env) (eval c (compEnvC scope cl C env))) (fun okb s₃ => if okb = true then
        wpAny (model prog w) A (eval elt (compEnvC scope cl C env)) (fun v s₄ => EndE h₀ L m { s with heap := h, toks := tk } ((e, oe) :: (it, oi) :: (C, oC) :: (D, lst ys) :: news) (Inv (i + 1) (ys ++ [v])) s₄) E' s₃
        else EndE h₀ L m { s with heap := h, toks := tk } ((e, oe) :: (it, oi) :: (C, oC) :: (D, lst ys) :: news) (Inv (i + 1) ys) s₃) E' { s with heap := h, toks := tk })
    (fin : ∀ D h tk ys, Fr h₀ L h m → News h₀ L h ((D, lst ys) :: news) → Inv X.length ys → Q (.ref D) { s with heap := h, toks := tk }) :
    wpAny (model prog w) A (call (.type "enumerate") [.str X tX]) (SrcE prog w A h₀ L m env c elt x x₂ scope cl Q) E s := by
  refine call_enumerate_str fun h' he hit hsz' hk => ?_
  have hLs : L < s.heap.objs.size := F.ns.lt
  have old : ∀ a, s.heap.objs.size ≤ a → h₀.get? a = none := fun a ha => Heap.get?_none_of_le (Nat.le_trans F.above (Nat.le_trans (Nat.le_of_lt hLs) ha))
  refine ⟨X, tX, _, _, news, Inv, rfl, he, hit, hh, F.keeps hk, fun p hp => ⟨hk _ _ (N p hp).1, (N p hp).2⟩, Nat.succ_ne_self _, Nat.ne_of_lt (Nat.lt_succ_of_lt hLs), Nat.ne_of_lt hLs, old _ (Nat.le_succ _), old _ (Nat.le_refl _),
    fun p hp => ⟨Nat.ne_of_lt (Nat.lt_succ_of_lt (Heap.lt_size (N p hp).1)), Nat.ne_of_lt (Heap.lt_size (N p hp).1)⟩, hsz, inv0, fun i ys t y oe oi C oC D m₂ h tk E' => turn _ _ i ys t y oe oi C oC D m₂ h tk E', fin⟩
end
end Mine
end

section
open PySem PySem.W PyProof.Rows PySem.Calls PySem.Spec PyProof.Rows.LCg
set_option Elab.async false
namespace Mine
set_option maxRecDepth 100000
set_option maxHeartbeats 4000000
section
variable {M : Model} {A : Around} {E : Value → Shared → Prop} {s : Shared} {env : Env}
theorem wpC_isTrue_Compare {l r : PySem.Expr} {op : CmpOp} {pos : Pos} {whole : Sem Value} {Q : Bool → Shared → Prop}
    (h : wpC M A (eval l env) (fun a s₁ => wpC M A (eval r env) (fun b s₂ => wpAny M A (compareOp op a b) (fun c s₃ => wpAny M A (truthy c) Q E s₃) E s₂) E s₁) E s)
    (hm : behindInMarks op r = false := by with_unfolding_all rfl) : wpC M A (isTrue (.Compare l [op] [r] pos) env whole) Q E s := fun Γ p hΓ hc => by
  simp only [isTrue_Compare1, markedBehindIn_of_false hm, Sem.wp_bind', Sem.wp_holding, Sem.wp_cmd_standAt, Sem.wp_operate]
  exact Sem.wp_mono M Γ _ (fun a p₁ s₁ h₁ => Sem.wp_mono M Γ _ (fun b _ s₂ h₂ => Sem.wp_mono M Γ _ (fun c p₃ s₃ h₃ => h₃ Γ p₃ hΓ)
    (fun _ _ _ h' => h') _ _ (h₂ Γ _ hΓ)) (fun _ _ _ h' => h') _ _ (h₁ Γ p₁ hΓ (calledB_at hc))) (fun _ _ _ h' => h') _ _ (h Γ p hΓ hc)
theorem wpC_If {test : PySem.Expr} {body orelse : List Stmt} {pos : Pos} {Q : Flow → Shared → Prop}
    (h : wpC M A (isTrue test env (eval test env)) (fun b s' => if b = true then wpAny M A (execs body env) Q E s' else wpAny M A (execs orelse env) Q E s') E s) :
    wpC M A (exec (.If test body orelse pos) env) Q E s := by
  rw [arm_exec_If]
  refine wpC_bind (wpC_standAt (wpC_bind (wpC_mono h (fun b s' x => ?_) fun _ _ x => x)))
  cases b with
  | false => simp only [Bool.false_eq_true, if_false] at x ⊢; exact wpC_of x
  | true => simp only [if_true] at x ⊢; exact wpC_of x
theorem execs_more {st : Stmt} {rest : List Stmt} {Q : Flow → Shared → Prop} (h : wpC M A (exec st env) (fun f s' => match f with | .next => wpAny M A (execs rest env) Q E s' | f => Q f s') E s) : wpC M A (execs (st :: rest) env) Q E s := by
  show wpC _ A (exec st env >>= fun f => match f with | .next => execs rest env | f => pure f) Q E s
  refine wpC_bind (wpC_mono h (fun f s' x => ?_) fun _ _ x => x)
  cases f with
  | next => exact wpC_of x
  | brk => exact wpC_pure x
  | cont => exact wpC_pure x
  | ret v => exact wpC_pure x
theorem wpC_callName {f : Addr} {p pos : Pos} {e : PySem.Expr} {rest : List PySem.Expr} {id : Str} {Q : Value → Shared → Prop}
    (h : wpAny M A (eval (.Name id p) env) (fun fv s₀ => fv = .ref f ∧ wpAny M A (spliced (backTo pos (starEach (e :: rest) env)))
      (fun vs s₁ => Stop ((∃ o fd, s₁.heap.get? f = some o ∧ o.data = .func fd) ∧ wpC M A (call (.ref f) vs) Q E s₁)) E s₀) E s)
    (he : starEach (e :: rest) env = (false, eval e env) :: starEach rest env := by rfl)
    (hplain : (backTo pos (starEach rest env)).any (·.1) = false := by rfl) :
    wpC M A (eval (.Call (.Name id p) (e :: rest) [] pos) env) Q E s := by
  rw [arm_eval_Call_Name']
  refine wpC_first (wpAny_mono h (fun fv s₀ h₀ => ?_) fun _ _ x => x)
  obtain ⟨rfl, h₀⟩ := h₀
  rw [he] at h₀ ⊢
  have hc : backTo pos ((false, eval e env) :: starEach rest env) = (false, eval e env) :: backTo pos (starEach rest env) := rfl
  rw [hc] at h₀ ⊢
  have hp : (List.any ((false, eval e env) :: backTo pos (starEach rest env)) (·.1)) = false := by
    rw [List.any_cons, hplain]; rfl
  have hk0 : backToKw pos (keywordEach [] env) = [] := rfl
  rw [hk0]
  unfold callWith
  refine wpC_first (wpAny_holding (evalArgs_plain (wpAny_mono h₀ (fun vs s₁ h₁ => ?_) fun _ _ x => x)))
  obtain ⟨⟨o, fd, ho, hd⟩, h₂⟩ := h₁
  refine wpC_first (wpAny_standAt ?_)
  simp only [hp, List.any_nil, Bool.or_false]
  refine wpC_first (m := keeperOf (.ref f)) ?_
  unfold keeperOf
  refine wpAny_bind (wpAny_load ho ?_)
  rw [hd]
  refine wpAny_pure ?_
  have tail : ∀ v s', Q v s' → wpC M A (do holding [v] point; pure v) Q E s' := fun v s' hq => wpC_bind (wpC_holding (wpC_point (wpC_pure hq)))
  dsimp only
  split
  · exact wpC_bind (wpC_mono h₂ (fun v s' hq => tail v s' hq) fun _ _ x => x)
  · exact wpC_bind (wpC_mono (by unfold callMarked; exact wpC_keep h₂) (fun v s' hq => tail v s' hq) fun _ _ x => x)
theorem wpC_For {target iter : PySem.Expr} {body orelse : List Stmt} {pos : Pos} {Q : Flow → Shared → Prop}
    (h : wpAny M A (eval iter env) (fun x s₁ => wpAny M A (pyIter x) (fun it s₂ =>
      codeC M A (.forLoop target it body orelse env) (fun r s' => match r with | .ok f => Q f s' | .error _ => False) s₂) E s₁) E s)
    (hs : ∀ x, foldedSetIterable iter env x = pure x := by intro _; rfl) :
    wpC M A (exec (.For target iter body orelse pos) env) Q E s := by
  rw [exec_For]
  refine wpC_bind (wpC_standAt (wpC_first (wpAny_mono h (fun x s₁ h₁ => ?_) fun _ _ e => e)))
  refine wpC_eq (hs x) ?_
  refine wpC_bind (wpC_standAt (wpC_first (wpAny_holding (wpAny_mono h₁ (fun it s₂ h₂ => ?_) fun _ _ e => e))))
  unfold runOwn
  exact wpC_onRaise (wpC_mono (wpC_run (E := fun _ _ => False) h₂) (fun _ _ x => x) fun _ _ x => x.elim)
end
section
variable {prog : Program} {w : World} {A : Around} {s : Shared} {env : Env} {h₀ : Heap}
theorem codeC_block_nil {R : Result → Shared → Prop} (h : R (.ok .next) s) : codeC (model prog w) A (.block [] env) R s :=
  codeC_of (codeAny_block (wpAny_execs_nil h))
theorem codeC_forLoop {R : Result → Shared → Prop} {target : PySem.Expr} {it : Value} {body : List Stmt} (I : Nat → Shared → Prop)
    (turn : ∀ n s, I n s → wpAny (model prog w) A (pyNext it) (fun r s₁ => match r with
      | none => R (.ok .next) s₁
      | some v => wpAny (model prog w) A (assign target env v) (fun _ s₂ => wpC (model prog w) A (execs body env) (fun f s₃ => match f with
          | .next | .cont => ∃ m, m < n ∧ I m s₃
          | .brk => R (.ok .next) s₃
          | .ret v => R (.ok (.ret v)) s₃) (fun _ _ => False) s₂) (fun _ _ => False) s₁) (fun _ _ => False) s)
    (ht : ∀ v, letOwnedTupleGo target it v = pure () := by intro _; rfl) : ∀ (n : Nat) (s : Shared), I n s → codeC (model prog w) A (.forLoop target it body [] env) R s := by
  intro n
  induction n using Nat.strongRecOn with
  | ind n ih =>
    intro s hI
    refine codeC_tree ?_
    show wpC _ A ((forTurn target it body [] env).onRaise (fun x => do noteFrame x env; theTreesLotGoes x)) _ _ s
    refine wpC_onRaise (wpC_mono (E := fun _ _ => False) ?_ (fun _ _ x => x) fun _ _ x => x.elim)
    simp only [forTurn]
    refine wpC_bind (wpC_standAt (wpC_first (wpAny_onRaise (wpAny_mono (turn n s hI) (fun r s₁ h₁ => ?_) fun _ _ x => x.elim))))
    cases r with
    | none => exact wpC_pure ⟨rfl, codeC_block_nil h₁⟩
    | some v =>
      refine wpC_eq (ht v) ?_
      refine wpC_first (wpAny_mono h₁ (fun _ s₂ h₂ => ?_) fun _ _ x => x)
      refine wpC_bind (wpC_mono h₂ (fun f s₃ h₃ => ?_) fun _ _ x => x)
      cases f with
      | next => obtain ⟨m, hm, h₄⟩ := h₃; exact wpC_pure ⟨rfl, ih m hm s₃ h₄⟩
      | cont => obtain ⟨m, hm, h₄⟩ := h₃; exact wpC_pure ⟨rfl, ih m hm s₃ h₄⟩
      | brk => exact wpC_pure h₃
      | ret v => exact wpC_pure h₃
def TurnC (h₀ : Heap) (L I : Addr) (o : Obj) (S : List (Addr × Obj) → Prop) (J : (Str → Option Value) → List (Addr × Obj) → Prop) (Q : Flow → Shared → Prop) (s₁ : Shared) (f : Flow) (s : Shared) : Prop :=
  match f with
  | .ret v => Q (.ret v) s
  | .brk => Q .next s
  | _ => ∃ h' tk m' news', s = { s₁ with heap := h', toks := tk } ∧ Fr h₀ L h' m' ∧ News h₀ L h' ((I, o) :: news') ∧ (∀ p ∈ news', p.1 ≠ I) ∧ S news' ∧ J m' news'
theorem loopC {x : Str} {px : Pos} {body : List Stmt} {I : Addr} {fp : List Addr} {n : Nat} {P : Nat → Value → Prop} {St : Nat → Heap → Prop} {S : List (Addr × Obj) → Prop} {m : Str → Option Value} {news : List (Addr × Obj)} {Q : Flow → Shared → Prop} {sI : Shared}
    (W : Walks prog w A I fp [I] n P St) (hIo : ∀ i h, St i h → ∃ o, h.get? I = some o)
    (hSt : ∀ i h h' o nw, St i h → h.get? I = some o → h'.get? I = some o → (∀ b o, h₀.get? b = some o → h'.get? b = some o) → News h₀ env.locals h' nw → S nw → St i h')
    (hx : env.kindOf x = some .local) (hp : (env.scope.kind == .class || (env.scope.kind == .module && env.locals != env.globals)) = false)
    (hLf : env.locals ∉ fp) (hI₀ : h₀.get? I = none) (J : Nat → (Str → Option Value) → List (Addr × Obj) → Prop)
    (turn : ∀ i v m₁ news₁ o h tk, i < n → P i v → J i m₁ news₁ → S news₁ → Fr h₀ env.locals h (fun y => if y = x then some v else m₁ y) → News h₀ env.locals h ((I, o) :: news₁) →
      wpC (model prog w) A (execs body env) (TurnC h₀ env.locals I o S (J (i + 1)) Q { s with heap := h, toks := tk }) (fun _ _ => False) { s with heap := h, toks := tk })
    (done : ∀ h' tk m' news', Fr h₀ env.locals h' m' → News h₀ env.locals h' news' → J n m' news' → Q .next { s with heap := h', toks := tk })
    (hsI : ∃ h tk, sI = { s with heap := h, toks := tk }) (hst : St 0 sI.heap) (F : Fr h₀ env.locals sI.heap m) (N : News h₀ env.locals sI.heap news) (off : ∀ p ∈ news, p.1 ≠ I) (hS : S news) (h0 : J 0 m news) :
    codeC (model prog w) A (.forLoop (.Name x px) (.ref I) body [] env) (fun r s' => match r with | .ok f => Q f s' | .error _ => False) sI := by
  obtain ⟨hI, tkI, rfl⟩ := hsI
  have hIf : I ∈ fp := W.sub I (List.mem_singleton.mpr rfl)
  have hLI : env.locals ≠ I := fun q => hLf (q ▸ hIf)
  refine codeC_forLoop (fun k s' => ∃ i h tk m₁ news₁, s' = { s with heap := h, toks := tk } ∧ i ≤ n ∧ k = n - i ∧ St i h ∧ Fr h₀ env.locals h m₁ ∧ News h₀ env.locals h news₁ ∧ (∀ p ∈ news₁, p.1 ≠ I) ∧ S news₁ ∧ J i m₁ news₁) ?_ (by intro _; rfl) n _
    ⟨0, hI, tkI, m, news, rfl, Nat.zero_le _, rfl, hst, F, N, off, hS, h0⟩
  rintro k s' ⟨i, h, tk, m₁, news₁, rfl, hi, rfl, hst', F', N', off', hS', hJ⟩
  by_cases hlt : i < n
  · refine W.item i _ _ _ hlt hst' fun v h₁ tk₁ hP hst₁ hk₁ => ?_
    have F₁ : Fr h₀ env.locals h₁ m₁ := fr_but F' hk₁ hLI hI₀
    have N₁ : News h₀ env.locals h₁ news₁ := news_but N' hk₁ off'
    refine wpAny_assign_Name (wpAny_storeName_local hx F₁.ns (fun h₂ hn₂ hs₂ => ?_) hp)
    have F₂ := F₁.set hn₂ hs₂
    have hst₂ : St (i + 1) h₂ := W.frame _ _ _ hst₁ fun b hb o e => (hs₂.2 b fun q => hLf (q ▸ hb)).trans e
    obtain ⟨o, ho⟩ := hIo _ _ hst₂
    have N₂ : News h₀ env.locals h₂ ((I, o) :: news₁) := fun p hp => by
      rcases List.mem_cons.mp hp with rfl | hp
      · exact ⟨ho, Ne.symm hLI, hI₀⟩
      · exact N₁.set hs₂ p hp
    refine wpC_mono (turn i v m₁ news₁ o h₂ _ hlt hP hJ hS' F₂ N₂) (fun f s₃ h₃ => ?_) fun _ _ x => x
    have step : (∃ h' tk m' news', s₃ = { s with heap := h', toks := tk } ∧ Fr h₀ env.locals h' m' ∧ News h₀ env.locals h' ((I, o) :: news') ∧ (∀ p ∈ news', p.1 ≠ I) ∧ S news' ∧ J (i + 1) m' news') →
        ∃ m, m < n - i ∧ ∃ i h tk m₁ news₁, s₃ = { s with heap := h, toks := tk } ∧ i ≤ n ∧ m = n - i ∧ St i h ∧ Fr h₀ env.locals h m₁ ∧ News h₀ env.locals h news₁ ∧ (∀ p ∈ news₁, p.1 ≠ I) ∧ S news₁ ∧ J i m₁ news₁ := by
      rintro ⟨h', tk', m', news', rfl, F₄, N₄, off₄, hS₄, hJ₄⟩
      have N₅ : News h₀ env.locals h' news' := fun p hp => N₄ p (List.mem_cons_of_mem _ hp)
      exact ⟨n - (i + 1), by omega, i + 1, h', tk', m', news', rfl, hlt, rfl, hSt _ _ _ _ _ hst₂ ho (N₄ (I, o) List.mem_cons_self).1 F₄.keep N₅ hS₄, F₄, N₅, off₄, hS₄, hJ₄⟩
    cases f with
    | next => exact step h₃
    | cont => exact step h₃
    | brk => exact h₃
    | ret v => exact h₃
  · obtain rfl : i = n := Nat.le_antisymm hi (Nat.not_lt.mp hlt)
    refine W.done _ _ _ hst' fun h₁ tk₁ hk₁ => ?_
    exact done h₁ tk₁ m₁ news₁ (fr_but F' hk₁ hLI hI₀) (news_but N' hk₁ off') hJ
end
end Mine
end

section
open PySem PySem.W PyProof.Rows PySem.Calls PySem.Spec PyProof.Rows.LCg
set_option Elab.async false
namespace Mine
set_option maxRecDepth 100000
set_option maxHeartbeats 4000000
inductive StrsAre : List Value → List Str → Prop where
  | nil : StrsAre [] []
  | cons (x : Str) (t : Tok) {vs : List Value} {xs : List Str} : StrsAre vs xs → StrsAre (.str x t :: vs) (x :: xs)
theorem StrsAre.length : ∀ {vs : List Value} {xs : List Str}, StrsAre vs xs → vs.length = xs.length
  | _, _, .nil => rfl
  | _, _, .cons _ _ h => congrArg (· + 1) h.length
theorem StrsAre.app : ∀ {vs us : List Value} {xs ys : List Str}, StrsAre vs xs → StrsAre us ys → StrsAre (vs ++ us) (xs ++ ys)
  | _, _, _, _, .nil, h => h
  | _, _, _, _, .cons x t h, h' => .cons x t (h.app h')
theorem StrsAre.push {vs : List Value} {xs : List Str} {x : Str} {t : Tok} (h : StrsAre vs xs) : StrsAre (vs ++ [.str x t]) (xs ++ [x]) := h.app (.cons x t .nil)
theorem StrsAre.take : ∀ {vs : List Value} {xs : List Str} (k : Nat), StrsAre vs xs → StrsAre (vs.take k) (xs.take k)
  | _, _, 0, _ => .nil
  | _, _, _ + 1, .nil => .nil
  | _, _, k + 1, .cons x t h => .cons x t (h.take k)
theorem StrsAre.get : ∀ {vs : List Value} {xs : List Str} {i : Nat} {v : Value}, StrsAre vs xs → vs[i]? = some v → ∃ x t, v = .str x t ∧ xs[i]? = some x
  | _, _, i, _, .nil, h => by cases h
  | _, _, 0, _, .cons x t _, h => by cases h; exact ⟨x, t, rfl, rfl⟩
  | _, _, i + 1, _, .cons x t r, h => r.get (i := i) h
section
variable {prog : Program} {w : World} {A : Around} {E : Value → Shared → Prop} {s : Shared} {h₀ : Heap} {L : Addr} {m : Str → Option Value} {env : Env}
theorem comp_by {elt : PySem.Expr} {x : Str} {scope : Scope} {cl : List (Str × Addr)} {S : List (Addr × Obj) → Prop} {P : Nat → Value → Prop} {Fin : List Value → List (Addr × Obj) → Prop} {n : Nat} (Inv : Nat → List Value → List (Addr × Obj) → Prop)
    (turn : ∀ i v ys news I oI C oC D m₂ h tk (E' : Value → Shared → Prop), i < n → P i v → Inv i ys news → NsObj oC m₂ → m₂ x = some v → Fr h₀ L h m → News h₀ L h ((I, oI) :: (C, oC) :: (D, lst ys) :: news) → Off3 I C D news → ((@Ne Nat I C) ∧ (@Ne Nat I D) ∧ (@Ne Nat C D)) →
      wpAny (model prog w) A (eval elt (compEnvC scope cl C env)) (CompEnd h₀ L m { s with heap := h, toks := tk } I oI C oC D (lst ys) S (fun y news' => Inv (i + 1) (ys ++ [y]) news')) E' { s with heap := h, toks := tk })
    (done : ∀ ys news, Inv n ys news → Fin ys news) : ∀ k i ys news, i + k = n → Inv i ys news → CompRest prog w A h₀ L m env elt x scope cl s S P Fin k i ys news
  | 0, i, ys, news, e, v => by
    obtain rfl : i = n := by omega
    exact CompRest.zero (done _ _ v)
  | k + 1, i, ys, news, e, v => CompRest.succ fun v' I oI C oC D m₂ h tk E' hP hC hx F N off ne =>
      wpAny_mono (turn i v' ys news I oI C oC D m₂ h tk E' (by omega) hP v hC hx F N off ne) (fun y s₂ z => by
        obtain ⟨h', tk', news', e', F', N', o', S', r'⟩ := z
        exact ⟨h', tk', news', e', F', N', o', S', comp_by Inv turn done k (i + 1) _ _ (by omega) r'⟩) fun _ _ z => z
theorem slice_any {l : Addr} {its : Array Value} {news : List (Addr × Obj)} {vl vu : Value} {lo hi : Option Int} {value slice : PySem.Expr} {Q : Value → Shared → Prop} (F : Fr h₀ L s.heap m) (N : News h₀ L s.heap news) (hl : s.heap.IsList l its) (pl : IsPart vl lo) (pu : IsPart vu hi)
    (h : ∀ D h', Fr h₀ L h' m → News h₀ L h' ((D, W.listOf (slicePick its lo hi none) 0) :: news) → (∀ p ∈ news, p.1 < D) → Q (.ref D) { s with heap := h' })
    (hs : subscripted slice false (.ref l) (.ref s.heap.objs.size) = operate [.ref s.heap.objs.size, .ref l] (getItem (.ref l) (.ref s.heap.objs.size))) (hz : its.size ≤ sizeLine) :
    wpAny (model prog w) A (subscriptTail value slice (.ref l) (.ref s.heap.objs.size)) Q E { s with heap := s.heap.push { cls := .type "slice", data := .fields #[vl, vu, .none] } } := by
  refine tail_any (Heap.IsList.typeIs (s := { s with heap := s.heap.push { cls := .type "slice", data := .fields #[vl, vu, .none] } }) (hl.push _)) list_getitem_lookup
    (wpAny_getItem_list_slice (hl.push _) (Heap.IsSliceOf.new ..) pl pu .none (by simp) ?_ hz) hs
  have N1 := News.push (F.push { cls := .type "slice", data := .fields #[vl, vu, .none] }) (N.grown fun _ _ e => Heap.get?_push_of_some _ e) { cls := .type "list", data := .seq (slicePick its lo hi none) }
  exact h _ _ ((F.push _).push _) N1 fun p hp => by
    rw [Heap.size_push]; exact Nat.lt_succ_of_lt (Heap.lt_size (N p hp).1)
end
theorem pick5 (vs : List Value) : slicePick vs.toArray none (some 5) none = (vs.take 5).toArray := by
  have e : sliceBounds none (some 5) none vs.toArray.size = (((0 : Nat) : Int), ((min (5 : Int).toNat vs.toArray.size : Nat) : Int), 1) := by
    simp only [sliceBounds, Option.getD_none, show (1 : Int) > 0 by decide, if_true, if_neg (show ¬ ((5 : Int) < 0) by omega)]
    congr 1
    congr 1
    omega
  rw [kmk_pick_nat _ e]
  show ((vs.drop 0).take (min 5 vs.toArray.size - 0)).toArray = _
  rw [List.drop_zero, Nat.sub_zero, List.size_toArray, kmk_take_min]
end Mine
end

section
open PySem PySem.W PyProof.Rows PySem.Calls PySem.Spec
set_option Elab.async false
namespace Mine
set_option maxRecDepth 100000
set_option maxHeartbeats 4000000
def Plain (x : Str) : Prop := ∀ c ∈ x.cps.toList, 32 ≤ c ∧ c ≤ 126
theorem Plain.app {x y : Str} (hx : Plain x) (hy : Plain y) : Plain (x ++ y) := by
  intro c hc
  have e : (x ++ y).cps.toList = x.cps.toList ++ y.cps.toList := by show (x.cps ++ y.cps).toList = _; simp
  rw [e] at hc
  exact (List.mem_append.mp hc).elim (hx c) (hy c)
def plainB (x : Str) : Bool := x.cps.toList.all fun c => decide (32 ≤ c) && decide (c ≤ 126)
theorem plain_of {x : Str} (h : plainB x = true) : Plain x := by
  intro c hc
  have := List.all_eq_true.mp h c hc
  simpa using this
theorem piece_plain {x : Str} (h : PieceOk x = true) : Plain x := by
  intro c hc
  unfold PieceOk at h
  simp only [Bool.and_eq_true] at h
  have := List.all_eq_true.mp h.1.2 c hc
  simpa using this
theorem cps_ext {x y : Str} (h : x.cps.toList = y.cps.toList) : x = y := Str.ext' (Array.toList_inj.mp h)
theorem app_cps (x y : Str) : (x ++ y).cps.toList = x.cps.toList ++ y.cps.toList := by show (x.cps ++ y.cps).toList = _; simp
theorem len_cps (x : Str) : x.length = x.cps.toList.length := by show x.cps.size = _; simp
theorem slice_nat (x : Str) {a b : Nat} (h : a ≤ b) : Txt.slice x (some (a : Int)) (some (b : Int)) = ⟨((x.cps.toList.drop a).take (b - a)).toArray⟩ := by
  have e1 : Builtin.Str.strSliceIndices (some (a : Int)) (some (b : Int)) 1 x.length = Builtin.Str.strSliceIndices (some ((min a x.length : Nat) : Int)) (some ((min b x.length : Nat) : Int)) 1 x.length := by
    have h0 : ¬ ((a : Int) < 0) := by omega
    have h1 : ¬ ((b : Int) < 0) := by omega
    have h2 : ¬ (((min a x.length : Nat) : Int) < 0) := by omega
    have h3 : ¬ (((min b x.length : Nat) : Int) < 0) := by omega
    have e2 : min (((min a x.length : Nat)) : Int) (x.length : Int) = min (a : Int) (x.length : Int) := by omega
    have e3 : min (((min b x.length : Nat)) : Int) (x.length : Int) = min (b : Int) (x.length : Int) := by omega
    simp only [Builtin.Str.strSliceIndices, h0, h1, h2, h3, if_false, e2, e3, show (1 : Int) > 0 by decide, if_true]
  have e : Txt.slice x (some (a : Int)) (some (b : Int)) = StrLaws.sliceText x (some ((min a x.length : Nat) : Int)) (some ((min b x.length : Nat) : Int)) := by
    show StrLaws.sliceText x _ _ = _
    unfold StrLaws.sliceText
    rw [e1]
  rw [e, StrLaws.sliceText_nat x (by omega) (by omega)]
  congr 2
  rw [len_cps]
  rw [show List.drop (min a x.cps.toList.length) x.cps.toList = List.drop a x.cps.toList from kmk_drop_min _ _]
  by_cases hb : b ≤ x.cps.toList.length
  · rw [Nat.min_eq_left hb, Nat.min_eq_left (by omega)]
  · rw [List.take_of_length_le (by rw [List.length_drop]; omega), List.take_of_length_le (by rw [List.length_drop]; omega)]
theorem slice_to (x : Str) (b : Nat) : Txt.slice x none (some (b : Int)) = ⟨(x.cps.toList.take b).toArray⟩ := by
  have e : Txt.slice x none (some (b : Int)) = Txt.slice x (some ((0 : Nat) : Int)) (some (b : Int)) := by
    show StrLaws.sliceText x _ _ = StrLaws.sliceText x _ _
    unfold StrLaws.sliceText
    rw [StrLaws.sliceIdx_none_lo]
    rfl
  rw [e, slice_nat x (Nat.zero_le b)]
  rfl
theorem slice3 (x : Str) : Txt.slice x none (some 3) = ⟨(x.cps.toList.take 3).toArray⟩ := slice_to x 3
theorem slice35 (x : Str) : Txt.slice x (some 3) (some 5) = ⟨((x.cps.toList.drop 3).take 2).toArray⟩ := slice_nat x (a := 3) (b := 5) (by omega)
theorem five_len {x : Str} (h : (Txt.slice x (some 3) (some 5) == Str.ofString " \"") = true) : 5 ≤ x.length := by
  have e := eq_of_beq h
  rw [slice35] at e
  have e2 : ((x.cps.toList.drop 3).take 2) = [32, 34] := by
    have e4 : Str.ofString " \"" = ⟨#[32, 34]⟩ := by decide +kernel
    rw [e4] at e
    have e5 := congrArg (fun s : Str => s.cps.toList) e
    simpa using e5
  have e3 := congrArg List.length e2
  rw [List.length_take, List.length_drop] at e3
  simp only [List.length_cons, List.length_nil] at e3
  rw [len_cps]; omega
def Drawn (p0 p1 p2 p3 p4 : Str) : Str := p0 ++ Str.ofString "93|\"\"" ++ p1 ++ Str.ofString "\"\"7\"\"\"|" ++ p2 ++ Str.ofString "7" ++ p3 ++ Str.ofString "1" ++ p4
structure DrawnOk (d : Str) : Prop where
  lo : 14 ≤ d.length
  hi : d.length ≤ 24
  plain : Plain d
  code : (Txt.slice d none (some 3) != Str.ofString "229") = true
theorem piece_len {x : Str} (h : PieceOk x = true) : x.length ≤ 2 := by
  unfold PieceOk at h
  simp only [Bool.and_eq_true, decide_eq_true_eq] at h
  exact h.1.1
theorem drawn_ok {p0 p1 p2 p3 p4 : Str} (h0 : PieceOk p0 = true) (h1 : PieceOk p1 = true) (h2 : PieceOk p2 = true) (h3 : PieceOk p3 = true) (h4 : PieceOk p4 = true) : DrawnOk (Drawn p0 p1 p2 p3 p4) := by
  have l0 := piece_len h0
  have l1 := piece_len h1
  have l2 := piece_len h2
  have l3 := piece_len h3
  have l4 := piece_len h4
  have k1 : (Str.ofString "93|\"\"").length = 5 := by decide +kernel
  have k2 : (Str.ofString "\"\"7\"\"\"|").length = 7 := by decide +kernel
  have k3 : (Str.ofString "7").length = 1 := by decide +kernel
  have k4 : (Str.ofString "1").length = 1 := by decide +kernel
  refine ⟨?_, ?_, ?_, ?_⟩
  · unfold Drawn; simp only [app_len]; omega
  · unfold Drawn; simp only [app_len]; omega
  · unfold Drawn
    have q1 : Plain (Str.ofString "93|\"\"") := plain_of (by decide +kernel)
    have q2 : Plain (Str.ofString "\"\"7\"\"\"|") := plain_of (by decide +kernel)
    have q3 : Plain (Str.ofString "7") := plain_of (by decide +kernel)
    have q4 : Plain (Str.ofString "1") := plain_of (by decide +kernel)
    exact ((((((((piece_plain h0).app q1).app (piece_plain h1)).app q2).app (piece_plain h2)).app q3).app (piece_plain h3)).app q4).app (piece_plain h4)
  · rw [slice3]
    have e229 : Str.ofString "229" = ⟨#[50, 50, 57]⟩ := by decide +kernel
    have e93 : (Str.ofString "93|\"\"").cps.toList = [57, 51, 124, 34, 34] := by decide +kernel
    rw [e229]
    refine bne_iff_ne.mpr fun e => ?_
    have e' : (Drawn p0 p1 p2 p3 p4).cps.toList.take 3 = [50, 50, 57] := by
      have e5 := congrArg (fun s : Str => s.cps.toList) e
      simpa using e5
    unfold Drawn at e'
    simp only [app_cps, e93, List.append_assoc] at e'
    unfold PieceOk at h0
    simp only [Bool.and_eq_true, Bool.or_eq_true, decide_eq_true_eq, len_cps, beq_iff_eq] at h0
    obtain ⟨⟨hl, _⟩, hh⟩ := h0
    rcases hp : p0.cps.toList with _ | ⟨c, _ | ⟨c2, r⟩⟩
    · rw [hp] at e'; simp at e'
    · rw [hp] at e'; simp at e'
    · rw [hp] at hh hl e'
      simp at hh hl e'
      subst hl
      rw [hh.resolve_left (by simp)] at e'
      simp at e'
end Mine
end

section
open PySem PySem.W PyProof.Rows PySem.Calls PySem.Spec
set_option Elab.async false
namespace Mine
set_option maxRecDepth 100000
set_option maxHeartbeats 4000000
def Good1 (r : Str) : Prop := r.length ≤ 60 ∧ (Txt.slice r none (some 3) != Str.ofString "229") = true
def HeadOk (h : Str) : Bool := decide (h.length ≤ 20) && ((decide (3 ≤ h.length) && decide (h.cps.toList.take 3 ≠ [50, 50, 57])) || decide (h.cps.toList = [50, 53]) || decide (h.cps.toList = []))
theorem s229 : Str.ofString "229" = ⟨#[50, 50, 57]⟩ := by decide +kernel
theorem code_ne {x : Str} : (Txt.slice x none (some 3) != Str.ofString "229") = true ↔ x.cps.toList.take 3 ≠ [50, 50, 57] := by
  rw [slice3, s229, bne_iff_ne]
  constructor
  · intro h e; exact h (by rw [e])
  · intro h e; exact h (by have e5 := congrArg (fun s : Str => s.cps.toList) e; simpa using e5)
theorem head_good {h d : Str} (hh : HeadOk h = true) (dk : DrawnOk d) : Good1 (h ++ d) := by
  unfold HeadOk at hh
  simp only [Bool.and_eq_true, Bool.or_eq_true, decide_eq_true_eq] at hh
  obtain ⟨hl, hc⟩ := hh
  have dhi := dk.hi
  have dlo := dk.lo
  refine ⟨by rw [app_len]; omega, code_ne.mpr ?_⟩
  rw [app_cps]
  rcases hc with (⟨h3, hn⟩ | h2) | h0
  · rw [List.take_append_of_le_length (by rw [← len_cps]; exact h3)]
    exact hn
  · rw [h2]
    intro e
    rcases hd : d.cps.toList with _ | ⟨c, r⟩
    · rw [len_cps, hd] at dlo; simp at dlo
    · rw [hd] at e; simp at e
  · rw [h0]
    exact code_ne.mp dk.code
theorem good_257 {r : Str} (hl : r.length ≤ 60) (h : r.cps.toList.take 3 = [50, 53, 55]) : Good1 r := ⟨hl, code_ne.mpr (by rw [h]; decide)⟩
theorem good_q {x : Str} (hl : x.length ≤ 40) : Good1 (Str.ofString "257 \"" ++ x) := by
  have e : (Str.ofString "257 \"").cps.toList = [50, 53, 55, 32, 34] := by decide +kernel
  refine good_257 ?_ ?_
  · rw [app_len, len_cps, e]; simp only [List.length_cons, List.length_nil]; omega
  · rw [app_cps, e]; rfl
theorem good_q2 {x y : Str} (hl : x.length ≤ 40) (hy : y.length ≤ 5) : Good1 (Str.ofString "257 \"" ++ x ++ y) := by
  rw [app_assoc]
  refine good_257 ?_ ?_
  · have e : (Str.ofString "257 \"").cps.toList = [50, 53, 55, 32, 34] := by decide +kernel
    rw [app_len, app_len, len_cps, e]; simp only [List.length_cons, List.length_nil]; omega
  · have e : (Str.ofString "257 \"").cps.toList = [50, 53, 55, 32, 34] := by decide +kernel
    rw [app_cps, e]; rfl
theorem good_lit {x : Str} (h : (decide (x.length ≤ 60) && decide (x.cps.toList.take 3 = [50, 53, 55])) = true) : Good1 x := by
  simp only [Bool.and_eq_true, decide_eq_true_eq] at h
  exact good_257 h.1 h.2
end Mine
end

section
open PySem PySem.W PyProof.Rows PySem.Calls PySem.Spec
set_option Elab.async false
namespace Mine
set_option maxRecDepth 100000
set_option maxHeartbeats 4000000
theorem tell0_use {w : World} {mean : ExcName → Option Value} {mg mb : Str → Option Value} {f : Addr} {vs : List Value} {pre : Heap → Prop} {P : Value → List (Addr × Obj) → Prop}
    {dp un : Nat} {gd : Option (List Code)} {cn : Str} {cs : Scope} {a : Addr} {ccd : Value} {cl : List (Str × Addr)} {A₀ : Around} {h₀ : Heap} {L : Addr} {m : Str → Option Value} {news : List (Addr × Obj)} {s : Shared} {Q E : Value → Shared → Prop}
    (W : Tell0 w mean mg mb f vs pre P) (B : Below A₀ h₀ [] h₀) (F : Fr h₀ L s.heap m) (X : (hd.heap_1 w.params).In h₀) (N : News h₀ L s.heap news) (T : Top hd.view_39 (looseW hd.view_39 [Str.ofString "quantiles"]) mean mg mb h₀) (hk : cs.kind = .function)
    (hd : dp + 10 < recursionLimit) (hu : un + 80 < cLine) (hp : pre s.heap)
    (ret : ∀ (r : Value) (tl : List (Addr × Obj)) (h' : Heap) (tk' : Nat), Fr h₀ L h' m → News h₀ L h' (tl ++ news) → P r tl → Q r { s with heap := h', toks := tk' }) :
    wpAny (model PySem.Challenge.rw_rw0045_01.row.prog w) (ktrTop dp un gd cn cs L a ccd cl []) (call (.ref f) vs) Q E s := W _ _ _ _ _ _ _ _ _ _ _ _ _ _ _ _ X B F N T hk hd hu hp ret
theorem tellC_use {w : World} {mean : ExcName → Option Value} {mg mb : Str → Option Value} {f : Addr} {vs : List Value} {pre : Heap → Prop} {P : Value → List (Addr × Obj) → Prop}
    {dp un : Nat} {gd : Option (List Code)} {cn : Str} {cs : Scope} {a : Addr} {ccd : Value} {cl : List (Str × Addr)} {A₀ : Around} {h₀ : Heap} {L : Addr} {m : Str → Option Value} {news : List (Addr × Obj)} {s : Shared} {Q E : Value → Shared → Prop}
    (W : TellC w mean mg mb f vs pre P) (B : Below A₀ h₀ [] h₀) (F : Fr h₀ L s.heap m) (X : (hd.heap_1 w.params).In h₀) (N : News h₀ L s.heap news) (T : Top hd.view_39 (looseW hd.view_39 [Str.ofString "quantiles"]) mean mg mb h₀) (hk : cs.kind = .function)
    (hd : dp + 10 < recursionLimit) (hu : un + 80 < cLine) (hp : pre s.heap)
    (ret : ∀ (r : Value) (tl : List (Addr × Obj)) (h' : Heap) (tk' : Nat), Fr h₀ L h' m → News h₀ L h' (tl ++ news) → P r tl → Q r { s with heap := h', toks := tk' }) :
    wpC (model PySem.Challenge.rw_rw0045_01.row.prog w) (ktrTop dp un gd cn cs L a ccd cl []) (call (.ref f) vs) Q E s := W _ _ _ _ _ _ _ _ _ _ _ _ _ _ _ _ X B F N T hk hd hu hp ret
theorem Tell0.mono {w : World} {mean : ExcName → Option Value} {mg mb : Str → Option Value} {f : Addr} {vs : List Value} {pre : Heap → Prop} {P P' : Value → List (Addr × Obj) → Prop} (h : Tell0 w mean mg mb f vs pre P) (hP : ∀ r tl, P r tl → P' r tl) : Tell0 w mean mg mb f vs pre P' := by
  intro dp un gd cn cs a ccd cl A₀ h₀ L m news s Q E X B F N T hk hd hu hp hret
  exact h _ _ _ _ _ _ _ _ _ _ _ _ _ _ _ _ X B F N T hk hd hu hp fun r tl h' tk' F' N' p => hret r tl h' tk' F' N' (hP _ _ p)
theorem TellC.mono {w : World} {mean : ExcName → Option Value} {mg mb : Str → Option Value} {f : Addr} {vs : List Value} {pre : Heap → Prop} {P P' : Value → List (Addr × Obj) → Prop} (h : TellC w mean mg mb f vs pre P) (hP : ∀ r tl, P r tl → P' r tl) : TellC w mean mg mb f vs pre P' := by
  intro dp un gd cn cs a ccd cl A₀ h₀ L m news s Q E X B F N T hk hd hu hp hret
  exact h _ _ _ _ _ _ _ _ _ _ _ _ _ _ _ _ X B F N T hk hd hu hp fun r tl h' tk' F' N' p => hret r tl h' tk' F' N' (hP _ _ p)
abbrev Pair2 (a x : Str) (r : Value) (tl : List (Addr × Obj)) : Prop := ∃ R c u u', r = .ref R ∧ tl = [(R, W.listOf #[.str a u, .str x u'] c)]
section
variable {w : World} {mean : ExcName → Option Value} {mg mb : Str → Option Value}
theorem port_code {p : Addr} {reply drawn : Str} {t t1 t2 : Tok} (hlen : reply.length ≤ 100) (hc : (Txt.slice reply none (some 3) != Str.ofString "229") = true) :
    Tell0 w mean mg mb 140 [.str reply t, .ref p] (fun g => IsTup g p [Value.str drawn t1, Value.int 21 t2].toArray) (Pair2 (Str.ofString "code") reply) := by
  have e := portOut_code hc
  refine (port hlen (fun y h => by rw [e] at h; cases h)).mono fun r tl h => ?_
  unfold PortSays at h
  rw [e] at h
  exact h
theorem port_form {p : Addr} {reply drawn : Str} {t t1 t2 : Tok} (hlen : reply.length ≤ 100) (e : portOut reply = .error false) :
    Tell0 w mean mg mb 140 [.str reply t, .ref p] (fun g => IsTup g p [Value.str drawn t1, Value.int 21 t2].toArray) (Pair2 (Str.ofString "form") reply) := by
  refine (port hlen (fun y h => by rw [e] at h; cases h)).mono fun r tl h => ?_
  unfold PortSays at h
  rw [e] at h
  exact h
theorem port_ok {p : Addr} {reply drawn y : Str} {n : Int} {t t1 t2 : Tok} (hlen : reply.length ≤ 100) (e : portOut reply = .ok y) (hn : PySem.intText? y = some n) :
    Tell0 w mean mg mb 140 [.str reply t, .ref p] (fun g => IsTup g p [Value.str drawn t1, Value.int 21 t2].toArray)
      (fun r tl => ∃ (R : Addr) (c : Nat) (u u' : Tok), r = .ref R ∧ tl = [(R, ({ cls := .type "tuple", data := .seq #[.str drawn u, .int n u'] c } : Obj))]) := by
  refine (port hlen (fun z h => by rw [e] at h; cases h; exact ⟨n, hn⟩)).mono fun r tl h => ?_
  unfold PortSays at h
  rw [e] at h
  dsimp only at h
  rw [hn] at h
  exact h
end
section
variable {prog : Program} {w : World} {A : Around} {E : Value → Shared → Prop} {s : Shared}
theorem str_true {a : Str} {t u : Tok} : PySem.SeqAt.EqAt A s (.str a t) (.str a u) true := by
  have h := PySem.SeqAt.EqAt.str_str (A := A) (s := s) a t a u
  rw [beq_self_eq_true] at h; exact h
theorem int_true {a : Int} {t u : Tok} : PySem.SeqAt.EqAt A s (.int a t) (.int a u) true := by
  have h := PySem.SeqAt.EqAt.int_int (A := A) (s := s) a t a u
  rw [beq_self_eq_true] at h; exact h
theorem two_all {v1 v2 w1 w2 : Value} (e1 : PySem.SeqAt.EqAt A s v1 w1 true) (e2 : PySem.SeqAt.EqAt A s v2 w2 true) : ∀ j (h1 : j < [v1, v2].toArray.size) (h2 : j < [w1, w2].toArray.size), PySem.SeqAt.EqAt A s [v1, v2].toArray[j] [w1, w2].toArray[j] true
  | 0, _, _ => e1
  | 1, _, _ => e2
  | j + 2, h1, _ => absurd h1 (by simp)
theorem eq2 {R R' : Addr} {v1 v2 w1 w2 : Value} (hl : s.heap.IsList R [v1, v2].toArray) (hb : s.heap.IsList R' [w1, w2].toArray) (hu : A.units < cLine) (e1 : PySem.SeqAt.EqAt A.in1 s v1 w1 true) (e2 : PySem.SeqAt.EqAt A.in1 s v2 w2 true) : PySem.SeqAt.EqAt A s (.ref R) (.ref R') true := by
  by_cases h : R = R'
  · subst h; exact PySem.SeqAt.EqAt.same _
  · exact PySem.SeqAt.EqAt.of_refs h (PySem.SeqAt.RcAt.lists (e := fun _ => true) hl hb rfl hu (two_all e1 e2))
theorem ne2 {R R' : Addr} {v1 v2 w1 w2 : Value} {Q : Value → Shared → Prop} (hl : s.heap.IsList R [v1, v2].toArray) (hb : s.heap.IsList R' [w1, w2].toArray) (hu : A.units < cLine) (e1 : PySem.SeqAt.EqAt A.in1 s v1 w1 true) (e2 : PySem.SeqAt.EqAt A.in1 s v2 w2 true) (h : Q (.bool false) s) :
    wpAny (model prog w) A (compareOp .NotEq (.ref R) (.ref R')) Q E s := PySem.SeqAt.RcNeAt.lists (e := fun _ => true) hl hb rfl hu (two_all e1 e2) prog w E Q h
theorem ne2t {R R' : Addr} {v1 v2 w1 w2 : Value} {Q : Value → Shared → Prop} (hl : s.heap.IsTuple R [v1, v2].toArray) (hb : s.heap.IsTuple R' [w1, w2].toArray) (hu : A.units < cLine) (e1 : PySem.SeqAt.EqAt A.in1 s v1 w1 true) (e2 : PySem.SeqAt.EqAt A.in1 s v2 w2 true) (h : Q (.bool false) s) :
    wpAny (model prog w) A (compareOp .NotEq (.ref R) (.ref R')) Q E s := PySem.SeqAt.RcNeAt.tuples (e := fun _ => true) hl hb hu (two_all e1 e2) prog w E Q h
theorem ne1 {R R' : Addr} {a : Str} {t u : Tok} {Q : Value → Shared → Prop} (hl : s.heap.IsList R [Value.str a t].toArray) (hb : s.heap.IsList R' [Value.str a u].toArray) (hu : A.units < cLine) (h : Q (.bool false) s) :
    wpAny (model prog w) A (compareOp .NotEq (.ref R) (.ref R')) Q E s := PySem.SeqAt.RcNeAt.lists (e := fun _ => true) hl hb rfl hu (fun j h1 h2 => by
      obtain rfl : j = 0 := by simpa using h1
      exact str_true) prog w E Q h
theorem isTuple_of {h : Heap} {a : Addr} {vs : Array Value} (x : IsTup h a vs) : h.IsTuple a vs := by
  obtain ⟨o, ho, hc, n, hd⟩ := x
  exact ⟨o, ho, hc, n, hd⟩
end
end Mine
end

section
open PySem PySem.W PyProof.Rows PySem.Calls PySem.Spec
set_option Elab.async false
namespace Mine
set_option maxRecDepth 100000
set_option maxHeartbeats 4000000
section
variable {prog : Program} {w : World} {A : Around} {E : Value → Shared → Prop} {s : Shared} {env : Env} {h₀ : Heap} {x : Str} {body : List Stmt} {Q : Flow → Shared → Prop}
theorem strs_loop {ax : Addr} {lo : Obj} {vs : List Value} {n : Nat} {m₀ : Str → Option Value} {nx : List (Addr × Obj)} (P : Str → Prop) (hh : A.handled = none) (F : Fr h₀ env.locals s.heap m₀) (N : News h₀ env.locals s.heap ((ax, lo) :: nx)) (hc : lo.cls = .type "list") (hd : lo.data = .seq vs.toArray n)
    (keep : List (Str × Value)) (hkn : Knows m₀ keep) (hall : ∀ v ∈ vs, ∃ z u, v = Value.str z u ∧ P z)
    (turn : ∀ I it z u m h tk, P z → it.cls = .type "list_iterator" → (∀ p ∈ (ax, lo) :: nx, p.1 < I) → Fr h₀ env.locals h (kn ((x, .str z u) :: keep) m) → News h₀ env.locals h ((I, it) :: (ax, lo) :: nx) →
      wpAny (model prog w) A (execs body env) (UnrPost h₀ env.locals { s with heap := h, toks := tk } I it (fun m' n' => n' = (ax, lo) :: nx ∧ Knows m' keep) Q) E { s with heap := h, toks := tk })
    (done : ∀ m h tk, Fr h₀ env.locals h (kn keep m) → News h₀ env.locals h ((ax, lo) :: nx) → Q .next { s with heap := h, toks := tk }) :
    wpAny (model prog w) A (pyIter (.ref ax)) (fun it s₂ => LoopAtV prog w A h₀ env x body Q E it s₂) E s :=
  iter_listUnr hh F N (List.Mem.head _) hc hd fun I hI => list_by (vs := vs) (fun r m0 nx' => nx' = (ax, lo) :: nx ∧ (∀ v ∈ r, ∃ z u, v = Value.str z u ∧ P z) ∧ Knows m0 keep)
    (fun v r m0 nx' it h tk ⟨e1, e2, e3⟩ hc' F' N' => by
      subst e1
      obtain ⟨z, u, rfl, hz⟩ := e2 v (List.Mem.head _)
      exact wpAny_mono (turn I it z u m0 h tk hz hc' hI (fr_kn1 F' e3) N') (fun f s₂ q => unr_mono (fun m' n' k => ⟨k.1 ▸ List.Mem.head _, k.1, fun v hv => e2 v (List.Mem.tail _ hv), k.2⟩) q) fun _ _ q => q)
    (fun m0 nx' h tk ⟨e1, _, e3⟩ F' N' => by
      subst e1
      exact done m0 h tk (fr_kn F' e3) N') _ _ _ ⟨rfl, hall, hkn⟩
end
end Mine
end

section
open PySem PySem.W PyProof.Rows PySem.Calls PySem.Spec
set_option Elab.async false
namespace Mine
set_option maxRecDepth 100000
set_option maxHeartbeats 4000000
def isForm (r : Str) : Bool := decide (r.length ≤ 100) && (match portOut r with | .error false => true | _ => false)
def isOne (r : Str) : Bool := decide (r.length ≤ 100) && (match portOut r with | .ok y => y == Str.ofString "1" | _ => false)
theorem form_of {r : Str} (h : isForm r = true) : r.length ≤ 100 ∧ portOut r = .error false := by
  unfold isForm at h
  simp only [Bool.and_eq_true, decide_eq_true_eq] at h
  refine ⟨h.1, ?_⟩
  cases e : portOut r with
  | error b => rw [e] at h; cases b with
    | false => rfl
    | true => cases h.2
  | ok y => rw [e] at h; cases h.2
theorem one_of {r : Str} (h : isOne r = true) : r.length ≤ 100 ∧ portOut r = .ok (Str.ofString "1") := by
  unfold isOne at h
  simp only [Bool.and_eq_true, decide_eq_true_eq] at h
  refine ⟨h.1, ?_⟩
  cases e : portOut r with
  | error b => rw [e] at h; cases h.2
  | ok y => rw [e] at h; rw [eq_of_beq h.2]
theorem one_int : PySem.intText? (Str.ofString "1") = some 1 := by decide +kernel
def IsForm (r : Str) : Prop := isForm r = true
def IsOne (r : Str) : Prop := isOne r = true
end Mine
end

section
open PySem PySem.W PyProof.Rows PySem.Calls PySem.Spec PyProof.Rows.LCg
set_option Elab.async false
namespace Mine
set_option maxRecDepth 100000
set_option maxHeartbeats 4000000
theorem TurnC.mono {h₀ : Heap} {L I : Addr} {o : Obj} {S S' : List (Addr × Obj) → Prop} {J J' : (Str → Option Value) → List (Addr × Obj) → Prop} {Q : Flow → Shared → Prop} {s₁ s : Shared} {f : Flow} (h : TurnC h₀ L I o S J Q s₁ f s) (hJ : ∀ m n, S n → J m n → S' n ∧ J' m n) : TurnC h₀ L I o S' J' Q s₁ f s := by
  cases f with
  | ret v => exact h
  | brk => exact h
  | next =>
    obtain ⟨h', tk, m', n', e, F, N, off, hs, hj⟩ := h
    exact ⟨h', tk, m', n', e, F, N, off, hJ _ _ hs hj⟩
  | cont =>
    obtain ⟨h', tk, m', n', e, F, N, off, hs, hj⟩ := h
    exact ⟨h', tk, m', n', e, F, N, off, hJ _ _ hs hj⟩
section
variable {prog : Program} {w : World} {A : Around} {E : Value → Shared → Prop} {s : Shared} {env : Env} {h₀ : Heap} {x : Str} {px : Pos} {body : List Stmt} {Q : Flow → Shared → Prop}
theorem strs_loopC {ax : Addr} {lo : Obj} {vs : List Value} {n : Nat} {m₀ : Str → Option Value} {nx : List (Addr × Obj)} (P : Str → Prop) (hh : A.handled = none) (F : Fr h₀ env.locals s.heap m₀) (N : News h₀ env.locals s.heap ((ax, lo) :: nx)) (hc : lo.cls = .type "list") (hd : lo.data = .seq vs.toArray n)
    (keep : List (Str × Value)) (hkn : Knows m₀ keep) (hall : ∀ v ∈ vs, ∃ z u, v = Value.str z u ∧ P z)
    (hx : env.kindOf x = some .local) (hp : (env.scope.kind == .class || (env.scope.kind == .module && env.locals != env.globals)) = false)
    (turn : ∀ I o z u m h tk, P z → (∀ p ∈ (ax, lo) :: nx, p.1 < I) → Fr h₀ env.locals h (kn ((x, .str z u) :: keep) m) → News h₀ env.locals h ((I, o) :: (ax, lo) :: nx) →
      wpC (model prog w) A (execs body env) (TurnC h₀ env.locals I o (fun _ => True) (fun m' n' => n' = (ax, lo) :: nx ∧ Knows m' keep) Q { s with heap := h, toks := tk }) (fun _ _ => False) { s with heap := h, toks := tk })
    (done : ∀ m h tk, Fr h₀ env.locals h (kn keep m) → News h₀ env.locals h ((ax, lo) :: nx) → Q .next { s with heap := h, toks := tk }) :
    wpAny (model prog w) A (pyIter (.ref ax)) (fun it s₂ => codeC (model prog w) A (.forLoop (.Name x px) it body [] env) (fun r s' => match r with | .ok f => Q f s' | .error _ => False) s₂) E s := by
  have hax := N _ (List.Mem.head _)
  have hl : s.heap.IsList ax vs.toArray := ⟨lo, hax.1, hc, n, hd⟩
  have hlt : ax < s.heap.objs.size := Heap.lt_size hax.1
  have hne : ax ≠ s.heap.objs.size := Nat.ne_of_lt hlt
  refine wpAny_pyIter_list hl ?_
  have up : ∀ b o, s.heap.get? b = some o → (s.heap.push { cls := .type "list_iterator", data := .fields #[.ref ax, .int 0 0] }).get? b = some o := fun b o e => Heap.get?_push_of_some _ e
  have hI₀ : h₀.get? s.heap.objs.size = none := next_is_new F
  have below : ∀ p ∈ (ax, lo) :: nx, p.1 < s.heap.objs.size := fun p hp => Heap.lt_size (N p hp).1
  have src : ∀ nw : List (Addr × Obj), nw = (ax, lo) :: nx → SrcAt h₀ ax vs.toArray nw := fun nw e => e ▸ .inr ⟨lo, List.Mem.head _, hc, n, hd⟩
  refine loopC (S := SrcAt h₀ ax vs.toArray) (s := s) (Walks.list hh s.heap.objs.size ax hne vs.toArray) (fun i h st => by obtain ⟨o, e, _⟩ := st.1; exact ⟨o, e⟩) list_st hx hp (fun hm => ?_) hI₀
    (fun _ m' n' => n' = (ax, lo) :: nx ∧ Knows m' keep) (fun i v m₁ news₁ o h tk hi hP hJ hS F' N' => ?_) (fun h' tk m' news' F' N' hJ => ?_) ⟨_, _, rfl⟩ ⟨⟨_, Heap.get?_push_size _ rfl, rfl, rfl⟩, hl.push _⟩ (F.keeps up) (N.grown up) (fun p hp => Nat.ne_of_lt (below p hp)) (src _ rfl) ⟨rfl, hkn⟩
  · rcases List.mem_cons.mp hm with e | hm
    · exact absurd F.ns.lt (e ▸ Nat.lt_irrefl _)
    · exact hax.2.1 (List.mem_singleton.mp hm).symm
  · obtain ⟨rfl, hk⟩ := hJ
    obtain ⟨z, u, rfl, hz⟩ := hall v (List.mem_of_getElem? (by simpa using hP))
    exact wpC_mono (turn _ o z u m₁ h tk hz below (fr_kn1 F' hk) N') (fun f s' q => q.mono fun m n _ j => ⟨src n j.1, j⟩) fun _ _ q => q
  · obtain ⟨rfl, hk⟩ := hJ
    exact done m' h' tk (fr_kn F' hk) N'
theorem range_loopC {r : Addr} {a b : Int} {t₀ u₀ v₀ : Tok} {n : Nat} {m₀ : Str → Option Value} {nx : List (Addr × Obj)} (hh : A.handled = none) (hr : IsRange s.heap r a b 1 t₀ u₀ v₀) (hsmall : Builtin.Range.small a b 1 = true) (hn : Builtin.Range.rangeSize a b 1 = (n : Int)) (F : Fr h₀ env.locals s.heap m₀) (N : News h₀ env.locals s.heap nx)
    (keep : List (Str × Value)) (hkn : Knows m₀ keep)
    (hx : env.kindOf x = some .local) (hp : (env.scope.kind == .class || (env.scope.kind == .module && env.locals != env.globals)) = false)
    (turn : ∀ I o (i : Nat) ti m h tk, i < n → (∀ p ∈ nx, p.1 < I) → Fr h₀ env.locals h (kn ((x, .int (a + (i : Int)) ti) :: keep) m) → News h₀ env.locals h ((I, o) :: nx) →
      wpC (model prog w) A (execs body env) (TurnC h₀ env.locals I o (fun _ => True) (fun m' n' => n' = nx ∧ Knows m' keep) Q { s with heap := h, toks := tk }) (fun _ _ => False) { s with heap := h, toks := tk })
    (done : ∀ m h tk, Fr h₀ env.locals h (kn keep m) → News h₀ env.locals h nx → Q .next { s with heap := h, toks := tk }) :
    wpAny (model prog w) A (pyIter (.ref r)) (fun it s₂ => codeC (model prog w) A (.forLoop (.Name x px) it body [] env) (fun r s' => match r with | .ok f => Q f s' | .error _ => False) s₂) E s := by
  refine wpAny_pyIter_range hr hsmall ?_
  have hI₀ : h₀.get? s.heap.objs.size = none := next_is_new F
  have below : ∀ p ∈ nx, p.1 < s.heap.objs.size := fun p hp => Heap.lt_size (N p hp).1
  refine loopC (S := fun _ => True) (s := s) (range_walks hh a n) (fun i h st => ⟨_, st⟩) range_st hx hp (fun hm => ?_) hI₀
    (fun _ m' n' => n' = nx ∧ Knows m' keep) (fun i v m₁ news₁ o h tk hi hP hJ hS F' N' => ?_) (fun h' tk m' news' F' N' hJ => ?_) ⟨_, _, rfl⟩ (by show IsRangeIter _ _ _ _ _; rw [hn]; simpa using Heap.get?_push_size _ rfl) (F.keeps fun _ _ e => Heap.get?_push_of_some _ e) (N.grown fun _ _ e => Heap.get?_push_of_some _ e) (fun p hp => Nat.ne_of_lt (below p hp)) trivial ⟨rfl, hkn⟩
  · exact absurd F.ns.lt ((List.mem_singleton.mp hm) ▸ Nat.lt_irrefl _)
  · obtain ⟨rfl, hk⟩ := hJ
    obtain ⟨t, rfl⟩ := hP
    exact turn _ o i t m₁ h tk hi below (fr_kn1 F' hk) N'
  · obtain ⟨rfl, hk⟩ := hJ
    exact done m' h' tk (fr_kn F' hk) N'
end
end Mine
end

section
open PySem PySem.W PyProof.Rows PySem.Calls PySem.Spec
set_option Elab.async false
open Builtin Builtin.Str
namespace Mine
set_option maxRecDepth 100000
set_option maxHeartbeats 2000000
def splitL (c : Nat) : List Nat → List (List Nat)
  | [] => [[]]
  | h :: t => if h = c then [] :: splitL c t else match splitL c t with
    | p :: r => (h :: p) :: r
    | [] => [[h]]
def idxL (c : Nat) : Nat → List Nat → List Nat
  | _, [] => []
  | k, h :: t => if h = c then k :: idxL c (k + 1) t else idxL c (k + 1) t
theorem splitL_ne (c : Nat) : ∀ l, ∃ p r, splitL c l = p :: r
  | [] => ⟨_, _, rfl⟩
  | h :: t => by
    unfold splitL
    split
    · exact ⟨_, _, rfl⟩
    · split
      · exact ⟨_, _, rfl⟩
      · exact ⟨_, _, rfl⟩
theorem splitL_eq {c : Nat} {t : List Nat} : splitL c (c :: t) = [] :: splitL c t := by rw [splitL, if_pos rfl]
theorem splitL_other {c h : Nat} {t p : List Nat} {r : List (List Nat)} (hc : h ≠ c) (e : splitL c t = p :: r) : splitL c (h :: t) = (h :: p) :: r := by rw [splitL, if_neg hc, e]
theorem splitL_last {c : Nat} : ∀ {p : List Nat}, c ∉ p → splitL c p = [p]
  | [], _ => rfl
  | h :: t, hn => splitL_other (fun e => hn (e ▸ List.Mem.head _)) (splitL_last fun q => hn (List.Mem.tail _ q))
theorem splitL_app {c : Nat} {t : List Nat} : ∀ {p : List Nat}, c ∉ p → splitL c (p ++ c :: t) = p :: splitL c t
  | [], _ => splitL_eq
  | h :: p, hn => splitL_other (fun e => hn (e ▸ List.Mem.head _)) (splitL_app fun q => hn (List.Mem.tail _ q))
theorem idxL_last {c : Nat} : ∀ {p : List Nat} {k : Nat}, c ∉ p → idxL c k p = []
  | [], _, _ => rfl
  | h :: t, k, hn => by
    rw [idxL, if_neg (fun e : h = c => hn (e ▸ List.Mem.head _))]
    exact idxL_last fun q => hn (List.Mem.tail _ q)
theorem idxL_app {c : Nat} {t : List Nat} : ∀ {p : List Nat} {k : Nat}, c ∉ p → idxL c k (p ++ c :: t) = (k + p.length) :: idxL c (k + p.length + 1) t
  | [], k, _ => by rw [List.nil_append, idxL, if_pos rfl]; rfl
  | h :: p, k, hn => by
    rw [List.cons_append, idxL, if_neg (fun e : h = c => hn (e ▸ List.Mem.head _)), idxL_app fun q => hn (List.Mem.tail _ q)]
    simp only [List.length_cons]
    rw [show k + 1 + p.length = k + (p.length + 1) by omega]
theorem split_idx (c : Nat) : ∀ (l : List Nat) (k : Nat), (splitL c l).length = (idxL c k l).length + 1
  | [], _ => rfl
  | h :: t, k => by
    have ih := split_idx c t (k + 1)
    by_cases hc : h = c
    · rw [splitL, if_pos hc, idxL, if_pos hc, List.length_cons, List.length_cons, ih]
    · obtain ⟨p, r, e⟩ := splitL_ne c t
      rw [splitL_other hc e, idxL, if_neg hc, ← ih, e]
      rfl
def joinL (c : Nat) : List (List Nat) → List Nat
  | [] => []
  | [p] => p
  | p :: q :: r => p ++ c :: joinL c (q :: r)
theorem splitL_join (c : Nat) : ∀ l, joinL c (splitL c l) = l ∧ ∀ p ∈ splitL c l, c ∉ p
  | [] => ⟨rfl, fun p hp => by rcases List.mem_singleton.mp hp with rfl; exact fun h => by cases h⟩
  | h :: t => by
    obtain ⟨ih1, ih2⟩ := splitL_join c t
    obtain ⟨p, r, e⟩ := splitL_ne c t
    by_cases hc : h = c
    · subst hc
      rw [splitL_eq, e]
      rw [e] at ih1 ih2
      refine ⟨by show [] ++ h :: joinL h (p :: r) = h :: t; rw [ih1]; rfl, fun q hq => ?_⟩
      rcases List.mem_cons.mp hq with rfl | hq
      · exact fun z => by cases z
      · exact ih2 q hq
    · rw [splitL_other hc e]
      rw [e] at ih1 ih2
      refine ⟨?_, fun q hq => ?_⟩
      · rcases r with _ | ⟨q, r⟩
        · show h :: p = h :: t
          rw [← ih1]; rfl
        · show h :: p ++ c :: joinL c (q :: r) = h :: t
          rw [← ih1]; rfl
      · rcases List.mem_cons.mp hq with rfl | hq
        · exact fun z => by
            rcases List.mem_cons.mp z with z | z
            · exact hc z.symm
            · exact ih2 p (List.Mem.head _) z
        · exact ih2 q (List.Mem.tail _ hq)
section
variable {x : Str} {c : Nat}
theorem occ_run (limit : Nat) : ∀ (m a free : Nat) (acc : Array Nat), free ≤ a → acc.size + m ≤ limit →
    (forIn (List.range' a m) (acc, free) (StrLaws.occBody x ⟨#[c]⟩ x.length limit)).run.fst.toList = acc.toList ++ (List.range' a m).filter fun i => x.cps.toList[i]? == some c
  | 0, a, free, acc, _, _ => by
    show acc.toList = acc.toList ++ []
    rw [List.append_nil]
  | m + 1, a, free, acc, hf, hs => by
    rw [show List.range' a (m + 1) = a :: List.range' (a + 1) m from rfl, List.forIn_cons, List.filter_cons]
    have key := StrLaws.subAt_one x c a
    unfold StrLaws.occBody
    split
    · rename_i hc
      have h1 : x.cps.toList[a]? = some c := key.mp ⟨hc.1.2, hc.2⟩
      rw [h1, beq_self_eq_true, if_pos rfl]
      have ih := occ_run limit m (a + 1) (a + 1) (acc.push a) (Nat.le_refl _) (by rw [Array.size_push]; omega)
      rw [Array.toList_push, List.append_assoc] at ih
      exact ih
    · rename_i hc
      have h1 : ¬ x.cps.toList[a]? = some c := fun e => by
        obtain ⟨q1, q2⟩ := key.mpr e
        exact hc ⟨⟨⟨by show acc.size < limit; omega, hf⟩, q1⟩, q2⟩
      rw [if_neg (by simpa using h1)]
      exact occ_run limit m (a + 1) free acc (by omega) (by omega)
theorem filter_idx : ∀ (l pre : List Nat), (List.range' pre.length (l.length + 1)).filter (fun i => (pre ++ l)[i]? == some c) = idxL c pre.length l
  | [], pre => by
    rw [show List.range' pre.length (([] : List Nat).length + 1) = [pre.length] from rfl, List.append_nil, List.filter_cons, if_neg (by simp)]
    rfl
  | h :: t, pre => by
    have ih := filter_idx t (pre ++ [h])
    rw [List.append_assoc, List.length_append] at ih
    rw [show List.range' pre.length ((h :: t).length + 1) = pre.length :: List.range' (pre.length + 1) (t.length + 1) from rfl, List.filter_cons]
    have e : (pre ++ h :: t)[pre.length]? = some h := by simp
    rw [e]
    by_cases hc : h = c
    · rw [hc, beq_self_eq_true, if_pos rfl, idxL, if_pos rfl]
      subst hc
      exact congrArg (pre.length :: ·) ih
    · rw [if_neg (by simpa using hc), idxL, if_neg hc]
      exact ih
theorem occ_all : occurrences x ⟨#[c]⟩ 0 x.length (x.length + 1) = idxL c 0 x.cps.toList := by
  rw [StrLaws.occ_eq, Nat.sub_zero, occ_run (x.length + 1) (x.length + 1) 0 0 #[] (Nat.le_refl _) (by simp)]
  have h := filter_idx (c := c) x.cps.toList []
  rw [List.nil_append] at h
  rw [show (#[] : Array Nat).toList = [] from rfl, List.nil_append, len_cps]
  exact h
theorem parts_eq : ∀ (t pre : List Nat) (a : Nat), x.cps.toList = pre ++ t → a ≤ pre.length → ∀ q r, splitL c t = q :: r →
    (StrLaws.partsFrom x 1 a (idxL c pre.length t)).map (fun s => s.cps.toList) = (pre.drop a ++ q) :: r
  | [], pre, a, e, ha, q, r, hs => by
    cases hs
    show [(strSub x a x.length).cps.toList] = _
    rw [StrLaws.strSub_toList, len_cps, e, List.append_nil, List.append_nil, List.take_of_length_le (by rw [List.length_drop]; omega)]
  | h :: t, pre, a, e, ha, q, r, hs => by
    obtain ⟨q', r', hs'⟩ := splitL_ne c t
    have e2 : x.cps.toList = (pre ++ [h]) ++ t := by rw [e, List.append_assoc]; rfl
    by_cases hc : h = c
    · rw [splitL, if_pos hc, hs'] at hs
      cases hs
      rw [idxL, if_pos hc]
      show (strSub x a pre.length).cps.toList :: (StrLaws.partsFrom x 1 (pre.length + 1) (idxL c (pre.length + 1) t)).map (fun s => s.cps.toList) = _
      have ih := parts_eq t (pre ++ [h]) (pre.length + 1) e2 (by simp) q' r' hs'
      rw [List.length_append, List.length_singleton] at ih
      rw [ih, StrLaws.strSub_toList, e]
      rw [List.drop_append_of_le_length ha, List.take_append_of_le_length (by rw [List.length_drop]; omega), List.take_of_length_le (by rw [List.length_drop]; omega), List.append_nil]
      rw [show List.drop (pre.length + 1) (pre ++ [h]) = [] from List.drop_of_length_le (by rw [List.length_append]; exact Nat.le_refl _), List.nil_append]
    · rw [splitL_other hc hs'] at hs
      injection hs with hq hr
      subst hq hr
      rw [idxL, if_neg hc]
      have ih := parts_eq t (pre ++ [h]) a e2 (by rw [List.length_append]; omega) q' r' hs'
      rw [List.length_append, List.length_singleton] at ih
      rw [ih, List.drop_append_of_le_length ha, List.append_assoc]
      rfl
theorem split_eq (hx : Plain x) (hc : c ≤ 126) : (Txt.split x ⟨#[c]⟩).map (fun s => s.cps.toList) = splitL c x.cps.toList := by
  have k1 : PySem.Builtin.Str.strKind x = 1 := by
    unfold PySem.Builtin.Str.strKind
    rw [if_pos (Array.all_eq_true_iff_forall_mem.mpr fun c hc => by simpa using Nat.lt_of_le_of_lt (hx c (by simpa using hc)).2 (by decide))]
  have k2 : PySem.Builtin.Str.strKind ⟨#[c]⟩ = 1 := by
    unfold PySem.Builtin.Str.strKind
    rw [if_pos (by simp; omega)]
  obtain ⟨q, r, e⟩ := splitL_ne c x.cps.toList
  have whole := parts_eq (c := c) x.cps.toList [] 0 rfl (Nat.le_refl _) q r e
  rw [List.drop_zero, List.nil_append] at whole
  unfold Txt.split
  rw [k1, k2, occ_all, StrLaws.partsBetween_eq, e]
  split
  · rename_i h
    have h0 : x.cps.toList = [] := by
      have : x.length < 1 := by
        have h' : x.length < (⟨#[c]⟩ : Str).length := by simpa using h
        exact h'
      rw [len_cps] at this
      exact List.length_eq_zero_iff.mp (by omega)
    rw [h0] at e
    cases e
    show [x.cps.toList] = _
    rw [h0]
  · split
    · rename_i h2
      have : idxL c 0 x.cps.toList = [] := List.isEmpty_iff.mp h2
      have w2 : (StrLaws.partsFrom x 1 0 (idxL c 0 x.cps.toList)).map (fun s => s.cps.toList) = q :: r := whole
      rw [this] at w2
      rw [← w2]
      show [x.cps.toList] = [(strSub x 0 x.length).cps.toList]
      rw [StrLaws.strSub_toList, len_cps, List.drop_zero, Nat.sub_zero, List.take_length]
    · exact whole
theorem find3_at' {Q R : List Nat} {i : Nat} (e : x.cps.toList = Q ++ c :: R) (hi : i ≤ Q.length) (hn : c ∉ Q.drop i) : Txt.find3 x ⟨#[c]⟩ (i : Int) = (Q.length : Int) := by
  have hlen : x.length = Q.length + (R.length + 1) := by rw [len_cps, e, List.length_append, List.length_cons]
  have hf : fromIndex x.length (i : Int) = i := by unfold fromIndex; rw [if_neg (by omega)]; omega
  have hget : ∀ k, x.cps.getD k 0 = (Q ++ c :: R).getD k 0 := fun k => by
    rw [← e]
    simp [Array.getD_eq_getD_getElem?, List.getD_eq_getElem?_getD]
  have hQ : (Q ++ c :: R).getD Q.length 0 = c := by simp [List.getD_eq_getElem?_getD]
  rcases StrLaws.find3_spec x c i with ⟨_, h⟩ | ⟨k, h, h1, h2, h3, h4⟩
  · exact absurd (by rw [hget, hQ]) (h Q.length (by rw [hf]; exact hi) (by omega))
  · rw [h]
    rw [hf] at h1 h4
    rcases Nat.lt_trichotomy k Q.length with hk | hk | hk
    · exfalso
      rw [hget, List.getD_eq_getElem?_getD, List.getElem?_append_left hk, List.getElem?_eq_getElem hk] at h3
      exact hn (by
        rw [← show Q[k] = c from h3]
        refine List.mem_iff_getElem.mpr ⟨k - i, by rw [List.length_drop]; omega, ?_⟩
        rw [List.getElem_drop]
        congr 1
        omega)
    · rw [hk]
    · exact absurd (by rw [hget, hQ]) (h4 Q.length hi hk)
theorem find_at' {Q R : List Nat} (e : x.cps.toList = Q ++ c :: R) (hn : c ∉ Q) : Txt.find x ⟨#[c]⟩ = (Q.length : Int) := by
  have h : Txt.find x ⟨#[c]⟩ = Txt.find3 x ⟨#[c]⟩ ((0 : Nat) : Int) := by
    unfold Txt.find Txt.find3
    rw [show fromIndex x.length ((0 : Nat) : Int) = 0 by unfold fromIndex; simp]
    rfl
  rw [h]
  exact find3_at' e (Nat.zero_le _) (by rw [List.drop_zero]; exact hn)
theorem item_at {n : Nat} (h : n < x.cps.toList.length) : Txt.item x (n : Int) = ⟨#[x.cps.toList[n]]⟩ := by
  have hs : n < x.cps.size := by simpa using h
  unfold Txt.item Txt.charAt
  rw [StrLaws.seqIndex_nonneg (by omega) (by show (n : Int) < (x.cps.size : Int); omega)]
  simp [hs]
end
end Mine
end

section
open PySem PySem.W PyProof.Rows PySem.Calls PySem.Spec
set_option Elab.async false
namespace Mine
set_option maxRecDepth 100000
set_option maxHeartbeats 2000000
def IsMark (z : Str) : Prop := ∃ k, z = ⟨#[k]⟩ ∧ 32 ≤ k ∧ k ≤ 126
def NoFields (x : Str) : Prop := x = Str.ofString "" ∨ (0 < x.length ∧ (pl x).length ≠ 4) ∨ (∃ a b c d, 0 < x.length ∧ pl x = [a, b, c, d] ∧ d ≠ (x.length : Int) - 1)
def Both0 (z d : Str) : Str := Str.ofString "229 (" ++ z ++ d ++ z ++ Str.ofString ")"
def Both1 (pre x d : Str) (u : Tok) : Str := Str.ofString "229" ++ pre ++ Str.ofString "(" ++ Txt.sliceBy x none none (-1, u) ++ Str.ofString ")" ++ d
structure MarkLaw (z d pre x : Str) : Prop where
  len : x.length ≤ 27
  plain : Plain x
  says : (NoFields x ∧ portOut (Both0 z d) = .error false ∧ ∀ u, portOut (Both1 pre x d u) = .error false) ∨
    ∃ k0 k1 k2 k3, 0 < x.length ∧ pl x = [k0, k1, k2, k3] ∧ k3 = (x.length : Int) - 1 ∧ portOut (Both0 z d) = .ok (Txt.slice x (some (k2 + 1)) (some (-1))) ∧ ∀ u u', portOut (Both1 pre x d u) = .ok (Txt.sliceBy (Txt.slice x (some 1) (some k1)) none none (-1, u'))
theorem rev_list (x : Str) (u : Tok) : (Txt.sliceBy x none none (-1, u)).cps.toList = x.cps.toList.reverse := by
  rw [step_rev_list]
  refine List.ext_getElem (by rw [List.length_map, List.length_range, List.length_reverse, len_cps]) fun i h1 h2 => ?_
  rw [List.length_map, List.length_range] at h1
  rw [List.getElem_map, List.getElem_range, List.getElem_reverse]
  have h3 : x.length - 1 - i < x.cps.size := by show _ < x.length; omega
  rw [show x.cps.getD (x.length - 1 - i) 0 = x.cps[x.length - 1 - i] by simp [Array.getD, h3]]
  simp only [len_cps, Array.getElem_toList]
theorem plain_layable {x : Str} (h : Plain x) (hl : x.length ≤ 100) : PyData.layable0 (.str x) = true := by
  unfold PyData.layable0 PyData.canLay0 PyData.depth PyData.weight
  simp only [Bool.and_eq_true, decide_eq_true_eq]
  refine ⟨⟨?_, by omega⟩, Nat.le_trans (show x.cps.size ≤ 100 from hl) (by decide)⟩
  unfold PyData.strOk
  exact Array.all_eq_true_iff_forall_mem.mpr fun c hc => by simpa using Nat.lt_of_le_of_lt (h c (by simpa using hc)).2 (by decide)
theorem slice_plain {x : Str} (h : Plain x) (l u : Option Int) : Plain (Txt.slice x l u) := by
  intro c hc
  unfold Txt.slice at hc
  split at hc
  · exact h c hc
  · have hc' : c ∈ (Builtin.Str.strSliceIndices l u 1 x.length).filterMap (x.cps[·]?) := by simpa using hc
    obtain ⟨i, _, hi⟩ := List.mem_filterMap.mp hc'
    exact h c (by have : x.cps.toList[i]? = some c := by simpa using hi
                  exact List.mem_of_getElem? this)
theorem rev_plain {x : Str} (h : Plain x) (u : Tok) : Plain (Txt.sliceBy x none none (-1, u)) := by
  intro c hc
  rw [rev_list] at hc
  exact h c (List.mem_reverse.mp hc)
def portIn : List Nat → Except Bool Str
  | [] => .error false
  | h :: t => if (h :: t).getLast? = some h then (match splitL h (h :: t) with
      | [_, _, _, y, _] => .ok ⟨y.toArray⟩
      | _ => .error false) else .error false
theorem portIn_cons (h : Nat) (t : List Nat) : portIn (h :: t) = if (h :: t).getLast? = some h then (match splitL h (h :: t) with
      | [_, _, _, y, _] => .ok ⟨y.toArray⟩
      | _ => .error false) else .error false := rfl
theorem port_shape {r : Str} {P Y T : List Nat} (e : r.cps.toList = P ++ 40 :: (Y ++ 41 :: T)) (h3 : P.take 3 = [50, 50, 57]) (hP : 40 ∉ P) (hY : 41 ∉ Y) (hr : Plain r) : portOut r = portIn Y := by
  have hPl : 3 ≤ P.length := by have := congrArg List.length h3; rw [List.length_take] at this; simp at this; omega
  have g1 : (Txt.slice r none (some 3) != Str.ofString "229") = false := by
    rw [slice3, s229, e, List.take_append_of_le_length hPl, h3]; rfl
  have g2 : Txt.find r (Str.ofString "(") = (P.length : Int) := by rw [s_lp]; exact find_at' e hP
  have e2 : r.cps.toList = (P ++ 40 :: Y) ++ 41 :: T := by rw [e]; simp
  have hdrop : (P ++ 40 :: Y).drop (P.length + 1) = Y := by rw [List.drop_append]; simp
  have g3 : Txt.find3 r (Str.ofString ")") (Txt.find r (Str.ofString "(") + 1) = ((P.length + 1 + Y.length : Nat) : Int) := by
    rw [g2, s_rp]
    have := find3_at' (i := P.length + 1) e2 (by simp) (by rw [hdrop]; exact hY)
    rw [Int.natCast_add] at this
    rw [show ((P.length : Int) + 1) = (P.length : Int) + ((1 : Nat) : Int) from rfl, this]
    simp; omega
  have hlen : r.cps.toList.length = P.length + (1 + (Y.length + (1 + T.length))) := by rw [e]; simp; omega
  have g4 : Txt.item r (Txt.find r (Str.ofString "(") + 1) = ⟨#[(Y ++ 41 :: T)[0]'(by rw [List.length_append, List.length_cons]; omega)]⟩ := by
    rw [g2, show ((P.length : Int) + 1) = ((P.length + 1 : Nat) : Int) from rfl, item_at (by omega)]
    simp only [e]
    rw [List.getElem_append_right (by omega)]
    simp
  have g5 : Txt.item r (((P.length + 1 + Y.length : Nat) : Int) - 1) = ⟨#[(40 :: Y)[Y.length]'(by simp)]⟩ := by
    rw [show (((P.length + 1 + Y.length : Nat) : Int) - 1) = ((P.length + Y.length : Nat) : Int) by omega, item_at (by omega)]
    simp only [e2]
    rw [List.getElem_append_left (by rw [List.length_append, List.length_cons]; omega), List.getElem_append_right (by omega)]
    simp
  have g6 : Txt.slice r (some (Txt.find r (Str.ofString "(") + 1)) (some ((P.length + 1 + Y.length : Nat) : Int)) = ⟨Y.toArray⟩ := by
    rw [g2, show ((P.length : Int) + 1) = ((P.length + 1 : Nat) : Int) from rfl, slice_nat r (by omega), e2]
    rw [List.drop_append_of_le_length (by simp), hdrop, show P.length + 1 + Y.length - (P.length + 1) = Y.length by omega, List.take_append_of_le_length (Nat.le_refl _), List.take_length]
  have n2 : ¬ Txt.find r (Str.ofString "(") < 0 := by rw [g2]; omega
  have n3 : ¬ Txt.find3 r (Str.ofString ")") (Txt.find r (Str.ofString "(") + 1) < 0 := by rw [g3]; omega
  rcases Y with _ | ⟨h, Y⟩
  · refine portOut_3 g1 n2 n3 ?_
    rw [g3, g4, g5]
    show ((⟨#[41]⟩ : Str) != ⟨#[40]⟩) = true
    decide
  · have g4' : Txt.item r (Txt.find r (Str.ofString "(") + 1) = ⟨#[h]⟩ := g4
    have hlast : (h :: Y).getLast? = some ((40 :: h :: Y)[(h :: Y).length]'(by simp)) := by
      rw [List.getLast?_eq_getElem?]; simp
    by_cases hl : (h :: Y).getLast? = some h
    · have hl' : (40 :: h :: Y)[(h :: Y).length]'(by simp) = h := by rw [hlast] at hl; exact Option.some.inj hl
      have n4 : (Txt.item r (Txt.find r (Str.ofString "(") + 1) != Txt.item r (Txt.find3 r (Str.ofString ")") (Txt.find r (Str.ofString "(") + 1) - 1)) = false := by
        rw [g3, g4', g5, hl']; simp
      have hYp : Plain ⟨(h :: Y).toArray⟩ := fun c hc => hr c (by rw [e]; exact List.mem_append_right _ (List.Mem.tail _ (List.mem_append_left _ (by simpa using hc))))
      have hs := split_eq (c := h) hYp (hYp h (by simp)).2
      have hS : Txt.split (Txt.slice r (some (Txt.find r (Str.ofString "(") + 1)) (some (Txt.find3 r (Str.ofString ")") (Txt.find r (Str.ofString "(") + 1)))) (Txt.item r (Txt.find r (Str.ofString "(") + 1)) = Txt.split ⟨(h :: Y).toArray⟩ ⟨#[h]⟩ := by
        rw [g3, g6, g4']
      have hs' : (Txt.split ⟨(h :: Y).toArray⟩ ⟨#[h]⟩).map (fun s => s.cps.toList) = splitL h (h :: Y) := hs
      unfold portOut
      rw [if_neg (by rw [g1]; exact Bool.false_ne_true), if_neg n2, if_neg n3, if_neg (by rw [n4]; exact Bool.false_ne_true), hS]
      rw [portIn_cons, if_pos hl, ← hs']
      generalize Txt.split ⟨(h :: Y).toArray⟩ ⟨#[h]⟩ = S
      match S with
      | [] => rfl
      | [_] => rfl
      | [_, _] => rfl
      | [_, _, _] => rfl
      | [_, _, _, _] => rfl
      | [_, _, _, y, _] => rfl
      | _ :: _ :: _ :: _ :: _ :: _ :: _ => simp
    · rw [portIn_cons, if_neg hl]
      refine portOut_3 g1 n2 n3 ?_
      rw [g3, g4', g5]
      refine bne_iff_ne.mpr fun q => hl ?_
      rw [hlast]
      have q2 := congrArg (fun s : Str => s.cps.toList) q
      simp only [List.cons.injEq, and_true] at q2
      rw [← q2]
theorem idx_count (c : Nat) : ∀ (l : List Nat) (k : Nat), (idxL c k l).length = l.count c
  | [], _ => rfl
  | h :: t, k => by
    by_cases hc : h = c
    · rw [idxL, if_pos hc, List.length_cons, idx_count c t, hc, List.count_cons_self]
    · rw [idxL, if_neg hc, idx_count c t, List.count_cons_of_ne hc]
theorem splitL_count (c : Nat) (l : List Nat) : (splitL c l).length = l.count c + 1 := by rw [split_idx c l 0, idx_count]
theorem pl_idx {x : Str} {h : Nat} {t : List Nat} (e : x.cps.toList = h :: t) : pl x = (idxL h 0 x.cps.toList).map fun (i : Nat) => (i : Int) := by
  have h0 : Txt.item x 0 = ⟨#[h]⟩ := by
    have := item_at (x := x) (n := 0) (by rw [e]; simp)
    rw [show ((0 : Nat) : Int) = 0 from rfl] at this
    rw [this]; simp [e]
  have hf := filter_idx (c := h) x.cps.toList []
  rw [List.nil_append, List.length_nil] at hf
  rw [← hf]
  unfold pl rangeKs
  rw [List.filter_map, len_cps]
  have e2 : List.range' 0 (x.cps.toList.length + 1) = List.range x.cps.toList.length ++ [x.cps.toList.length] := by
    rw [← List.range_eq_range', List.range_succ]
  rw [e2, List.filter_append, List.map_append]
  have e3 : ([x.cps.toList.length].filter fun i => x.cps.toList[i]? == some h) = [] := by
    rw [List.filter_cons, if_neg (by simp)]; rfl
  rw [e3, List.map_nil, List.append_nil]
  have e4 : ((List.range x.cps.toList.length).filter ((fun k => Txt.item x k == Txt.item x 0) ∘ fun (i : Nat) => (0 : Int) + (i : Int))) = (List.range x.cps.toList.length).filter fun i => x.cps.toList[i]? == some h := by
    refine List.filter_congr fun i hi => ?_
    have hi' : i < x.cps.toList.length := List.mem_range.mp hi
    show (Txt.item x (0 + (i : Int)) == Txt.item x 0) = _
    rw [Int.zero_add, item_at hi', h0, List.getElem?_eq_getElem hi']
    by_cases q : x.cps.toList[i] = h
    · rw [q]; simp
    · have q1 : ¬ ((⟨#[x.cps.toList[i]]⟩ : Str) = ⟨#[h]⟩) := fun z => by
        have z2 := congrArg (fun s : Str => s.cps.toList) z
        simp only [List.cons.injEq, and_true] at z2
        exact q z2
      rw [beq_eq_false_iff_ne.mpr q1, beq_eq_false_iff_ne.mpr (by simpa using q)]
  rw [e4]
  refine List.map_congr_left fun i _ => ?_
  exact Int.zero_add _
theorem four_shape {h : Nat} {l : List Nat} (h0 : l.head? = some h) (h1 : l.getLast? = some h) (hc : l.count h = 4) : ∃ A B C, h ∉ A ∧ h ∉ B ∧ h ∉ C ∧ l = h :: (A ++ h :: (B ++ h :: (C ++ [h]))) := by
  have hl := splitL_count h l
  rw [hc] at hl
  obtain ⟨j1, j2⟩ := splitL_join h l
  match hs : splitL h l, hl with
  | [p0, p1, p2, p3, p4], _ =>
    rw [hs] at j1 j2
    have j1' : p0 ++ h :: (p1 ++ h :: (p2 ++ h :: (p3 ++ h :: p4))) = l := j1
    simp only [List.forall_mem_cons] at j2
    obtain ⟨n0, n1, n2, n3, n4, _⟩ := j2
    have z0 : p0 = [] := by
      rcases p0 with _ | ⟨a, p0⟩
      · rfl
      · rw [← j1'] at h0
        have : a = h := by simpa using h0
        exact absurd (this ▸ List.Mem.head _) n0
    have z4 : p4 = [] := by
      rcases List.eq_nil_or_concat p4 with q | ⟨r, a, q⟩
      · exact q
      · rw [← j1', q, List.concat_eq_append] at h1
        have : a = h := by
          have e5 : p0 ++ h :: (p1 ++ h :: (p2 ++ h :: (p3 ++ h :: (r ++ [a])))) = (p0 ++ h :: (p1 ++ h :: (p2 ++ h :: (p3 ++ h :: r)))) ++ [a] := by simp
          rw [e5, List.getLast?_concat] at h1
          exact Option.some.inj h1
        exact absurd (by rw [q, this]; simp) n4
    subst z0 z4
    exact ⟨p1, p2, p3, n1, n2, n3, j1'.symm⟩
theorem four_split {h : Nat} {A B C : List Nat} (nA : h ∉ A) (nB : h ∉ B) (nC : h ∉ C) : splitL h (h :: (A ++ h :: (B ++ h :: (C ++ [h])))) = [[], A, B, C, []] := by
  rw [splitL_eq, splitL_app nA, splitL_app nB, splitL_app nC]
  rfl
theorem four_idx {h : Nat} {A B C : List Nat} (nA : h ∉ A) (nB : h ∉ B) (nC : h ∉ C) : idxL h 0 (h :: (A ++ h :: (B ++ h :: (C ++ [h])))) = [0, A.length + 1, A.length + B.length + 2, A.length + B.length + C.length + 3] := by
  rw [idxL, if_pos rfl, idxL_app nA, idxL_app nB, idxL_app nC]
  show [0, 0 + 1 + A.length, 0 + 1 + A.length + 1 + B.length, 0 + 1 + A.length + 1 + B.length + 1 + C.length] = _
  simp only [List.cons.injEq, and_true, true_and]
  omega
theorem four_rev {h : Nat} {A B C : List Nat} : (h :: (A ++ h :: (B ++ h :: (C ++ [h])))).reverse = h :: (C.reverse ++ h :: (B.reverse ++ h :: (A.reverse ++ [h]))) := by simp
theorem four_port {h : Nat} {A B C : List Nat} (nA : h ∉ A) (nB : h ∉ B) (nC : h ∉ C) : portIn (h :: (A ++ h :: (B ++ h :: (C ++ [h])))) = .ok ⟨C.toArray⟩ := by
  have hl : (h :: (A ++ h :: (B ++ h :: (C ++ [h])))).getLast? = some h := by
    have e5 : h :: (A ++ h :: (B ++ h :: (C ++ [h]))) = (h :: (A ++ h :: (B ++ h :: C))) ++ [h] := by simp
    rw [e5, List.getLast?_concat]
  rw [portIn_cons, if_pos hl, four_split nA nB nC]
theorem port_none {h : Nat} {t : List Nat} (hn : ¬ ((h :: t).getLast? = some h ∧ (h :: t).count h = 4)) : portIn (h :: t) = .error false := by
  rw [portIn_cons]
  split
  · rename_i hl
    have hc : (h :: t).count h ≠ 4 := fun q => hn ⟨hl, q⟩
    have hs := splitL_count h (h :: t)
    match splitL h (h :: t), hs with
    | [], _ => rfl
    | [_], _ => rfl
    | [_, _], _ => rfl
    | [_, _, _], _ => rfl
    | [_, _, _, _], _ => rfl
    | [_, _, _, _, _], hs => exact absurd (by simpa using hs.symm) hc
    | _ :: _ :: _ :: _ :: _ :: _ :: _, _ => rfl
  · rfl
theorem split_head {w : Str} {c : Nat} {q : Str} (hw : Plain w) (hc : c ≤ 126) (h : (Txt.split w ⟨#[c]⟩)[Int.toNat 0]? = some q) : ∃ r, splitL c w.cps.toList = q.cps.toList :: r := by
  have hs := split_eq (c := c) hw hc
  generalize Txt.split w ⟨#[c]⟩ = S at h hs
  rcases S with _ | ⟨p, r⟩
  · cases h
  · have : p = q := Option.some.inj h
    subst this
    exact ⟨_, hs.symm⟩
theorem rev_head {l : List Nat} {h : Nat} {t : List Nat} (e : l = h :: t) : l.reverse.getLast? = some h := by
  rw [e, List.reverse_cons, List.getLast?_concat]
theorem mark_law {z d pre x : Str} (hz : IsMark z) (dk : DrawnOk d) (hpre : (Txt.split d (Str.ofString "("))[Int.toNat 0]? = some pre) (hx : (Txt.split (z ++ d ++ z ++ Str.ofString ")") (Str.ofString ")"))[Int.toNat 0]? = some x) : MarkLaw z d pre x := by
  obtain ⟨k, rfl, hk1, hk2⟩ := hz
  have zp : Plain ⟨#[k]⟩ := fun c hc => by
    have : c = k := by simpa using hc
    rw [this]; exact ⟨hk1, hk2⟩
  have rpp : Plain (Str.ofString ")") := plain_of (by decide +kernel)
  have e41 : (Str.ofString ")").cps.toList = [41] := by decide +kernel
  have e40 : (Str.ofString "(").cps.toList = [40] := by decide +kernel
  have e229 : (Str.ofString "229").cps.toList = [50, 50, 57] := by decide +kernel
  have e229b : (Str.ofString "229 (").cps.toList = [50, 50, 57, 32, 40] := by decide +kernel
  have wp : Plain (⟨#[k]⟩ ++ d ++ ⟨#[k]⟩ ++ Str.ofString ")") := ((zp.app dk.plain).app zp).app rpp
  have wl : (⟨#[k]⟩ ++ d ++ ⟨#[k]⟩ ++ Str.ofString ")" : Str).cps.toList = [k] ++ d.cps.toList ++ [k] ++ [41] := by simp only [app_cps, e41]
  obtain ⟨r, hr⟩ := split_head (c := 41) wp (by decide) (by rw [← s_rp]; exact hx)
  obtain ⟨j1, j2⟩ := splitL_join 41 (⟨#[k]⟩ ++ d ++ ⟨#[k]⟩ ++ Str.ofString ")" : Str).cps.toList
  rw [hr] at j1 j2
  have n41 : 41 ∉ x.cps.toList := j2 _ (List.Mem.head _)
  obtain ⟨T, hT⟩ : ∃ T, (⟨#[k]⟩ ++ d ++ ⟨#[k]⟩ ++ Str.ofString ")" : Str).cps.toList = x.cps.toList ++ 41 :: T := by
    rcases r with _ | ⟨q, r⟩
    · exfalso
      have j3 : x.cps.toList = (⟨#[k]⟩ ++ d ++ ⟨#[k]⟩ ++ Str.ofString ")" : Str).cps.toList := j1
      exact n41 (by rw [j3, wl]; simp)
    · exact ⟨_, j1.symm⟩
  have dhi := dk.hi
  rw [len_cps] at dhi
  have hxl : x.cps.toList.length ≤ 26 := by
    have := congrArg List.length hT
    rw [wl] at this
    simp only [List.length_append, List.length_cons, List.length_nil] at this
    omega
  have hxp : Plain x := fun c hc => wp c (by rw [hT]; exact List.mem_append_left _ hc)
  obtain ⟨r2, hr2⟩ := split_head (c := 40) dk.plain (by decide) (by rw [← s_lp]; exact hpre)
  obtain ⟨i1, i2⟩ := splitL_join 40 d.cps.toList
  rw [hr2] at i1 i2
  have n40 : 40 ∉ pre.cps.toList := i2 _ (List.Mem.head _)
  have hprep : Plain pre := fun c hc => dk.plain c (by
    rw [← i1]
    rcases r2 with _ | ⟨q, r2⟩
    · exact hc
    · exact List.mem_append_left _ hc)
  have p0 : portOut (Both0 ⟨#[k]⟩ d) = portIn x.cps.toList := by
    refine port_shape (P := [50, 50, 57, 32]) (T := T) ?_ rfl (by decide) n41 ?_
    · unfold Both0
      simp only [app_cps, e229b, e41]
      rw [← hT, wl]
      simp
    · unfold Both0
      exact ((((plain_of (by decide +kernel)).app zp).app dk.plain).app zp).app rpp
  have p1 : ∀ u, portOut (Both1 pre x d u) = portIn x.cps.toList.reverse := fun u => by
    refine port_shape (P := [50, 50, 57] ++ pre.cps.toList) (T := d.cps.toList) ?_ rfl ?_ (by simpa using n41) ?_
    · unfold Both1
      simp only [app_cps, e229, e40, e41, rev_list]
      simp
    · intro q
      rcases List.mem_append.mp q with q | q
      · exact absurd q (by decide)
      · exact n40 q
    · unfold Both1
      exact (((((plain_of (by decide +kernel)).app hprep).app (plain_of (by decide +kernel))).app (rev_plain hxp u)).app rpp).app dk.plain
  refine ⟨by rw [len_cps]; omega, hxp, ?_⟩
  rcases hq : x.cps.toList with _ | ⟨h, t⟩
  · rw [hq] at p0 p1
    exact .inl ⟨.inl (cps_ext (by rw [hq]; decide +kernel)), p0, p1⟩
  have hlen : 0 < x.length := by rw [len_cps, hq]; simp
  have hpl := pl_idx hq
  by_cases hf : (h :: t).getLast? = some h ∧ (h :: t).count h = 4
  · obtain ⟨A, B, C, nA, nB, nC, hs⟩ := four_shape (h := h) (l := h :: t) rfl hf.1 hf.2
    rw [hq, hs, four_idx nA nB nC] at hpl
    have hxs : x.cps.toList = h :: (A ++ h :: (B ++ h :: (C ++ [h]))) := hq.trans hs
    have hxn : x.length = A.length + B.length + C.length + 4 := by rw [len_cps, hxs]; simp; omega
    refine .inr ⟨_, _, _, _, hlen, hpl, by rw [hxn]; dsimp only; omega, ?_, fun u u' => ?_⟩
    · rw [p0, hxs, four_port nA nB nC]
      congr 1
      have e1 : Txt.slice x (some (((A.length + B.length + 2 : Nat) : Int) + 1)) (some (-1)) = Txt.slice x (some ((A.length + B.length + 3 : Nat) : Int)) (some ((A.length + B.length + C.length + 3 : Nat) : Int)) := by
        show StrLaws.sliceText x _ _ = StrLaws.sliceText x _ _
        rw [StrLaws.sliceText_neg_hi x _ (by decide) (by rw [hxn]; omega)]
        congr 2 <;> omega
      rw [e1, slice_nat x (by omega), hxs]
      have e2 : h :: (A ++ h :: (B ++ h :: (C ++ [h]))) = (h :: (A ++ h :: (B ++ [h]))) ++ (C ++ [h]) := by simp
      rw [e2, List.drop_left' (by simp; omega), show A.length + B.length + C.length + 3 - (A.length + B.length + 3) = C.length by omega, List.take_left' rfl]
    · rw [p1, hxs, four_rev, four_port (by simpa using nC) (by simpa using nB) (by simpa using nA)]
      congr 1
      refine cps_ext ?_
      rw [rev_list]
      have e1 : Txt.slice x (some 1) (some ((A.length + 1 : Nat) : Int)) = ⟨A.toArray⟩ := by
        rw [show (some (1 : Int)) = some ((1 : Nat) : Int) from rfl, slice_nat x (by omega), hxs]
        rw [List.drop_succ_cons, List.drop_zero, show A.length + 1 - 1 = A.length by omega, List.take_left' rfl]
      rw [e1]
  · have q0 : portIn x.cps.toList = .error false := by rw [hq]; exact port_none hf
    have q1 : portIn x.cps.toList.reverse = .error false := by
      rcases hrv : x.cps.toList.reverse with _ | ⟨h2, t2⟩
      · rfl
      · refine port_none fun hf2 => hf ?_
        have hlast : (h2 :: t2).getLast? = some h := by rw [← hrv]; exact rev_head hq
        have e3 : h2 = h := by rw [hlast] at hf2; exact (Option.some.inj hf2.1).symm
        subst e3
        refine ⟨?_, ?_⟩
        · have := rev_head hrv
          rw [List.reverse_reverse, hq] at this
          exact this
        · rw [← hf2.2, ← hrv, List.count_reverse, hq]
    rw [q0] at p0
    refine .inl ⟨?_, p0, fun u => by rw [p1, q1]⟩
    by_cases h4 : (pl x).length = 4
    · obtain ⟨a, b, c, e, h5⟩ := four h4
      refine .inr (.inr ⟨a, b, c, e, hlen, h5, fun hl => ?_⟩)
      refine hf ⟨?_, ?_⟩
      · have hm : e ∈ pl x := by rw [h5]; simp
        have hi := (List.mem_filter.mp hm).2
        have hi2 : Txt.item x e = Txt.item x 0 := eq_of_beq hi
        have hn : x.cps.toList.length - 1 < x.cps.toList.length := by rw [hq]; simp
        rw [hl, show (x.length : Int) - 1 = ((x.cps.toList.length - 1 : Nat) : Int) by rw [len_cps] at hlen ⊢; omega, item_at hn] at hi2
        have h0 := item_at (x := x) (n := 0) (by rw [hq]; simp)
        rw [show ((0 : Nat) : Int) = 0 from rfl] at h0
        rw [h0] at hi2
        have z2 := congrArg (fun s : Str => s.cps.toList) hi2
        simp only [List.cons.injEq, and_true] at z2
        rw [← hq, List.getLast?_eq_getElem?, List.getElem?_eq_getElem hn, z2]
        simp [hq]
      · rw [hpl, List.length_map, idx_count, hq] at h4
        exact h4
    · exact .inr (.inl ⟨hlen, h4⟩)
end Mine
end

section
open PySem PySem.W PyProof.Rows PySem.Calls PySem.Spec
set_option Elab.async false
namespace Mine
set_option maxRecDepth 100000
set_option maxHeartbeats 4000000
variable {w : World} {mean : ExcName → Option Value} {mg mb : Str → Option Value}
theorem fields_nil {x : Str} {t : Tok} (hx : x.length ≤ 27) (h : NoFields x) : Tell0 w mean mg mb 119 [.str x t] (fun _ => True) (fun r tl => ∃ R c, r = .ref R ∧ tl = [(R, W.listOf #[] c)]) := by
  rcases h with rfl | ⟨h0, h4⟩ | ⟨a, b, c, d, h0, h4, hl⟩
  · exact fields0
  · refine (fields1 (by omega) h0).mono fun r tl h => ?_
    rcases h with ⟨_, q⟩ | ⟨k0, k1, k2, k3, e, _⟩
    · exact q
    · rw [e] at h4; exact absurd rfl h4
  · refine (fields1 (by omega) h0).mono fun r tl h => ?_
    rcases h with ⟨_, q⟩ | ⟨k0, k1, k2, k3, e, e', _⟩
    · exact q
    · rw [h4] at e; cases e; exact absurd e' hl
theorem fieldsC {x : Str} {t : Tok} (hx : x.length ≤ 30) (h0 : 0 < x.length) {k0 k1 k2 k3 : Int} (h4 : pl x = [k0, k1, k2, k3]) (hlast : k3 = (x.length : Int) - 1) :
    Tell0 w mean mg mb 119 [.str x t] (fun _ => True) (fun r tl => ∃ R c t1 t2 u, r = .ref R ∧ tl = [(R, W.listOf #[.str (Txt.slice x (some (k2 + 1)) (some (-1))) t1, .str (Txt.sliceBy (Txt.slice x (some 1) (some k1)) none none (-1, u)) t2] c)]) := by
  refine (fields1 hx h0).mono fun r tl h => ?_
  rcases h with ⟨hn, _⟩ | ⟨j0, j1, j2, j3, e, _, q⟩
  · exact absurd ⟨_, _, _, _, h4, hlast⟩ hn
  · rw [h4] at e; cases e; exact q
theorem portC_number {p : Addr} {reply drawn y : Str} {t t1 t2 : Tok} (hlen : reply.length ≤ 100) (hO : portOut reply = .ok y) (hn : PySem.intText? y = none) (hlay : PyData.layable0 (.str y) = true) :
    TellC w mean mg mb 140 [.str reply t, .ref p] (fun g => IsTup g p [Value.str drawn t1, Value.int 21 t2].toArray) (fun r tl => ∃ R c u, r = .ref R ∧ tl = [(R, W.listOf #[.str (Str.ofString "number") u] c)]) := by
  refine (portC hlen hO hn hlay).mono fun r tl h => ?_
  unfold PortSays at h
  rw [hO] at h
  dsimp only at h
  rw [hn] at h
  exact h
theorem both_abs {h₀ h : Heap} {L a : Addr} {r : List (Addr × Obj)} {b0 b1 : Str} {t0 t1 : Tok} {n : Nat} (N : News h₀ L h ((a, W.listOf #[Value.str b0 t0, Value.str b1 t1] n) :: r)) (P : Str → Str → Prop) (hp : P b0 b1) : ∃ b0' b1', P b0' b1' ∧ News h₀ L h ((a, W.listOf #[Value.str b0' t0, Value.str b1' t1] n) :: r) := ⟨b0, b1, hp, N⟩
theorem both_abs4 {h₀ h : Heap} {L a f : Addr} {r : List (Addr × Obj)} {b0 b1 y0 y1 : Str} {t0 t1 t2 t3 : Tok} {n k : Nat} (N : News h₀ L h ((a, W.listOf #[Value.str b0 t0, Value.str b1 t1] n) :: (f, W.listOf #[Value.str y0 t2, Value.str y1 t3] k) :: r)) (P : Str → Str → Str → Str → Prop) (hp : P b0 b1 y0 y1) :
    ∃ b0' b1' y0' y1', P b0' b1' y0' y1' ∧ News h₀ L h ((a, W.listOf #[Value.str b0' t0, Value.str b1' t1] n) :: (f, W.listOf #[Value.str y0' t2, Value.str y1' t3] k) :: r) := ⟨b0, b1, y0, y1, hp, N⟩
end Mine
end

section
open PySem PySem.W PyProof.Rows PySem.Calls PySem.Spec
set_option Elab.async false
namespace Mine
set_option maxRecDepth 100000
set_option maxHeartbeats 4000000
section
variable {w : World} {mean : ExcName → Option Value} {mg mb : Str → Option Value} {dp un : Nat} {gd : Option (List Code)} {cn : Str} {cs : Scope} {a : Addr} {ccd : Value} {cl : List (Str × Addr)} {A₀ : Around} {h₀ : Heap} {L f : Addr} {m : Str → Option Value} {news : List (Addr × Obj)} {s : Shared} {Q E : Value → Shared → Prop}
  {vs : List Value} {pre : Heap → Prop} {P : Value → List (Addr × Obj) → Prop} {x y : Str} {n : Int}
section
variable (C0 : Tell0 w mean mg mb f vs pre P) (hp : pre s.heap) (B : Below A₀ h₀ [] h₀) (F : Fr h₀ L s.heap m) (X : (hd.heap_1 w.params).In h₀) (N : News h₀ L s.heap news) (T : Top hd.view_39 (looseW hd.view_39 [Str.ofString "quantiles"]) mean mg mb h₀) (hk : cs.kind = .function) (hd : dp + 10 < recursionLimit) (hu : un + 80 < cLine)
include C0 hp B F X N T hk hd hu
theorem use_two (hP : ∀ r tl, P r tl → Pair2 x y r tl) (ret : ∀ (R : Addr) (c : Nat) (u u' : Tok) (h' : Heap) (tk' : Nat), Fr h₀ L h' m → News h₀ L h' ((R, W.listOf #[.str x u, .str y u'] c) :: news) → Q (.ref R) { s with heap := h', toks := tk' }) :
    wpAny (model PySem.Challenge.rw_rw0045_01.row.prog w) (ktrTop dp un gd cn cs L a ccd cl []) (call (.ref f) vs) Q E s :=
  tell0_use C0 B F X N T hk hd hu hp fun r tl h' tk' F' N' p => by
    obtain ⟨R, c, u, u', e, e'⟩ := hP _ _ p
    subst e e'
    exact ret R c u u' h' tk' F' N'
theorem use_text (hP : ∀ r tl, P r tl → tl = [] ∧ ∃ u, r = .str x u) (ret : ∀ (u : Tok) (h' : Heap) (tk' : Nat), Fr h₀ L h' m → News h₀ L h' news → Q (.str x u) { s with heap := h', toks := tk' }) :
    wpAny (model PySem.Challenge.rw_rw0045_01.row.prog w) (ktrTop dp un gd cn cs L a ccd cl []) (call (.ref f) vs) Q E s :=
  tell0_use C0 B F X N T hk hd hu hp fun r tl h' tk' F' N' p => by
    obtain ⟨e, u, e'⟩ := hP _ _ p
    subst e e'
    exact ret u h' tk' F' N'
theorem use_tup (hP : ∀ r tl, P r tl → ∃ (R : Addr) (c : Nat) (u u' : Tok), r = .ref R ∧ tl = [(R, ({ cls := .type "tuple", data := .seq #[.str x u, .int n u'] c } : Obj))])
    (ret : ∀ (R : Addr) (c : Nat) (u u' : Tok) (h' : Heap) (tk' : Nat), Fr h₀ L h' m → News h₀ L h' ((R, ({ cls := .type "tuple", data := .seq #[.str x u, .int n u'] c } : Obj)) :: news) → Q (.ref R) { s with heap := h', toks := tk' }) :
    wpAny (model PySem.Challenge.rw_rw0045_01.row.prog w) (ktrTop dp un gd cn cs L a ccd cl []) (call (.ref f) vs) Q E s :=
  tell0_use C0 B F X N T hk hd hu hp fun r tl h' tk' F' N' p => by
    obtain ⟨R, c, u, u', e, e'⟩ := hP _ _ p
    subst e e'
    exact ret R c u u' h' tk' F' N'
theorem use_nil (hP : ∀ r tl, P r tl → ∃ R c, r = .ref R ∧ tl = [(R, W.listOf #[] c)]) (ret : ∀ (R : Addr) (c : Nat) (h' : Heap) (tk' : Nat), Fr h₀ L h' m → News h₀ L h' ((R, W.listOf #[] c) :: news) → Q (.ref R) { s with heap := h', toks := tk' }) :
    wpAny (model PySem.Challenge.rw_rw0045_01.row.prog w) (ktrTop dp un gd cn cs L a ccd cl []) (call (.ref f) vs) Q E s :=
  tell0_use C0 B F X N T hk hd hu hp fun r tl h' tk' F' N' p => by
    obtain ⟨R, c, e, e'⟩ := hP _ _ p
    subst e e'
    exact ret R c h' tk' F' N'
theorem use_flds {z : Str} {k1 k2 : Int} (hP : ∀ r tl, P r tl → ∃ R c t1 t2 u, r = .ref R ∧ tl = [(R, W.listOf #[.str (Txt.slice z (some (k2 + 1)) (some (-1))) t1, .str (Txt.sliceBy (Txt.slice z (some 1) (some k1)) none none (-1, u)) t2] c)])
    (ret : ∀ (R : Addr) (c : Nat) (t1 t2 u : Tok) (h' : Heap) (tk' : Nat), Fr h₀ L h' m → News h₀ L h' ((R, W.listOf #[.str (Txt.slice z (some (k2 + 1)) (some (-1))) t1, .str (Txt.sliceBy (Txt.slice z (some 1) (some k1)) none none (-1, u)) t2] c) :: news) → Q (.ref R) { s with heap := h', toks := tk' }) :
    wpAny (model PySem.Challenge.rw_rw0045_01.row.prog w) (ktrTop dp un gd cn cs L a ccd cl []) (call (.ref f) vs) Q E s :=
  tell0_use C0 B F X N T hk hd hu hp fun r tl h' tk' F' N' p => by
    obtain ⟨R, c, t1, t2, u, e, e'⟩ := hP _ _ p
    subst e e'
    exact ret R c t1 t2 u h' tk' F' N'
end
theorem piece_use {base : Heap} {outer : List Env} {k : Int} {t : Tok} (B : Below A₀ base outer h₀) (F : Fr h₀ L s.heap m) (X : (hd.heap_1 w.params).In h₀) (N : News h₀ L s.heap news) (T : Top hd.view_39 (looseW hd.view_39 [Str.ofString "quantiles"]) mean mg mb h₀) (hk : cs.kind = .function) (hd : dp + 5 < recursionLimit) (hu : un + 40 < cLine)
    (ret : ∀ (z : Str) (u : Tok) (h' : Heap) (tk' : Nat), Fr h₀ L h' m → News h₀ L h' news → PieceOk z = true → Q (.str z u) { s with heap := h', toks := tk' }) :
    wpAny (model PySem.Challenge.rw_rw0045_01.row.prog w) (ktrTop dp un gd cn cs L a ccd cl outer) (call (.ref 107) [.int k t]) Q E s :=
  tell_use piece B F X N T hk hd hu trivial fun r tl h' tk' F' N' p => by
    obtain ⟨e, z, u, e', ok⟩ := p
    subst e e'
    exact ret z u h' tk' F' N' ok
theorem pair_of {a x : Str} {t : Tok} {r : Value} {tl : List (Addr × Obj)} (h : ∃ R c u, r = .ref R ∧ tl = [(R, W.listOf #[.str a u, .str x t] c)]) : Pair2 a x r tl := by
  obtain ⟨R, c, u, e, e'⟩ := h; exact ⟨R, c, u, _, e, e'⟩
end
end Mine
end

section
open PySem PySem.W PyProof.Rows PySem.Calls PySem.Spec
set_option Elab.async false
namespace Mine
set_option maxRecDepth 100000
set_option maxHeartbeats 4000000
def Shape (drawn b : Str) : Option (Option Int) → Obj → Prop
  | none, o => ∃ c u u', o = W.listOf #[.str (Str.ofString "form") u, .str b u'] c
  | some none, o => ∃ c u, o = W.listOf #[.str (Str.ofString "number") u] c
  | some (some n), o => ∃ (c : Nat) (u u' : Tok), o = ({ cls := .type "tuple", data := .seq #[.str drawn u, .int n u'] c } : Obj)
abbrev Made (drawn b : Str) (out : Option (Option Int)) (r : Value) (tl : List (Addr × Obj)) : Prop := ∃ R o, r = .ref R ∧ tl = [(R, o)] ∧ Shape drawn b out o
def PortC (b : Str) (out : Option (Option Int)) : Prop := (out = none ∧ portOut b = .error false) ∨ ∃ y, portOut b = .ok y ∧ PyData.layable0 (.str y) = true ∧ out = some (PySem.intText? y)
def TextC (y : Str) (out : Option (Option Int)) : Prop := y.length ≤ 100 ∧ PyData.layable0 (.str y) = true ∧ out = some (PySem.intText? y)
def DueC (vs : Array Value) (o0 o1 : Option (Option Int)) : Prop := (o0 = none ∧ o1 = none ∧ vs = #[]) ∨ ∃ y0 y1 t0 t1, vs = [Value.str y0 t0, Value.str y1 t1].toArray ∧ TextC y0 o0 ∧ TextC y1 o1
section
variable {w : World} {mean : ExcName → Option Value} {mg mb : Str → Option Value}
theorem port_any {p : Addr} {b drawn : Str} {t t1 t2 : Tok} {out : Option (Option Int)} (hl : b.length ≤ 100) (hc : PortC b out) :
    TellC w mean mg mb 140 [.str b t, .ref p] (fun g => IsTup g p [Value.str drawn t1, Value.int 21 t2].toArray) (Made drawn b out) := by
  rcases hc with ⟨rfl, h⟩ | ⟨y, h, hy, rfl⟩
  · exact (Tell0.c (port_form hl h)).mono fun r tl h => by
      obtain ⟨R, c, u, u', e, e'⟩ := h
      exact ⟨R, _, e, e', c, u, u', rfl⟩
  · cases hn : PySem.intText? y with
    | some n =>
      exact (Tell0.c (port_ok hl h hn)).mono fun r tl h => by
        obtain ⟨R, c, u, u', e, e'⟩ := h
        exact ⟨R, _, e, e', c, u, u', rfl⟩
    | none =>
      exact (portC_number hl h hn hy).mono fun r tl h => by
        obtain ⟨R, c, u, e, e'⟩ := h
        exact ⟨R, _, e, e', c, u, rfl⟩
theorem due0_any {f : Addr} {b drawn : Str} {t t1 t2 : Tok} {vs : Array Value} {o0 o1 : Option (Option Int)} (hl : b.length ≤ 100) (hc : DueC vs o0 o1) :
    TellC w mean mg mb 126 [.str b t, .ref f, .int 0 t1, .str drawn t2] (fun g => g.IsList f vs) (Made drawn b o0) := by
  rcases hc with ⟨rfl, rfl, rfl⟩ | ⟨y0, y1, t3, t4, rfl, ⟨hy, hv, rfl⟩, _⟩
  · exact (Tell0.c (dueport0 hl)).mono fun r tl h => by
      obtain ⟨R, c, u, e, e'⟩ := h
      exact ⟨R, _, e, e', c, u, _, rfl⟩
  · cases hn : PySem.intText? y0 with
    | some n =>
      exact (Tell0.c (dueport_0 n hy hn)).mono fun r tl h => by
        obtain ⟨R, c, u, e, e'⟩ := h
        exact ⟨R, _, e, e', c, _, u, rfl⟩
    | none =>
      exact (dueportC_0 hy hn hv).mono fun r tl h => by
        obtain ⟨R, c, u, e, e'⟩ := h
        exact ⟨R, _, e, e', c, u, rfl⟩
theorem due1_any {f : Addr} {b drawn : Str} {t t1 t2 : Tok} {vs : Array Value} {o0 o1 : Option (Option Int)} (hl : b.length ≤ 100) (hc : DueC vs o0 o1) :
    TellC w mean mg mb 126 [.str b t, .ref f, .int 1 t1, .str drawn t2] (fun g => g.IsList f vs) (Made drawn b o1) := by
  rcases hc with ⟨rfl, rfl, rfl⟩ | ⟨y0, y1, t3, t4, rfl, _, ⟨hy, hv, rfl⟩⟩
  · exact (Tell0.c (dueport0 hl)).mono fun r tl h => by
      obtain ⟨R, c, u, e, e'⟩ := h
      exact ⟨R, _, e, e', c, u, _, rfl⟩
  · cases hn : PySem.intText? y1 with
    | some n =>
      exact (Tell0.c (dueport_1 n hy hn)).mono fun r tl h => by
        obtain ⟨R, c, u, e, e'⟩ := h
        exact ⟨R, _, e, e', c, _, u, rfl⟩
    | none =>
      exact (dueportC_1 hy hn hv).mono fun r tl h => by
        obtain ⟨R, c, u, e, e'⟩ := h
        exact ⟨R, _, e, e', c, u, rfl⟩
end
section
variable {prog : Program} {w : World} {A : Around} {E : Value → Shared → Prop} {s : Shared}
theorem same_ne {h₀ : Heap} {L R R' : Addr} {news : List (Addr × Obj)} {o o' : Obj} {d b : Str} {out : Option (Option Int)} {Q : Value → Shared → Prop} (N : News h₀ L s.heap news) (h1 : Shape d b out o) (h2 : Shape d b out o') (m1 : (R, o) ∈ news) (m2 : (R', o') ∈ news) (hu : A.units < cLine) (h : Q (.bool false) s) :
    wpAny (model prog w) A (compareOp .NotEq (.ref R) (.ref R')) Q E s := by
  rcases out with _ | _ | n
  · obtain ⟨c, u, u', rfl⟩ := h1
    obtain ⟨c', v, v', rfl⟩ := h2
    exact ne2 (News.isList N m1) (News.isList N m2) hu str_true str_true h
  · obtain ⟨c, u, rfl⟩ := h1
    obtain ⟨c', v, rfl⟩ := h2
    exact ne1 (News.isList N m1) (News.isList N m2) hu h
  · obtain ⟨c, u, u', rfl⟩ := h1
    obtain ⟨c', v, v', rfl⟩ := h2
    exact ne2t (isTuple_of (News.isTup N m1)) (isTuple_of (News.isTup N m2)) hu str_true int_true h
end
section
variable {w : World} {mean : ExcName → Option Value} {mg mb : Str → Option Value} {dp un : Nat} {gd : Option (List Code)} {cn : Str} {cs : Scope} {a : Addr} {ccd : Value} {cl : List (Str × Addr)} {A₀ : Around} {h₀ : Heap} {L f : Addr} {m : Str → Option Value} {news : List (Addr × Obj)} {s : Shared} {Q E : Value → Shared → Prop}
  {vs : List Value} {pre : Heap → Prop} {drawn b : Str} {out : Option (Option Int)}
theorem use_made (C0 : TellC w mean mg mb f vs pre (Made drawn b out)) (hp : pre s.heap) (B : Below A₀ h₀ [] h₀) (F : Fr h₀ L s.heap m) (X : (hd.heap_1 w.params).In h₀) (N : News h₀ L s.heap news) (T : Top hd.view_39 (looseW hd.view_39 [Str.ofString "quantiles"]) mean mg mb h₀) (hk : cs.kind = .function) (hd : dp + 10 < recursionLimit) (hu : un + 80 < cLine)
    (ret : ∀ (R : Addr) (o : Obj) (h' : Heap) (tk' : Nat), Fr h₀ L h' m → News h₀ L h' ((R, o) :: news) → Shape drawn b out o → Q (.ref R) { s with heap := h', toks := tk' }) :
    wpC (model PySem.Challenge.rw_rw0045_01.row.prog w) (ktrTop dp un gd cn cs L a ccd cl []) (call (.ref f) vs) Q E s :=
  tellC_use C0 B F X N T hk hd hu hp fun r tl h' tk' F' N' p => by
    obtain ⟨R, o, e, e', q⟩ := p
    subst e e'
    exact ret R o h' tk' F' N' q
def FieldsC (b0 : Str) (b1 : Tok → Str) (vs : Array Value) : Prop := ∃ o0 o1, PortC b0 o0 ∧ (∀ u, PortC (b1 u) o1) ∧ DueC vs o0 o1
theorem fields_any {z d pre x : Str} {t : Tok} (hm : MarkLaw z d pre x) : Tell0 w mean mg mb 119 [.str x t] (fun _ => True) (fun r tl => ∃ R ws c, r = .ref R ∧ tl = [(R, W.listOf ws c)] ∧ FieldsC (Both0 z d) (Both1 pre x d) ws) := by
  obtain ⟨hl, hp, hs⟩ := hm
  rcases hs with ⟨hn, h0, h1⟩ | ⟨k0, k1, k2, k3, h0, h4, hk, e0, e1⟩
  · exact (fields_nil hl hn).mono fun r tl h => by
      obtain ⟨R, c, e, e'⟩ := h
      exact ⟨R, _, c, e, e', none, none, .inl ⟨rfl, h0⟩, fun u => .inl ⟨rfl, h1 u⟩, .inl ⟨rfl, rfl, rfl⟩⟩
  · exact (fieldsC (Nat.le_trans hl (by decide)) h0 h4 hk).mono fun r tl h => by
      obtain ⟨R, c, t1, t2, u, e, e'⟩ := h
      have l0 : (Txt.slice x (some (k2 + 1)) (some (-1))).length ≤ 100 := Nat.le_trans (Txt.slice_le _ _ _) (Nat.le_trans hl (by decide))
      have l1 : (Txt.sliceBy (Txt.slice x (some 1) (some k1)) none none (-1, u)).length ≤ 100 := by rw [step_rev_len]; exact Nat.le_trans (Txt.slice_le _ _ _) (Nat.le_trans hl (by decide))
      have v0 := plain_layable (slice_plain hp (some (k2 + 1)) (some (-1))) l0
      have v1 := plain_layable (rev_plain (slice_plain hp (some 1) (some k1)) u) l1
      exact ⟨R, _, c, e, e', _, _, .inr ⟨_, e0, v0, rfl⟩, fun u' => .inr ⟨_, e1 u' u, v1, rfl⟩, .inr ⟨_, _, _, _, rfl, ⟨l0, v0, rfl⟩, l1, v1, rfl⟩⟩
theorem use_fields {b0 : Str} {b1 : Tok → Str} (C0 : Tell0 w mean mg mb f vs pre (fun r tl => ∃ R ws c, r = .ref R ∧ tl = [(R, W.listOf ws c)] ∧ FieldsC b0 b1 ws)) (hp : pre s.heap) (B : Below A₀ h₀ [] h₀) (F : Fr h₀ L s.heap m) (X : (hd.heap_1 w.params).In h₀) (N : News h₀ L s.heap news) (T : Top hd.view_39 (looseW hd.view_39 [Str.ofString "quantiles"]) mean mg mb h₀) (hk : cs.kind = .function) (hd : dp + 10 < recursionLimit) (hu : un + 80 < cLine)
    (ret : ∀ (R : Addr) (ws : Array Value) (c : Nat) (h' : Heap) (tk' : Nat), Fr h₀ L h' m → News h₀ L h' ((R, W.listOf ws c) :: news) → FieldsC b0 b1 ws → Q (.ref R) { s with heap := h', toks := tk' }) :
    wpAny (model PySem.Challenge.rw_rw0045_01.row.prog w) (ktrTop dp un gd cn cs L a ccd cl []) (call (.ref f) vs) Q E s :=
  tell0_use C0 B F X N T hk hd hu hp fun r tl h' tk' F' N' p => by
    obtain ⟨R, ws, c, e, e', q⟩ := p
    subst e e'
    exact ret R ws c h' tk' F' N' q
theorem both_made {h : Heap} {r : List (Addr × Obj)} {b0 b1 : Str} {t0 t1 : Tok} {n : Nat} (N : News h₀ L h ((a, W.listOf #[Value.str b0 t0, Value.str b1 t1] n) :: r)) (P : Str → Str → Prop) (hp : P b0 b1) : ∃ b0' b1', P b0' b1' ∧ News h₀ L h ((a, W.listOf #[Value.str b0' t0, Value.str b1' t1] n) :: r) := ⟨b0, b1, hp, N⟩
end
end Mine
end

end
section
open PySem PySem.W PyProof.Rows PySem.Calls PySem.Spec PyProof.Rows.LCg
set_option Elab.async false
namespace Mine
set_option maxRecDepth 100000
set_option maxHeartbeats 80000000
local macro_rules | `(tactic| walk_at "call ref") => `(tactic| (k_here; refine stopAny ?_))
local macro_rules | `(tactic| walk_at "subscriptTail BinOp") => `(tactic| refine stopAny ?_)
theorem ints_get : ∀ {vs : List Value} {ns : List Int} {i : Nat} {v : Value}, IntsAre vs ns → vs[i]? = some v → ∃ k u, v = .int k u
  | _, _, i, _, .nil, h => by cases h
  | _, _, 0, _, .cons x t _, h => by cases h; exact ⟨x, t, rfl⟩
  | _, _, i + 1, _, .cons x t r, h => ints_get (i := i) r h
theorem five_of : ∀ {vs : List Value} {zs : List Str}, StrsAre vs zs → zs.length = 5 → (∀ z ∈ zs, PieceOk z = true) → ∃ p0 t0 p1 t1 p2 t2 p3 t3 p4 t4, vs = [Value.str p0 t0, Value.str p1 t1, Value.str p2 t2, Value.str p3 t3, Value.str p4 t4] ∧ PieceOk p0 = true ∧ PieceOk p1 = true ∧ PieceOk p2 = true ∧ PieceOk p3 = true ∧ PieceOk p4 = true := by
  intro vs zs h hl hok
  rcases h with _ | ⟨p0, t0, h⟩
  · cases hl
  rcases h with _ | ⟨p1, t1, h⟩
  · cases hl
  rcases h with _ | ⟨p2, t2, h⟩
  · cases hl
  rcases h with _ | ⟨p3, t3, h⟩
  · cases hl
  rcases h with _ | ⟨p4, t4, h⟩
  · cases hl
  rcases h with _ | ⟨p5, t5, h⟩
  · simp only [List.forall_mem_cons] at hok
    exact ⟨_, _, _, _, _, _, _, _, _, _, rfl, hok.1, hok.2.1, hok.2.2.1, hok.2.2.2.1, hok.2.2.2.2.1⟩
  · simp only [List.length_cons] at hl; omega
theorem pieces_of {ys : List Value} {xs : List Str} {t : Tok} (h : StrsAre ys xs) (hok : ∀ z ∈ xs, PieceOk z = true) :
    ∃ p0 t0 p1 t1 p2 t2 p3 t3 p4 t4, slicePick (ys ++ [Value.str (Str.ofString "") t, Value.str (Str.ofString "") t, Value.str (Str.ofString "") t, Value.str (Str.ofString "") t, Value.str (Str.ofString "") t]).toArray none (some 5) none = [Value.str p0 t0, Value.str p1 t1, Value.str p2 t2, Value.str p3 t3, Value.str p4 t4].toArray ∧ PieceOk p0 = true ∧ PieceOk p1 = true ∧ PieceOk p2 = true ∧ PieceOk p3 = true ∧ PieceOk p4 = true := by
  have hz := (h.app (.cons (Str.ofString "") t (.cons (Str.ofString "") t (.cons (Str.ofString "") t (.cons (Str.ofString "") t (.cons (Str.ofString "") t .nil)))))).take 5
  obtain ⟨p0, t0, p1, t1, p2, t2, p3, t3, p4, t4, e, ok⟩ := five_of hz (by rw [List.length_take, List.length_append]; simp only [List.length_cons, List.length_nil]; omega) fun z hz => by
    rcases List.mem_append.mp (List.mem_of_mem_take hz) with q | q
    · exact hok z q
    · simp only [List.mem_cons, List.not_mem_nil, or_false, or_self] at q
      rw [q]; decide +kernel
  exact ⟨p0, t0, p1, t1, p2, t2, p3, t3, p4, t4, by rw [pick5, e], ok⟩
theorem heads_all {h₀ h : Heap} {L : Addr} {a : Addr} {vs : List Value} {n : Nat} {r : List (Addr × Obj)} (_ : News h₀ L h ((a, W.listOf vs.toArray n) :: r)) (hv : ∀ v ∈ vs, ∃ x u, v = Value.str x u ∧ HeadOk x = true) : ∀ v ∈ vs, ∃ x u, v = Value.str x u ∧ HeadOk x = true := hv
theorem head_len {h : Str} (hh : HeadOk h = true) : h.length ≤ 20 := by
  unfold HeadOk at hh
  simp only [Bool.and_eq_true, decide_eq_true_eq] at hh
  exact hh.1
local macro_rules | `(tactic| walk_at "exec For") => `(tactic| (k_here; (rename Fr _ _ _ _ => lF'); (with_unfolding_all refine' For_invVF lF' ?k1 ?k2 ?_; (case k1 => exact rfl); (case k2 => exact rfl); k_whole)))
theorem knows_of {h₀ h : Heap} {L : Addr} {m : Str → Option Value} (_ : Fr h₀ L h m) (ps : List (Str × Value)) (k : Knows m ps) : Knows m ps := k
theorem good_all {h₀ h : Heap} {L : Addr} {a : Addr} {ys zs : List Value} {dd : Option Addr} {sl : Array (Option Value)} {n : Nat} {r : List (Addr × Obj)} (_ : News h₀ L h ((a, Obj.mk (Value.type "list") dd (Data.seq (ys ++ zs).toArray n) sl) :: r)) (hy : ∀ v ∈ ys, ∃ x u, v = Value.str x u ∧ Good1 x) (hz : ∀ v ∈ zs, ∃ x u, v = Value.str x u ∧ Good1 x) : ∀ v ∈ ys ++ zs, ∃ x u, v = Value.str x u ∧ Good1 x :=
  fun v hv => (List.mem_append.mp hv).elim (hy v) (hz v)
theorem news_sub {h₀ h : Heap} {L : Addr} {l l' : List (Addr × Obj)} (N : News h₀ L h l) (hs : ∀ p ∈ l', p ∈ l) : News h₀ L h l' := fun p hp => N p (hs p hp)
theorem pick_0678 {α : Type} {a b c d e f g i j : α} : ∀ p ∈ [a, g, i, j], p ∈ [a, b, c, d, e, f, g, i, j] := by
  intro p hp
  simp only [List.mem_cons, List.not_mem_nil, or_false] at hp ⊢
  rcases hp with h | h | h | h <;> simp [h]
theorem pick_234 {α : Type} {a b c d : α} : ∀ p ∈ [b, c, d], p ∈ [a, b, c, d] := fun _ hp => List.Mem.tail _ hp
local macro_rules | `(tactic| walk_at "CompSrc") => `(tactic| refine stopP ?_)
local macro_rules | `(tactic| walk_at "CompEnd") => `(tactic| refine stopP ?_)
local macro_rules | `(tactic| walk_at "FinE") => `(tactic| refine stopP ?_)
local macro_rules | `(tactic| walk_at "binaryOp Add str str") => `(tactic| ((with_reducible show wpAny _ _ (binaryOp Operator.Add (Value.str _ _) (Value.str (Txt.sliceBy _ none none _) _)) _ _ _); (refine SBL.add (hsz := ?hsz) ?_); (case hsz => rw [step_rev_len]; size_fits); intro _ _ _))
local macro_rules | `(tactic| walk_at "UnrEnd") => `(tactic| refine stopP ?_)
local macro_rules | `(tactic| walk_at "binaryOp Add str str") => `(tactic| ((with_reducible rename ∀ a, a ∈ List.map _ _ → Str.length a ≤ _ => hle9); (with_reducible rename (List.map _ _)[Int.toNat 0]? = some _ => hy0); (have hyl9 := hle9 _ (List.mem_of_getElem? hy0)); clear hle9; (refine SBL.add (hsz := ?hsz) ?_); (case hsz => size_fits); intro _ _ _))
local macro_rules | `(tactic| walk_at "eval ListComp") => `(tactic| refine stopAny ?_)
local macro_rules | `(tactic| walk_at "call type:enumerate") => `(tactic| refine stopAny ?_)
local macro_rules | `(tactic| walk_at "EndE") => `(tactic| refine stopP ?_)
theorem mark_len {z : Str} (h : IsMark z) : z.length = 1 := by obtain ⟨k, rfl, _⟩ := h; rfl
theorem plain_get {X : Str} {i k : Nat} (h : Plain X) (hk : X.cps[i]? = some k) : 32 ≤ k ∧ k ≤ 126 := h k (by
  have : X.cps.toList[i]? = some k := by simpa using hk
  exact List.mem_of_getElem? this)
theorem knows2_of {h₀ h : Heap} {L : Addr} {m : Str → Option Value} (_ : Fr h₀ L h m) (ps : List (Str × Value)) (k : Knows m ps) : Knows m ps := k
local macro_rules | `(tactic| walk_at "binaryOp Add str str") => `(tactic| ((with_reducible show wpAny _ _ (binaryOp Operator.Add (Value.str _ _) (Value.str (Txt.sliceBy _ none none _) _)) _ _ _); (refine SBL.add (hsz := ?hsz) ?_); (case hsz => rw [step_rev_len]; size_fits); intro _ _ addz9; rw [step_rev_len] at addz9))
local macro_rules | `(tactic| walk_at "pyIter ref") => `(tactic| refine stopAny ?_)
local macro_rules | `(tactic| walk_at "compareOp NotEq ref ref") => `(tactic| refine stopAny ?_)
local macro_rules | `(tactic| walk_at "subscriptTail Name Name ref int") => `(tactic| (k_here; (with_reducible show wpAny _ _ (subscriptTail _ _ (Value.ref _) (Value.int _ _)) _ _ _); k_dflt (refine' item_listL ?l9 ?a9 ?b9 ?c9 ?_; (case l9 => exact News.isList (by k_asm) (by k_mem)); (case a9 => decide); (case b9 => decide); (case c9 => rfl); k_whole)))
local macro_rules | `(tactic| walk_at "subscriptTail Name Constant ref int") => `(tactic| (k_here; (with_reducible show wpAny _ _ (subscriptTail _ _ (Value.ref _) (Value.int _ _)) _ _ _); k_dflt (refine' item_listL ?l9 ?a9 ?b9 ?c9 ?_; (case l9 => exact News.isList (by k_asm) (by k_mem)); (case a9 => decide); (case b9 => decide); (case c9 => rfl); k_whole)))
local macro_rules | `(tactic| walk_at "exec For Name List cons nil") => `(tactic| (k_here; (with_reducible rename Fr _ _ _ _ => lF'); (with_reducible refine' For_invVF lF' ?k1 ?k2 ?_); (case k1 => exact rfl); (case k2 => exact rfl); k_whole))
local macro_rules | `(tactic| walk_at "binaryOp Add ref ref") => `(tactic| (k_here; (with_reducible show wpAny _ _ (binaryOp _ (Value.ref _) (Value.ref _)) _ _ _); k_dflt (refine' kmk_add_lit ?F ?N ?a ?b ?e ?_ ?z; (case F => k_asm); (case N => k_asm); (case a => kmk_list); (case b => kmk_list); (case e => kl_lit); (case z => kl_room)); intro D' h' F' N' l1; (try k_lt l1); (try k_sweep)))

theorem law : PySem.Challenge.rw_rw0045_01.Holds := by
  refine hd ?_
  k_fill
  intro w s₀ s₁ mg mb G Y fa o pm cd doc dV kV ho hd hcd hD hmg hg args vals as hpre hlay hrd hwl hlo
  have KX := kIn_of Y
  have X := (Ground.X G).1
  have V := (Ground.X G).2
  try w_nolog (first | (have GL := glob_more (Ground.glob G (by decide +kernel) (by decide +kernel)) V) | (have GL := glob_more (Ground.glob G (by decide +kernel)) V))
  refine Ground.open G ?_
  intro T B D TE TW
  try (refine guard_noD D (by decide +kernel) ?_; clear D)
  obtain ⟨_, _, M⟩ := bmod_of_top T
  have TA := at_of_top T
  try (obtain ⟨_, _, he, B0⟩ := based_of_top T rfl hmg ho hd; have he' : cd = _ := he; subst he'; clear he)
  clear hmg
  wrow_args hpre hlay hrd hwl hlo
  refine enter_callC ?_
  w_top on
  have K0 := below_caller (Top.heap T)
  have he := Dflts.none hD rfl; subst he; have he := Dflts.noKw hD; subst he
  refine call_cellsC (by decide) ho (fd_plain hd) (Top.nolimit T) hcd rfl (by rfl) (by decide) fun h₁ tk₁ cells F N0 X0 => ?_
  clear hd hcd hD
  (with_reducible rename IntsAre _ _ => hI)
  with_reducible refine cut_C 1 ?_
  dsimp only [List.take, List.drop]
  try k_fold
  obtain ⟨oA, oB, he, hA, hB⟩ := CellsAre.two X0
  subst he
  clear X0
  replace hA : oA.data = .cell none := hA
  replace hB : oB.data = .cell none := hB
  k_steps
  (with_reducible show Stop _)
  unfold Stop
  refine ListComp_U F (by rfl) (by decide) (by rfl) (by decide) (by rfl) ?_
  k_steps
  (with_reducible show Stop _)
  unfold Stop
  (with_reducible rename Fr _ _ _ _ => F5)
  (with_reducible rename News _ _ _ ((_, W.listOf _ _) :: _) => N5)
  (with_reducible rename IntsAre _ (List.take _ _) => I5)
  (with_reducible rename (List.length (List.take 5 _)) = _ => C5)
  have L5 := I5.length
  refine CompSrc.ledger rfl F5 N5 (List.Mem.head _) (by rw [List.size_toArray, L5, C5]; exact Nat.le_trans (Nat.min_le_left _ _) (by rw [sizeLine_eq]; decide)) fun g => comp_by (fun i ys nx => nx = _ ∧ ∃ xs, StrsAre ys xs ∧ xs.length = i ∧ ∀ z ∈ xs, PieceOk z = true) ?turnL2 ?doneL2 _ 0 [] _ (Nat.zero_add _) ⟨rfl, [], .nil, rfl, fun _ h => by cases h⟩
  case turnL2 =>
    rintro i v ys nx I oI C oC D m₂ h tk E' hi hP ⟨rfl, xs, hxs, hxl, hok⟩ hC hx F6 N6 off ne
    obtain ⟨k, u, rfl⟩ : ∃ k u, v = .int k u := ints_get I5 (by simpa using hP)
    k_steps
    ((with_reducible show Stop _); unfold Stop; k_dflt (refine' piece_use (by k_asm) (by k_asm) (by k_asm) (by k_asm) (by k_asm) rfl (by ktr_room) (by ktr_units) ?_; k_whole); intro x9 u9 h9 tk9 F9 N9 ok9; (try dsimp only))
    k_steps
    (with_reducible show Stop _)
    unfold Stop
    (with_reducible rename Fr _ _ _ _ => F7)
    (with_reducible rename News _ _ _ (_ :: _) => N7)
    (with_reducible rename PieceOk _ = true => ok7)
    exact CompEnd.intro F7 N7 _ (fun p hp => hp) off (.inr ⟨_, List.Mem.head _, rfl, _, rfl⟩) ⟨rfl, _, hxs.push, by rw [List.length_append, hxl]; rfl, fun z hz => (List.mem_append.mp hz).elim (hok z) fun q => by rw [List.mem_singleton.mp q]; exact ok7⟩
  rintro ys nx ⟨rfl, xs, hxs, hxl, hok⟩ D h tk F6 N6 o1
  have hyl := hxs.length
  rw [List.size_toArray] at hxl
  have hy5 : ys.length ≤ 5 := by rw [hyl, hxl, L5, C5]; exact Nat.min_le_left _ _
  k_steps
  (with_reducible show Stop _)
  unfold Stop
  k_dflt (refine' slice_any ?sFL2 ?sNL2 ?slL2 ?spL2 ?sqL2 ?_ ?ssL2 ?szL2; (case sFL2 => k_asm); (case sNL2 => k_asm); (case slL2 => kmk_list); (case spL2 => kmk_part); (case sqL2 => kmk_part); (case ssL2 => with_unfolding_all rfl); (case szL2 => rw [List.size_toArray]; simp only [List.length_append, List.length_cons, List.length_nil]; exact Nat.le_trans (Nat.add_le_add_right hy5 5) (by rw [sizeLine_eq]; decide)); k_whole)
  intro D9 h9 F9 N9 l9
  dsimp only at F9 N9 l9 ⊢
  obtain ⟨p0, t0, p1, t1, p2, t2, p3, t3, p4, t4, e9, ok0, ok1, ok2, ok3, ok4⟩ := pieces_of (t := tk) hxs hok
  rw [e9] at N9
  k_steps
  (with_reducible show Stop _)
  unfold Stop
  have lD : s₁.heap.objs.size + 1 + 1 < D9 ∧ s₁.heap.objs.size + 1 < D9 := ⟨l9 _ (.tail _ (.tail _ (.tail _ (.tail _ (.tail _ (.head _)))))), l9 _ (.tail _ (.tail _ (.tail _ (.tail _ (.tail _ (.tail _ (.head _))))))) ⟩
  have hl0 := piece_len ok0
  have hl1 := piece_len ok1
  have hl2 := piece_len ok2
  have hl3 := piece_len ok3
  have hl4 := piece_len ok4
  (with_reducible rename Fr _ _ _ _ => F1)
  (with_reducible rename News _ _ _ _ => N1)
  have N2 : News _ _ _ [(D9, W.listOf [Value.str p0 t0, Value.str p1 t1, Value.str p2 t2, Value.str p3 t3, Value.str p4 t4].toArray 0), (_, oA), (_, oB)] := fun p hp => N1 p (by
    rcases List.mem_cons.mp hp with rfl | hp
    · exact .head _
    · exact .tail _ (.tail _ (.tail _ (.tail _ (.tail _ (.tail _ hp))))))
  obtain ⟨m1, hm1, F2⟩ : ∃ m1, Knows m1 [(Str.ofString "pieces", Value.ref D9)] ∧ Fr _ _ _ m1 := ⟨_, ⟨rfl, trivial⟩, F1⟩
  replace F2 := fr_kn F2 hm1
  dsimp only [kn] at F2
  (try clear F1); (try clear N1); (try clear F9); (try clear N9); (try clear F6); (try clear N6); (try clear l9); (try clear e9); (try clear o1); (try clear hxs); (try clear hok); (try clear hyl); (try clear hxl); (try clear hy5); (try clear L5); (try clear I5); (try clear C5); (try clear F5); (try clear N5); (try clear hI); (try clear TA); (try clear M); (try clear B0); (try clear N0); (try clear F); (try clear GL); (try clear V); (try clear X); (try clear G); (try clear B); (try clear TE); (try clear TW)
  clear hm1
  exact (by
    w_top off
    with_reducible refine cut_C 1 ?_
    dsimp only [List.take, List.drop]
    try k_fold
    k_steps
    (with_reducible show Stop _)
    unfold Stop
    (with_reducible rename Fr _ _ _ _ => F3)
    (with_reducible rename News _ _ _ _ => N3)
    (with_reducible rename _ = Data.cell (some _) => d3)
    obtain ⟨drawn, hdrawn, dk, d4⟩ : ∃ dr, dr = Drawn p0 p1 p2 p3 p4 ∧ DrawnOk dr ∧ _ = Data.cell (some (Value.str dr _)) := ⟨_, rfl, drawn_ok ok0 ok1 ok2 ok3 ok4, d3⟩
    have N4 : News _ _ _ [(_, oA), (_, _)] := fun p hp => N3 p (.tail _ hp)
    obtain ⟨m3, F4⟩ : ∃ m3, Fr _ _ _ m3 := ⟨_, F3⟩
    clear N3 F3 d3 hdrawn
    have dlo := dk.lo
    have dhi := dk.hi
    with_reducible refine cut_C 3 ?_
    dsimp only [List.take, List.drop]
    try k_fold
    k_steps
    (with_reducible show Stop _)
    unfold Stop
    (with_reducible rename Fr _ _ _ _ => F5)
    (with_reducible rename News _ _ _ _ => N5)
    (try clear F4); (try clear N4); (try clear F2); (try clear N2); (try clear lD); (try clear hl0); (try clear hl1); (try clear hl2); (try clear hl3); (try clear hl4); (try clear ok0); (try clear ok1); (try clear ok2); (try clear ok3); (try clear ok4); (try clear hB)
    repeat ((with_reducible rename _ + Str.length _ ≤ _ ∧ _ => zz); clear zz)
    exact (by
      w_top off
      with_reducible refine cut_C 1 ?_
      dsimp only [List.take, List.drop]
      try k_fold
      k_steps
      (with_reducible show Stop _)
      unfold Stop
      (with_reducible rename Fr _ _ _ _ => F6)
      refine ListComp_U F6 (by rfl) (by decide) (by rfl) (by decide) (by rfl) ?_
      k_steps
      (with_reducible show Stop _)
      unfold Stop
      (with_reducible rename Fr _ _ _ _ => F7)
      (with_reducible rename News _ _ _ _ => N7)
      have hall := heads_all N7 (by
        repeat (first | exact List.forall_mem_nil _ | refine List.forall_mem_cons.mpr ⟨⟨_, _, rfl, by decide +kernel⟩, ?_⟩))
      refine CompSrc.ledger rfl F7 N7 (List.Mem.head _) (by show (25 : Nat) ≤ sizeLine; rw [sizeLine_eq]; decide) fun g => comp_by (fun i ys nx => nx = _ ∧ ys.length = i ∧ ∀ y ∈ ys, ∃ x u, y = Value.str x u ∧ Good1 x) ?turnL4 ?doneL4 _ 0 [] _ (Nat.zero_add _) ⟨rfl, rfl, fun _ h => by cases h⟩
      case turnL4 =>
        rintro i v ys nx I oI C oC D m₂ h tk E' hi hP ⟨rfl, hyl, hok⟩ hC hx F8 N8 off ne
        obtain ⟨x, u, rfl, hho⟩ := hall _ (List.mem_of_getElem? (by simpa using hP))
        have hgd := head_good hho dk
        have hxl := head_len hho
        k_steps
        (with_reducible show Stop _)
        unfold Stop
        (with_reducible rename Fr _ _ _ _ => F7)
        (with_reducible rename News _ _ _ (_ :: _) => N7)
        exact CompEnd.intro F7 N7 _ (fun p hp => hp) off (.inr ⟨_, List.Mem.head _, rfl, _, rfl⟩) ⟨rfl, by rw [List.length_append, hyl]; rfl, fun z hz => (List.mem_append.mp hz).elim (hok z) fun q => by rw [List.mem_singleton.mp q]; exact ⟨_, _, rfl, hgd⟩⟩
      rintro ys nx ⟨rfl, hyl, hok⟩ D h tk F8 N8 o1
      replace hyl : ys.length = 25 := hyl
      clear hall
      dsimp only at F8 N8 ⊢
      k_steps
      (with_reducible show Stop _)
      unfold Stop
      (with_reducible rename Fr _ _ _ _ => F9)
      (with_reducible rename News _ _ _ _ => N9)
      have l5 : ∀ k : Int, (Txt.slice drawn none (some k)).length ≤ 40 := fun k => Nat.le_trans (Txt.slice_le drawn none (some k)) (by omega)
      have hgd := good_all N9 hok (by
        refine List.forall_mem_cons.mpr ⟨⟨_, _, rfl, good_q (by rw [step_rev_len]; omega)⟩, ?_⟩
        refine List.forall_mem_cons.mpr ⟨⟨_, _, rfl, good_q (l5 _)⟩, ?_⟩
        refine List.forall_mem_cons.mpr ⟨⟨_, _, rfl, good_q (l5 _)⟩, ?_⟩
        refine List.forall_mem_cons.mpr ⟨⟨_, _, rfl, good_q2 (l5 _) (by decide +kernel)⟩, ?_⟩
        refine List.forall_mem_cons.mpr ⟨⟨_, _, rfl, good_lit (by decide +kernel)⟩, ?_⟩
        exact List.forall_mem_cons.mpr ⟨⟨_, _, rfl, good_lit (by decide +kernel)⟩, List.forall_mem_nil _⟩)
      have N10 := news_sub N9 pick_0678
      have hkn0 := knows_of F9 [(Str.ofString "peer", Value.ref _)] ⟨rfl, trivial⟩
      refine' strs_loop Good1 ?la1L4 ?la2L4 ?la3L4 ?la4L4 ?la5L4 _ ?la7L4 ?la8L4 ?trn1L4 ?fin1L4
      case la1L4 => rfl
      case la2L4 => exact F9
      case la3L4 => exact N10
      case la4L4 => rfl
      case la5L4 => rfl
      case la7L4 => exact hkn0
      case la8L4 => exact hgd
      case trn1L4 =>
        intro I it z u m h tk hz hit hI F N
        dsimp only [kn] at F
        replace F : Fr s₁.heap s₁.heap.objs.size h _ := F
        replace N : News s₁.heap s₁.heap.objs.size h _ := N
        clear N10 N9 F9 hkn0 hgd hok
        have hz1 := hz.1
        have hz2 := hz.2
        cases hb : (Txt.slice z none (some 3) != Str.ofString "257") with
        | true =>
          k_steps
          ((with_reducible show Stop _); unfold Stop; k_dflt (refine' use_two (name_code (by assumption) (by assumption)) trivial (by k_asm) (by k_asm) (by k_asm) (by k_asm) (by k_asm) rfl (by ktr_room) (by ktr_units) (fun _ _ h => h) ?_; k_whole); intro R9 c9 u9 v9 h9 tk9 F9 N9; (try dsimp only))
          k_steps
          ((with_reducible show Stop _); unfold Stop; k_dflt (refine' use_two (port_code (by omega) (by assumption)) (News.isTup (by k_asm) (by k_mem)) (by k_asm) (by k_asm) (by k_asm) (by k_asm) (by k_asm) rfl (by ktr_room) (by ktr_units) (fun _ _ h => h) ?_; k_whole); intro R9 c9 u9 v9 h9 tk9 F9 N9; (try dsimp only))
          k_steps
          ((with_reducible show Stop _); unfold Stop; k_dflt (refine' use_two (duename_code (by assumption) (by assumption)) trivial (by k_asm) (by k_asm) (by k_asm) (by k_asm) (by k_asm) rfl (by ktr_room) (by ktr_units) (fun _ _ h => pair_of h) ?_; k_whole); intro R9 c9 u9 v9 h9 tk9 F9 N9; (try dsimp only))
          k_steps
          (with_reducible show Stop _)
          unfold Stop
          refine ne2 (by exact News.isList (by k_asm) (by k_mem)) (by exact News.isList (by k_asm) (by k_mem)) (by ktr_units) (eq2 (by exact News.isList (by k_asm) (by k_mem)) (by exact News.isList (by k_asm) (by k_mem)) (by ktr_units) str_true str_true) (eq2 (by exact News.isList (by k_asm) (by k_mem)) (by exact News.isList (by k_asm) (by k_mem)) (by ktr_units) str_true str_true) ?_
          k_steps
          (with_reducible show Stop _)
          unfold Stop
          (with_reducible rename Fr s₁.heap _ _ _ => kF)
          (with_reducible rename News s₁.heap _ _ _ => kN)
          exact UnrEnd.intro kF kN _ (fun p hp => SubL.mem (l := (I, it) :: _) (by k_subL) p hp) (fun p hp e => absurd (hI p hp) (by rw [e]; exact Nat.lt_irrefl _)) ⟨rfl, rfl, trivial⟩
        | false =>
          cases hpr : (Txt.slice z (some 3) (some 5) == Str.ofString " \"") with
          | true =>
            have hpr' : (Txt.slice z (some 3) (some 5) != Str.ofString " \"") = false := by simp [bne, hpr]
            have h5 := five_len hpr
            k_steps
            ((with_reducible show Stop _); unfold Stop; k_dflt (refine' use_text (name_ok (by assumption) (by assumption) (by assumption) (by assumption)) trivial (by k_asm) (by k_asm) (by k_asm) (by k_asm) (by k_asm) rfl (by ktr_room) (by ktr_units) (fun _ _ h => h) ?_; k_whole); intro u9 h9 tk9 F9 N9; (try dsimp only))
            k_steps
            ((with_reducible show Stop _); unfold Stop; k_dflt (refine' use_two (port_code (by omega) (by assumption)) (News.isTup (by k_asm) (by k_mem)) (by k_asm) (by k_asm) (by k_asm) (by k_asm) (by k_asm) rfl (by ktr_room) (by ktr_units) (fun _ _ h => h) ?_; k_whole); intro R9 c9 u9 v9 h9 tk9 F9 N9; (try dsimp only))
            k_steps
            ((with_reducible show Stop _); unfold Stop; k_dflt (refine' use_text (duename (by assumption) (by assumption) (by assumption) (by assumption)) trivial (by k_asm) (by k_asm) (by k_asm) (by k_asm) (by k_asm) rfl (by ktr_room) (by ktr_units) (fun _ _ h => h) ?_; k_whole); intro u9 h9 tk9 F9 N9; (try dsimp only))
            k_steps
            (with_reducible show Stop _)
            unfold Stop
            refine ne2 (by exact News.isList (by k_asm) (by k_mem)) (by exact News.isList (by k_asm) (by k_mem)) (by ktr_units) str_true (eq2 (by exact News.isList (by k_asm) (by k_mem)) (by exact News.isList (by k_asm) (by k_mem)) (by ktr_units) str_true str_true) ?_
            k_steps
            (with_reducible show Stop _)
            unfold Stop
            (with_reducible rename Fr s₁.heap _ _ _ => kF)
            (with_reducible rename News s₁.heap _ _ _ => kN)
            exact UnrEnd.intro kF kN _ (fun p hp => SubL.mem (l := (I, it) :: _) (by k_subL) p hp) (fun p hp e => absurd (hI p hp) (by rw [e]; exact Nat.lt_irrefl _)) ⟨rfl, rfl, trivial⟩
          | false =>
            have hpr' : (Txt.slice z (some 3) (some 5) != Str.ofString " \"") = true := by simp [bne, hpr]
            k_steps
            ((with_reducible show Stop _); unfold Stop; k_dflt (refine' use_text (name_none (by assumption) (by assumption) (by assumption)) trivial (by k_asm) (by k_asm) (by k_asm) (by k_asm) (by k_asm) rfl (by ktr_room) (by ktr_units) (fun _ _ h => h) ?_; k_whole); intro u9 h9 tk9 F9 N9; (try dsimp only))
            k_steps
            ((with_reducible show Stop _); unfold Stop; k_dflt (refine' use_two (port_code (by omega) (by assumption)) (News.isTup (by k_asm) (by k_mem)) (by k_asm) (by k_asm) (by k_asm) (by k_asm) (by k_asm) rfl (by ktr_room) (by ktr_units) (fun _ _ h => h) ?_; k_whole); intro R9 c9 u9 v9 h9 tk9 F9 N9; (try dsimp only))
            k_steps
            ((with_reducible show Stop _); unfold Stop; k_dflt (refine' use_text (duename_none (by assumption) (by assumption) (by assumption)) trivial (by k_asm) (by k_asm) (by k_asm) (by k_asm) (by k_asm) rfl (by ktr_room) (by ktr_units) (fun _ _ h => h) ?_; k_whole); intro u9 h9 tk9 F9 N9; (try dsimp only))
            k_steps
            (with_reducible show Stop _)
            unfold Stop
            refine ne2 (by exact News.isList (by k_asm) (by k_mem)) (by exact News.isList (by k_asm) (by k_mem)) (by ktr_units) str_true (eq2 (by exact News.isList (by k_asm) (by k_mem)) (by exact News.isList (by k_asm) (by k_mem)) (by ktr_units) str_true str_true) ?_
            k_steps
            (with_reducible show Stop _)
            unfold Stop
            (with_reducible rename Fr s₁.heap _ _ _ => kF)
            (with_reducible rename News s₁.heap _ _ _ => kN)
            exact UnrEnd.intro kF kN _ (fun p hp => SubL.mem (l := (I, it) :: _) (by k_subL) p hp) (fun p hp e => absurd (hI p hp) (by rw [e]; exact Nat.lt_irrefl _)) ⟨rfl, rfl, trivial⟩
      intro m h tk F N
      dsimp only [kn] at F
      replace F : Fr s₁.heap s₁.heap.objs.size h _ := F
      have N11 : News s₁.heap s₁.heap.objs.size h _ := news_sub N pick_234
      clear N10 N9 F9 hkn0 hgd hok N l5 o1
      (try clear F8); (try clear N8)
      k_steps
      (with_reducible show Stop _)
      unfold Stop
      repeat ((with_reducible rename _ + Str.length _ ≤ _ ∧ _ => zz); clear zz)
      (with_reducible rename Fr s₁.heap _ _ _ => F20)
      (with_reducible rename News s₁.heap _ _ _ => N20)
      exact (by
        w_top off
        with_reducible refine cut_C 1 ?_
        dsimp only [List.take, List.drop]
        try k_fold
        k_steps
        (with_reducible show Stop _)
        unfold Stop
        (with_reducible rename Fr _ _ _ _ => F9)
        (with_reducible rename News _ _ _ _ => N9)
        have hkn0 := knows_of F9 [(Str.ofString "peer", Value.ref _)] ⟨rfl, trivial⟩
        refine' strs_loop IsForm ?la1L5 ?la2L5 ?la3L5 ?la4L5 ?la5L5 _ ?la7L5 ?la8L5 ?trn1L5 ?fin1L5
        case la1L5 => rfl
        case la2L5 => exact F9
        case la3L5 => exact N9
        case la4L5 => rfl
        case la5L5 => rfl
        case la7L5 => exact hkn0
        case la8L5 =>
          repeat (first | exact List.forall_mem_nil _ | refine List.forall_mem_cons.mpr ⟨⟨_, _, rfl, by show isForm _ = true; decide +kernel⟩, ?_⟩)
        case trn1L5 =>
          intro I it z u m h tk hz hit hI F N
          dsimp only [kn] at F
          replace F : Fr s₁.heap s₁.heap.objs.size h _ := F
          replace N : News s₁.heap s₁.heap.objs.size h _ := N
          clear N9 F9 hkn0
          obtain ⟨hz1, hz2⟩ := form_of hz
          k_steps
          ((with_reducible show Stop _); unfold Stop; k_dflt (refine' use_two (port_form (by assumption) (by assumption)) (News.isTup (by k_asm) (by k_mem)) (by k_asm) (by k_asm) (by k_asm) (by k_asm) (by k_asm) rfl (by ktr_room) (by ktr_units) (fun _ _ h => h) ?_; k_whole); intro R9 c9 u9 v9 h9 tk9 F9 N9; (try dsimp only))
          k_steps
          (with_reducible show Stop _)
          unfold Stop
          refine ne2 (by exact News.isList (by k_asm) (by k_mem)) (by exact News.isList (by k_asm) (by k_mem)) (by ktr_units) str_true str_true ?_
          k_steps
          (with_reducible show Stop _)
          unfold Stop
          (with_reducible rename Fr s₁.heap _ _ _ => kF)
          (with_reducible rename News s₁.heap _ _ _ => kN)
          exact UnrEnd.intro kF kN _ (fun p hp => SubL.mem (l := (I, it) :: _) (by k_subL) p hp) (fun p hp e => absurd (hI p hp) (by rw [e]; exact Nat.lt_irrefl _)) ⟨rfl, rfl, trivial⟩
        intro m h tk F N
        dsimp only [kn] at F
        replace F : Fr s₁.heap s₁.heap.objs.size h _ := F
        have N11 : News s₁.heap s₁.heap.objs.size h _ := news_sub N pick_234
        clear N9 F9 hkn0 N
        k_steps
        (with_reducible show Stop _)
        unfold Stop
        with_reducible refine cut_C 1 ?_
        dsimp only [List.take, List.drop]
        try k_fold
        k_steps
        (with_reducible show Stop _)
        unfold Stop
        (with_reducible rename Fr _ _ _ _ => F9)
        (with_reducible rename News _ _ _ _ => N9)
        have hkn1 := knows_of F9 [(Str.ofString "peer", Value.ref _)] ⟨rfl, trivial⟩
        refine' strs_loop IsOne ?lb1L5 ?lb2L5 ?lb3L5 ?lb4L5 ?lb5L5 _ ?lb7L5 ?lb8L5 ?trn2L5 ?fin2L5
        case lb1L5 => rfl
        case lb2L5 => exact F9
        case lb3L5 => exact N9
        case lb4L5 => rfl
        case lb5L5 => rfl
        case lb7L5 => exact hkn1
        case lb8L5 =>
          repeat (first | exact List.forall_mem_nil _ | refine List.forall_mem_cons.mpr ⟨⟨_, _, rfl, by show isOne _ = true; decide +kernel⟩, ?_⟩)
        case trn2L5 =>
          intro I it z u m h tk hz hit hI F N
          dsimp only [kn] at F
          replace F : Fr s₁.heap s₁.heap.objs.size h _ := F
          replace N : News s₁.heap s₁.heap.objs.size h _ := N
          clear N9 F9 hkn1
          obtain ⟨hz1, hz2⟩ := one_of hz
          k_steps
          ((with_reducible show Stop _); unfold Stop; k_dflt (refine' use_tup (port_ok (by assumption) (by assumption) one_int) (News.isTup (by k_asm) (by k_mem)) (by k_asm) (by k_asm) (by k_asm) (by k_asm) (by k_asm) rfl (by ktr_room) (by ktr_units) (fun _ _ h => h) ?_; k_whole); intro R9 c9 u9 v9 h9 tk9 F9 N9; (try dsimp only))
          k_steps
          (with_reducible show Stop _)
          unfold Stop
          refine ne2t (isTuple_of (by exact News.isTup (by k_asm) (by k_mem))) (isTuple_of (by exact News.isTup (by k_asm) (by k_mem))) (by ktr_units) str_true int_true ?_
          k_steps
          (with_reducible show Stop _)
          unfold Stop
          (with_reducible rename Fr s₁.heap _ _ _ => kF)
          (with_reducible rename News s₁.heap _ _ _ => kN)
          exact UnrEnd.intro kF kN _ (fun p hp => SubL.mem (l := (I, it) :: _) (by k_subL) p hp) (fun p hp e => absurd (hI p hp) (by rw [e]; exact Nat.lt_irrefl _)) ⟨rfl, rfl, trivial⟩
        intro m h tk F N
        dsimp only [kn] at F
        replace F : Fr s₁.heap s₁.heap.objs.size h _ := F
        have N11 : News s₁.heap s₁.heap.objs.size h _ := news_sub N pick_234
        clear N9 F9 hkn1 N
        k_steps
        (with_reducible show Stop _)
        unfold Stop
        (with_reducible rename Fr s₁.heap _ _ _ => F20)
        (with_reducible rename News s₁.heap _ _ _ => N20)
        exact (by
          w_top off
          with_reducible refine cut_C 2 ?_
          dsimp only [List.take, List.drop]
          try k_fold
          k_steps
          (with_reducible show Stop _)
          unfold Stop
          (with_reducible rename Fr s₁.heap _ _ _ => F21)
          (with_reducible rename News s₁.heap _ _ _ => N21)
          (with_reducible rename List.map _ _ = Txt.split drawn _ => hsp)
          (with_reducible rename (List.map _ _)[Int.toNat 0]? = some _ => hy0)
          rw [hsp] at hy0
          (with_reducible rename _ = Data.cell (some (Value.str (_ ++ drawn) _)) => d5)
          (with_reducible rename Str.length _ ≤ Str.length drawn => hyl)
          have N22 : News s₁.heap s₁.heap.objs.size _ _ := news_sub N21 pick_234
          clear N21 hsp
          (with_reducible rename Str => pre)
          repeat ((with_reducible rename _ + Str.length _ ≤ _ ∧ _ => zz); clear zz)
          exact (by
            w_top off
            refine execs_more (wpC_For ?_)
            k_steps
            (with_reducible show Stop _)
            unfold Stop
            (with_reducible rename Fr s₁.heap _ _ _ => F23)
            refine ListComp_E F23 (by rfl) (by decide) (by rfl) (by decide) (by rfl) (by rfl) (by decide) ?_
            k_steps
            (with_reducible show Stop _)
            unfold Stop
            (with_reducible rename Fr s₁.heap _ _ _ => F24)
            (with_reducible rename News s₁.heap _ _ _ => N24)
            have hpl : Plain (Str.ofString "|" ++ drawn) := Plain.app (plain_of (by decide +kernel)) dk.plain
            refine call_enum_E rfl F24 N24 (fun i ys => ys.length ≤ i ∧ ∀ y ∈ ys, ∃ k u, y = Value.str ⟨#[k]⟩ u ∧ 32 ≤ k ∧ k ≤ 126) ?hsz1L7 ⟨Nat.le_refl _, fun _ h => by cases h⟩ ?trn3L7 ?fin3L7
            case hsz1L7 =>
              rw [app_len, show (Str.ofString "|").length = 1 by decide +kernel]
              exact Nat.le_trans (Nat.add_le_add_left dhi 1) (by rw [sizeLine_eq]; decide)
            case trn3L7 =>
              rintro e it i ys t y oe oi C oC D m₂ h tk E' hi ⟨k, u, hk, rfl⟩ ⟨hyl, hok⟩ hC hx1 hx2 F N
              have hkb := plain_get hpl hk
              k_steps
              · (with_reducible show Stop _)
                unfold Stop
                (with_reducible rename Fr s₁.heap _ _ _ => kF)
                (with_reducible rename News s₁.heap _ _ _ => kN)
                exact ⟨_, _, rfl, kF, kN, by rw [List.length_append]; exact Nat.succ_le_succ hyl, fun y hy => (List.mem_append.mp hy).elim (hok y) fun q => by rw [List.mem_singleton.mp q]; exact ⟨k, u, rfl, hkb⟩⟩
              · (with_reducible show Stop _)
                unfold Stop
                (with_reducible rename Fr s₁.heap _ _ _ => kF)
                (with_reducible rename News s₁.heap _ _ _ => kN)
                exact ⟨_, _, rfl, kF, kN, Nat.le_succ_of_le hyl, hok⟩
            intro D h tk ys F N hI
            (try clear F23); (try clear F24); (try clear N24)
            dsimp only at F N ⊢
            k_steps
            (with_reducible show Stop _)
            unfold Stop
            have hkn2 := knows_of F [(Str.ofString "front", Value.str _ _), (Str.ofString "peer", Value.ref _)] ⟨rfl, rfl, trivial⟩
            refine' strs_loopC IsMark ?lc1L7 ?lc2L7 ?lc3L7 ?lc4L7 ?lc5L7 _ ?lc7L7 ?lc8L7 ?lc9L7 ?lc10L7 ?trn4L7 ?fin4L7
            case lc1L7 => rfl
            case lc2L7 => exact F
            case lc3L7 => exact N
            case lc4L7 => rfl
            case lc5L7 => rfl
            case lc7L7 => exact hkn2
            case lc8L7 =>
              intro v hv
              obtain ⟨k, u, e, hb⟩ := hI.2 v hv
              exact ⟨_, u, e, k, rfl, hb⟩
            case lc9L7 => rfl
            case lc10L7 => rfl
            case fin4L7 =>
              intro m h tk F N
              dsimp only [kn] at F
              k_steps
            intro I o9 z u m h tk hz hI9 F9 N9
            dsimp only [kn] at F9
            replace F9 : Fr s₁.heap s₁.heap.objs.size h _ := F9
            replace N9 : News s₁.heap s₁.heap.objs.size h _ := N9
            clear hkn2 F N hI
            exact (by
              w_top off
              have hzl := mark_len hz
              with_reducible refine cut_C 1 ?_
              dsimp only [List.take, List.drop]
              try k_fold
              k_steps
              (with_reducible show Stop _)
              unfold Stop
              (with_reducible rename List.map _ _ = Txt.split (_ ++ _) _ => hsp)
              (with_reducible rename (List.map _ _)[Int.toNat 0]? = some _ => hx0)
              rw [hsp] at hx0
              (with_reducible rename Fr s₁.heap _ _ _ => F30)
              (with_reducible rename News s₁.heap _ _ _ => N30)
              have N31 : News s₁.heap s₁.heap.objs.size _ _ := news_sub N30 (fun p hp => List.Mem.tail _ hp)
              clear N30 hsp
              (with_reducible rename Str => x)
              have ml := mark_law hz dk hy0 hx0
              have hil := ml.len
              with_reducible refine cut_C 2 ?_
              dsimp only [List.take, List.drop]
              try k_fold
              k_steps
              ((with_reducible show Stop _); unfold Stop; k_dflt (refine' use_fields (fields_any (by assumption)) trivial (by k_asm) (by k_asm) (by k_asm) (by k_asm) (by k_asm) rfl (by ktr_room) (by ktr_units) ?_; k_whole); intro R9 ws9 c9 h9 tk9 F9 N9 fv9; (try dsimp only))
              k_steps
              (with_reducible show Stop _)
              unfold Stop
              (with_reducible rename Fr _ _ _ _ => F40)
              (with_reducible rename News _ _ _ _ => N40)
              obtain ⟨u0, u1, hp0, hp1, hdu⟩ := fv9
              have s229 : (Str.ofString "229 (").length = 5 := by decide +kernel
              have s229' : (Str.ofString "229").length = 3 := by decide +kernel
              have srp : (Str.ofString ")").length = 1 := by decide +kernel
              have slp : (Str.ofString "(").length = 1 := by decide +kernel
              obtain ⟨b0, b1, ⟨hl0, hl1, hp0, hp1⟩, N41⟩ := both_made N40 (fun a b => a.length ≤ 100 ∧ b.length ≤ 100 ∧ PortC a u0 ∧ PortC b u1)
                ⟨by simp only [app_len]; omega, by simp only [app_len, step_rev_len]; omega, hp0, hp1 _⟩
              clear N40
              repeat ((with_reducible rename _ + Str.length _ ≤ _ ∧ _ => zz); clear zz)
              repeat ((with_reducible rename Str.length _ + _ ≤ _ ∧ _ => zz); clear zz)
              refine execs_one (wpC_For ?_)
              k_steps
              (with_reducible show Stop _)
              unfold Stop
              (with_reducible rename IsRange _ _ _ _ _ _ _ _ => isR)
              (with_reducible rename Fr _ _ _ _ => F42)
              (with_reducible rename News _ _ _ _ => N42)
              have hkn5 := knows_of F42 [(Str.ofString "both", Value.ref _), (Str.ofString "fields", Value.ref _), (Str.ofString "peer", Value.ref _), (Str.ofString "front", Value.str _ _)] ⟨rfl, rfl, rfl, rfl, trivial⟩
              refine' range_loopC (n := 2) ?ld1aL8 ?ld2aL8 ?ld3aL8 ?ld4aL8 ?ld5aL8 ?ld6aL8 _ ?ld7aL8 ?ld8aL8 ?ld9aL8 ?trn5aL8 ?fin5aL8
              case ld1aL8 => rfl
              case ld2aL8 => exact isR
              case ld3aL8 => decide
              case ld4aL8 => decide
              case ld5aL8 => exact F42
              case ld6aL8 => exact N42
              case ld7aL8 => exact hkn5
              case ld8aL8 => rfl
              case ld9aL8 => rfl
              case fin5aL8 =>
                intro m h tk F N
                exact ⟨_, _, _, _, rfl, F, news_sub N (fun p hp => List.Mem.tail _ (List.Mem.tail _ hp)), fun p hp e => absurd (hI9 p hp) (by rw [e]; exact Nat.lt_irrefl _), trivial, rfl, rfl, rfl, trivial⟩
              intro I2 o2 i ti m h tk hi hI2 F N
              dsimp only [kn] at F
              clear hkn5 F42 N42
              rcases i with _ | _ | i
              · replace F : Fr s₁.heap s₁.heap.objs.size h (fun y => if y = Str.ofString "k" then some (Value.int 0 ti) else _) := F
                replace N : News s₁.heap s₁.heap.objs.size h _ := N
                refine execs_one (wpC_If (wpC_isTrue_Compare ?_))
                refine wpC_callName (f := 140) ?_
                k_steps
                (with_reducible show Stop _)
                unfold Stop
                (with_reducible rename Fr s₁.heap _ _ _ => F50)
                refine ⟨⟨_, _, (KX.keeps (Fr.keep F50)) 140 _ (by k_is), rfl⟩, ?_⟩
                refine use_made (port_any hl0 hp0) (by exact News.isTup (by k_asm) (by k_mem)) (by k_asm) (by k_asm) (by k_asm) (by k_asm) (by k_asm) rfl (by ktr_room) (by ktr_units) ?_
                intro R8 o8 h8 tk8 F51 N51 sh8
                dsimp only
                refine wpC_callName (f := 126) ?_
                k_steps
                (with_reducible show Stop _)
                unfold Stop
                (with_reducible rename Fr s₁.heap _ _ _ => F52)
                refine ⟨⟨_, _, (KX.keeps (Fr.keep F52)) 126 _ (by k_is), rfl⟩, ?_⟩
                refine use_made (due0_any hl0 hdu) (by exact News.isList (by k_asm) (by k_mem)) (by k_asm) (by k_asm) (by k_asm) (by k_asm) (by k_asm) rfl (by ktr_room) (by ktr_units) ?_
                intro R9 o9 h9 tk9 F53 N53 sh9
                dsimp only
                k_steps
                (with_reducible show Stop _)
                unfold Stop
                refine same_ne (by k_asm) sh8 sh9 (by k_mem) (by k_mem) (by ktr_units) ?_
                k_steps
                (with_reducible rename Fr s₁.heap _ _ _ => kF)
                (with_reducible rename News s₁.heap _ _ _ => kN)
                exact ⟨_, _, _, _, rfl, kF, fun p hp => kN p (SubL.mem (l := (I2, o2) :: _) (by k_subL) p hp), fun p hp e => absurd (hI2 p hp) (by rw [e]; exact Nat.lt_irrefl _), trivial, rfl, rfl, rfl, rfl, rfl, trivial⟩
              · replace F : Fr s₁.heap s₁.heap.objs.size h (fun y => if y = Str.ofString "k" then some (Value.int 1 ti) else _) := F
                replace N : News s₁.heap s₁.heap.objs.size h _ := N
                refine execs_one (wpC_If (wpC_isTrue_Compare ?_))
                refine wpC_callName (f := 140) ?_
                k_steps
                (with_reducible show Stop _)
                unfold Stop
                (with_reducible rename Fr s₁.heap _ _ _ => F50)
                refine ⟨⟨_, _, (KX.keeps (Fr.keep F50)) 140 _ (by k_is), rfl⟩, ?_⟩
                refine use_made (port_any hl1 hp1) (by exact News.isTup (by k_asm) (by k_mem)) (by k_asm) (by k_asm) (by k_asm) (by k_asm) (by k_asm) rfl (by ktr_room) (by ktr_units) ?_
                intro R8 o8 h8 tk8 F51 N51 sh8
                dsimp only
                refine wpC_callName (f := 126) ?_
                k_steps
                (with_reducible show Stop _)
                unfold Stop
                (with_reducible rename Fr s₁.heap _ _ _ => F52)
                refine ⟨⟨_, _, (KX.keeps (Fr.keep F52)) 126 _ (by k_is), rfl⟩, ?_⟩
                refine use_made (due1_any hl1 hdu) (by exact News.isList (by k_asm) (by k_mem)) (by k_asm) (by k_asm) (by k_asm) (by k_asm) (by k_asm) rfl (by ktr_room) (by ktr_units) ?_
                intro R9 o9 h9 tk9 F53 N53 sh9
                dsimp only
                k_steps
                (with_reducible show Stop _)
                unfold Stop
                refine same_ne (by k_asm) sh8 sh9 (by k_mem) (by k_mem) (by ktr_units) ?_
                k_steps
                (with_reducible rename Fr s₁.heap _ _ _ => kF)
                (with_reducible rename News s₁.heap _ _ _ => kN)
                exact ⟨_, _, _, _, rfl, kF, fun p hp => kN p (SubL.mem (l := (I2, o2) :: _) (by k_subL) p hp), fun p hp e => absurd (hI2 p hp) (by rw [e]; exact Nat.lt_irrefl _), trivial, rfl, rfl, rfl, rfl, rfl, trivial⟩
              · exact absurd hi (by omega)))))))
end Mine
end
set_option maxRecDepth 100000 in
set_option maxHeartbeats 8000000 in
theorem PySem.Challenge.cw_rw0045_01_holds : PySem.Challenge.rw_rw0045_01.Holds := by
  exact Mine.law
