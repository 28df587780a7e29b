import PyProof.Rows.All
import Wide.All
import OpenK.AllK
import Wide.FinOn
import PySem.Challenge.RW_nq0174_01
open PySem PySem.W PySem.Calls PyProof.Rows
set_option Elab.async false
set_option maxRecDepth 100000
set_option maxHeartbeats 8000000
set_option linter.unusedVariables false
set_option linter.unusedSimpArgs false
set_option rowWalk.seconds 0
set_option compiler.extract_closed false
namespace Mine
/-- no frame of a decoder is on the stack -/
noncomputable def notDec : Code → Bool
  | .builtin id _ => !(Builtin.Bytes.decodersThatHold.contains id)
  | _ => true
noncomputable def NoDec (Γ : Ctx) : Prop := notDec Γ.code = true ∧ ∀ x ∈ Γ.below, notDec x.1 = true
noncomputable def wpS {α : Type} (M : Model) (A : Around) (t : Sem α) (Q : α → Shared → Prop) (E : Value → Shared → Prop) (s : Shared) : Prop :=
  ∀ Γ p, Γ.In A → NoDec Γ → Sem.wp M Γ t (fun a _ s' => Q a s') (fun e _ s' => E e s') p s
noncomputable def codeS (M : Model) (A : Around) (c : Code) (R : Result → Shared → Prop) (s : Shared) : Prop :=
  ∀ Γ p, Γ.code = c → Γ.Below A → NoDec Γ → wpCode M Γ R p s
section
variable {α β : Type} {M : Model} {A : Around} {E : Value → Shared → Prop} {s : Shared}
theorem wpS_any {t : Sem α} {Q : α → Shared → Prop} (h : wpAny M A t Q E s) : wpS M A t Q E s := fun Γ p hΓ _ => h Γ p hΓ
theorem wpS_mono {t : Sem α} {Q Q' : α → Shared → Prop} {E' : Value → Shared → Prop} (h : wpS M A t Q E s) (hQ : ∀ a s, Q a s → Q' a s) (hE : ∀ e s, E e s → E' e s) : wpS M A t Q' E' s :=
  fun Γ p hΓ hn => Sem.wp_mono M Γ t (fun a _ s => hQ a s) (fun e _ s => hE e s) p s (h Γ p hΓ hn)
theorem wpS_bind {t : Sem α} {k : α → Sem β} {Q : β → Shared → Prop} (h : wpS M A t (fun a s' => wpS M A (k a) Q E s') E s) : wpS M A (t >>= k) Q E s := fun Γ p hΓ hn => by
  rw [Sem.wp_bind']
  exact Sem.wp_mono M Γ t (fun a p' s' h' => h' Γ p' hΓ hn) (fun _ _ _ h' => h') p s (h Γ p hΓ hn)
end
theorem noDec_caller : NoDec ⟨.builtin "claim.caller" {}, none, none, [], none⟩ := ⟨by decide +kernel, fun _ h => nomatch h⟩
theorem ends_S {prog : Program} {w : World} {t : Sem Fin} {s : Shared} {R : Result → Shared → Prop} (hreg : s.asleep)
    (h : wpS (model prog w) callerA t (fun fin s' => ∃ f, fin = .done f ∧ (R (.ok f) s' ∧ leftWithCleanup s'.gens = false)) (fun e s' => R (.error e) s' ∧ leftWithCleanup s'.gens = false) s) :
    ∃ n r s' s'', runN (denote table) prog w n s ⟨t, .builtin "claim.caller" {}, default, []⟩ = .halted (outcomeOf r) s' ∧
      schedN (denote table) prog w n (.single s ⟨t, .builtin "claim.caller" {}, default, []⟩) = .halted (outcomeOf r) s' ∧ s'.forget = s''.forget ∧ R r s'' := by
  have h0 := h ⟨.builtin "claim.caller" {}, none, none, [], none⟩ default caller_in noDec_caller
  have h1 : Sem.wp (model prog w) ⟨.builtin "claim.caller" {}, none, none, [], none⟩ t (Sem.finPost (model prog w) ⟨.builtin "claim.caller" {}, none, none, [], none⟩ fun r s' => R r s' ∧ leftWithCleanup s'.gens = false) (fun e _ s' => R (.error e) s' ∧ leftWithCleanup s'.gens = false) default s :=
    Sem.wp_mono _ _ _ (fun fin p' s' h' => by obtain ⟨f, rfl, hf⟩ := h'; exact hf) (fun _ _ _ h' => h') _ _ h0
  refine Classical.byContradiction fun hGG => ?_
  obtain ⟨n, r, a, b, hs, hn, hfo, hR⟩ := wp_halts_full (M := model prog w) (R := R) hreg h1
  refine hGG ?_
  clear hGG
  exact ⟨n, r, b, a, hn, hs, hfo, hR⟩
theorem from_S {c : ClaimW} {tree : List Value → Sem Fin} {w : World} {s : Shared} {free : Addr → Prop} {gens : Prop} {kept : Heap → Prop} (hz : s.asleep) (hgens : s.gens = #[])
    (hspec : ∀ args, c.pre args = true → WData.layableAll args = true → ∀ ord : List DictEntry → List DictEntry, (∀ l, (ord l).Perm l) →
      ∃ vs s₁, layAllW c.records (classAt s.heap) w.params ord args s = some (vs, s₁) ∧
        wpS (model c.prog w) callerA (tree vs) (fun fin s' => ∃ f, fin = .done f ∧ (c.Ends s args vs s₁ (.ok f) s' ∧ s'.os = s.os ∧ AllBare s'.gens ∧ kept s'.heap))
          (fun e s' => c.Ends s args vs s₁ (.error e) s' ∧ s'.os = s.os ∧ AllBare s'.gens ∧ kept s'.heap) s₁) :
    c.CallFrom (fun vs => ⟨tree vs, .builtin "claim.caller" {}, default, []⟩) w free gens kept s := by
  intro args hpre hlay ord hord
  refine Classical.byContradiction fun hGG => ?_
  obtain ⟨vs, s₁, hlaid, hcode⟩ := hspec args hpre hlay ord hord
  refine hGG ?_
  clear hGG
  have hal := layAllW_rest _ _ _ hlaid
  refine Classical.byContradiction fun hGG => ?_
  obtain ⟨k, r, s', s'', hrun, hsched, hfo, hcase, hos, hkp⟩ := ends_S (prog := c.prog) (w := w) (t := tree vs) (s := s₁) (R := fun r s' => c.Ends s args vs s₁ r s' ∧ s'.os = s.os ∧ kept s'.heap) (Shared.asleep_of_life hal.2.2.2 hz)
    (wpS_mono hcode (fun fin s' h => by
      obtain ⟨f, e, h1, h2, h3, h4⟩ := h
      exact ⟨f, e, ⟨h1, h2, h4⟩, leftWithCleanup_false_of_bare h3⟩) (fun e s' h => ⟨⟨h.1, h.2.1, h.2.2.2⟩, leftWithCleanup_false_of_bare h.2.2.1⟩))
  obtain ⟨eh, _, _, eo, _⟩ := Shared.forget_eq hfo
  refine hGG ?_
  clear hGG
  have hcase := hcase.congr eh
  have hkp : kept s'.heap := by rw [eh]; exact hkp
  rw [← eo] at hos
  have hlife : s'.heap.life = s.heap.life := (runN_life _ _ _ hrun).trans hal.2.2.2
  refine ⟨vs, s₁, hlaid, k, _, s', hsched, ?_, (fun _ i x hx => by rw [hgens] at hx; simp at hx), hkp, by rw [hlife], Shared.rest_eq hos⟩
  rcases hcase with ⟨v, rfl, d1, d2, d3, d4, d5⟩ | ⟨e, ob, cls, rfl, d1, d2, d3, d4, d5⟩
  · exact .inl ⟨v, rfl, d1, d2, d3, fun b o y _ => d4 b o y, d5⟩
  · exact .inr ⟨e, ob, cls, rfl, d1, d2, d3, d4, fun b o y _ => d5 b o y⟩
noncomputable abbrev WalkS (q : Program) (loose : List Str) (XP : (Str → Option Value) → Heap → Prop) (YP : World → Heap → Prop) (r : RowW) (d : DefRec) (kwd : List (Str × Expr)) (run : Value → List Value → Sem Value) : Prop :=
  ∀ (w : World) (s₀ s₁ : Shared) (mg mb : Str → Option Value), Ground q loose r.records XP w s₀ mg mb s₁.heap → YP w s₁.heap → ∀ (a : Addr) (o : Obj) (pm cd doc dV kV : Value), s₁.heap.get? a = some o →
    o.data = .func { docDef d.name d.params d.body d.scope pm cd doc with defaults := dV, kwdefaults := kV } → s₁.heap.CodeRec cd d.name → Dflts mg s₁.heap d.params kwd dV kV → mg d.name = some (.ref a) → s₁.gens = #[] →
    ∀ (args : List WData) (vals : List Value) (as : List Addr), r.claim.pre args = true → WData.layableAll args = true → ReadsAllW r.records (classAt s₀.heap) s₁.heap vals args as → WellAll w.params s₁.heap vals args → (∀ a ∈ as, (a == sysModules) = false) →
      wpS (model r.prog w) callerA (run (.ref a) vals) (fun v s' => GoodWG r.claim (classAt s₀.heap) (ExcName.means s₀.heap) args s₁ (.ok (.ret v)) s')
        (fun e s' => GoodWG r.claim (classAt s₀.heap) (ExcName.means s₀.heap) args s₁ (.error e) s') s₁
theorem any_S {r : RowW} {run : Value → List Value → Sem Value} {tree : List Value → Sem Fin} {q : Program} {loose defs kps : List Str} {writes : Bool} {Xt : Shared → Bool} {XP : (Str → Option Value) → Heap → Prop} {α : Type} {Yf : Shared → α} {Ya : World → α} {YP : World → Heap → Prop} {N : Nat}
    (left : LeftO r.prog q loose Xt Yf Ya N) (hY : ∀ w s, Yf s = Ya w → YP w s.heap) (hYk : ∀ w h h', YP w h → (∀ b o, h.get? b = some o → h'.get? b = some o) → YP w h') (hX : ∀ s, Xt s = true → XP (s.heap.nsMap mainGlobals) s.heap) (hXk : ∀ mg h h', XP mg h → (∀ b o, h.get? b = some o → h'.get? b = some o) → XP mg h')
    (hRf : ∀ s, Xt s = true → RecFacts r.records s.heap) (hwr : (!writes || r.records.isEmpty) = true) (ok : (chainsOk q && opensWell r.prog && (frees r && r.within.isEmpty)) = true) (hb : r.prog.bare) (hw : r.promised)
    (ht : ∀ vs (w : World) (s : Shared) mg f (Q : Fin → Shared → Prop) (E : Value → Shared → Prop), s.heap.Ns mainGlobals mg → mg r.name = some f → wpS (model r.prog w) callerA (run f vs) (fun v s' => Q (.done (.ret v)) s') E s → wpS (model r.prog w) callerA (tree vs) Q E s)
    (pin : ∀ w s, s.heap.isNs mainGlobals = true → Ground q loose [] XP w s (s.heap.nsMap mainGlobals) (s.heap.nsMap builtinsNs) s.heap → ∀ n ∈ defs, isTheDefsW r.prog s.heap n)
    (call : ∀ (w : World) (s₀ s₁ : Shared) (mg mb : Str → Option Value), Ground q loose r.records XP w s₀ mg mb s₁.heap → YP w s₁.heap → ∀ (args : List WData) (vs : List Value) (as : List Addr),
      r.claim.pre args = true → WData.layableAll args = true → Laid r.records w s₀ s₁ args vs as → sysModules < s₀.heap.objs.size → ∃ f, mg r.name = some f ∧
        wpS (model r.prog w) callerA (run f vs) (fun v s' => GoodWG r.claim (classAt s₀.heap) (ExcName.means s₀.heap) args s₁ (.ok (.ret v)) s')
          (fun e s' => GoodWG r.claim (classAt s₀.heap) (ExcName.means s₀.heap) args s₁ (.error e) s') s₁) : r.claim.HoldsOpenBy (fun vs => ⟨tree vs, .builtin "claim.caller" {}, default, []⟩) defs kps writes := by
  refine Classical.byContradiction fun hGG => ?_
  obtain ⟨ok, k5⟩ := Bool.and_eq_true_iff.mp ok
  obtain ⟨hch, o1⟩ := Bool.and_eq_true_iff.mp ok
  obtain ⟨k5, k6⟩ := Bool.and_eq_true_iff.mp k5
  obtain ⟨hsame, hu, ha, hap, hm⟩ := frees_parts k5
  refine hGG ?_
  clear hGG
  have hwi : r.claim.within = [] := List.isEmpty_iff.mp k6
  have hi := ident_freeW hu ha hap
  refine ⟨⟨hb, o1, by show r.makers.map _ = []; rw [hm]; rfl⟩, hw.witness, fun w => ⟨(left.behind hX hch w).1, fun s' hs' => ?_⟩⟩
  refine Classical.byContradiction fun hGG => ?_
  obtain ⟨s₀, hf, hg0, s, hT, hz, hgens, hg, G00, y⟩ := (left.behind (XP := fun mg h => XP mg h ∧ RecFacts r.records h) (fun s hs => ⟨hX s hs, hRf s hs⟩) hch w).2 s' hs'
  refine hGG ?_
  clear hGG
  have G0 : Ground q loose [] XP w s (s.heap.nsMap mainGlobals) (s.heap.nsMap builtinsNs) s.heap := ⟨G00.T, G00.B, G00.D, G00.TE, G00.TD, G00.W, G00.X.1, G00.cls, G00.has, G00.apart, G00.once, G00.K⟩
  have RF := G00.X.2
  have hT' := hT
  refine ⟨s₀, hf, hg0, s, hT, pin w s hg G0, RF.1, RF.2.1, ?_⟩
  have hgens : s.gens = #[] := Array.eq_empty_of_size_eq_zero (beq_iff_eq.mp hgens)
  have G : Ground q loose r.records XP w s _ _ s.heap := RF.ground G0
  refine from_S (c := r.claim) hz hgens fun args hpre hlay ord hord => ?_
  refine Classical.byContradiction fun hGG => ?_
  obtain ⟨⟨vs, s₁⟩, hlaid⟩ := Option.isSome_iff_exists.mp (layAllW_isSome (P := w.params) (ord := ord) G.has args r.args s (pre_splitW hpre).1)
  refine hGG ?_
  clear hGG
  have keeps := layAllW_keeps _ _ _ hlaid
  have hal := layAllW_rest _ _ _ hlaid
  refine Classical.byContradiction fun hGG => ?_
  obtain ⟨as, hrd, hin, hold⟩ := reads_layAllW hord _ _ _ hlaid hlay s₁.heap (fun _ _ e => e)
  refine hGG ?_
  clear hGG
  have L : Laid r.records w s s₁ args vs as := ⟨⟨ord, hord, hlaid⟩, hrd, hin, hold, keeps, hal.1.trans hgens, hal.2.2.1⟩
  have G₁ := G.keeps hXk keeps
  refine Classical.byContradiction fun hGG => ?_
  obtain ⟨f, hf, h⟩ := call w s s₁ _ _ G₁ (hYk _ _ _ (hY w s y) keeps) args vs as hpre hlay L G.low
  refine hGG ?_
  clear hGG
  refine ⟨vs, s₁, hlaid, ht vs w s₁ _ f _ _ G₁.T.g hf (wpS_mono h (fun v s' g => ?_) fun e s' g => ?_)⟩
  · have z := g.laid (c := r.claim) hsame hwi hi L
    exact ⟨_, rfl, z.1, z.2.1, z.2.2, fun q => ⟨namesKept_of hT' hg kps keeps g.2.1.old, noTable hwr q⟩⟩
  · have z := g.laid (c := r.claim) hsame hwi hi L
    exact ⟨z.1, z.2.1, z.2.2, fun q => ⟨namesKept_of hT' hg kps keeps g.2.1.old, noTable hwr q⟩⟩
theorem PySem.W.holds_open {r : OpenRow} {q : Program} {loose : List Str} {Xt : Shared → Bool} {XP : (Str → Option Value) → Heap → Prop} {α : Type} {Yf : Shared → α} {Ya : World → α} {YP : World → Heap → Prop} {d : DefRec} {kwd : List (Str × Expr)} {N : Nat}
    (left : ∀ w : World, (openEnds treeTable r.prog w N).map (fun s => (openSeen q loose (importedModules r.prog.main.body) Xt true s, Yf s)) = some (openGood q loose, Ya w)) (hY : ∀ w s, Yf s = Ya w → YP w s.heap) (hYk : ∀ w h h', YP w h → (∀ b o, h.get? b = some o → h'.get? b = some o) → YP w h')
    (hX : ∀ s, Xt s = true → XP (s.heap.nsMap mainGlobals) s.heap) (hXk : ∀ mg h h', XP mg h → (∀ b o, h.get? b = some o → h'.get? b = some o) → XP mg h')
    (hdef : defOf q r.name = some (d, kwd)) (hp : r.prog.theDef r.name = some (d.params, d.body, d.scope)) (hk : kwWritten? d.params.kwonlyargs d.params.kw_defaults = some kwd) (hRf : ∀ s, Xt s = true → RecFacts r.records s.heap) (hwr : (!r.writes || r.records.isEmpty) = true)
    (k1 : r.wellSaid = true) (ok : (chainsOk q && opensWell r.prog && (frees r.toRowW && r.within.isEmpty)) = true) (hb : r.prog.bare) (hw : r.toRowW.promised)
    (call : WalkS q loose XP YP r.toRowW d kwd fun f vs => _root_.PySem.call f vs) : r.Holds := by
  refine ⟨k1, hw, any_S (r := r.toRowW) (run := fun f vs => _root_.PySem.call f vs) (tree := fun vs => do match ← nsGet mainNs r.name with
      | some f => do ret (← _root_.PySem.call f vs)
      | none => unsupported "claim.caller:no-such-global") left hY hYk hX hXk hRf hwr ok hb hw
    (fun vs w s mg f Q E hg hf h => wpS_bind (wpS_any (wpAny_nsGet hg (by rw [hf]; exact wpS_bind (wpS_mono h (fun _ _ x => wpS_any (wpAny_pure x)) fun _ _ x => x)))))
    (fun w s hg G n hn => ?_) fun w s₀ s₁ mg mb G Y args vs as hpre hlay L low => ?_⟩
  · obtain rfl : n = r.name := by split at hn <;> simp_all
    exact pinned_of_view hg G hdef hp hk
  · refine Classical.byContradiction fun hGG => ?_
    obtain ⟨a, o, pm, cd, doc, dV, kV, h1, h2, h3, h4, h5⟩ := G.fn hdef
    refine hGG ?_
    clear hGG
    exact ⟨.ref a, h1, call w s₀ s₁ mg mb G Y a o pm cd doc dV kV h2 h3 h4 h5 (defOf_name hdef ▸ h1) L.gens args vs as hpre hlay L.reads L.well (L.low low)⟩
open_top hd for (_root_.PySem.Challenge.rw_nq0174_01).row
theorem said : _root_.PySem.Challenge.rw_nq0174_01.wellSaid = true := by kernel_rfl
theorem mode1 : True := by
  w_top off
  k_with_none
  trivial
inductive Sm1 {α0 : Type} (p : α0 → Prop) : Prop
  | mk (x0 : α0) (h : p x0) : Sm1 p
inductive Sm2 {α0 : Type} {α1 : Type} (p : α0 → α1 → Prop) : Prop
  | mk (x0 : α0) (x1 : α1) (h : p x0 x1) : Sm2 p
inductive Sm3 {α0 : Type} {α1 : Type} {α2 : Type} (p : α0 → α1 → α2 → Prop) : Prop
  | mk (x0 : α0) (x1 : α1) (x2 : α2) (h : p x0 x1 x2) : Sm3 p
inductive Sm4 {α0 : Type} {α1 : Type} {α2 : Type} {α3 : Type} (p : α0 → α1 → α2 → α3 → Prop) : Prop
  | mk (x0 : α0) (x1 : α1) (x2 : α2) (x3 : α3) (h : p x0 x1 x2 x3) : Sm4 p
inductive Sm5 {α0 : Type} {α1 : Type} {α2 : Type} {α3 : Type} {α4 : Type} (p : α0 → α1 → α2 → α3 → α4 → Prop) : Prop
  | mk (x0 : α0) (x1 : α1) (x2 : α2) (x3 : α3) (x4 : α4) (h : p x0 x1 x2 x3 x4) : Sm5 p
inductive Sm6 {α0 : Type} {α1 : Type} {α2 : Type} {α3 : Type} {α4 : Type} {α5 : Type} (p : α0 → α1 → α2 → α3 → α4 → α5 → Prop) : Prop
  | mk (x0 : α0) (x1 : α1) (x2 : α2) (x3 : α3) (x4 : α4) (x5 : α5) (h : p x0 x1 x2 x3 x4 x5) : Sm6 p
inductive Sm7 {α0 : Type} {α1 : Type} {α2 : Type} {α3 : Type} {α4 : Type} {α5 : Type} {α6 : Type} (p : α0 → α1 → α2 → α3 → α4 → α5 → α6 → Prop) : Prop
  | mk (x0 : α0) (x1 : α1) (x2 : α2) (x3 : α3) (x4 : α4) (x5 : α5) (x6 : α6) (h : p x0 x1 x2 x3 x4 x5 x6) : Sm7 p
inductive Sm8 {α0 : Type} {α1 : Type} {α2 : Type} {α3 : Type} {α4 : Type} {α5 : Type} {α6 : Type} {α7 : Type} (p : α0 → α1 → α2 → α3 → α4 → α5 → α6 → α7 → Prop) : Prop
  | mk (x0 : α0) (x1 : α1) (x2 : α2) (x3 : α3) (x4 : α4) (x5 : α5) (x6 : α6) (x7 : α7) (h : p x0 x1 x2 x3 x4 x5 x6 x7) : Sm8 p
inductive Sm10 {α0 : Type} {α1 : Type} {α2 : Type} {α3 : Type} {α4 : Type} {α5 : Type} {α6 : Type} {α7 : Type} {α8 : Type} {α9 : Type} (p : α0 → α1 → α2 → α3 → α4 → α5 → α6 → α7 → α8 → α9 → Prop) : Prop
  | mk (x0 : α0) (x1 : α1) (x2 : α2) (x3 : α3) (x4 : α4) (x5 : α5) (x6 : α6) (x7 : α7) (x8 : α8) (x9 : α9) (h : p x0 x1 x2 x3 x4 x5 x6 x7 x8 x9) : Sm10 p
inductive Al3 (p0 p1 p2 : Prop) : Prop
  | mk (h0 : p0) (h1 : p1) (h2 : p2) : Al3 p0 p1 p2
inductive Al4 (p0 p1 p2 p3 : Prop) : Prop
  | mk (h0 : p0) (h1 : p1) (h2 : p2) (h3 : p3) : Al4 p0 p1 p2 p3
inductive Al5 (p0 p1 p2 p3 p4 : Prop) : Prop
  | mk (h0 : p0) (h1 : p1) (h2 : p2) (h3 : p3) (h4 : p4) : Al5 p0 p1 p2 p3 p4
inductive Al6 (p0 p1 p2 p3 p4 p5 : Prop) : Prop
  | mk (h0 : p0) (h1 : p1) (h2 : p2) (h3 : p3) (h4 : p4) (h5 : p5) : Al6 p0 p1 p2 p3 p4 p5
inductive Al7 (p0 p1 p2 p3 p4 p5 p6 : Prop) : Prop
  | mk (h0 : p0) (h1 : p1) (h2 : p2) (h3 : p3) (h4 : p4) (h5 : p5) (h6 : p6) : Al7 p0 p1 p2 p3 p4 p5 p6
inductive Al8 (p0 p1 p2 p3 p4 p5 p6 p7 : Prop) : Prop
  | mk (h0 : p0) (h1 : p1) (h2 : p2) (h3 : p3) (h4 : p4) (h5 : p5) (h6 : p6) (h7 : p7) : Al8 p0 p1 p2 p3 p4 p5 p6 p7
inductive Al9 (p0 p1 p2 p3 p4 p5 p6 p7 p8 : Prop) : Prop
  | mk (h0 : p0) (h1 : p1) (h2 : p2) (h3 : p3) (h4 : p4) (h5 : p5) (h6 : p6) (h7 : p7) (h8 : p8) : Al9 p0 p1 p2 p3 p4 p5 p6 p7 p8
inductive Al10 (p0 p1 p2 p3 p4 p5 p6 p7 p8 p9 : Prop) : Prop
  | mk (h0 : p0) (h1 : p1) (h2 : p2) (h3 : p3) (h4 : p4) (h5 : p5) (h6 : p6) (h7 : p7) (h8 : p8) (h9 : p9) : Al10 p0 p1 p2 p3 p4 p5 p6 p7 p8 p9
inductive Al12 (p0 p1 p2 p3 p4 p5 p6 p7 p8 p9 p10 p11 : Prop) : Prop
  | mk (h0 : p0) (h1 : p1) (h2 : p2) (h3 : p3) (h4 : p4) (h5 : p5) (h6 : p6) (h7 : p7) (h8 : p8) (h9 : p9) (h10 : p10) (h11 : p11) : Al12 p0 p1 p2 p3 p4 p5 p6 p7 p8 p9 p10 p11
inductive Al13 (p0 p1 p2 p3 p4 p5 p6 p7 p8 p9 p10 p11 p12 : Prop) : Prop
  | mk (h0 : p0) (h1 : p1) (h2 : p2) (h3 : p3) (h4 : p4) (h5 : p5) (h6 : p6) (h7 : p7) (h8 : p8) (h9 : p9) (h10 : p10) (h11 : p11) (h12 : p12) : Al13 p0 p1 p2 p3 p4 p5 p6 p7 p8 p9 p10 p11 p12
inductive Al19 (p0 p1 p2 p3 p4 p5 p6 p7 p8 p9 p10 p11 p12 p13 p14 p15 p16 p17 p18 : Prop) : Prop
  | mk (h0 : p0) (h1 : p1) (h2 : p2) (h3 : p3) (h4 : p4) (h5 : p5) (h6 : p6) (h7 : p7) (h8 : p8) (h9 : p9) (h10 : p10) (h11 : p11) (h12 : p12) (h13 : p13) (h14 : p14) (h15 : p15) (h16 : p16) (h17 : p17) (h18 : p18) : Al19 p0 p1 p2 p3 p4 p5 p6 p7 p8 p9 p10 p11 p12 p13 p14 p15 p16 p17 p18

/-- all but the foot is kept -/
structure Mod (foot : List Addr) (h h' : Heap) : Prop where
  keep : ∀ b o, b ∉ foot → h.get? b = some o → h'.get? b = some o

theorem Mod.refl (h : Heap) (foot : List Addr) : Mod foot h h := ⟨fun _ _ _ e => e⟩
theorem Mod.trans {foot : List Addr} {h₁ h₂ h₃ : Heap} (x : Mod foot h₁ h₂) (y : Mod foot h₂ h₃) : Mod foot h₁ h₃ :=
  ⟨fun b o hb e => y.keep b o hb (x.keep b o hb e)⟩
theorem Mod.mono {foot foot' : List Addr} {h₁ h₂ : Heap} (x : Mod foot h₁ h₂) (hs : ∀ a ∈ foot, a ∈ foot') : Mod foot' h₁ h₂ :=
  ⟨fun b o hb e => x.keep b o (fun q => hb (hs b q)) e⟩
theorem Mod.fr {foot : List Addr} {h₀ h h' : Heap} {L : Addr} {m : Str → Option Value} (x : Mod foot h h') (F : Fr h₀ L h m) (hf : ∀ a ∈ foot, a ≠ L ∧ h₀.get? a = none) : Fr h₀ L h' m := by
  obtain ⟨oL, es, ep, hL, r⟩ := F.ns
  refine ⟨⟨oL, es, ep, x.keep L oL (fun q => (hf L q).1 rfl) hL, r⟩, fun b o e => x.keep b o (fun q => ?_) (F.keep b o e), F.above⟩
  rw [(hf b q).2] at e; cases e
theorem Mod.news {foot : List Addr} {h₀ h h' : Heap} {L : Addr} {news : List (Addr × Obj)} (x : Mod foot h h') (N : News h₀ L h news) (hf : ∀ p ∈ news, p.1 ∉ foot) : News h₀ L h' news :=
  fun p hp => ⟨x.keep _ _ (hf p hp) (N p hp).1, (N p hp).2⟩
theorem Mod.newsUpd {d : Addr} {o o' : Obj} {h₀ h h' : Heap} {L : Addr} {news news' : List (Addr × Obj)} (x : Mod [d] h h') (N : News h₀ L h news) (hd : h'.get? d = some o') (U : Upd d o o' news news') : News h₀ L h' news' := by
  obtain ⟨pre, post, rfl, rfl, a, b⟩ := U.split
  have D := N (d, o) (List.mem_append_right _ (.head _))
  intro p hp
  rcases List.mem_append.mp hp with q | q
  · have P := N p (List.mem_append_left _ q)
    exact ⟨x.keep _ _ (fun z => a p q (List.mem_singleton.mp z)) P.1, P.2⟩
  · rcases List.mem_cons.mp q with rfl | q
    · exact ⟨hd, D.2⟩
    · have P := N p (List.mem_append_right _ (.tail _ q))
      exact ⟨x.keep _ _ (fun z => b p q (List.mem_singleton.mp z)) P.1, P.2⟩

/-- what stands outside the ledger is of the ground -/
noncomputable def Held (news : List (Addr × Obj)) (h g : Heap) : Prop := ∀ b o, (∀ p ∈ news, p.1 ≠ b) → h.get? b = some o → g.get? b = some o

noncomputable def BackM (g h : Heap) (foot : List Addr) (R : Result → Shared → Prop) (v : Value) (s' : Shared) : Prop :=
  ∃ L' m', Fr g L' s'.heap m' ∧ (Mod foot h s'.heap → R (.ok (.ret v)) s')

theorem backM_ {g h : Heap} {foot : List Addr} {R : Result → Shared → Prop} {v : Value} {s' : Shared} {L' : Addr} {m' : Str → Option Value} (F' : Fr g L' s'.heap m')
    (k : Mod foot h s'.heap → R (.ok (.ret v)) s') : BackM g h foot R v s' := ⟨L', m', F', k⟩

section
variable {prog : Program} {w : World} {A A₀ : Around} {s : Shared} {K : Frag} {L : Addr} {h₀ base : Heap} {m mg mb : Str → Option Value} {news : List (Addr × Obj)} {p : Program} {loose : List Str} {mean : ExcName → Option Value}

theorem enterM {env : Env} {outer : List Env} {R : Result → Shared → Prop} {name qual : Str} {params : Arguments} {body : List Stmt} {scope : Scope} {dV kV doc pm cdv ct oc : Value} {an od : Option Addr} {osl : Array (Option Value)} {f : Addr} {args : Args} {binds : List (Str × Value)}
    (B : Below A₀ base outer h₀) (F : Fr h₀ L s.heap m) (X₀ : K.In h₀) (N : News h₀ L s.heap news) (T : Top p loose mean mg mb h₀) (hA : A.frames = some (env :: outer)) (hf : env.frame = some L) (hke : env.scope.kind = .function)
    (ho : K.lookup f = some ⟨oc, od, .func (fnOf name qual params body scope dV kV doc pm an cdv ct), osl⟩) (hcd : codeIn K cdv qual = true) (hroom : A.depth < recursionLimit)
    (hbind : BindsTo s (fnOf name qual params body scope dV kV doc pm an cdv ct) args binds) (hloc : ∀ y ∈ binds, scope.names.lookup y.1 = some .local)
    (h : ∀ g L' h₁, Held news s.heap g → s.heap.objs.size = L' → (∀ b o, s.heap.get? b = some o → h₁.get? b = some o) → Fr g L' h₁ (fun y => binds.reverse.lookup y) → News g L' h₁ news → Below A base (env :: outer) g → K.In g → Top p loose mean mg mb g →
      wpAny (model prog w) (A.deeper (envOf qual scope L' f cdv)) (execs body (envOf qual scope L' f cdv))
        (fun fl s' => BackM g s.heap (news.map (·.1)) R (match fl with | .ret v => v | _ => .none) s')
        (fun e s' => wpAny (model prog w) (A.deeper (envOf qual scope L' f cdv)) (leaving (envOf qual scope L' f cdv) e) (fun _ s'' => R (.error e) s'') (fun e' s'' => R (.error e') s'') s')
        { s with heap := h₁, toks := s.toks + binds.length })
    (hco : scope.isCoroutine = false) (hgen : scope.isGenerator = false) (hk : scope.kind = .function)
    (hcell : ∀ x ∈ scope.names, x.2 ≠ .cell) : codeAny (model prog w) A (.call (.ref f) args) R s := by
  obtain ⟨FG, BG, st, lv⟩ := groundX (R := R) B F N hA hf hke
  refine codeAny_call_def (fd := fnOf name qual params body scope dV kV doc pm an cdv ct) (body := body) (binds := binds) hroom ((X₀.keeps F.keep) _ _ ho) rfl (T.nolimit.keeps F.keep) (codeRec_of (X₀.keeps F.keep) hcd) rfl hbind hcell hloc (fun h₁ hns hk₁ => ?_) hco hgen hk
  have F' : Fr (hideAll s.heap (news.map (·.1))) s.heap.objs.size h₁ (fun y => binds.reverse.lookup y) := ⟨hns, fun b o e => hk₁ b o (of_hideAll _ e), Nat.le_of_eq (hideAll_size _ _)⟩
  have HD : Held news s.heap (hideAll s.heap (news.map (·.1))) := fun b o hb e => hideAll_get _ e fun q => by
    obtain ⟨p, hp, e'⟩ := List.mem_map.mp q
    exact hb p hp e'
  refine wpAny_mono (h _ s.heap.objs.size h₁ HD rfl hk₁ F'
    (fun p hp => ⟨hk₁ _ _ (N p hp).1, Nat.ne_of_lt (Heap.lt_size (N p hp).1), hideAll_none _ (List.mem_map_of_mem hp)⟩) BG (X₀.keeps st) (T.keeps st)) (fun fl s' hl => ?_) fun _ _ y => y
  obtain ⟨L', m', F₂, k⟩ := hl
  exact k ⟨fun b o hb e => F₂.keep b o (HD b o (fun p hp q => hb (List.mem_map.mpr ⟨p, hp, q⟩)) e)⟩
end

theorem Mod.shrink {a : Addr} {foot : List Addr} {o : Obj} {h h' : Heap} (x : Mod (a :: foot) h h') (e : h.get? a = some o) (e' : h'.get? a = some o) : Mod foot h h' :=
  ⟨fun b ob hb eb => by
    by_cases q : b = a
    · subst q; rw [e] at eb; cases eb; exact e'
    · exact x.keep b ob (fun z => (List.mem_cons.mp z).elim q hb) eb⟩
theorem Mod.dropNew {a : Addr} {foot : List Addr} {h h' : Heap} (x : Mod (a :: foot) h h') (e : h.get? a = none) : Mod foot h h' :=
  ⟨fun b ob hb eb => x.keep b ob (fun z => (List.mem_cons.mp z).elim (fun q => by rw [q, e] at eb; cases eb) hb) eb⟩
theorem ne_of_fresh {h : Heap} {a b : Nat} {o : Obj} (e : h.get? a = none) (e' : h.get? b = some o) : a ≠ b := fun q => by rw [q, e'] at e; cases e

theorem enterR {prog : Program} {w : World} {A A₀ : Around} {s : Shared} {K : Frag} {L : Addr} {h₀ base : Heap} {m mg mb : Str → Option Value} {news : List (Addr × Obj)} {p : Program} {loose : List Str} {mean : ExcName → Option Value} {env : Env} {outer : List Env} {R : Result → Shared → Prop} {name qual : Str} {params : Arguments} {body : List Stmt} {scope : Scope} {dV kV doc pm cdv ct oc : Value} {an od : Option Addr} {osl : Array (Option Value)} {f : Addr} {args : Args} {vs : List Value} {binds : Value → List (Str × Value)}
    (B : Below A₀ base outer h₀) (F : Fr h₀ L s.heap m) (X₀ : K.In h₀) (N : News h₀ L s.heap news) (T : Top p loose mean mg mb h₀) (hA : A.frames = some (env :: outer)) (hf : env.frame = some L) (hke : env.scope.kind = .function)
    (ho : K.lookup f = some ⟨oc, od, .func (fnOf name qual params body scope dV kV doc pm an cdv ct), osl⟩) (hcd : codeIn K cdv qual = true) (hroom : A.depth < recursionLimit)
    (hbind : bindArgs (fnOf name qual params body scope dV kV doc pm an cdv ct) args = (newTuple vs >>= fun t => pure (binds t)))
    (hvs : vs.length ≤ 1000) (hloc : ∀ D, ∀ y ∈ binds (.ref D), scope.names.lookup y.1 = some .local)
    (h : ∀ D g L' h₁ tk₁, Held news s.heap g → s.heap.get? D = none → (∀ p ∈ news, p.1 < D) → D < L' → (∀ b o, s.heap.get? b = some o → h₁.get? b = some o) → Fr g L' h₁ (fun y => (binds (.ref D)).reverse.lookup y) → News g L' h₁ ((D, ({ cls := .type "tuple", data := .seq vs.toArray } : Obj)) :: news) → Below A base (env :: outer) g → K.In g → Top p loose mean mg mb g →
      wpAny (model prog w) (A.deeper (envOf qual scope L' f cdv)) (execs body (envOf qual scope L' f cdv))
        (fun fl s' => BackM g s.heap (news.map (·.1)) R (match fl with | .ret v => v | _ => .none) s')
        (fun e s' => wpAny (model prog w) (A.deeper (envOf qual scope L' f cdv)) (leaving (envOf qual scope L' f cdv) e) (fun _ s'' => R (.error e) s'') (fun e' s'' => R (.error e') s'') s')
        { s with heap := h₁, toks := tk₁ })
    (hco : scope.isCoroutine = false) (hgen : scope.isGenerator = false) (hk : scope.kind = .function)
    (hcell : ∀ x ∈ scope.names, x.2 ≠ .cell) : codeAny (model prog w) A (.call (.ref f) args) R s := by
  refine codeAny_call_function (fd := fnOf name qual params body scope dV kV doc pm an cdv ct) (body := body) hroom ((X₀.keeps F.keep) _ _ ho) rfl hco hgen rfl (codeRec_of (X₀.keeps F.keep) hcd) ?_
  rw [hbind]
  refine wpAny_bind (wpAny_newObj_type ?_ (by show vs.toArray.size ≤ sizeLine; rw [List.size_toArray]; simp [sizeLine]; omega))
  refine wpAny_pure ?_
  have hfresh : s.heap.get? s.heap.objs.size = none := by
    cases q : s.heap.get? s.heap.objs.size with
    | none => rfl
    | some o => exact absurd (Heap.lt_size q) (Nat.lt_irrefl _)
  have F' := F.push ({ cls := .type "tuple", data := .seq vs.toArray } : Obj)
  have N' := N.push F ({ cls := .type "tuple", data := .seq vs.toArray } : Obj)
  obtain ⟨FG, BG, st, lv⟩ := groundX (s := { s with heap := s.heap.push ({ cls := .type "tuple", data := .seq vs.toArray } : Obj) }) (R := R) B F' N' hA hf hke
  refine wpAny_newFunctionEnv hcell (hloc _) (fun h₁ hns hsb => ⟨(T.nolimit.keeps F'.keep).fresh _ hsb, codeAny_func ?_⟩) hk
  have hk₁ : ∀ b o, (s.heap.push ({ cls := .type "tuple", data := .seq vs.toArray } : Obj)).get? b = some o → h₁.get? b = some o := fun b o e => hsb.extBut b o (Nat.ne_of_lt (Heap.lt_size e)) (Heap.get?_push_of_some _ e)
  have HD : Held news s.heap (hideAll (s.heap.push ({ cls := .type "tuple", data := .seq vs.toArray } : Obj)) (((s.heap.objs.size, ({ cls := .type "tuple", data := .seq vs.toArray } : Obj)) :: news).map (·.1))) := fun b o hb e => hideAll_get _ (Heap.get?_push_of_some _ e) fun q => by
    obtain ⟨p, hp, e'⟩ := List.mem_map.mp q
    rcases List.mem_cons.mp hp with rfl | hp
    · rw [← e', hfresh] at e; cases e
    · exact hb p hp e'
  refine wpAny_mono (h s.heap.objs.size _ (s.heap.push ({ cls := .type "tuple", data := .seq vs.toArray } : Obj)).objs.size h₁ _ HD hfresh (fun p hp => Heap.lt_size (N p hp).1) (by rw [Heap.size_push]; exact Nat.lt_succ_self _) (fun b o e => hk₁ b o (Heap.get?_push_of_some _ e))
    ⟨hns, fun b o e => hk₁ b o (of_hideAll _ e), Nat.le_of_eq (hideAll_size _ _)⟩
    (fun p hp => ⟨hk₁ _ _ (N' p hp).1, Nat.ne_of_lt (Heap.lt_size (N' p hp).1), hideAll_none _ (List.mem_map_of_mem hp)⟩) BG (X₀.keeps st) (T.keeps st)) (fun fl s' hl => ?_) fun _ _ y => y
  obtain ⟨L', m', F₂, k⟩ := hl
  exact k ⟨fun b o hb e => F₂.keep b o (HD b o (fun p hp q => hb (List.mem_map.mpr ⟨p, hp, q⟩)) e)⟩

/-- a goal laid by: the walk stops at it -/
structure Hold (p : Prop) : Prop where
  out : p
section
variable {prog : Program} {w : World} {A : Around} {E : Value → Shared → Prop} {Q : Flow → Shared → Prop} {s : Shared} {env : Env} {h₀ : Heap} {L : Addr}
theorem whileM {σ : Type} {test : Expr} {body : List Stmt} {pos : Pos} {m₀ : Str → Option Value} (Led : σ → List (Addr × Obj)) (ps : σ → List (Str × Value)) (stored : List Str) (P : σ → Prop) (μ : σ → Nat) (c₀ : σ)
    (F : Fr h₀ L s.heap m₀) (N : News h₀ L s.heap (Led c₀)) (hk : ∀ p ∈ ps c₀, m₀ p.1 = some p.2) (hp : P c₀)
    (turn : Hold (∀ (c : σ) (u : Str → Option Value) h tk, P c → Fr h₀ L h (kstB (fun z => if stored.contains z then u z else m₀ z) (ps c)) → News h₀ L h (Led c) →
      wpAny (model prog w) A (isTrue test env (eval test env)) (fun b s₂ =>
        if b = true then wpAny (model prog w) A (execs body env) (KswPost h₀ L s Led ps (fun _ => True) stored m₀ P μ Q c) E s₂ else Q .next s₂) E { s with heap := h, toks := tk }))
    (hE : PassesOwn (model prog w) A env E) :
    wpAny (model prog w) A (exec (.While test body [] pos) env) Q E s := ksw_while Led ps (fun _ => True) stored P μ c₀ F N trivial hk hp (fun c u h tk _ hp F N => turn.out c u h tk hp F N) hE
end
/-- the post is hidden behind a name, and nothing is raised: smaller terms -/
theorem hide {α : Type} {M : Model} {A : Around} {t : Sem α} {Q : α → Shared → Prop} {E : Value → Shared → Prop} {s : Shared} (h : ∀ Q' : α → Shared → Prop, (∀ a s', Q a s' → Q' a s') → wpAny M A t Q' (fun _ _ => False) s) : wpAny M A t Q E s :=
  wpAny_mono (h Q fun _ _ x => x) (fun _ _ x => x) fun _ _ x => x.elim
/-- the post is hidden behind a name -/
theorem hideQ {α : Type} {M : Model} {A : Around} {t : Sem α} {Q : α → Shared → Prop} {E : Value → Shared → Prop} {s : Shared} (h : ∀ Q' : α → Shared → Prop, (∀ a s', Q a s' → Q' a s') → wpAny M A t Q' E s) : wpAny M A t Q E s := h Q fun _ _ x => x
theorem hideS {α : Type} {M : Model} {A : Around} {t : Sem α} {Q : α → Shared → Prop} {E : Value → Shared → Prop} {s : Shared} (h : ∀ Q' : α → Shared → Prop, (∀ a s', Q a s' → Q' a s') → wpS M A t Q' (fun _ _ => False) s) : wpS M A t Q E s :=
  wpS_mono (h Q fun _ _ x => x) (fun _ _ x => x) fun _ _ x => x.elim
theorem gd1 {M : Model} {A : Around} {x1 : _} {x2 : _} {x3 : _} {x4 : _} {Q : _} {E : Value → Shared → Prop} {s : Shared} (h : wpAny M A (storeName x1 x2 (Value.int x3 x4)) Q E s) : wpAny M A (storeName x1 x2 (Value.int x3 x4)) Q E s := h
theorem gd2 {M : Model} {A : Around} {x1 : _} {x2 : _} {x3 : _} {Q : _} {E : Value → Shared → Prop} {s : Shared} (h : wpAny M A (binaryOp Operator.RShift (Value.int x1 x2) (Value.int 1 x3)) Q E s) : wpAny M A (binaryOp Operator.RShift (Value.int x1 x2) (Value.int 1 x3)) Q E s := h
theorem gd3 {M : Model} {A : Around} {x1 : _} {Q : _} {E : Value → Shared → Prop} {s : Shared} (h : wpAny M A (call (Value.builtin "len") [Value.ref x1]) Q E s) : wpAny M A (call (Value.builtin "len") [Value.ref x1]) Q E s := h
theorem gd4 {M : Model} {A : Around} {x1 : _} {x2 : _} {x3 : _} {x4 : _} {Q : _} {E : Value → Shared → Prop} {s : Shared} (h : wpAny M A (setItem (Value.ref x1) (Value.int x2 x3) (Value.ref x4)) Q E s) : wpAny M A (setItem (Value.ref x1) (Value.int x2 x3) (Value.ref x4)) Q E s := h
theorem gd5 {M : Model} {A : Around} {x1 : _} {x2 : _} {x3 : _} {Q : _} {E : Value → Shared → Prop} {s : Shared} (h : wpAny M A (call (Value.builtin x1) [Value.ref x2, x3]) Q E s) : wpAny M A (call (Value.builtin x1) [Value.ref x2, x3]) Q E s := h
theorem gd6 {M : Model} {A : Around} {x1 : _} {x2 : _} {x3 : _} {x4 : _} {x5 : _} {Q : _} {E : Value → Shared → Prop} {s : Shared} (h : wpAny M A (subscriptTail x1 x2 (Value.ref x3) (Value.int x4 x5)) Q E s) : wpAny M A (subscriptTail x1 x2 (Value.ref x3) (Value.int x4 x5)) Q E s := h
theorem gd7 {M : Model} {A : Around} {x1 : _} {x2 : _} {x3 : _} {x4 : _} {x5 : _} {x6 : _} {Q : _} {E : Value → Shared → Prop} {s : Shared} (h : wpAny M A (eval (Expr.Name x1 x2) (compEnvC x3 x4 x5 x6)) Q E s) : wpAny M A (eval (Expr.Name x1 x2) (compEnvC x3 x4 x5 x6)) Q E s := h
theorem gd8 {M : Model} {A : Around} {x1 : _} {x2 : _} {Q : _} {E : Value → Shared → Prop} {s : Shared} (h : wpAny M A (call (Value.builtin "len") [Value.bytes x1 x2]) Q E s) : wpAny M A (call (Value.builtin "len") [Value.bytes x1 x2]) Q E s := h
theorem gd9 {M : Model} {A : Around} {x1 : _} {x2 : _} {x3 : _} {x4 : _} {x5 : _} {x6 : _} {Q : _} {E : Value → Shared → Prop} {s : Shared} (h : wpAny M A (subscriptTail x1 x2 (Value.bytes x3 x4) (Value.int x5 x6)) Q E s) : wpAny M A (subscriptTail x1 x2 (Value.bytes x3 x4) (Value.int x5 x6)) Q E s := h
theorem gd10 {M : Model} {A : Around} {x1 : _} {x2 : _} {x3 : _} {x4 : _} {x5 : _} {Q : _} {E : Value → Shared → Prop} {s : Shared} (h : wpAny M A (setItem (Value.ref x1) (Value.int x2 x3) (Value.int x4 x5)) Q E s) : wpAny M A (setItem (Value.ref x1) (Value.int x2 x3) (Value.int x4 x5)) Q E s := h
theorem gd11 {M : Model} {A : Around} {x1 : _} {Q : _} {E : Value → Shared → Prop} {s : Shared} (h : wpAny M A (call (Value.type "bytes") [Value.ref x1]) Q E s) : wpAny M A (call (Value.type "bytes") [Value.ref x1]) Q E s := h
theorem gd14 {M : Model} {A : Around} {x1 : _} {x2 : _} {Q : _} {E : Value → Shared → Prop} {s : Shared} (h : wpAny M A (call (Value.builtin x1) [Value.ref x2]) Q E s) : wpAny M A (call (Value.builtin x1) [Value.ref x2]) Q E s := h
theorem gd15 {M : Model} {A : Around} {x1 : _} {x2 : _} {x3 : _} {x4 : _} {x5 : _} {x6 : _} {x7 : _} {Q : _} {E : Value → Shared → Prop} {s : Shared} (h : wpAny M A (subscriptTail x1 (Expr.Slice x2 x3 none x4) (Value.bytes x5 x6) (Value.ref x7)) Q E s) : wpAny M A (subscriptTail x1 (Expr.Slice x2 x3 none x4) (Value.bytes x5 x6) (Value.ref x7)) Q E s := h
theorem gd16 {M : Model} {A : Around} {x1 : _} {x2 : _} {Q : _} {E : Value → Shared → Prop} {s : Shared} (h : wpAny M A (compareOp CmpOp.Eq (Value.ref x1) (Value.ref x2)) Q E s) : wpAny M A (compareOp CmpOp.Eq (Value.ref x1) (Value.ref x2)) Q E s := h
theorem gd17 {M : Model} {A : Around} {x1 : _} {x2 : _} {x3 : _} {x4 : _} {x5 : _} {x6 : _} {x7 : _} {x8 : _} {Q : _} {E : Value → Shared → Prop} {s : Shared} (h : wpAny M A (eval (Expr.ListComp (Expr.Call x1 x2 x3 x4) x5 x6 x7) x8) Q E s) : wpAny M A (eval (Expr.ListComp (Expr.Call x1 x2 x3 x4) x5 x6 x7) x8) Q E s := h
theorem gd18 {M : Model} {A : Around} {x1 : _} {x2 : _} {x3 : _} {x4 : _} {x5 : _} {x6 : _} {Q : _} {E : Value → Shared → Prop} {s : Shared} (h : wpAny M A (eval (Expr.ListComp x1 [x2, x3] x4 x5) x6) Q E s) : wpAny M A (eval (Expr.ListComp x1 [x2, x3] x4 x5) x6) Q E s := h
theorem gd19 {M : Model} {A : Around} {x1 : _} {x2 : _} {x3 : _} {x4 : _} {x5 : _} {x6 : _} {Q : _} {E : Value → Shared → Prop} {s : Shared} (h : wpAny M A (subscriptTail x1 (PySem.Expr.Slice none none (some x2) x3) (Value.bytes x4 x5) (Value.ref x6)) Q E s) : wpAny M A (subscriptTail x1 (PySem.Expr.Slice none none (some x2) x3) (Value.bytes x4 x5) (Value.ref x6)) Q E s := h
theorem gd20 {M : Model} {A : Around} {x1 : _} {x2 : _} {x3 : _} {x4 : _} {x5 : _} {Q : _} {E : Value → Shared → Prop} {s : Shared} (h : wpAny M A (subscriptTail x1 (PySem.Expr.Slice none none (some x2) x3) (Value.ref x4) (Value.ref x5)) Q E s) : wpAny M A (subscriptTail x1 (PySem.Expr.Slice none none (some x2) x3) (Value.ref x4) (Value.ref x5)) Q E s := h
theorem gd21 {M : Model} {A : Around} {x1 : _} {x2 : _} {x3 : _} {x4 : _} {x5 : _} {Q : _} {E : Value → Shared → Prop} {s : Shared} (h : wpAny M A (exec (Stmt.While x1 x2 x3 x4) x5) Q E s) : wpAny M A (exec (Stmt.While x1 x2 x3 x4) x5) Q E s := h
theorem gd22 {M : Model} {A : Around} {x1 : _} {Q : _} {E : Value → Shared → Prop} {s : Shared} (h : wpAny M A (call (Value.builtin "iter") [Value.ref x1]) Q E s) : wpAny M A (call (Value.builtin "iter") [Value.ref x1]) Q E s := h
theorem gd23 {M : Model} {A : Around} {x1 : _} {x2 : _} {Q : _} {E : Value → Shared → Prop} {s : Shared} (h : wpAny M A (getAttr (Value.ref x1) (PySem.Str.ofString "__next__") x2) Q E s) : wpAny M A (getAttr (Value.ref x1) (PySem.Str.ofString "__next__") x2) Q E s := h
theorem gd24 {M : Model} {A : Around} {x1 : _} {x2 : _} {x3 : _} {x4 : _} {Q : _} {E : Value → Shared → Prop} {s : Shared} (h : wpAny M A (subscriptTail x1 x2 (Value.ref x3) (Value.int (-1) x4)) Q E s) : wpAny M A (subscriptTail x1 x2 (Value.ref x3) (Value.int (-1) x4)) Q E s := h
theorem gd25 {M : Model} {A : Around} {x1 : _} {x2 : _} {x3 : _} {x4 : _} {x5 : _} {x6 : _} {x7 : _} {x8 : _} {Q : _} {E : Value → Shared → Prop} {s : Shared} (h : wpAny M A (eval (Expr.Call (Expr.Attribute x1 x2 x3) [x4, Expr.Starred x5 x6] [] x7) x8) Q E s) : wpAny M A (eval (Expr.Call (Expr.Attribute x1 x2 x3) [x4, Expr.Starred x5 x6] [] x7) x8) Q E s := h
theorem gd26 {M : Model} {A : Around} {x1 : _} {x2 : _} {x3 : _} {x4 : _} {x5 : _} {x6 : _} {x7 : _} {x8 : _} {Q : _} {E : Value → Shared → Prop} {s : Shared} (h : wpAny M A (callWith x1 (Value.ref x2) x3 (backTo x4 (starEach [x5, Expr.Starred x6 x7] x8)) []) Q E s) : wpAny M A (callWith x1 (Value.ref x2) x3 (backTo x4 (starEach [x5, Expr.Starred x6 x7] x8)) []) Q E s := h
theorem roomA {d c k N : Nat} (h : d + c < N) (e : Nat.ble k c = true) : d + k < N := Nat.lt_of_le_of_lt (Nat.add_le_add_left (Nat.le_of_ble_eq_true e) d) h
theorem roomB {d c j k N : Nat} (h : d + c < N) (e : Nat.ble (j + k) c = true) : d + j + k < N := by rw [Nat.add_assoc]; exact roomA h e
theorem roomC {a b c : Nat} (e : Nat.ble (a + 1) b = true) : a < b := Nat.le_of_ble_eq_true e
theorem memC {α : Type} {a b : α} {l : List α} : b ∈ a :: l ↔ a = b ∨ b ∈ l := ⟨fun h => (List.mem_cons.mp h).imp Eq.symm id, fun h => List.mem_cons.mpr (h.imp Eq.symm id)⟩
theorem mc0 {α : Type} {a : α} {l : List α} : a ∈ a :: l := List.Mem.head _
theorem mc1 {α : Type} {a x0 : α} {l : List α} : a ∈ x0 :: a :: l := List.Mem.tail _ (List.Mem.head _)
theorem mc2 {α : Type} {a x0 x1 : α} {l : List α} : a ∈ x0 :: x1 :: a :: l := List.Mem.tail _ (List.Mem.tail _ (List.Mem.head _))
theorem mc3 {α : Type} {a x0 x1 x2 : α} {l : List α} : a ∈ x0 :: x1 :: x2 :: a :: l := List.Mem.tail _ (List.Mem.tail _ (List.Mem.tail _ (List.Mem.head _)))
theorem mc4 {α : Type} {a x0 x1 x2 x3 : α} {l : List α} : a ∈ x0 :: x1 :: x2 :: x3 :: a :: l := List.Mem.tail _ (List.Mem.tail _ (List.Mem.tail _ (List.Mem.tail _ (List.Mem.head _))))
theorem mc5 {α : Type} {a x0 x1 x2 x3 x4 : α} {l : List α} : a ∈ x0 :: x1 :: x2 :: x3 :: x4 :: a :: l := List.Mem.tail _ (List.Mem.tail _ (List.Mem.tail _ (List.Mem.tail _ (List.Mem.tail _ (List.Mem.head _)))))
theorem mc6 {α : Type} {a x0 x1 x2 x3 x4 x5 : α} {l : List α} : a ∈ x0 :: x1 :: x2 :: x3 :: x4 :: x5 :: a :: l := List.Mem.tail _ (List.Mem.tail _ (List.Mem.tail _ (List.Mem.tail _ (List.Mem.tail _ (List.Mem.tail _ (List.Mem.head _))))))
theorem mc7 {α : Type} {a x0 x1 x2 x3 x4 x5 x6 : α} {l : List α} : a ∈ x0 :: x1 :: x2 :: x3 :: x4 :: x5 :: x6 :: a :: l := List.Mem.tail _ (List.Mem.tail _ (List.Mem.tail _ (List.Mem.tail _ (List.Mem.tail _ (List.Mem.tail _ (List.Mem.tail _ (List.Mem.head _)))))))
theorem mc8 {α : Type} {a x0 x1 x2 x3 x4 x5 x6 x7 : α} {l : List α} : a ∈ x0 :: x1 :: x2 :: x3 :: x4 :: x5 :: x6 :: x7 :: a :: l := List.Mem.tail _ (List.Mem.tail _ (List.Mem.tail _ (List.Mem.tail _ (List.Mem.tail _ (List.Mem.tail _ (List.Mem.tail _ (List.Mem.tail _ (List.Mem.head _))))))))
theorem mc9 {α : Type} {a x0 x1 x2 x3 x4 x5 x6 x7 x8 : α} {l : List α} : a ∈ x0 :: x1 :: x2 :: x3 :: x4 :: x5 :: x6 :: x7 :: x8 :: a :: l := List.Mem.tail _ (List.Mem.tail _ (List.Mem.tail _ (List.Mem.tail _ (List.Mem.tail _ (List.Mem.tail _ (List.Mem.tail _ (List.Mem.tail _ (List.Mem.tail _ (List.Mem.head _)))))))))
theorem mc10 {α : Type} {a x0 x1 x2 x3 x4 x5 x6 x7 x8 x9 : α} {l : List α} : a ∈ x0 :: x1 :: x2 :: x3 :: x4 :: x5 :: x6 :: x7 :: x8 :: x9 :: a :: l := List.Mem.tail _ (List.Mem.tail _ (List.Mem.tail _ (List.Mem.tail _ (List.Mem.tail _ (List.Mem.tail _ (List.Mem.tail _ (List.Mem.tail _ (List.Mem.tail _ (List.Mem.tail _ (List.Mem.head _))))))))))
theorem mc11 {α : Type} {a x0 x1 x2 x3 x4 x5 x6 x7 x8 x9 x10 : α} {l : List α} : a ∈ x0 :: x1 :: x2 :: x3 :: x4 :: x5 :: x6 :: x7 :: x8 :: x9 :: x10 :: a :: l := List.Mem.tail _ (List.Mem.tail _ (List.Mem.tail _ (List.Mem.tail _ (List.Mem.tail _ (List.Mem.tail _ (List.Mem.tail _ (List.Mem.tail _ (List.Mem.tail _ (List.Mem.tail _ (List.Mem.tail _ (List.Mem.head _)))))))))))
theorem newsNil {g h : Heap} {L : Addr} : News g L h [] := fun _ hp => nomatch hp
theorem newsCons {g h : Heap} {L a : Addr} {o : Obj} {l : List (Addr × Obj)} (x : h.get? a = some o ∧ a ≠ L ∧ g.get? a = none) (N : News g L h l) : News g L h ((a, o) :: l) := fun p hp => by
  cases hp with
  | head => exact x
  | tail _ hp => exact N p hp
theorem newsOf {g h : Heap} {L a : Addr} {o : Obj} {led l : List (Addr × Obj)} (N : News g L h led) (m : (a, o) ∈ led) (K : News g L h l) : News g L h ((a, o) :: l) := newsCons (N _ m) K
inductive SameL (foot : List Addr) : List (Addr × Obj) → List (Addr × Obj) → Prop
  | nil (l : List (Addr × Obj)) : SameL foot [] l
  | same (l : List (Addr × Obj)) : SameL foot l l
  | keep {p : Addr × Obj} {l l' : List (Addr × Obj)} (x : SameL foot l l') : SameL foot (p :: l) (p :: l')
  | upd {a b : Addr} {o o' : Obj} {l l' : List (Addr × Obj)} (x : SameL foot l l') (h : a ∈ foot) : SameL foot ((a, o) :: l) ((b, o') :: l')
  | new {p : Addr × Obj} {l l' : List (Addr × Obj)} (x : SameL foot l l') : SameL foot l (p :: l')
theorem SameL.out {foot : List Addr} {l l' : List (Addr × Obj)} (x : SameL foot l l') : ∀ p ∈ l, p.1 ∉ foot → p ∈ l' := by
  induction x with
  | nil => exact fun p hp => nomatch hp
  | same => exact fun p hp _ => hp
  | keep _ ih =>
    intro p hp hf
    cases hp with
    | head => exact .head _
    | tail _ hp => exact .tail _ (ih p hp hf)
  | upd _ h ih =>
    intro p hp hf
    cases hp with
    | head => exact absurd h hf
    | tail _ hp => exact .tail _ (ih p hp hf)
  | new _ ih => exact fun p hp hf => .tail _ (ih p hp hf)
section
variable {prog : Program} {w : World} {A : Around} {E : Value → Shared → Prop} {Q : Flow → Shared → Prop} {s : Shared} {env : Env} {h₀ : Heap} {L : Addr}
/-- as whileM, the end of the turn behind a name -/
theorem whileM2 {σ : Type} {test : Expr} {body : List Stmt} {pos : Pos} {m₀ : Str → Option Value} (Led : σ → List (Addr × Obj)) (ps : σ → List (Str × Value)) (stored : List Str) (P : σ → Prop) (μ : σ → Nat) (c₀ : σ)
    (F : Fr h₀ L s.heap m₀) (N : News h₀ L s.heap (Led c₀)) (hk : ∀ p ∈ ps c₀, m₀ p.1 = some p.2) (hp : P c₀)
    (turn : Hold (∀ (c : σ) (u : Str → Option Value) h tk, P c → Fr h₀ L h (kstB (fun z => if stored.contains z then u z else m₀ z) (ps c)) → News h₀ L h (Led c) →
      ∀ QB : Flow → Shared → Prop, (∀ f s', KswPost h₀ L s Led ps (fun _ => True) stored m₀ P μ Q c f s' → QB f s') →
      wpAny (model prog w) A (isTrue test env (eval test env)) (fun b s₂ =>
        if b = true then wpAny (model prog w) A (execs body env) QB E s₂ else Q .next s₂) E { s with heap := h, toks := tk }))
    (hE : PassesOwn (model prog w) A env E) :
    wpAny (model prog w) A (exec (.While test body [] pos) env) Q E s := whileM Led ps stored P μ c₀ F N hk hp ⟨fun c u h tk hp F N => turn.out c u h tk hp F N _ fun _ _ x => x⟩ hE
end
theorem slot_bytes_lt : Slot "bytes" (cmpInfo .Lt).2.1 "bytes.__lt__" :=
  .of (owner := "bytes") (n := "__lt__") (by rw [typeLookup_type, builtinLookup_eq_fast]; kernel_rfl) (by decide +kernel) (by decide +kernel) (by decide +kernel)
    (by first | exact .inl (by decide +kernel) | exact .inr (by decide +kernel)) (by rw [isSubtype_type]; kernel_rfl)
theorem entry_bytes_lt : entryFor table "bytes.__lt__" = some Builtin.«bytes.__lt__» := entryFor_of_tree (by kernel_rfl)
theorem args_bytes_lt_2 (a b : Value) : argsOk "bytes.__lt__" ⟨[a, b], []⟩ := by
  unfold argsOk; rw [signature?_of (id := "bytes.__lt__") (n := ['_', '_', 't', 'l', '_', '_']) (o := ['s', 'e', 't', 'y', 'b']) (by kernel_rfl) FB.owner_bytes]; kernel_rfl
theorem gives_bytes_lt (b c : Array UInt8) (t u : Tok) : Gives (Builtin.«bytes.__lt__» ⟨[.bytes b t, .bytes c u], []⟩) (.val (.bool (Builtin.Bytes.order b.toList c.toList == .lt))) := by
  refine .of_wp fun M A E s Q hq => ?_
  show wpAny M A (isInstance (.bytes c u) (.type "bytes") >>= fun r => _) _ E s
  refine wpAny_bind (wpAny_isInstance (typeIs_bytes s c u) F.sub_bytes_bytes ?_)
  exact wpAny_pure ⟨_, rfl, hq⟩

/-- two values: are they equal, is the one below the other -/
structure Ord2 (prog : Program) (w : World) (x y : Value) (e l : Bool) : Prop where
  eq : ∀ (A : Around) (Q : Bool → Shared → Prop) (E : Value → Shared → Prop) (s : Shared), Q e s → wpAny (model prog w) A (eqBool x y) Q E s
  lt : ∀ (A : Around) (Q : Value → Shared → Prop) (E : Value → Shared → Prop) (s : Shared), Q (.bool l) s → wpAny (model prog w) A (richCompare .Lt x y) Q E s

theorem Ord2.int (prog : Program) (w : World) (a b : Int) (t u : Tok) : Ord2 prog w (.int a t) (.int b u) (a == b) (decide (a < b)) :=
  ⟨fun _ _ _ _ h => wpAny_eqBool_int h, fun _ _ _ _ h => PyProof.Rows.lt_int (E := _) h⟩
theorem Ord2.bytes (prog : Program) (w : World) (a b : Array UInt8) (t u : Tok) : Ord2 prog w (.bytes a t) (.bytes b u) (decide (a.toList = b.toList)) (Builtin.Bytes.order a.toList b.toList == .lt) :=
  ⟨fun _ _ _ _ h => eqBool_bytes h, fun _ _ _ s h => richCompare_gives (op := .Lt) (typeIs_bytes s a t) (typeIs_bytes s b u) slot_bytes_lt entry_bytes_lt (args_bytes_lt_2 _ _) (gives_bytes_lt a b t u) (fun e => nomatch e) h⟩

noncomputable def pairObj (x y : Value) (n : Nat) : Obj := { cls := .type "tuple", data := .seq #[x, y] n }

theorem lt_pair {prog : Program} {w : World} {A : Around} {E : Value → Shared → Prop} {s : Shared} {a b : Addr} {x₁ x₂ y₁ y₂ : Value} {na nb : Nat} {e₁ l₁ e₂ l₂ : Bool} {Q : Value → Shared → Prop}
    (ha : s.heap.get? a = some (pairObj x₁ x₂ na)) (hb : s.heap.get? b = some (pairObj y₁ y₂ nb)) (o₁ : Ord2 prog w x₁ y₁ e₁ l₁) (o₂ : Ord2 prog w x₂ y₂ e₂ l₂) (hx : e₂ = true → l₂ = false) (hu : A.units < cLine)
    (h : Q (.bool (if e₁ then l₂ else l₁)) s) : wpAny (model prog w) A (compareOp .Lt (.ref a) (.ref b)) Q E s := by
  have hTa : s.TypeIs (.ref a) "tuple" := ⟨_, ha, rfl⟩
  have hTb : s.TypeIs (.ref b) "tuple" := ⟨_, hb, rfl⟩
  refine cmp_ofLt (wpAny_richCompare_same_room (op := .Lt) hTa hTb F.slot_tuple_lt
      (wpAny_call_entry F.slot_tuple_lt hTa F.entry_tuple_lt ?_ (F.args_tuple_lt_2 _ _)) hu)
  show wpAny _ _ (isInstance (.ref b) (.type "tuple") >>= _) _ _ s
  refine wpAny_bind (wpAny_isInstance hTb isSubtype_tuple_tuple ?_)
  simp only [Bool.not_true, Bool.false_eq_true, if_false]
  refine wpAny_bind (wpAny_tupleItemsOf ha rfl ?_)
  refine wpAny_bind (wpAny_tupleItemsOf hb rfl ?_)
  refine wpAny_bind ?_
  show wpAny _ _ (forIn [(x₁, y₁), (x₂, y₂)] _ _) _ _ s
  simp only [List.forIn_cons, List.forIn_nil]
  refine wpAny_bind (wpAny_bind (o₁.eq _ _ _ _ ?_))
  cases e₁ with
  | false =>
    simp only [Bool.not_false, if_true]
    refine wpAny_bind (wpAny_rule (wpAny_bind (o₁.lt _ _ _ _ ?_)))
    refine wpAny_bind (wpAny_pure (wpAny_pure ?_))
    refine wpAny_pure ?_
    exact wpAny_pure ⟨_, rfl, (fun e => nomatch e), h⟩
  | true =>
    simp only [Bool.not_true, Bool.false_eq_true, if_false]
    refine wpAny_pure ?_
    refine wpAny_bind (wpAny_bind (o₂.eq _ _ _ _ ?_))
    cases e₂ with
    | false =>
      simp only [Bool.not_false, if_true]
      refine wpAny_bind (wpAny_rule (wpAny_bind (o₂.lt _ _ _ _ ?_)))
      refine wpAny_bind (wpAny_pure (wpAny_pure ?_))
      refine wpAny_pure ?_
      exact wpAny_pure ⟨_, rfl, (fun e => nomatch e), h⟩
    | true =>
      simp only [Bool.not_true, Bool.false_eq_true, if_false]
      refine wpAny_pure ?_
      refine wpAny_pure ?_
      refine wpAny_pure ?_
      rw [hx rfl] at h
      exact ⟨_, rfl, (fun e => nomatch e), h⟩

section
variable {M : Model} {A : Around} {E : Value → Shared → Prop} {s : Shared} {h₀ : Heap} {L a : Addr} {m : Str → Option Value} {cn : Str} {cs : Scope} {ccd : Value} {cl : List (Str × Addr)}
  {x : Str} {v : Value} {Q : Unit → Shared → Prop} {news : List (Addr × Obj)}
theorem storeT (F : Fr h₀ L s.heap m) (N : News h₀ L s.heap news)
    (h : ∀ h' tk', Fr h₀ L h' (fun y => if y = x then some v else m y) → News h₀ L h' news → Q () ⟨h', s.gens, s.drawn, tk', s.os⟩)
    (hk : cs.kind = .function) (hx : (envX cn cs L a ccd cl).kindOf x = some .local) : wpAny M A (storeName (envX cn cs L a ccd cl) x v) Q E s :=
  storeX_L F N (fun h' F' N' => h h' _ F' N') hk hx
theorem storeT_int {i : Int} {t : Tok} (F : Fr h₀ L s.heap m) (N : News h₀ L s.heap news)
    (h : ∀ h' tk' t', Fr h₀ L h' (fun y => if y = x then some (.int i t') else m y) → News h₀ L h' news → Q () ⟨h', s.gens, s.drawn, tk', s.os⟩)
    (hk : cs.kind = .function) (hx : (envX cn cs L a ccd cl).kindOf x = some .local) : wpAny M A (storeName (envX cn cs L a ccd cl) x (.int i t)) Q E s :=
  storeX_L F N (fun h' F' N' => h h' _ _ F' N') hk hx
end
noncomputable def PostH (h₀ : Heap) (L : Addr) (fp : List Addr) (h : Heap) (s : Shared) (InvN : (Str → Option Value) → Heap → Prop) (Q : Flow → Shared → Prop) (f : Flow) (s₂ : Shared) : Prop :=
  match f with
  | .ret v => Q (.ret v) s₂
  | .brk => Q .next s₂
  | _ => Sm3 (fun h' tk m' => Al4 (s₂ = { s with heap := h', toks := tk }) (Fr h₀ L h' m') ((∀ b ∈ fp, ∀ o, h.get? b = some o → h'.get? b = some o)) (InvN m' h'))

noncomputable def LoopH (prog : Program) (w : World) (A : Around) (h₀ : Heap) (env : Env) (x : Str) (body : List Stmt) (Q : Flow → Shared → Prop) (E : Value → Shared → Prop) (it : Value) (s₂ : Shared) : Prop :=
  Sm8 (fun (I : Addr) (fp wr : List Addr) (n : Nat) (P : Nat → Value → Prop) (St : Nat → Heap → Prop) (m : Str → Option Value) (Inv : Nat → (Str → Option Value) → Heap → Prop) => Al10 (it = .ref I) (Walks prog w A I fp wr n P St) (env.locals ∉ fp) ((∀ b ∈ wr, h₀.get? b = none)) (St 0 s₂.heap) (Fr h₀ env.locals s₂.heap m) (Inv 0 m s₂.heap) ((∀ i m h h', Inv i m h → Mod (env.locals :: wr) h h' → Inv i m h')) ((∀ i v m h tk, i < n → P i v → Inv i m h → St (i + 1) h → Fr h₀ env.locals h (fun y => if y = x then some v else m y) →
      wpAny (model prog w) A (execs body env) (PostH h₀ env.locals fp h s₂ (Inv (i + 1)) Q) E { s₂ with heap := h, toks := tk })) ((∀ m h tk, Inv n m h → Fr h₀ env.locals h m → Q .next { s₂ with heap := h, toks := tk })))

section
variable {prog : Program} {w : World} {A : Around} {s : Shared} {env : Env} {h₀ : Heap}
theorem forH {E : Value → Shared → Prop} {Q : Flow → Shared → Prop} {x : Str} {px pos : Pos} {iter : Expr} {body : List Stmt} (h₀ : Heap) (hx : env.kindOf x = some .local)
    (hp : (env.scope.kind == .class || (env.scope.kind == .module && env.locals != env.globals)) = false)
    (h : wpAny (model prog w) A (eval iter env) (fun xv s₁ => wpAny (model prog w) A (pyIter xv) (fun it s₂ => LoopH prog w A h₀ env x body Q E it s₂) E s₁) E s)
    (hs : ∀ x, foldedSetIterable iter env x = pure x) (hE : PassesOwn (model prog w) A env E) :
    wpAny (model prog w) A (exec (.For (.Name x px) iter body [] pos) env) Q E s := by
  refine wpAny_For (wpAny_mono h (fun xv s₁ h₁ => wpAny_mono h₁ (fun it s₂ h₂ => ?_) fun _ _ e => e) fun _ _ e => e) hs
  refine Classical.byContradiction fun hGG => ?_
  obtain ⟨I, fp, wr, n, P, St, m, Inv, rfl, W, hLf, hwr, hst, F, h0, stab, turn, done⟩ := h₂
  refine hGG ?_
  clear hGG
  have hLw : env.locals ∉ wr := fun h => hLf (W.sub _ h)
  have old : ∀ b o, h₀.get? b = some o → b ∉ wr := fun b o e hb => by rw [hwr b hb] at e; cases e
  refine codeAny_forLoop (R := fun r s' => match r with | .ok f => Q f s' | .error e => cameBackBy (model prog w) A env E e s')
    (fun k s' => Sm4 (fun h' tk m' i => Al6 (s' = { s₂ with heap := h', toks := tk }) (St i h') (Fr h₀ env.locals h' m') (Inv i m' h') (i ≤ n) (k = n + 1 - i))) ?_ (n + 1)
    ⟨s₂.heap, s₂.toks, m, 0, rfl, hst, F, h0, Nat.zero_le _, rfl⟩
  rintro k s' ⟨h', tk, m', i, rfl, hst', F', hJ, hi, rfl⟩
  have next : ∀ h₁ : Heap, (∀ b o, b ∉ wr → h'.get? b = some o → h₁.get? b = some o) → Fr h₀ env.locals h₁ m' ∧ Inv i m' h₁ := fun h₁ hk₁ =>
    ⟨⟨F'.ns.at' fun o e => hk₁ _ o hLw e, fun b o e => hk₁ b o (old b o e) (F'.keep b o e), F'.above⟩, stab _ _ _ _ hJ ⟨fun b o hb e => hk₁ b o (fun z => hb (.tail _ z)) e⟩⟩
  by_cases hlt : i < n
  · refine W.item i _ _ _ hlt hst' fun v h₁ tk₁ hP hst₁ hk₁ => ?_
    obtain ⟨F₁, J₁⟩ := next h₁ hk₁
    refine wpAny_assign_Name (wpAny_storeName_local hx F₁.ns (fun h₂ hn₂ hs₂ => ?_) hp)
    have F₂ := F₁.set hn₂ hs₂
    have hst₂ : St (i + 1) h₂ := W.frame _ _ _ hst₁ fun b hb o e => (hs₂.2 b fun q => hLf (q ▸ hb)).trans e
    have J₂ : Inv i m' h₂ := stab _ _ _ _ J₁ ⟨fun b o hb e => (hs₂.2 b fun q => hb (q ▸ .head _)).trans e⟩
    refine wpAny_passesOwn hE (wpAny_mono (turn i v m' h₂ _ hlt hP J₂ hst₂ F₂) (fun f s₃ h₃ => ?_) fun _ _ e => e)
    cases f with
    | ret v => exact h₃
    | brk => exact h₃
    | cont =>
      refine Classical.byContradiction fun hGG => ?_
      obtain ⟨h₃', tk₃, m₂, rfl, F₃, hk₃, hJ₃⟩ := h₃
      refine hGG ?_
      clear hGG
      exact ⟨n + 1 - (i + 1), by lia, h₃', tk₃, m₂, i + 1, rfl, W.frame _ _ _ hst₂ fun b hb o e => hk₃ b hb o e, F₃, hJ₃, hlt, rfl⟩
    | next =>
      refine Classical.byContradiction fun hGG => ?_
      obtain ⟨h₃', tk₃, m₂, rfl, F₃, hk₃, hJ₃⟩ := h₃
      refine hGG ?_
      clear hGG
      exact ⟨n + 1 - (i + 1), by lia, h₃', tk₃, m₂, i + 1, rfl, W.frame _ _ _ hst₂ fun b hb o e => hk₃ b hb o e, F₃, hJ₃, hlt, rfl⟩
  · have hin : i = n := by lia
    subst hin
    refine W.done _ _ _ hst' fun h₁ tk₁ hk₁ => wpAny_execs_nil ?_
    obtain ⟨F₁, J₁⟩ := next h₁ hk₁
    exact done m' h₁ tk₁ J₁ F₁

theorem fresh_size (h : Heap) : h.get? h.objs.size = none := by
  cases q : h.get? h.objs.size with
  | none => rfl
  | some o => exact absurd (Heap.lt_size q) (Nat.lt_irrefl _)
theorem mod_push (h : Heap) (o : Obj) (foot : List Addr) : Mod foot h (h.push o) := ⟨fun _ _ _ e => Heap.get?_push_of_some _ e⟩

/-- a loop over a tuple or a list: what each turn may use of the iterator -/
theorem loop_seq {E : Value → Shared → Prop} {Q : Flow → Shared → Prop} {x : Str} {body : List Stmt} {m : Str → Option Value} {T : Addr} {oT : Obj} {cls : String} {items : Array Value} {nn : Nat}
    (hh : A.handled = none) (hc : cls = "tuple" ∨ cls = "list") (hT : s.heap.get? T = some oT) (hoc : oT.cls = .type cls) (hod : oT.data = .seq items nn) (F : Fr h₀ env.locals s.heap m) (hTL : T ≠ env.locals)
    (Inv : Addr → Nat → (Str → Option Value) → Heap → Prop)
    (h0 : ∀ I h, s.heap.get? I = none → Mod [] s.heap h → Inv I 0 m h)
    (stab : ∀ I i m h h', s.heap.get? I = none → Inv I i m h → Mod [env.locals, I] h h' → Inv I i m h')
    (turn : Hold (∀ I oI i v m h tk, s.heap.get? I = none → h₀.get? I = none → I ≠ env.locals → I ≠ T → h.get? I = some oI → h.get? T = some oT → items[i]? = some v → Inv I i m h → Fr h₀ env.locals h (fun y => if y = x then some v else m y) →
      wpAny (model prog w) A (execs body env) (PostH h₀ env.locals [I, T] h s (Inv I (i + 1)) Q) E { s with heap := h, toks := tk }))
    (done : Hold (∀ I m h tk, s.heap.get? I = none → h.get? T = some oT → Inv I items.size m h → Fr h₀ env.locals h m → Q .next { s with heap := h, toks := tk })) :
    wpAny (model prog w) A (pyIter (.ref T)) (fun it s₂ => LoopH prog w A h₀ env x body Q E it s₂) E s := by
  have hf := fresh_size s.heap
  have hne : T ≠ s.heap.objs.size := Nat.ne_of_lt (Heap.lt_size hT)
  have hLI : s.heap.objs.size ≠ env.locals := Nat.ne_of_gt F.ns.lt
  have hI0 : h₀.get? s.heap.objs.size = none := by
    cases q : h₀.get? s.heap.objs.size with
    | none => rfl
    | some o => rw [F.keep _ _ q] at hf; cases hf
  have hLf : env.locals ∉ [s.heap.objs.size, T] := fun z => by
    rcases List.mem_cons.mp z with q | z
    · exact hLI q.symm
    · exact hTL (List.mem_singleton.mp z).symm
  have core : ∀ (oI : Obj) (St : Nat → Heap → Prop), oI.isFreed = false → Walks prog w A s.heap.objs.size [s.heap.objs.size, T] [s.heap.objs.size] items.size (fun i v => items[i]? = some v) St → St 0 (s.heap.push oI) →
      (∀ i h, St i h → (∃ oI, h.get? s.heap.objs.size = some oI) ∧ ∃ o', h.get? T = some o') →
      LoopH prog w A h₀ env x body Q E (.ref s.heap.objs.size) { s with heap := s.heap.push oI } := by
    intro oI St hfr W st hst
    refine ⟨_, _, _, _, _, St, m, fun i m h => Inv s.heap.objs.size i m h ∧ h.get? T = some oT, rfl, W, hLf, fun b hb => by rw [List.mem_singleton.mp hb]; exact hI0, st, F.push _, ⟨h0 _ _ hf (mod_push _ _ _), Heap.get?_push_of_some _ hT⟩, ?_, ?_, ?_⟩
    · rintro i m h h' ⟨hi, ht⟩ hM
      refine ⟨stab _ i m h h' hf hi hM, hM.keep _ _ (fun z => ?_) ht⟩
      rcases List.mem_cons.mp z with q | z
      · exact hTL q
      · exact hne (List.mem_singleton.mp z)
    · rintro i v m h tk hi hv ⟨hinv, ht⟩ st' F'
      refine Classical.byContradiction fun hGG => ?_
      obtain ⟨⟨oI', hI'⟩, _⟩ := hst _ _ st'
      refine hGG ?_
      clear hGG
      refine wpAny_mono (turn.out _ oI' i v m h tk hf hI0 hLI (Ne.symm hne) hI' ht hv hinv F') (fun f s₃ h₃ => ?_) fun _ _ e => e
      cases f with
      | ret v => exact h₃
      | brk => exact h₃
      | cont => obtain ⟨h'', tk'', m'', e, F'', hk, hJ⟩ := h₃; exact ⟨h'', tk'', m'', e, F'', hk, hJ, hk T (by simp) _ ht⟩
      | next => obtain ⟨h'', tk'', m'', e, F'', hk, hJ⟩ := h₃; exact ⟨h'', tk'', m'', e, F'', hk, hJ, hk T (by simp) _ ht⟩
    · rintro m h tk ⟨hinv, ht⟩ F'
      exact done.out _ m h tk hf ht hinv F'
  rcases hc with rfl | rfl
  · have hl : s.heap.IsTuple T items := ⟨oT, hT, hoc, nn, hod⟩
    refine wpAny_pyIter_tuple hl (core _ _ rfl (Walks.tuple hh _ _ hne _) ⟨⟨_, Heap.get?_push_size _ rfl, rfl, rfl⟩, hl.at fun o e => Heap.get?_push_of_some _ e⟩ ?_)
    intro i h hR1
    refine Classical.byContradiction fun hGG => ?_
    obtain ⟨⟨oI, hI, _⟩, ⟨o', ho', _⟩⟩ := hR1
    refine hGG ?_
    clear hGG
    exact ⟨⟨oI, hI⟩, o', ho'⟩
  · have hl : s.heap.IsList T items := ⟨oT, hT, hoc, nn, hod⟩
    refine wpAny_pyIter_list hl (core _ _ rfl (Walks.list hh _ _ hne _) ⟨⟨_, Heap.get?_push_size _ rfl, rfl, rfl⟩, hl.at fun o e => Heap.get?_push_of_some _ e⟩ ?_)
    intro i h hR2
    refine Classical.byContradiction fun hGG => ?_
    obtain ⟨⟨oI, hI, _⟩, ⟨o', ho', _⟩⟩ := hR2
    refine hGG ?_
    clear hGG
    exact ⟨⟨oI, hI⟩, o', ho'⟩

/-- a loop over a range -/
theorem loop_rng {E : Value → Shared → Prop} {Q : Flow → Shared → Prop} {x : Str} {body : List Stmt} {m : Str → Option Value} {r : Addr} {a b c : Int} {t u v : Tok} {n : Nat}
    (hh : A.handled = none) (hr : IsRange s.heap r a b c t u v) (hsmall : Builtin.Range.small a b c = true) (hn : Builtin.Range.rangeSize a b c = (n : Int)) (F : Fr h₀ env.locals s.heap m)
    (Inv : Addr → Nat → (Str → Option Value) → Heap → Prop)
    (h0 : ∀ I h, s.heap.get? I = none → Mod [] s.heap h → Inv I 0 m h)
    (stab : ∀ I i m h h', s.heap.get? I = none → Inv I i m h → Mod [env.locals, I] h h' → Inv I i m h')
    (turn : Hold (∀ I oI i t m h tk, s.heap.get? I = none → h₀.get? I = none → I ≠ env.locals → h.get? I = some oI → i < n → Inv I i m h → Fr h₀ env.locals h (fun y => if y = x then some (.int (a + i * c) t) else m y) →
      wpAny (model prog w) A (execs body env) (PostH h₀ env.locals [I] h s (Inv I (i + 1)) Q) E { s with heap := h, toks := tk }))
    (done : Hold (∀ I m h tk, s.heap.get? I = none → Inv I n m h → Fr h₀ env.locals h m → Q .next { s with heap := h, toks := tk })) :
    wpAny (model prog w) A (pyIter (.ref r)) (fun it s₂ => LoopH prog w A h₀ env x body Q E it s₂) E s := by
  have hf := fresh_size s.heap
  have hLI : s.heap.objs.size ≠ env.locals := Nat.ne_of_gt F.ns.lt
  have hI0 : h₀.get? s.heap.objs.size = none := by
    cases q : h₀.get? s.heap.objs.size with
    | none => rfl
    | some o => rw [F.keep _ _ q] at hf; cases hf
  refine wpAny_pyIter_range hr hsmall ?_
  refine ⟨_, [s.heap.objs.size], [s.heap.objs.size], n, _, _, m, fun i m h => Inv s.heap.objs.size i m h, rfl, Walks.range hh _ a c n, fun z => hLI (List.mem_singleton.mp z).symm, fun b hb => by rw [List.mem_singleton.mp hb]; exact hI0, ?_, F.push _, h0 _ _ hf (mod_push _ _ _), ?_, ?_, ?_⟩
  · show IsRangeIter _ _ _ _ _
    rw [hn]; simpa using Heap.get?_push_size _ rfl
  · exact fun i m h h' hi hM => stab _ i m h h' hf hi hM
  · rintro i v m h tk hi ⟨t, rfl⟩ hinv st' F'
    exact turn.out _ _ i t m h tk hf hI0 hLI st' hi hinv F'
  · exact fun m h tk hinv F' => done.out _ m h tk hf hinv F'
end

noncomputable def trunc (h : Heap) (L : Nat) : Heap := ⟨h.objs.extract 0 L, h.life⟩
theorem trunc_get {h : Heap} {L b : Nat} (hb : b < L) : (trunc h L).get? b = h.get? b := by
  have : (trunc h L).objs[b]? = h.objs[b]? := by
    show (h.objs.extract 0 L)[b]? = h.objs[b]?
    rw [Array.getElem?_extract]
    by_cases q : b < h.objs.size
    · rw [if_pos (by lia), Nat.zero_add]
    · rw [if_neg (by lia), Array.getElem?_eq_none (by lia)]
  unfold Heap.get?
  rw [this]
theorem trunc_none {h : Heap} {L b : Nat} (hb : L ≤ b) : (trunc h L).get? b = none := by
  cases q : (trunc h L).get? b with
  | none => rfl
  | some o =>
    have h1 : b < (h.objs.extract 0 L).size := Heap.lt_size q
    rw [Array.size_extract] at h1
    lia
theorem trunc_size (h : Heap) (L : Nat) : (trunc h L).objs.size ≤ L := by
  show (h.objs.extract 0 L).size ≤ L
  rw [Array.size_extract]; lia

/-- another ground for the frame at hand: all that is older than the frame and not of the (small) ledger -/
theorem rebase {g h : Heap} {L : Addr} {m : Str → Option Value} {led : List (Addr × Obj)} (F : Fr g L h m) (N : News g L h led) :
    Sm1 (fun g2 => Al4 (Fr g2 L h m) (News g2 L h led) (g.StaysIn g2) (∀ b o, b < L → (∀ p ∈ led, p.1 ≠ b) → h.get? b = some o → g2.get? b = some o)) := by
  have nm : ∀ b o, g.get? b = some o → b ∉ led.map (·.1) := fun b o e q => by
    obtain ⟨p, hp, rfl⟩ := List.mem_map.mp q
    rw [(N p hp).2.2] at e; cases e
  have old : ∀ b o, g.get? b = some o → b < L := fun b o e => Nat.lt_of_lt_of_le (Heap.lt_size e) F.above
  refine ⟨hideAll (trunc h L) (led.map (·.1)), ⟨F.ns, fun b o e => ?_, ?_⟩, fun p hp => ⟨(N p hp).1, (N p hp).2.1, hideAll_none _ (List.mem_map_of_mem hp)⟩, fun b o e => ?_, fun b o hb hn e => ?_⟩
  · have e1 := of_hideAll _ e
    have hb : b < L := by
      rcases Nat.lt_or_ge b L with q | q
      · exact q
      · rw [trunc_none q] at e1; cases e1
    rwa [trunc_get hb] at e1
  · rw [hideAll_size]; exact trunc_size h L
  · exact hideAll_get _ (by rw [trunc_get (old b o e)]; exact F.keep b o e) (nm b o e)
  · refine hideAll_get _ (by rw [trunc_get hb]; exact e) fun q => ?_
    refine Classical.byContradiction fun hGG => ?_
    obtain ⟨p, hp, e'⟩ := List.mem_map.mp q
    refine hGG ?_
    clear hGG
    exact hn p hp e'

theorem below_sub {A : Around} {base g g2 : Heap} {outer : List Env} (B : Below A base outer g) (st : g.StaysIn g2) : Below A base outer g2 :=
  ⟨B.stack, fun b o e => st b o (B.stays b o e), B.frames.of_keeps fun b o e _ => ⟨o, st b o e, rfl⟩⟩
theorem fr_sub {g g2 h : Heap} {L : Addr} {m m₀ : Str → Option Value} {h' : Heap} (F : Fr g2 L h m) (st : g.StaysIn g2) (F₀ : Fr g L h' m₀) : Fr g L h m := ⟨F.ns, fun b o e => F.keep b o (st b o e), F₀.above⟩
theorem tup_len {prog : Program} {w : World} {A : Around} {E : Value → Shared → Prop} {s : Shared} {h₀ : Heap} {L : Addr} {news : List (Addr × Obj)} {H : Addr} {vs : List Value} {n : Nat} {Q : Value → Shared → Prop} (N : News h₀ L s.heap news) (hm : (H, ({ cls := .type "tuple", data := .seq vs.toArray n } : Obj)) ∈ news) (hz : vs.length ≤ 1000)
    (h : ∀ t tk, Q (.int (vs.length : Int) t) ⟨s.heap, s.gens, s.drawn, tk, s.os⟩) : wpAny (model prog w) A (call (.builtin "len") [.ref H]) Q E s := by
  have ht : IsTup s.heap H vs.toArray := ⟨_, (N _ hm).1, rfl, n, rfl⟩
  refine len_tuple ht (by simp; lia) ?_
  simpa using h _ _
theorem hold_of {p : Prop} (h : Hold p) : p := h.out
theorem fr_new {g h : Heap} {L x : Addr} {m : Str → Option Value} (F : Fr g L h m) (fx : h.get? x = none) : x ≠ L ∧ g.get? x = none := by
  obtain ⟨oL, _, _, hL, _⟩ := F.ns
  refine ⟨(fun q => by rw [q, hL] at fx; cases fx), ?_⟩
  cases q : g.get? x with
  | none => rfl
  | some o => rw [F.keep _ _ q] at fx; cases fx
noncomputable def ivals (l : List (Int × Tok)) : List Value := l.map fun p => .int p.1 p.2
theorem ivals_len (l : List (Int × Tok)) : (ivals l).length = l.length := by simp [ivals]
theorem turn_keep {g h h'' : Heap} {L : Addr} {m'' : Str → Option Value} {led led'' : List (Addr × Obj)} (N : News g L h led) (F'' : Fr g L h'' m'') (N'' : News g L h'' led'')
    (hold : ∀ b o, b < L → (∀ p ∈ led, p.1 ≠ b) → h.get? b = some o → g.get? b = some o) (foot : List Addr) (same : ∀ p ∈ led, p.1 ∉ foot → p ∈ led'') :
    ∀ b o, (b < L ∨ ∃ p ∈ led, p.1 = b) → b ∉ foot → h.get? b = some o → h''.get? b = some o := by
  intro b o hb hf e
  by_cases q : ∃ p ∈ led, p.1 = b
  · obtain ⟨p, hp, rfl⟩ := q
    have e1 := (N p hp).1
    rw [e] at e1
    cases e1
    exact (N'' p (same p hp hf)).1
  · have hb' := hb.resolve_right q
    exact F''.keep b o (hold b o hb' (fun p hp z => q ⟨p, hp, z⟩) e)
theorem lst_append {prog : Program} {w : World} {A : Around} {E : Value → Shared → Prop} {s : Shared} {h₀ : Heap} {L : Addr} {m : Str → Option Value} {news news' : List (Addr × Obj)} {H : Addr} {vs : List Value} {n : Nat} {v : Value} {Q : Value → Shared → Prop} (F : Fr h₀ L s.heap m) (N : News h₀ L s.heap news) (U : Upd H (listOf vs.toArray n) (listOf (vs ++ [v]).toArray (n + 1)) news news') (hz : vs.length ≤ 1000)
    (h : ∀ h', Fr h₀ L h' m → News h₀ L h' news' → Q .none { s with heap := h' }) : wpAny (model prog w) A (call (.builtin "list.append") [.ref H, v]) Q E s := by
  have eq : listOf (vs ++ [v]).toArray (n + 1) = listOf (vs.toArray.push v) (n + 1) := by simp
  rw [eq] at U
  exact append_K F N U h (by simp [sizeLine]; lia)
theorem lst_clear {prog : Program} {w : World} {A : Around} {E : Value → Shared → Prop} {s : Shared} {h₀ : Heap} {L : Addr} {m : Str → Option Value} {news news' : List (Addr × Obj)} {H : Addr} {vs : List Value} {n : Nat} {Q : Value → Shared → Prop} (F : Fr h₀ L s.heap m) (N : News h₀ L s.heap news) (U : Upd H (listOf vs.toArray n) (listOf #[] (if vs.length = 0 then n else n + 1)) news news') (hz : vs.length ≤ 1000)
    (h : ∀ h', Fr h₀ L h' m → News h₀ L h' news' → Q .none { s with heap := h' }) : wpAny (model prog w) A (call (.builtin "list.clear") [.ref H]) Q E s := by
  obtain ⟨pre, post, rfl, rfl, a, c⟩ := U.split
  have z := N (H, listOf vs.toArray n) (List.mem_append.mpr (.inr (.head _)))
  refine call_meets PySem.F.slot_list_clear ⟨_, z.1, rfl⟩ PySem.F.entry_list_clear (PySem.F.args_list_clear_1 _) (PySem.AutoSeq1.list_clear_list_0 H vs.toArray n (by simp [sizeLine]; lia)) ⟨z.1, h _ (F.change (Heap.SameBut.update ..) z.2.1 z.2.2) (ki_turn (fun _ => #[]) N a c rfl ?_)⟩
  cases vs <;> simp
/-- all that was known is known -/
noncomputable def Kept (h h' : Heap) : Prop := ∀ b o, h.get? b = some o → h'.get? b = some o
theorem Kept.mod {h h' : Heap} (k : Kept h h') (foot : List Addr) : Mod foot h h' := ⟨fun b o _ e => k b o e⟩

noncomputable def testsOf (ifs : List Expr) (cenv : Env) : Sem Bool := forIn ifs true fun c r => if r = true then do let ok ← isTrue c cenv (eval c cenv); pure (ForInStep.yield ok) else pure (ForInStep.yield r)

noncomputable def CompH (prog : Program) (w : World) (A : Around) (g : Heap) (env : Env) (scope : Scope) (cl : List (Str × Addr)) (x : Str) (ifs : List Expr) (elt : Expr) (Q : Value → Shared → Prop) (it : Value) (s₂ : Shared) : Prop :=
  Sm7 (fun (I : Addr) (fp wr : List Addr) (n : Nat) (P : Nat → Value → Prop) (St : Nat → Heap → Prop) (Inv : Addr → Addr → Nat → List Value → Heap → Prop) => Al12 (it = .ref I) (Walks prog w A I fp wr n P St) (n ≤ 1000) (St 0 s₂.heap) ((∀ b ∈ fp, b < s₂.heap.objs.size)) ((∀ b ∈ wr, g.get? b = none)) (Kept g s₂.heap) (g.objs.size ≤ s₂.heap.objs.size) ((∀ C D h, s₂.heap.get? C = none → s₂.heap.get? D = none → Kept s₂.heap h → Inv C D 0 [] h)) ((∀ C D i ys h h', s₂.heap.get? C = none → s₂.heap.get? D = none → Inv C D i ys h → Mod (C :: D :: wr) h h' → Inv C D i ys h')) ((∀ C D i v ys (m : Str → Option Value) h tk (E' : Value → Shared → Prop), s₂.heap.get? C = none → s₂.heap.get? D = none → C ≠ D → i < n → P i v → ys.length ≤ i → Inv C D i ys h → St (i + 1) h → h.PlainList D ys.toArray → Mod wr s₂.heap h →
      Fr g C h (fun y => if y = x then some v else m y) →
      wpAny (model prog w) A (testsOf ifs (compEnvC scope cl C env)) (fun ok s₃ => Sm2 (fun h₃ tk₃ => Al3 (s₃ = { s₂ with heap := h₃, toks := tk₃ }) (Kept h h₃) (if ok = true then wpAny (model prog w) A (eval elt (compEnvC scope cl C env)) (fun y s₄ => Sm2 (fun h₄ tk₄ => Al3 (s₄ = { s₂ with heap := h₄, toks := tk₄ }) (Kept h h₄) (Inv C D (i + 1) (ys ++ [y]) h₄))) E' s₃
        else Inv C D (i + 1) ys h₃))) E' { s₂ with heap := h, toks := tk })) ((∀ C D ys h tk, s₂.heap.get? C = none → s₂.heap.get? D = none → Inv C D n ys h → h.PlainList D ys.toArray → Mod wr s₂.heap h → Q (.ref D) { s₂ with heap := h, toks := tk })))

theorem listCompH {prog : Program} {w : World} {A : Around} {E : Value → Shared → Prop} {env : Env} {s : Shared} {elt iter : Expr} {x : Str} {px : Pos} {ifs : List Expr} {scope : Scope} {cl : List (Str × Addr)} {pos : Pos} {Q : Value → Shared → Prop} {g : Heap}
    (hclos : closureFor scope env = pure cl) (hcell : ∀ y ∈ scope.names, y.2 ≠ .cell) (hkind : scope.kind = .function)
    (hnames : ∀ y ∈ scope.names, y.2 = .local → scope.names.lookup y.1 = some .local) (hx : scope.names.lookup x = some .local)
    (h : wpAny (model prog w) A (eval iter env) (fun xv s₁ => wpAny (model prog w) A (pyIter xv) (fun it s₂ => CompH prog w A g env scope cl x ifs elt Q it s₂) E s₁) E s)
    (hs : ∀ x, foldedSetIterable iter env x = pure x) :
    wpAny (model prog w) A (eval (.ListComp elt [⟨.Name x px, iter, ifs, 0⟩] scope pos) env) Q E s := by
  rw [eval_ListComp]
  refine wpAny_comprehension_free (use := none) rfl hs hclos hkind hnames (wpAny_mono h (fun xv s₁ h₁ => wpAny_mono h₁ (fun it s₂ h₂ => ?_) fun _ _ e => e) fun _ _ e => e)
  refine Classical.byContradiction fun hGG => ?_
  obtain ⟨I, fp, wr, n, P, St, Inv, rfl, W, hsz, hst, hfp, hwr, hg, hgs, h0, stab, turn, done⟩ := h₂
  refine hGG ?_
  clear hGG
  refine wpAny_newObj_type (wpAny_newFunctionEnv hcell (by intro y hy; simp at hy) (fun h₁ hns₁ hsb₁ => ?_) hkind)
  dsimp only at hns₁ hsb₁ ⊢
  generalize hH2 : s₂.heap.push { cls := .type "list", dict := none, data := .seq ([] : List Value).toArray } = H2 at hns₁ hsb₁ ⊢
  have hC : H2.objs.size = s₂.heap.objs.size + 1 := by rw [← hH2, Heap.size_push]
  have hDC : s₂.heap.objs.size ≠ H2.objs.size := by rw [hC]; exact Nat.ne_of_lt (Nat.lt_succ_self _)
  have below : ∀ b, b < s₂.heap.objs.size → b ≠ H2.objs.size ∧ b ≠ s₂.heap.objs.size := fun b hb => ⟨by rw [hC]; exact Nat.ne_of_lt (Nat.lt_succ_of_lt hb), Nat.ne_of_lt hb⟩
  have hDf : s₂.heap.objs.size ∉ fp := fun hm => Nat.lt_irrefl _ (hfp _ hm)
  have hCf : H2.objs.size ∉ fp := fun hm => by have := hfp _ hm; rw [hC] at this; exact Nat.lt_irrefl _ (Nat.lt_of_succ_lt this)
  have old : ∀ b o, s₂.heap.get? b = some o → h₁.get? b = some o := fun b o e => hsb₁.extBut b o (below b (Heap.lt_size e)).1 (Heap.get?_push_of_some _ (hH2 ▸ Heap.get?_push_of_some _ e))
  have hacc : h₁.PlainList s₂.heap.objs.size #[] := ⟨_, hsb₁.extBut _ _ hDC (Heap.get?_push_of_some _ (hH2 ▸ Heap.get?_push_size _ rfl))⟩
  have hst₁ : St 0 h₁ := W.frame _ _ _ hst fun b _ o e => old b o e
  have fresh : ∀ a, s₂.heap.objs.size ≤ a → s₂.heap.get? a = none := fun a ha => by
    cases e : s₂.heap.get? a with
    | none => rfl
    | some o' => exact absurd (Heap.lt_size e) (Nat.not_lt.mpr ha)
  have fD := fresh s₂.heap.objs.size (Nat.le_refl _)
  have fC := fresh H2.objs.size (by rw [hC]; exact Nat.le_succ _)
  have hCw : H2.objs.size ∉ wr := fun h => hCf (W.sub _ h)
  have hDw : s₂.heap.objs.size ∉ wr := fun h => hDf (W.sub _ h)
  have loop : ∀ s₃ : Shared, s₃ = { s₂ with heap := h₁, toks := s₂.toks + ([] : List (Str × Value)).length } →
      codeAny (model prog w) A (.compLoop (.ListComp elt [⟨.Name x px, iter, ifs, 0⟩] scope pos) 0 (.ref I) (.ref s₂.heap.objs.size) (compEnvC scope cl H2.objs.size env))
        (compPost (model prog w) A E none Q (.ref s₂.heap.objs.size) H2.objs.size) s₃ := by
    rintro s₃ rfl
    refine codeAny_compLoop_tests
      (fun k s' => Sm5 (fun h' tk m' i (ys : List Value) => Al9 (s' = { s₂ with heap := h', toks := tk }) (St i h') (h'.PlainList s₂.heap.objs.size ys.toArray) (h'.Ns H2.objs.size m') (Inv H2.objs.size s₂.heap.objs.size i ys h') (ys.length ≤ i) (i ≤ n) (k = n + 1 - i) (Mod wr s₂.heap h'))) ?_ (n + 1)
      ⟨h₁, _, _, 0, [], rfl, hst₁, hacc, hns₁, h0 _ _ _ fC fD old, Nat.le_refl _, Nat.zero_le _, rfl, ⟨fun b o _ e => old b o e⟩⟩
    rintro k s' ⟨H, tk, m', i, ys, rfl, hst', hacc', hn', hinv, hyl, hi, rfl, hk⟩
    by_cases hlt : i < n
    · refine W.item i _ _ _ hlt hst' fun v h₂ tk₂ hPv hst₂ hk₂ => ?_
      refine wpAny_assign_Name (wpAny_storeName_local (lookup_relabel_local hx) (hn'.at' fun o e => hk₂ _ o hCw e) (fun h₃ hn₃ hs₃ => ?_) (by simp [compEnvC, relabel, hkind]))
      have up : ∀ b o, b ≠ H2.objs.size → b ∉ wr → H.get? b = some o → h₃.get? b = some o := fun b o hbC hbf e => hs₃.extBut b o hbC (hk₂ b o hbf e)
      have hst₃ : St (i + 1) h₃ := W.frame _ _ _ hst₂ fun b hb o e => hs₃.extBut b o (show b ≠ H2.objs.size from fun q => hCf (q ▸ hb)) e
      have hacc₃ : h₃.PlainList s₂.heap.objs.size ys.toArray := hacc'.at fun o e => up _ o hDC hDw e
      have hinv₃ : Inv H2.objs.size s₂.heap.objs.size i ys h₃ := stab _ _ _ _ _ _ fC fD hinv ⟨fun b o hb e => up b o (fun q => hb (by simp [q])) (fun q => hb (.tail _ (.tail _ q))) e⟩
      have hk₃ : Mod wr s₂.heap h₃ := ⟨fun b o hb e => up b o (below b (Heap.lt_size e)).1 hb (hk.keep b o hb e)⟩
      have F₃ : Fr g H2.objs.size h₃ (fun y => if y = x then some v else m' y) := ⟨hn₃, fun b o e => hk₃.keep b o (fun q => by rw [hwr b q] at e; cases e) (hg b o e), by rw [hC]; exact Nat.le_succ_of_le hgs⟩
      refine wpAny_mono (turn _ _ i v ys m' h₃ _ _ fC fD (Ne.symm hDC) hlt hPv hyl hinv₃ hst₃ hacc₃ hk₃ F₃) (fun ok s₅ h₅ => ?_) fun _ _ e => e
      refine Classical.byContradiction fun hGG => ?_
      obtain ⟨h₅', tk₅, rfl, kp₅, h₅⟩ := h₅
      refine hGG ?_
      clear hGG
      cases ok with
      | false =>
        simp only [Bool.false_eq_true, if_false] at h₅ ⊢
        exact ⟨n + 1 - (i + 1), by lia, h₅', tk₅, _, i + 1, ys, rfl, W.frame _ _ _ hst₃ fun b _ o e => kp₅ b o e, hacc₃.at fun o e => kp₅ _ o e, hn₃.keeps kp₅, h₅, by lia, hlt, rfl, ⟨fun b o hb e => kp₅ b o (hk₃.keep b o hb e)⟩⟩
      | true =>
        simp only [if_true] at h₅ ⊢
        refine wpAny_mono h₅ (fun y s₆ h₆ => ?_) fun _ _ e => e
        refine Classical.byContradiction fun hGG => ?_
        obtain ⟨h₆', tk₆, rfl, kp₆, hinv₆⟩ := h₆
        refine hGG ?_
        clear hGG
        refine wpAny_list_append_plain (hsz := by simp [sizeLine]; lia) (hacc₃.at fun o e => kp₆ _ o e) fun h₇ hl₇ hs₇ => ?_
        refine ⟨n + 1 - (i + 1), by lia, h₇, tk₆, _, i + 1, ys ++ [y], rfl, ?_, by simpa using hl₇, (hn₃.keeps kp₆).sameBut hs₇ (Ne.symm hDC), ?_, by simp; lia, hlt, rfl, ?_⟩
        · exact W.frame _ _ h₇ hst₃ fun b hb o e => hs₇.extBut b o (fun h => hDf (h ▸ hb)) (kp₆ b o e)
        · exact stab _ _ _ _ _ _ fC fD hinv₆ ⟨fun b o hb e => hs₇.extBut b o (fun q => hb (by simp [q])) e⟩
        · exact ⟨fun b o hb e => hs₇.extBut b o (below b (Heap.lt_size e)).2 (kp₆ b o (hk₃.keep b o hb e))⟩
    · have hin : i = n := by lia
      subst hin
      refine W.done _ _ _ hst' fun h₂ tk₂ hk₂ => ?_
      refine ⟨m', hn'.at' fun o e => hk₂ _ o hCw e, fun h₃ hs₃ => ?_⟩
      have up : ∀ b o, b ≠ H2.objs.size → b ∉ wr → H.get? b = some o → h₃.get? b = some o := fun b o hbC hbf e => hs₃.extBut b o hbC (hk₂ b o hbf e)
      refine done _ _ ys h₃ tk₂ fC fD (stab _ _ _ _ _ _ fC fD hinv ⟨fun b o hb e => up b o (fun q => hb (by simp [q])) (fun q => hb (.tail _ (.tail _ q))) e⟩) (hacc'.at fun o e => up _ o hDC hDw e) ⟨fun b o hb e => up b o (below b (Heap.lt_size e)).1 hb (hk.keep b o hb e)⟩
  exact codeAny_compStart_list (loop _ rfl) (W.self 0 _ _ _ hst₁ (loop _ rfl))
/-- all is kept but the frame, which still stands -/
structure KeptC (C : Addr) (h h' : Heap) : Prop where
  keep : ∀ b o, b ≠ C → h.get? b = some o → h'.get? b = some o
  ns : ∃ m, h'.Ns C m
theorem KeptC.same {g h : Heap} {C : Addr} {m : Str → Option Value} (F : Fr g C h m) : KeptC C h h := ⟨fun _ _ _ e => e, m, F.ns⟩
theorem KeptC.kept {g h h' : Heap} {C : Addr} {m : Str → Option Value} (F : Fr g C h m) (k : Kept h h') : KeptC C h h' := ⟨fun b o _ e => k b o e, m, F.ns.keeps k⟩
/-- what one turn of a comprehension must do -/
noncomputable def TurnG (prog : Program) (w : World) (A : Around) (cenv : Env) (ifs : List Expr) (elt : Expr) (s₂ : Shared) (h : Heap) (tk : Nat) (E' : Value → Shared → Prop) (Yes : Value → Heap → Prop) (No : Heap → Prop) : Prop :=
  wpAny (model prog w) A (testsOf ifs cenv) (fun ok s₃ => Hold (Sm2 (fun h₃ tk₃ => Al3 (s₃ = ⟨h₃, s₂.gens, s₂.drawn, tk₃, s₂.os⟩) (KeptC cenv.locals h h₃) (if ok = true then wpAny (model prog w) A (eval elt cenv) (fun y s₄ => Hold (Sm2 (fun h₄ tk₄ => Al3 (s₄ = ⟨h₄, s₂.gens, s₂.drawn, tk₄, s₂.os⟩) (KeptC cenv.locals h h₄) (Yes y h₄)))) E' s₃
    else No h₃)))) E' ⟨h, s₂.gens, s₂.drawn, tk, s₂.os⟩

noncomputable def CompG (prog : Program) (w : World) (A : Around) (g : Heap) (env : Env) (scope : Scope) (cl : List (Str × Addr)) (x : Str) (ifs : List Expr) (elt : Expr) (E : Value → Shared → Prop) (use : Option (Value → Sem Unit)) (Q : Value → Shared → Prop) (it : Value) (s₂ : Shared) : Prop :=
  Sm7 (fun (I : Addr) (fp wr : List Addr) (n : Nat) (P : Nat → Value → Prop) (St : Nat → Heap → Prop) (Inv : Addr → Addr → Nat → List Value → Heap → Prop) => Al12 (it = .ref I) (Walks prog w A I fp wr n P St) (n ≤ 1000) (St 0 s₂.heap) ((∀ b ∈ fp, b < s₂.heap.objs.size)) ((∀ b ∈ wr, g.get? b = none)) (Kept g s₂.heap) (g.objs.size ≤ s₂.heap.objs.size) ((∀ C D h, s₂.heap.get? C = none → s₂.heap.get? D = none → Kept s₂.heap h → Inv C D 0 [] h)) ((∀ C D i ys h h', s₂.heap.get? C = none → s₂.heap.get? D = none → Inv C D i ys h → Mod (C :: D :: wr) h h' → Inv C D i ys h')) ((∀ C D i v ys (m : Str → Option Value) h tk (E' : Value → Shared → Prop), s₂.heap.get? C = none → s₂.heap.get? D = none → C ≠ D → i < n → P i v → ys.length ≤ i → Inv C D i ys h → St (i + 1) h → h.PlainList D ys.toArray → Mod wr s₂.heap h →
      Fr g C h (fun y => if y = x then some v else m y) → TurnG prog w A (compEnvC scope cl C env) ifs elt s₂ h tk E' (fun y h₄ => Inv C D (i + 1) (ys ++ [y]) h₄) (fun h₃ => Inv C D (i + 1) ys h₃))) ((∀ C D ys h tk m, s₂.heap.get? C = none → s₂.heap.get? D = none → C ≠ D → h.Ns C m → Inv C D n ys h → h.PlainList D ys.toArray → Mod wr s₂.heap h → compPost (model prog w) A E use Q (.ref D) C (.ok .next) { s₂ with heap := h, toks := tk })))

section
variable {prog : Program} {w : World} {A : Around} {E : Value → Shared → Prop} {env : Env} {s : Shared} {elt iter : Expr} {x : Str} {px : Pos} {ifs : List Expr} {scope : Scope} {cl : List (Str × Addr)} {pos : Pos} {g : Heap}
theorem compLoopG {C D I : Addr} {fp wr : List Addr} {n : Nat} {P : Nat → Value → Prop} {St : Nat → Heap → Prop} {Inv : Nat → List Value → Heap → Prop} {R : Result → Shared → Prop} {s₂ : Shared} {h₁ : Heap} {tk₁ : Nat} {m₁ : Str → Option Value}
    (W : Walks prog w A I fp wr n P St) (hsz : n ≤ 1000) (hkind : scope.kind = .function) (hx : scope.names.lookup x = some .local)
    (hCD : C ≠ D) (hCf : C ∉ fp) (hDf : D ∉ fp) (fC : s₂.heap.get? C = none) (fD : s₂.heap.get? D = none) (hwr : ∀ b ∈ wr, g.get? b = none) (hg : Kept g s₂.heap) (hgs : g.objs.size ≤ C)
    (stab : ∀ i ys h h', Inv i ys h → Mod (C :: D :: wr) h h' → Inv i ys h')
    (turn : ∀ i v ys (m : Str → Option Value) h tk (E' : Value → Shared → Prop), i < n → P i v → ys.length ≤ i → Inv i ys h → St (i + 1) h → h.PlainList D ys.toArray → Mod wr s₂.heap h →
      Fr g C h (fun y => if y = x then some v else m y) → TurnG prog w A (compEnvC scope cl C env) ifs elt s₂ h tk E' (fun y h₄ => Inv (i + 1) (ys ++ [y]) h₄) (fun h₃ => Inv (i + 1) ys h₃))
    (done : ∀ ys h tk m, h.Ns C m → Inv n ys h → h.PlainList D ys.toArray → Mod wr s₂.heap h → R (.ok .next) { s₂ with heap := h, toks := tk })
    (old : Kept s₂.heap h₁) (hst₁ : St 0 h₁) (hacc : h₁.PlainList D #[]) (hns₁ : h₁.Ns C m₁) (h0 : Inv 0 [] h₁) :
    codeAny (model prog w) A (.compLoop (.ListComp elt [⟨.Name x px, iter, ifs, 0⟩] scope pos) 0 (.ref I) (.ref D) (compEnvC scope cl C env)) R { s₂ with heap := h₁, toks := tk₁ } := by
  have hCw : C ∉ wr := fun h => hCf (W.sub _ h)
  have hDw : D ∉ wr := fun h => hDf (W.sub _ h)
  have nC : ∀ b o, s₂.heap.get? b = some o → b ≠ C := fun b o e q => by rw [q, fC] at e; cases e
  have nD : ∀ b o, s₂.heap.get? b = some o → b ≠ D := fun b o e q => by rw [q, fD] at e; cases e
  refine codeAny_compLoop_tests
    (fun k s' => Sm5 (fun h' tk m' i (ys : List Value) => Al9 (s' = { s₂ with heap := h', toks := tk }) (St i h') (h'.PlainList D ys.toArray) (h'.Ns C m') (Inv i ys h') (ys.length ≤ i) (i ≤ n) (k = n + 1 - i) (Mod wr s₂.heap h'))) ?_ (n + 1)
    ⟨h₁, _, _, 0, [], rfl, hst₁, hacc, hns₁, h0, Nat.le_refl _, Nat.zero_le _, rfl, ⟨fun b o _ e => old b o e⟩⟩
  rintro k s' ⟨H, tk, m', i, ys, rfl, hst', hacc', hn', hinv, hyl, hi, rfl, hk⟩
  by_cases hlt : i < n
  · refine W.item i _ _ _ hlt hst' fun v h₂ tk₂ hPv hst₂ hk₂ => ?_
    refine wpAny_assign_Name (wpAny_storeName_local (lookup_relabel_local hx) (hn'.at' fun o e => hk₂ _ o hCw e) (fun h₃ hn₃ hs₃ => ?_) (by simp [compEnvC, relabel, hkind]))
    have up : ∀ b o, b ≠ C → b ∉ wr → H.get? b = some o → h₃.get? b = some o := fun b o hbC hbf e => hs₃.extBut b o hbC (hk₂ b o hbf e)
    have hst₃ : St (i + 1) h₃ := W.frame _ _ _ hst₂ fun b hb o e => hs₃.extBut b o (show b ≠ C from fun q => hCf (q ▸ hb)) e
    have hacc₃ : h₃.PlainList D ys.toArray := hacc'.at fun o e => up _ o (Ne.symm hCD) hDw e
    have hinv₃ : Inv i ys h₃ := stab _ _ _ _ hinv ⟨fun b o hb e => up b o (fun q => hb (by simp [q])) (fun q => hb (.tail _ (.tail _ q))) e⟩
    have hk₃ : Mod wr s₂.heap h₃ := ⟨fun b o hb e => up b o (nC b o e) hb (hk.keep b o hb e)⟩
    have F₃ : Fr g C h₃ (fun y => if y = x then some v else m' y) := ⟨hn₃, fun b o e => hk₃.keep b o (fun q => by rw [hwr b q] at e; cases e) (hg b o e), hgs⟩
    refine wpAny_mono (turn i v ys m' h₃ _ _ hlt hPv hyl hinv₃ hst₃ hacc₃ hk₃ F₃) (fun ok s₅ h₅ => ?_) fun _ _ e => e
    refine Classical.byContradiction fun hGG => ?_
    obtain ⟨h₅', tk₅, rfl, kp₅, h₅⟩ := h₅.out
    refine hGG ?_
    clear hGG
    cases ok with
    | false =>
      simp only [Bool.false_eq_true, if_false] at h₅ ⊢
      refine Classical.byContradiction fun hGG => ?_
      obtain ⟨kp₅, m₅, hn₅⟩ := kp₅
      refine hGG ?_
      clear hGG
      exact ⟨n + 1 - (i + 1), by lia, h₅', tk₅, m₅, i + 1, ys, rfl, W.frame _ _ _ hst₃ fun b hb o e => kp₅ b o (show b ≠ C from fun q => hCf (q ▸ hb)) e, hacc₃.at fun o e => kp₅ _ o (Ne.symm hCD) e, hn₅, h₅, by lia, hlt, rfl, ⟨fun b o hb e => kp₅ b o (nC b o e) (hk₃.keep b o hb e)⟩⟩
    | true =>
      simp only [if_true] at h₅ ⊢
      refine wpAny_mono h₅ (fun y s₆ h₆ => ?_) fun _ _ e => e
      refine Classical.byContradiction fun hGG => ?_
      obtain ⟨h₆', tk₆, rfl, ⟨kp₆, m₆, hn₆⟩, hinv₆⟩ := h₆.out
      refine hGG ?_
      clear hGG
      refine wpAny_list_append_plain (hsz := by simp [sizeLine]; lia) (hacc₃.at fun o e => kp₆ _ o (Ne.symm hCD) e) fun h₇ hl₇ hs₇ => ?_
      refine ⟨n + 1 - (i + 1), by lia, h₇, tk₆, m₆, i + 1, ys ++ [y], rfl, ?_, by simpa using hl₇, hn₆.sameBut hs₇ hCD, ?_, by simp; lia, hlt, rfl, ?_⟩
      · exact W.frame _ _ h₇ hst₃ fun b hb o e => hs₇.extBut b o (fun h => hDf (h ▸ hb)) (kp₆ b o (show b ≠ C from fun q => hCf (q ▸ hb)) e)
      · exact stab _ _ _ _ hinv₆ ⟨fun b o hb e => hs₇.extBut b o (fun q => hb (by simp [q])) e⟩
      · exact ⟨fun b o hb e => hs₇.extBut b o (nD b o e) (kp₆ b o (nC b o e) (hk₃.keep b o hb e))⟩
  · have hin : i = n := by lia
    subst hin
    refine W.done _ _ _ hst' fun h₂ tk₂ hk₂ => ?_
    refine done ys h₂ tk₂ m' (hn'.at' fun o e => hk₂ _ o hCw e) (stab _ _ _ _ hinv ⟨fun b o hb e => hk₂ b o (fun q => hb (.tail _ (.tail _ q))) e⟩) (hacc'.at fun o e => hk₂ _ o hDw e) ⟨fun b o hb e => hk₂ b o hb (hk.keep b o hb e)⟩

theorem compBlockG {use : Option (Value → Sem Unit)} {Q : Value → Shared → Prop} {it : Value} {s₂ : Shared} (hcell : ∀ y ∈ scope.names, y.2 ≠ .cell) (hkind : scope.kind = .function) (hx : scope.names.lookup x = some .local)
    (h₂ : CompG prog w A g env scope cl x ifs elt E use Q it s₂) :
    wpAny (model prog w) A (newList []) (fun acc s₃ => wpAny (model prog w) A (newFunctionEnv scope env.globals cl [] env.qual none .none (some env)) (fun cenv s₄ =>
        codeAny (model prog w) A (.compStart (.ListComp elt [⟨.Name x px, iter, ifs, 0⟩] scope pos) 0 it acc { cenv with scope := relabel scope env }) (compPost (model prog w) A E use Q acc cenv.locals) s₄) E s₃) E s₂ := by
  refine Classical.byContradiction fun hGG => ?_
  obtain ⟨I, fp, wr, n, P, St, Inv, rfl, W, hsz, hst, hfp, hwr, hg, hgs, h0, stab, turn, done⟩ := h₂
  refine hGG ?_
  clear hGG
  refine wpAny_newObj_type (wpAny_newFunctionEnv hcell (by intro y hy; simp at hy) (fun h₁ hns₁ hsb₁ => ?_) hkind)
  dsimp only at hns₁ hsb₁ ⊢
  generalize hH2 : s₂.heap.push { cls := .type "list", dict := none, data := .seq ([] : List Value).toArray } = H2 at hns₁ hsb₁ ⊢
  have hC : H2.objs.size = s₂.heap.objs.size + 1 := by rw [← hH2, Heap.size_push]
  have hDC : s₂.heap.objs.size ≠ H2.objs.size := by rw [hC]; exact Nat.ne_of_lt (Nat.lt_succ_self _)
  have below : ∀ b, b < s₂.heap.objs.size → b ≠ H2.objs.size ∧ b ≠ s₂.heap.objs.size := fun b hb => ⟨by rw [hC]; exact Nat.ne_of_lt (Nat.lt_succ_of_lt hb), Nat.ne_of_lt hb⟩
  have hDf : s₂.heap.objs.size ∉ fp := fun hm => Nat.lt_irrefl _ (hfp _ hm)
  have hCf : H2.objs.size ∉ fp := fun hm => by have := hfp _ hm; rw [hC] at this; exact Nat.lt_irrefl _ (Nat.lt_of_succ_lt this)
  have old : ∀ b o, s₂.heap.get? b = some o → h₁.get? b = some o := fun b o e => hsb₁.extBut b o (below b (Heap.lt_size e)).1 (Heap.get?_push_of_some _ (hH2 ▸ Heap.get?_push_of_some _ e))
  have hacc : h₁.PlainList s₂.heap.objs.size #[] := ⟨_, hsb₁.extBut _ _ hDC (Heap.get?_push_of_some _ (hH2 ▸ Heap.get?_push_size _ rfl))⟩
  have hst₁ : St 0 h₁ := W.frame _ _ _ hst fun b _ o e => old b o e
  have fresh : ∀ a, s₂.heap.objs.size ≤ a → s₂.heap.get? a = none := fun a ha => by
    cases e : s₂.heap.get? a with
    | none => rfl
    | some o' => exact absurd (Heap.lt_size e) (Nat.not_lt.mpr ha)
  have fD := fresh s₂.heap.objs.size (Nat.le_refl _)
  have fC := fresh H2.objs.size (by rw [hC]; exact Nat.le_succ _)
  have loop := compLoopG (elt := elt) (iter := iter) (px := px) (ifs := ifs) (scope := scope) (cl := cl) (pos := pos) (env := env) (tk₁ := s₂.toks + ([] : List (Str × Value)).length) (Inv := Inv H2.objs.size s₂.heap.objs.size) (R := compPost (model prog w) A E use Q (.ref s₂.heap.objs.size) H2.objs.size) W hsz hkind hx (Ne.symm hDC) hCf hDf fC fD hwr hg (by rw [hC]; exact Nat.le_succ_of_le hgs)
    (fun i ys h h' hi hM => stab _ _ i ys h h' fC fD hi hM) (fun i v ys m h tk E' hi hP hyl hinv hst hpl hM F => turn _ _ i v ys m h tk E' fC fD (Ne.symm hDC) hi hP hyl hinv hst hpl hM F)
    (fun ys h tk m hn hinv hpl hM => done _ _ ys h tk m fC fD (Ne.symm hDC) hn hinv hpl hM) old hst₁ hacc hns₁ (h0 _ _ _ fC fD old)
  exact codeAny_compStart_list loop (W.self 0 _ _ _ hst₁ loop)

theorem listCompG {Q : Value → Shared → Prop} (hclos : closureFor scope env = pure cl) (hcell : ∀ y ∈ scope.names, y.2 ≠ .cell) (hkind : scope.kind = .function)
    (hnames : ∀ y ∈ scope.names, y.2 = .local → scope.names.lookup y.1 = some .local) (hx : scope.names.lookup x = some .local)
    (h : wpAny (model prog w) A (eval iter env) (fun xv s₁ => wpAny (model prog w) A (pyIter xv) (fun it s₂ => CompG prog w A g env scope cl x ifs elt E none Q it s₂) E s₁) E s)
    (hs : ∀ x, foldedSetIterable iter env x = pure x) :
    wpAny (model prog w) A (eval (.ListComp elt [⟨.Name x px, iter, ifs, 0⟩] scope pos) env) Q E s := by
  rw [eval_ListComp]
  exact wpAny_comprehension_free (use := none) rfl hs hclos hkind hnames (wpAny_mono h (fun xv s₁ h₁ => wpAny_mono h₁ (fun it s₂ h₂ => compBlockG hcell hkind hx h₂) fun _ _ e => e) fun _ _ e => e)

theorem assignCompG {Q : Flow → Shared → Prop} {y : Str} {py spos : Pos} (hclos : closureFor scope env = pure cl) (hcell : ∀ y ∈ scope.names, y.2 ≠ .cell) (hkind : scope.kind = .function)
    (hnames : ∀ y ∈ scope.names, y.2 = .local → scope.names.lookup y.1 = some .local) (hx : scope.names.lookup x = some .local)
    (hsw : swapsWith (.ListComp elt [⟨.Name x px, iter, ifs, 0⟩] scope pos) (some (.Name y py)) spos.line env = pure true)
    (h : wpAny (model prog w) A (eval iter env) (fun xv s₁ => wpAny (model prog w) A (pyIter xv) (fun it s₂ => CompG prog w A g env scope cl x ifs elt E (some (assign (.Name y py) env)) (fun _ s' => Q .next s') it s₂) E s₁) E s)
    (hs : ∀ x, foldedSetIterable iter env x = pure x) :
    wpAny (model prog w) A (exec (.Assign [.Name y py] (.ListComp elt [⟨.Name x px, iter, ifs, 0⟩] scope pos) spos) env) Q E s := by
  rw [exec_Assign_Name_used _ _ _ _ hsw]
  refine wpAny_bind (wpAny_standAt (wpAny_bind ?_))
  show wpAny _ A (do let _ ← comprehension (.ListComp elt [⟨.Name x px, iter, ifs, 0⟩] scope pos) scope env _ (newList []) false (eval iter env) (some (assign (.Name y py) env))) _ _ s
  exact wpAny_bind (wpAny_mono (wpAny_comprehension_free (use := some (assign (.Name y py) env)) (Q := fun _ s' => Q .next s') rfl hs hclos hkind hnames
    (wpAny_mono h (fun xv s₁ h₁ => wpAny_mono h₁ (fun it s₂ h₂ => compBlockG hcell hkind hx h₂) fun _ _ e => e) fun _ _ e => e)) (fun _ s' hq => wpAny_pure (wpAny_pure hq)) fun _ _ e => e)

theorem post_plain {Q : Value → Shared → Prop} {C D : Addr} {m : Str → Option Value} {s₂ : Shared} {h : Heap} {tk : Nat} (hn : h.Ns C m) (k : ∀ h', Heap.SameBut C h h' → Q (.ref D) { s₂ with heap := h', toks := tk }) :
    compPost (model prog w) A E none Q (.ref D) C (.ok .next) { s₂ with heap := h, toks := tk } := ⟨m, hn, k⟩
theorem post_local {Q : Flow → Shared → Prop} {y : Str} {py : Pos} {C D : Addr} {m m₀ : Str → Option Value} {s₂ : Shared} {h : Heap} {tk : Nat} (hn : h.Ns C m) (hL : h.Ns env.locals m₀) (hLC : env.locals ≠ C) (hy : env.kindOf y = some .local)
    (hp : (env.scope.kind == .class || (env.scope.kind == .module && env.locals != env.globals)) = false)
    (k : ∀ h' tk', Mod [C, env.locals] h h' → h'.Ns env.locals (fun z => if z = y then some (.ref D) else m₀ z) → Q .next { s₂ with heap := h', toks := tk' }) :
    compPost (model prog w) A E (some (assign (.Name y py) env)) (fun _ s' => Q .next s') (.ref D) C (.ok .next) { s₂ with heap := h, toks := tk } := by
  show wpAny _ A (assign (.Name y py) env (.ref D)) _ _ _
  refine wpAny_assign_Name (wpAny_storeName_local hy hL (fun h₂ hn₂ hs₂ => ?_) hp)
  refine ⟨m, hn.sameBut hs₂ (Ne.symm hLC), fun h₃ hs₃ => k h₃ _ ⟨fun b o hb e => ?_⟩ (hn₂.sameBut hs₃ hLC)⟩
  exact hs₃.extBut b o (fun q => hb (by simp [q])) (hs₂.extBut b o (fun q => hb (by simp [q])) e)
theorem post_cell {Q : Flow → Shared → Prop} {y : Str} {py : Pos} {C D c : Addr} {m : Str → Option Value} {v₀ : Option Value} {s₂ : Shared} {h : Heap} {tk : Nat} (hn : h.Ns C m) (hc : env.cells.lookup y = some c) (hv : h.IsCell c v₀) (hcC : c ≠ C) (hk : env.scope.kind = .function) (hy : env.kindOf y = some .cell)
    (k : ∀ h' tk', Mod [C, c] h h' → h'.IsCell c (some (.ref D)) → Q .next { s₂ with heap := h', toks := tk' }) :
    compPost (model prog w) A E (some (assign (.Name y py) env)) (fun _ s' => Q .next s') (.ref D) C (.ok .next) { s₂ with heap := h, toks := tk } := by
  show wpAny _ A (assign (.Name y py) env (.ref D)) _ _ _
  refine wpAny_assign_Name (wpAny_storeName_cell hk hy hc hv fun h₂ hv₂ hs₂ => ?_)
  refine ⟨m, hn.sameBut hs₂ (Ne.symm hcC), fun h₃ hs₃ => k h₃ _ ⟨fun b o hb e => ?_⟩ ?_⟩
  · exact hs₃.extBut b o (fun q => hb (by simp [q])) (hs₂.extBut b o (fun q => hb (by simp [q])) e)
  · refine Classical.byContradiction fun hGG => ?_
    obtain ⟨o, ho, hd⟩ := hv₂
    refine hGG ?_
    clear hGG
    exact ⟨o, hs₃.extBut c o hcC ho, hd⟩
end
theorem get_above' {h : Heap} {b : Nat} (hb : h.objs.size ≤ b) : h.get? b = none := Heap.get?_none_of_le hb
section
variable {prog : Program} {w : World} {A : Around} {E : Value → Shared → Prop} {env : Env} {s : Shared} {g : Heap} {scope : Scope} {cl : List (Str × Addr)} {x : Str} {ifs : List Expr} {elt : Expr} {use : Option (Value → Sem Unit)} {Q : Value → Shared → Prop}
theorem push_none {o : Obj} {a : Addr} (hf : o.isFreed = false) (ha : (s.heap.push o).get? a = none) : s.heap.get? a = none ∧ s.heap.objs.size ≠ a := by
  refine ⟨?_, fun q => ?_⟩
  · cases e : s.heap.get? a with
    | none => rfl
    | some o => rw [Heap.get?_push_of_some _ e] at ha; cases ha
  · rw [← q, Heap.get?_push_size _ hf] at ha; cases ha
/-- a comprehension over a range -/
theorem comp_rngG {r : Addr} {a b c : Int} {t u v : Tok} {n : Nat} (hh : A.handled = none) (hr : IsRange s.heap r a b c t u v) (hsmall : Builtin.Range.small a b c = true) (hn : Builtin.Range.rangeSize a b c = (n : Int)) (hz : n ≤ 1000) (hg : Kept g s.heap) (hgs : g.objs.size ≤ s.heap.objs.size)
    (Rel : Addr → Addr → Addr → Nat → List Value → Heap → Prop)
    (h0 : ∀ C R I h, s.heap.get? C = none → s.heap.get? R = none → s.heap.get? I = none → Rel C R I 0 [] h)
    (stab : ∀ C R I i ys h h', s.heap.get? C = none → s.heap.get? R = none → s.heap.get? I = none → Rel C R I i ys h → Mod [C, R, I] h h' → Rel C R I i ys h')
    (turn : Hold (∀ C R I oI i t ys (m : Str → Option Value) h tk (E' : Value → Shared → Prop), s.heap.get? C = none → s.heap.get? R = none → s.heap.get? I = none → g.get? I = none → C ≠ R → I ≠ C → I ≠ R → i < n → ys.length ≤ i → Rel C R I i ys h → Kept s.heap h → h.get? I = some oI → h.PlainList R ys.toArray →
      Fr g C h (fun y => if y = x then some (.int (a + i * c) t) else m y) → TurnG prog w A (compEnvC scope cl C env) ifs elt s h tk E' (fun y h₄ => Rel C R I (i + 1) (ys ++ [y]) h₄) (fun h₃ => Rel C R I (i + 1) ys h₃)))
    (done : Hold (∀ C R I ys h tk m, s.heap.get? C = none → s.heap.get? R = none → s.heap.get? I = none → C ≠ R → I ≠ C → I ≠ R → h.Ns C m → Rel C R I n ys h → h.PlainList R ys.toArray → Kept s.heap h → compPost (model prog w) A E use Q (.ref R) C (.ok .next) ⟨h, s.gens, s.drawn, tk, s.os⟩)) :
    wpAny (model prog w) A (pyIter (.ref r)) (fun it s₂ => CompG prog w A g env scope cl x ifs elt E use Q it s₂) E s := by
  have hf := fresh_size s.heap
  have hgI : g.get? s.heap.objs.size = none := by
    cases q : g.get? s.heap.objs.size with
    | none => rfl
    | some o => rw [hg _ _ q] at hf; cases hf
  refine wpAny_pyIter_range hr hsmall ?_
  have hkeep : ∀ {h : Heap}, Mod [s.heap.objs.size] (s.heap.push ({ cls := .type "range_iterator", data := .fields #[rawInt a, rawInt (Builtin.Range.rangeSize a b c), rawInt c] } : Obj)) h → Kept s.heap h := fun hM b o e => hM.keep b o (fun q => by rw [List.mem_singleton.mp q, hf] at e; cases e) (Heap.get?_push_of_some _ e)
  refine ⟨_, [s.heap.objs.size], [s.heap.objs.size], n, _, _, fun C R i ys h => Rel C R s.heap.objs.size i ys h, rfl, Walks.range hh _ a c n, hz, ?_, ?_, ?_, fun b o e => Heap.get?_push_of_some _ (hg b o e), by rw [Heap.size_push]; exact Nat.le_succ_of_le hgs, ?_, ?_, ?_, ?_⟩
  · show IsRangeIter _ _ _ _ _
    rw [hn]; simpa using Heap.get?_push_size _ rfl
  · intro b hb
    rw [List.mem_singleton.mp hb, Heap.size_push]; exact Nat.lt_succ_self _
  · intro b hb
    rw [List.mem_singleton.mp hb]; exact hgI
  · intro C R h fC fR hk
    exact h0 C R _ h (push_none rfl fC).1 (push_none rfl fR).1 hf
  · intro C R i ys h h' fC fR hi hM
    exact stab C R _ i ys h h' (push_none rfl fC).1 (push_none rfl fR).1 hf hi hM
  · rintro C R i v ys m h tk E' fC fR hCR hi ⟨t, rfl⟩ hyl hrel hst hpl hM F'
    exact turn.out C R s.heap.objs.size _ i t ys m h tk E' (push_none rfl fC).1 (push_none rfl fR).1 hf hgI hCR (push_none rfl fC).2 (push_none rfl fR).2 hi hyl hrel (hkeep hM) hst hpl F'
  · intro C R ys h tk m fC fR hCR hn hrel hpl hM
    exact done.out C R _ ys h tk m (push_none rfl fC).1 (push_none rfl fR).1 hf hCR (push_none rfl fC).2 (push_none rfl fR).2 hn hrel hpl (hkeep hM)
/-- a comprehension over a list -/
theorem comp_seqG {T : Addr} {oT : Obj} {items : Array Value} {nn : Nat} (hh : A.handled = none) (hT : s.heap.get? T = some oT) (hoc : oT.cls = .type "list") (hod : oT.data = .seq items nn) (hz : items.size ≤ 1000) (hg : Kept g s.heap) (hgs : g.objs.size ≤ s.heap.objs.size)
    (Rel : Addr → Addr → Addr → Nat → List Value → Heap → Prop)
    (h0 : ∀ C R I h, s.heap.get? C = none → s.heap.get? R = none → s.heap.get? I = none → Rel C R I 0 [] h)
    (stab : ∀ C R I i ys h h', s.heap.get? C = none → s.heap.get? R = none → s.heap.get? I = none → Rel C R I i ys h → Mod [C, R, I] h h' → Rel C R I i ys h')
    (turn : Hold (∀ C R I oI i v ys (m : Str → Option Value) h tk (E' : Value → Shared → Prop), s.heap.get? C = none → s.heap.get? R = none → s.heap.get? I = none → g.get? I = none → C ≠ R → I ≠ C → I ≠ R → items[i]? = some v → ys.length ≤ i → Rel C R I i ys h → Kept s.heap h → h.get? I = some oI → h.PlainList R ys.toArray →
      Fr g C h (fun y => if y = x then some v else m y) → TurnG prog w A (compEnvC scope cl C env) ifs elt s h tk E' (fun y h₄ => Rel C R I (i + 1) (ys ++ [y]) h₄) (fun h₃ => Rel C R I (i + 1) ys h₃)))
    (done : Hold (∀ C R I ys h tk m, s.heap.get? C = none → s.heap.get? R = none → s.heap.get? I = none → C ≠ R → I ≠ C → I ≠ R → h.Ns C m → Rel C R I items.size ys h → h.PlainList R ys.toArray → Kept s.heap h → compPost (model prog w) A E use Q (.ref R) C (.ok .next) ⟨h, s.gens, s.drawn, tk, s.os⟩)) :
    wpAny (model prog w) A (pyIter (.ref T)) (fun it s₂ => CompG prog w A g env scope cl x ifs elt E use Q it s₂) E s := by
  have hf := fresh_size s.heap
  have hgI : g.get? s.heap.objs.size = none := by
    cases q : g.get? s.heap.objs.size with
    | none => rfl
    | some o => rw [hg _ _ q] at hf; cases hf
  have hne : T ≠ s.heap.objs.size := Nat.ne_of_lt (Heap.lt_size hT)
  have hl : s.heap.IsList T items := ⟨oT, hT, hoc, nn, hod⟩
  refine wpAny_pyIter_list hl ?_
  have hkeep : ∀ {o h : _}, Mod [s.heap.objs.size] (s.heap.push o) h → Kept s.heap h := fun hM b o e => hM.keep b o (fun q => by rw [List.mem_singleton.mp q, hf] at e; cases e) (Heap.get?_push_of_some _ e)
  refine ⟨_, [s.heap.objs.size, T], [s.heap.objs.size], items.size, _, _, fun C R i ys h => Rel C R s.heap.objs.size i ys h, rfl, Walks.list hh _ _ hne _, hz, ⟨⟨_, Heap.get?_push_size _ rfl, rfl, rfl⟩, hl.at fun o e => Heap.get?_push_of_some _ e⟩, ?_, ?_, fun b o e => Heap.get?_push_of_some _ (hg b o e), by rw [Heap.size_push]; exact Nat.le_succ_of_le hgs, ?_, ?_, ?_, ?_⟩
  · intro b hb
    rw [Heap.size_push]
    rcases List.mem_cons.mp hb with rfl | hb
    · exact Nat.lt_succ_self _
    · rw [List.mem_singleton.mp hb]; exact Nat.lt_succ_of_lt (Heap.lt_size hT)
  · intro b hb
    rw [List.mem_singleton.mp hb]; exact hgI
  · intro C R h fC fR hk
    exact h0 C R _ h (push_none rfl fC).1 (push_none rfl fR).1 hf
  · intro C R i ys h h' fC fR hi hM
    exact stab C R _ i ys h h' (push_none rfl fC).1 (push_none rfl fR).1 hf hi hM
  · intro C R i v ys m h tk E' fC fR hCR hi hv hyl hrel hR3 hpl hM F'
    refine Classical.byContradiction fun hGG => ?_
    obtain ⟨⟨oI, hI, _⟩, _⟩ := hR3
    refine hGG ?_
    clear hGG
    exact turn.out C R s.heap.objs.size oI i v ys m h tk E' (push_none rfl fC).1 (push_none rfl fR).1 hf hgI hCR (push_none rfl fC).2 (push_none rfl fR).2 hv hyl hrel (hkeep hM) hI hpl F'
  · intro C R ys h tk m fC fR hCR hn hrel hpl hM
    exact done.out C R _ ys h tk m (push_none rfl fC).1 (push_none rfl fR).1 hf hCR (push_none rfl fC).2 (push_none rfl fR).2 hn hrel hpl (hkeep hM)
end
section
variable {prog : Program} {w : World} {A A₀ : Around} {s : Shared} {K : Frag} {L : Addr} {h₀ base : Heap} {m mg mb : Str → Option Value} {news : List (Addr × Obj)} {p : Program} {loose : List Str} {mean : ExcName → Option Value}
/-- entry of a def with cells -/
theorem enterC {env : Env} {outer : List Env} {R : Result → Shared → Prop} {name qual : Str} {params : Arguments} {body : List Stmt} {scope : Scope} {dV kV doc pm cdv ct oc : Value} {an od : Option Addr} {osl : Array (Option Value)} {f : Addr} {args : Args} {binds : List (Str × Value)}
    (B : Below A₀ base outer h₀) (F : Fr h₀ L s.heap m) (X₀ : K.In h₀) (N : News h₀ L s.heap news) (T : Top p loose mean mg mb h₀) (hA : A.frames = some (env :: outer)) (hf : env.frame = some L) (hke : env.scope.kind = .function)
    (ho : K.lookup f = some ⟨oc, od, .func (fnOf name qual params body scope dV kV doc pm an cdv ct), osl⟩) (hcd : codeIn K cdv qual = true) (hroom : A.depth < recursionLimit)
    (hbind : BindsTo s (fnOf name qual params body scope dV kV doc pm an cdv ct) args binds) (hkind : (binds.all fun y => scope.names.lookup y.1 == some .local || scope.names.lookup y.1 == some .cell) = true)
    (hnd : ((cellsFrom 0 scope.names []).map (·.1)).Nodup)
    (h : ∀ g L' h₁ tk cells, Held news s.heap g → s.heap.objs.size = L' → (∀ b o, s.heap.get? b = some o → h₁.get? b = some o) → Fr g L' h₁ (bindL (envOfC qual scope L' f cdv).kindOf binds fun _ => none) → News g L' h₁ (cells ++ news) →
      CellsAre (bindC (envOfC qual scope L' f cdv).kindOf binds fun _ => none) (cellsFrom (L' + 1) scope.names []) cells → Below A base (env :: outer) g → K.In g → Top p loose mean mg mb g → (∀ p ∈ cells, s.heap.get? p.1 = none) →
      wpAny (model prog w) (A.deeper (envOfC qual scope L' f cdv)) (execs body (envOfC qual scope L' f cdv))
        (fun fl s' => BackM g s.heap (news.map (·.1)) R (match fl with | .ret v => v | _ => .none) s')
        (fun e s' => wpAny (model prog w) (A.deeper (envOfC qual scope L' f cdv)) (leaving (envOfC qual scope L' f cdv) e) (fun _ s'' => R (.error e) s'') (fun e' s'' => R (.error e') s'') s')
        { s with heap := h₁, toks := tk })
    (hco : scope.isCoroutine = false) (hgen : scope.isGenerator = false) (hk : scope.kind = .function) : codeAny (model prog w) A (.call (.ref f) args) R s := by
  refine Classical.byContradiction fun hGG => ?_
  obtain ⟨FG, BG, st, lv⟩ := groundX (R := R) B F N hA hf hke
  refine hGG ?_
  clear hGG
  refine codeAny_call_function hroom ((X₀.keeps F.keep) _ _ ho) rfl hco hgen rfl (codeRec_of (X₀.keeps F.keep) hcd) (hbind _ _ _ _ ?_)
  refine wpAny_newFunctionEnv_cells hk (kindsX hkind _) fun env' he s' x => ?_
  subst he
  refine ⟨(T.nolimit.keeps F.keep).keeps x.toInCall.keep, codeAny_func ?_⟩
  refine Classical.byContradiction fun hGG => ?_
  obtain ⟨h₁, tk, rfl, _⟩ := x.done
  refine hGG ?_
  clear hGG
  have hk₁ := x.toInCall.keep
  refine Classical.byContradiction fun hGG => ?_
  obtain ⟨cells, NC, Y⟩ := Cl.news (h₀ := s.heap) (Nat.le_refl _) fun n c hm => ⟨x.cell n c (lookup_of_mem_nodup (cellsFrom_names scope.names 0 (s.heap.objs.size + 1) [] [] rfl ▸ hnd) hm), x.above n c hm⟩
  refine hGG ?_
  clear hGG
  have HD : Held news s.heap (hideAll s.heap (news.map (·.1))) := fun b o hb e => hideAll_get _ e fun q => by
    refine Classical.byContradiction fun hGG => ?_
    obtain ⟨p, hp, e'⟩ := List.mem_map.mp q
    refine hGG ?_
    clear hGG
    exact hb p hp e'
  refine wpAny_mono (h _ s.heap.objs.size h₁ tk cells HD rfl hk₁ ⟨x.toInCall.ns, fun b o e => hk₁ b o (of_hideAll _ e), Nat.le_of_eq (hideAll_size _ _)⟩ (fun p hp => ?_) Y BG (X₀.keeps st) (T.keeps st) (fun p hp => (NC p hp).2.2)) (fun fl s' hl => ?_) fun _ _ y => y
  · rcases List.mem_append.mp hp with hp | hp
    · refine ⟨(NC p hp).1, (NC p hp).2.1, ?_⟩
      cases q : (hideAll s.heap (news.map (·.1))).get? p.1 with
      | none => rfl
      | some o => have := of_hideAll _ q; rw [(NC p hp).2.2] at this; cases this
    · exact ⟨hk₁ _ _ (N p hp).1, Nat.ne_of_lt (Heap.lt_size (N p hp).1), hideAll_none _ (List.mem_map_of_mem hp)⟩
  · refine Classical.byContradiction fun hGG => ?_
    obtain ⟨L', m', F₂, k⟩ := hl
    refine hGG ?_
    clear hGG
    exact k ⟨fun b o hb e => F₂.keep b o (HD b o (fun p hp q => hb (List.mem_map.mpr ⟨p, hp, q⟩)) e)⟩
end
theorem fill : PySem.Challenge.rw_nq0174_01 = PySem.Challenge.rw_nq0174_01 ∧ Mine.hd.heap_1 = Mine.hd.heap_1 := by
  k_fill
  exact ⟨rfl, rfl⟩

structure Ent where
  a : Addr
  k : Array UInt8
  kt : Tok
  p : Int
  pt : Tok
  n : Nat
noncomputable def Ent.val (e : Ent) : Value := .ref e.a
noncomputable def Ent.obj (e : Ent) : Obj := pairObj (.bytes e.k e.kt) (.int e.p e.pt) e.n
noncomputable def Ent.lt (x y : Ent) : Bool := if decide (x.k.toList = y.k.toList) then decide (x.p < y.p) else (Builtin.Bytes.order x.k.toList y.k.toList == .lt)

theorem gd12 {M : Model} {A : Around} {x1 : _} {x2 : _} {x3 : _} {x4 : _} {Q : _} {E : Value → Shared → Prop} {s : Shared} (h : wpAny M A (setItem (Value.ref x1) (Value.int x2 x3) (Ent.val x4)) Q E s) : wpAny M A (setItem (Value.ref x1) (Value.int x2 x3) (Ent.val x4)) Q E s := h
theorem gd13 {M : Model} {A : Around} {x1 : _} {x2 : _} {x3 : _} {Q : _} {E : Value → Shared → Prop} {s : Shared} (h : wpAny M A (call (Value.builtin x1) [Value.ref x2, Ent.val x3]) Q E s) : wpAny M A (call (Value.builtin x1) [Value.ref x2, Ent.val x3]) Q E s := h
noncomputable def sdLoopF : Nat → Ent → List Ent → Nat → List Ent
  | 0, e, es, pos => es.set pos e
  | k + 1, e, es, pos => if pos = 0 then es.set pos e else if e.lt (es.getD ((pos - 1) / 2) e) then sdLoopF k e (es.set pos (es.getD ((pos - 1) / 2) e)) ((pos - 1) / 2) else es.set pos e
noncomputable def sdLoop (e : Ent) (es : List Ent) (pos : Nat) : List Ent := sdLoopF pos e es pos
theorem sdLoopF_eq (e : Ent) : ∀ (k m : Nat) (es : List Ent) (pos : Nat), pos ≤ k → pos ≤ m → sdLoopF k e es pos = sdLoopF m e es pos := by
  intro k
  induction k with
  | zero =>
    intro m es pos h _
    cases m with
    | zero => rfl
    | succ m => exact (if_pos (Nat.le_zero.mp h)).symm
  | succ k ih =>
    intro m es pos h h'
    cases m with
    | zero => exact if_pos (Nat.le_zero.mp h')
    | succ m =>
      have q1 : (pos - 1) / 2 ≤ k := Nat.le_trans (Nat.div_le_self _ _) (Nat.sub_le_of_le_add h)
      have q2 : (pos - 1) / 2 ≤ m := Nat.le_trans (Nat.div_le_self _ _) (Nat.sub_le_of_le_add h')
      show (if _ then _ else if _ then _ else _) = (if _ then _ else if _ then _ else _)
      rw [ih m _ _ q1 q2]
theorem sdLoop_eq (e : Ent) (es : List Ent) (pos : Nat) : sdLoop e es pos = if pos = 0 then es.set pos e else if e.lt (es.getD ((pos - 1) / 2) e) then sdLoop e (es.set pos (es.getD ((pos - 1) / 2) e)) ((pos - 1) / 2) else es.set pos e := by
  have h : sdLoop e es pos = sdLoopF (pos + 1) e es pos := sdLoopF_eq e _ _ _ _ (Nat.le_refl _) (Nat.le_succ _)
  rw [h]
  show (if _ then _ else if _ then _ else _) = _
  rw [sdLoopF_eq e pos ((pos - 1) / 2) _ _ (Nat.le_trans (Nat.div_le_self _ _) (Nat.sub_le _ _)) (Nat.le_refl _)]
  rfl

noncomputable abbrev entList (es : List Ent) (n : Nat) : Obj := listOf (es.map Ent.val).toArray n

noncomputable def e0 : Ent := ⟨0, #[], 0, 0, 0, 0⟩
section
variable {prog : Program} {w : World} {A : Around} {E : Value → Shared → Prop} {s : Shared} {h₀ : Heap} {L : Addr} {m : Str → Option Value} {news news' : List (Addr × Obj)}
theorem ent_item {value slice : PySem.Expr} {H : Addr} {es : List Ent} {n : Nat} {i : Int} {u : Tok} {Q : Value → Shared → Prop} (N : News h₀ L s.heap news) (hm : (H, entList es n) ∈ news) (hi : 0 ≤ i) (hk : i < es.length) (hz : es.length ≤ 1000)
    (h : Q (es.getD i.toNat e0).val s) (hs : subscripted slice false (.ref H) (.int i u) = operate [.ref H, .int i u] (getItem (.ref H) (.int i u)) := by with_unfolding_all rfl) :
    wpAny (model prog w) A (subscriptTail value slice (.ref H) (.int i u)) Q E s := by
  have hl : s.heap.IsList H (es.map Ent.val).toArray := PySem.IsL.isList (n := n) (N _ hm).1
  refine tail_any hl.typeIs slot_list_getitem.lookup (wpAny_getItem_list hl hi (by lia) ?_ h) hs
  have : i.toNat < es.length := by lia
  simp [this]
theorem ent_set {H : Addr} {es : List Ent} {n : Nat} {i : Int} {u : Tok} {e : Ent} {Q : Unit → Shared → Prop} (F : Fr h₀ L s.heap m) (N : News h₀ L s.heap news) (U : Upd H (entList es n) (entList (es.set i.toNat e) n) news news') (hi : 0 ≤ i) (hk : i < es.length) (hz : es.length ≤ 1000)
    (h : ∀ h', Fr h₀ L h' m → News h₀ L h' news' → Q () { s with heap := h' }) :
    wpAny (model prog w) A (setItem (.ref H) (.int i u) e.val) Q E s := by
  obtain ⟨pre, post, rfl, rfl, a, b⟩ := U.split
  have z := N (H, entList es n) (List.mem_append.mpr (.inr (.head _)))
  refine ki_setAt z.1 hi (by lia) (by simp; lia) (h _ (F.change (Heap.SameBut.update ..) z.2.1 z.2.2) (ki_turn _ N a b ?_ ?_))
  · show ((es.map Ent.val).toArray).setIfInBounds i.toNat e.val = ((es.set i.toNat e).map Ent.val).toArray
    apply Array.toList_inj.mp
    simp
  · simp
theorem ent_lt {x y : Ent} {Q : Value → Shared → Prop} (hx : s.heap.get? x.a = some x.obj) (hy : s.heap.get? y.a = some y.obj) (hu : A.units < cLine) (h : Q (.bool (x.lt y)) s) :
    wpAny (model prog w) A (compareOp .Lt x.val y.val) Q E s :=
  lt_pair hx hy (Ord2.bytes ..) (Ord2.int ..) (by intro e; simp at e; simp [e]) hu (by simpa [Ent.lt] using h)
theorem ent_append {H : Addr} {es : List Ent} {n : Nat} {e : Ent} {Q : Value → Shared → Prop} (F : Fr h₀ L s.heap m) (N : News h₀ L s.heap news) (U : Upd H (entList es n) (entList (es ++ [e]) (n + 1)) news news') (hz : es.length ≤ 1000)
    (h : ∀ h', Fr h₀ L h' m → News h₀ L h' news' → Q .none { s with heap := h' }) : wpAny (model prog w) A (call (.builtin "list.append") [.ref H, e.val]) Q E s := by
  have eq : entList (es ++ [e]) (n + 1) = listOf ((es.map Ent.val).toArray.push e.val) (n + 1) := by simp [entList]
  rw [eq] at U
  exact append_K F N U h (by simp [sizeLine]; lia)
theorem kl_last_append : ∀ (l : List Value) (x : Value), kl_last (l ++ [x]) = some (l, x)
  | [], _ => rfl
  | a :: r, x => by
    have := kl_last_append r x
    rw [List.cons_append, kl_last, this]
theorem ent_pop {H : Addr} {es : List Ent} {n : Nat} {e : Ent} {Q : Value → Shared → Prop} (F : Fr h₀ L s.heap m) (N : News h₀ L s.heap news) (U : Upd H (entList (es ++ [e]) n) (entList es (n + 1)) news news') (hz : es.length ≤ 1000)
    (h : ∀ h', Fr h₀ L h' m → News h₀ L h' news' → Q e.val { s with heap := h' }) : wpAny (model prog w) A (call (.builtin "list.pop") [.ref H]) Q E s := by
  refine kl_pop (p := es.map Ent.val) F N ?_ U (by simp [sizeLine]; lia) h
  simp [kl_last_append]
theorem lst_len {H : Addr} {vs : List Value} {n : Nat} {Q : Value → Shared → Prop} (N : News h₀ L s.heap news) (hm : (H, listOf vs.toArray n) ∈ news) (hz : vs.length ≤ 1000)
    (h : ∀ t tk, Q (.int (vs.length : Int) t) ⟨s.heap, s.gens, s.drawn, tk, s.os⟩) : wpAny (model prog w) A (call (.builtin "len") [.ref H]) Q E s := by
  have hl : s.heap.IsList H vs.toArray := PySem.IsL.isList (n := n) (N _ hm).1
  refine call_len_list hl (by simp; lia) ?_
  simpa using h _ _
theorem lst_truthy {H : Addr} {vs : List Value} {n : Nat} {Q : Bool → Shared → Prop} (N : News h₀ L s.heap news) (hm : (H, listOf vs.toArray n) ∈ news) (hz : vs.length ≤ 1000)
    (h : ∀ tk, Q (decide (0 < vs.length)) ⟨s.heap, s.gens, s.drawn, tk, s.os⟩) : wpAny (model prog w) A (truthy (.ref H)) Q E s := by
  have hl : s.heap.IsList H vs.toArray := PySem.IsL.isList (n := n) (N _ hm).1
  refine wpAny_truthy_list hl (by simp; lia) ?_
  have e : (!vs.toArray.isEmpty) = decide (0 < vs.length) := by
    cases vs <;> simp
  rw [e]; exact h _
end
theorem mode2 : True := by
  w_top off
  k_with_none
  trivial
theorem fillHQ2 : PySem.Challenge.rw_nq0174_01 = PySem.Challenge.rw_nq0174_01 ∧ Mine.hd.heap_1 = Mine.hd.heap_1 := by
  k_fill
  exact ⟨rfl, rfl⟩
local macro_rules | `(tactic| walk_at "binaryOp RShift int int") => `(tactic| (k_here; (with_reducible refine gd2 ?_); refine wpAny_rshift1_int (by lia) ?_; (try dsimp only)))
section
local macro_rules | `(tactic| walk_at "storeName") => `(tactic| (k_here; k_dflt (refine' storeT ?k1 ?k2 ?_ ?k3 ?k4); (case k1 | k2 => k_asm); (case k3 | k4 => exact rfl); k_whole; intro h' tk' F' N'; (try dsimp only); (try k_sweep)))
local macro_rules | `(tactic| walk_at "storeName") => `(tactic| (k_here; (with_reducible refine gd1 ?_); k_dflt (refine' storeT_int ?k1 ?k2 ?_ ?k3 ?k4); (case k1 | k2 => k_asm); (case k3 | k4 => exact rfl); k_whole; intro h' tk' t' F' N'; (try dsimp only); (try k_sweep)))
local macro_rules | `(tactic| walk_at "subscriptTail") => `(tactic| (k_here; (with_reducible refine gd6 ?_); (refine' ent_item ?k1 ?k2 ?k3 ?k4 ?k5 ?_ ?k7; (case k1 => k_asm); (case k2 => k_mem); (case k3 | k4 | k5 => lia); (case k7 => with_unfolding_all rfl); k_whole); (try simp only [Int.toNat_natCast])))
local macro_rules | `(tactic| walk_at "setItem ref int") => `(tactic| (k_here; (with_reducible refine gd12 ?_); (refine' ent_set ?k1 ?k2 ?k3 ?k4 ?k5 ?k6 ?_; (case k1 | k2 => k_asm); (case k3 => k_upd); (case k4 | k5 | k6 => lia); k_whole); intro h' F' N'; (try simp only [Int.toNat_natCast] at N'); (try k_sweep)))

theorem getD_mem {es : List Ent} {k : Nat} (h : k < es.length) : es.getD k e0 ∈ es := by
  have : es.getD k e0 = es[k] := by simp [h]
  rw [this]; exact List.getElem_mem h
theorem sdLoop_stop {e : Ent} {es : List Ent} {pos : Nat} (h : pos = 0 ∨ e.lt (es.getD ((pos - 1) / 2) e0) = false) (hp : pos < es.length) : sdLoop e es pos = es.set pos e := by
  rw [sdLoop_eq]
  split
  · rfl
  · rename_i h0
    have hk : (pos - 1) / 2 < es.length := by lia
    have : es.getD ((pos - 1) / 2) e = es.getD ((pos - 1) / 2) e0 := by simp [hk]
    rw [this, h.resolve_left h0]; rfl
theorem sdLoop_go {e : Ent} {es : List Ent} {pos : Nat} (h0 : pos ≠ 0) (h : e.lt (es.getD ((pos - 1) / 2) e0) = true) (hp : pos < es.length) : sdLoop e es pos = sdLoop e (es.set pos (es.getD ((pos - 1) / 2) e0)) ((pos - 1) / 2) := by
  rw [sdLoop_eq, if_neg h0]
  have hk : (pos - 1) / 2 < es.length := by lia
  have : es.getD ((pos - 1) / 2) e = es.getD ((pos - 1) / 2) e0 := by simp [hk]
  rw [this, if_pos h]

theorem siftdown_spec {prog : Program} {w : World} {loose : List Str} {mean : ExcName → Option Value} {mg mb : Str → Option Value} 
  {dp un : Nat} {gd : Option (List Code)} {cn : Str} {cs : Scope} {a : Addr} {ccd : Value} {cl : List (Str × Addr)} {outer : List Env} {A₀ : Around} {base h₀ : Heap} {L : Addr} {m : Str → Option Value} {s : Shared} {H : Addr} {es : List Ent} {n p : Nat} {t1 t2 : Tok} {i : Int}
    {Q E : Value → Shared → Prop}
    (B : Below A₀ base outer h₀) (F : Fr h₀ L s.heap m) (X : (Mine.hd.heap_1 w.params).In h₀) (N : News h₀ L s.heap [(H, entList es n)]) (T : Top Mine.hd.view_1 loose mean mg mb h₀) (hk : cs.kind = .function) 
    (hd : dp + 10 < recursionLimit) (hu : un + 80 < cLine) (hes : ∀ e ∈ es, s.heap.get? e.a = some e.obj) (hp : i = (p : Int)) (hp2 : p < es.length) (hz : es.length ≤ 1000)
    (ret : ∀ h' tk' n', Mod [H] s.heap h' → h'.get? H = some (entList (sdLoop (es.getD p e0) es p) n') → Q .none { s with heap := h', toks := tk' }) :
    wpAny (model prog w) (ktrTop dp un gd cn cs L a ccd cl outer) (call (.ref 169) [.ref H, .int 0 t1, .int i t2]) Q E s := by
  subst hp
  refine wpAny_call ?_
  k_dflt refine' enterM (binds := [(Str.ofString "heap", Value.ref H), (Str.ofString "startpos", Value.int 0 t1), (Str.ofString "pos", Value.int (p : Int) t2)]) ?k1 ?k2 ?k3 ?k4 ?k5 ?kA ?kF ?kK ?k6 ?k7 ?k8 ?k9 ?kB ?_ ?c2 ?c3 ?c4 ?c5
  k_dflt ((case kA | kF => exact rfl); (case kK => first | assumption | exact rfl); (case k1 | k2 | k3 | k4 | k5 => k_asm); (case k6 | k7 => k_is); (case k8 => ktr_room); (case k9 => exact BindsTo.of_eq rfl); (case c5 => decide); (case kB => exact locs rfl); (case c2 | c3 | c4 => exact rfl); k_whole)
  intro g' L' h' hHeld' hSize' hKeep' F' N' B' X' T'
  refine hide fun QA hQA => ?_
  have hge : ∀ e ∈ es, g'.get? e.a = some e.obj := fun e he => hHeld' _ _ (fun p hp => by
    simp only [List.mem_singleton] at hp
    subst hp
    intro q
    have h1 := hes e he
    have h2 := (N _ (List.mem_singleton.mpr rfl)).1
    dsimp only at q h2
    rw [← q, h2] at h1
    simp [entList, Ent.obj, pairObj] at h1) (hes e he)
  try k_fold
  clear N F
  k_with "exec While Compare cons nil" => (
    (rename Fr g' L' _ _ => lF'); (rename News g' L' _ _ => lN');
    refine' whileM (σ := List Ent × Nat × Tok) (fun c => [(H, entList c.1 n)]) (fun c => [(Str.ofString "pos", Value.int (c.2.1 : Int) c.2.2)]) [Str.ofString "parentpos", Str.ofString "parent"]
      (fun c => c.1.length = es.length ∧ c.2.1 < es.length ∧ (∀ e ∈ c.1, e ∈ es) ∧ sdLoop (es.getD p e0) c.1 c.2.1 = sdLoop (es.getD p e0) es p) (fun c => c.2.1) (es, p, t2) lF' lN' ?kk ⟨rfl, hp2, fun _ h => h, rfl⟩ ?kt ?kE; case kk => kst_all)
  k_with "compareOp Lt" => (refine ent_lt (Fr.keep (by k_asm) _ _ (hge _ ?kx)) (Fr.keep (by k_asm) _ _ (hge _ ?ky)) (by ktr_units) ?_)
  k_steps
  case kt =>
    refine ⟨?_⟩
    rintro ⟨es', pos', tk'⟩ u h tk ⟨h1, h2, h3, h4⟩ F1 N1
    dsimp only at h1 h2 h3 h4 F1 N1
    clear lF' lN'
    k_steps
    case kx => exact getD_mem hp2
    case ky => exact h3 _ (getD_mem (by lia))
    all_goals ((rename Fr g' L' _ _ => lF); (rename News g' L' _ _ => lN))
    · have e : ((pos' : Int) - 1) / 2 = (((pos' - 1) / 2 : Nat) : Int) := by lia
      rw [e] at lF lN
      rw [Int.toNat_natCast] at lF lN
      rename (es.getD p e0).lt _ = true => hlt
      rw [e, Int.toNat_natCast] at hlt
      refine ksw_end (es'.set pos' (es'.getD ((pos' - 1) / 2) e0), (pos' - 1) / 2, _) lF lN (fun p hp => hp) trivial (by kst_all) (by (intro z h2 h3; simp only [List.forall_mem_cons, List.not_mem_nil, false_implies, implies_true, and_true, ne_eq] at h2; (try simp only [List.contains_cons, List.contains_nil, Bool.or_false, Bool.or_eq_false_iff, beq_eq_false_iff_ne, ne_eq] at h3); simp [h2, h3, kstB])) ⟨by simp [h1], by dsimp only; lia, fun q hq => ?_, ?_⟩ (by dsimp only; lia)
      · rcases List.mem_or_eq_of_mem_set hq with hq | rfl
        · exact h3 _ hq
        · exact h3 _ (getD_mem (by lia))
      · rw [← h4, sdLoop_go (by lia) hlt (by lia)]
    · rename (es.getD p e0).lt _ = false => hlt
      have e : ((pos' : Int) - 1) / 2 = (((pos' - 1) / 2 : Nat) : Int) := by lia
      rw [e, Int.toNat_natCast] at hlt
      refine hQA _ _ ?_
      refine backM_ lF fun hM => ret _ _ n hM ?_
      rw [← h4, sdLoop_stop (.inr hlt) (by lia)]
      exact (lN _ (.head _)).1
    · refine hQA _ _ ?_
      refine backM_ lF fun hM => ret _ _ n hM ?_
      rw [← h4, sdLoop_stop (.inl (by lia)) (by lia)]
      exact (lN _ (.head _)).1
end
theorem mode3 : True := by
  w_top off
  k_with_none
  trivial
local macro_rules | `(tactic| walk_at "my nums") => `(tactic| ((try simp only [List.length_map, List.length_append, List.length_set, List.length_cons, List.length_nil, ivals_len] at *); lia))
local macro_rules | `(tactic| walk_at "my lens") => `(tactic| (try simp only [List.length_map, List.length_append, List.length_set, ivals_len]))
local macro_rules | `(tactic| walk_at "storeName") => `(tactic| (k_here; k_dflt (refine' storeT ?k1 ?k2 ?_ ?k3 ?k4; (case k1 | k2 => k_asm); (case k3 | k4 => exact rfl); k_whole); intro h' tk' F' N'; (try dsimp only); (try k_sweep)))
local macro_rules | `(tactic| walk_at "storeName") => `(tactic| (k_here; (with_reducible refine gd1 ?_); k_dflt (refine' storeT_int ?k1 ?k2 ?_ ?k3 ?k4; (case k1 | k2 => k_asm); (case k3 | k4 => exact rfl); k_whole); intro h' tk' t' F' N'; (try dsimp only); (try k_sweep)))
local macro_rules | `(tactic| walk_at "call builtin:len") => `(tactic| (k_here; (with_reducible refine gd3 ?_); (refine' lst_len ?k1 ?k2 ?k3 ?_; (case k1 => k_asm); (case k2 => k_mem); (case k3 => walk_at "my nums"); k_whole); intro t' tk'; walk_at "my lens"))
local macro_rules | `(tactic| walk_at "truthy ref") => `(tactic| (k_here; (refine' lst_truthy ?k1 ?k2 ?k3 ?_; (case k1 => k_asm); (case k2 => k_mem); (case k3 => walk_at "my nums"); k_whole); intro tk'; walk_at "my lens"))
section
local macro_rules | `(tactic| k_room) => `(tactic| ktr_room)
local macro_rules | `(tactic| walk_at "subscriptTail") => `(tactic| (k_here; (with_reducible refine gd6 ?_); (refine' ent_item ?k1 ?k2 ?k3 ?k4 ?k5 ?_ ?k7; (case k1 => k_asm); (case k2 => k_mem); (case k3 | k4 | k5 => lia); (case k7 => with_unfolding_all rfl); k_whole); (try simp only [Int.toNat_natCast])))
local macro_rules | `(tactic| walk_at "setItem ref int") => `(tactic| (k_here; (with_reducible refine gd12 ?_); (refine' ent_set ?k1 ?k2 ?k3 ?k4 ?k5 ?k6 ?_; (case k1 | k2 => k_asm); (case k3 => k_upd); (case k4 | k5 | k6 => lia); k_whole); intro h' F' N'; (try simp only [Int.toNat_natCast] at N'); (try k_sweep)))

noncomputable def suPick (es : List Ent) (pos : Nat) : Nat :=
  if 2 * pos + 2 < es.length ∧ (es.getD (2 * pos + 1) e0).lt (es.getD (2 * pos + 2) e0) = false then 2 * pos + 2 else 2 * pos + 1
theorem suPick_gt (es : List Ent) (pos : Nat) : pos < suPick es pos := by unfold suPick; split <;> lia
noncomputable def suLoopF : Nat → List Ent → Nat → List Ent × Nat
  | 0, es, pos => (es, pos)
  | k + 1, es, pos => if 2 * pos + 1 < es.length then suLoopF k (es.set pos (es.getD (suPick es pos) e0)) (suPick es pos) else (es, pos)
noncomputable def suLoop (es : List Ent) (pos : Nat) : List Ent × Nat := suLoopF (es.length - pos) es pos
theorem suLoopF_eq : ∀ (k m : Nat) (es : List Ent) (pos : Nat), es.length - pos ≤ k → es.length - pos ≤ m → suLoopF k es pos = suLoopF m es pos := by
  intro k
  induction k with
  | zero =>
    intro m es pos h _
    cases m with
    | zero => rfl
    | succ m => exact (if_neg (by lia)).symm
  | succ k ih =>
    intro m es pos h h'
    have g := suPick_gt es pos
    cases m with
    | zero => exact if_neg (by lia)
    | succ m =>
      show (if _ then _ else _) = (if _ then _ else _)
      by_cases q : 2 * pos + 1 < es.length
      · rw [if_pos q, if_pos q]
        exact ih m _ _ (by rw [List.length_set]; lia) (by rw [List.length_set]; lia)
      · rw [if_neg q, if_neg q]
noncomputable def suAll (e : Ent) (es : List Ent) : List Ent := sdLoop e ((suLoop es 0).1.set (suLoop es 0).2 e) (suLoop es 0).2

theorem suLoop_go {es : List Ent} {pos : Nat} (h : 2 * pos + 1 < es.length) : suLoop es pos = suLoop (es.set pos (es.getD (suPick es pos) e0)) (suPick es pos) := by
  have g := suPick_gt es pos
  have e : suLoop es pos = suLoopF (es.length - pos + 1) es pos := suLoopF_eq _ _ es pos (Nat.le_refl _) (Nat.le_succ _)
  rw [e]
  refine (if_pos h).trans ?_
  exact suLoopF_eq _ _ _ _ (by rw [List.length_set]; lia) (Nat.le_refl _)
theorem suLoop_stop {es : List Ent} {pos : Nat} (h : ¬ 2 * pos + 1 < es.length) : suLoop es pos = (es, pos) := by
  have e : suLoop es pos = suLoopF (es.length - pos + 1) es pos := suLoopF_eq _ _ es pos (Nat.le_refl _) (Nat.le_succ _)
  rw [e]
  exact if_neg h
theorem suPick_lt {es : List Ent} {pos : Nat} (h : 2 * pos + 1 < es.length) : suPick es pos < es.length := by unfold suPick; split <;> lia

theorem siftup_spec {prog : Program} {w : World} {loose : List Str} {mean : ExcName → Option Value} {mg mb : Str → Option Value} 
  {dp un : Nat} {gd : Option (List Code)} {cn : Str} {cs : Scope} {a : Addr} {ccd : Value} {cl : List (Str × Addr)} {outer : List Env} {A₀ : Around} {base h₀ : Heap} {L : Addr} {m : Str → Option Value} {s : Shared} {H : Addr} {es : List Ent} {n : Nat} {t1 : Tok}
    {Q E : Value → Shared → Prop}
    (B : Below A₀ base outer h₀) (F : Fr h₀ L s.heap m) (X : (Mine.hd.heap_1 w.params).In h₀) (N : News h₀ L s.heap [(H, entList es n)]) (T : Top Mine.hd.view_1 loose mean mg mb h₀) (hk : cs.kind = .function) 
    (hd : dp + 20 < recursionLimit) (hu : un + 160 < cLine) (hes : ∀ e ∈ es, s.heap.get? e.a = some e.obj) (hp2 : 0 < es.length) (hz : es.length ≤ 1000)
    (ret : ∀ h' tk' n', Mod [H] s.heap h' → h'.get? H = some (entList (suAll (es.getD 0 e0) es) n') → Q .none { s with heap := h', toks := tk' }) :
    wpAny (model prog w) (ktrTop dp un gd cn cs L a ccd cl outer) (call (.ref 176) [.ref H, .int 0 t1]) Q E s := by
  refine wpAny_call ?_
  k_dflt refine' enterM (binds := [(Str.ofString "heap", Value.ref H), (Str.ofString "pos", Value.int 0 t1)]) ?k1 ?k2 ?k3 ?k4 ?k5 ?kA ?kF ?kK ?k6 ?k7 ?k8 ?k9 ?kB ?_ ?c2 ?c3 ?c4 ?c5
  k_dflt ((case kA | kF => exact rfl); (case kK => first | assumption | exact rfl); (case k1 | k2 | k3 | k4 | k5 => k_asm); (case k6 | k7 => k_is); (case k8 => ktr_room); (case k9 => exact BindsTo.of_eq rfl); (case c5 => decide); (case kB => exact locs rfl); (case c2 | c3 | c4 => exact rfl); k_whole)
  intro g' L' h' hHeld' hSize' hKeep' F' N' B' X' T'
  refine hide fun QA hQA => ?_
  have hge : ∀ e ∈ es, g'.get? e.a = some e.obj := fun e he => hHeld' _ _ (fun p hp => by
    simp only [List.mem_singleton] at hp
    subst hp
    intro q
    have h1 := hes e he
    have h2 := (N _ (List.mem_singleton.mpr rfl)).1
    dsimp only at q h2
    rw [← q, h2] at h1
    simp [entList, Ent.obj, pairObj] at h1) (hes e he)
  try k_fold
  clear N F
  k_with "compareOp Lt" => (refine ent_lt (Fr.keep (by k_asm) _ _ (hge _ ?kx)) (Fr.keep (by k_asm) _ _ (hge _ ?ky)) (by first | exact roomB hu rfl | exact roomA hu rfl | ktr_units) ?_)
  k_with "exec While Compare cons nil" => (
    (rename Fr g' L' _ _ => lF'); (rename News g' L' _ _ => lN');
    refine' whileM2 (σ := List Ent × Nat × Tok × Tok) (fun c => [(H, entList c.1 n)]) (fun c => [(Str.ofString "pos", Value.int (c.2.1 : Int) c.2.2.1), (Str.ofString "childpos", Value.int (2 * (c.2.1 : Int) + 1) c.2.2.2)]) [Str.ofString "rightpos"]
      (fun c => c.1.length = es.length ∧ c.2.1 < es.length ∧ (∀ e ∈ c.1, e ∈ es) ∧ suLoop c.1 c.2.1 = suLoop es 0) (fun c => es.length - c.2.1) (es, 0, t1, _) lF' lN' ?kk ⟨rfl, hp2, fun _ h => h, rfl⟩ ?kt ?kE; case kk => kst_all)
  k_steps
  case kt =>
    refine ⟨?_⟩
    rintro ⟨es', pos', tp', tc'⟩ u h tk ⟨h1, h2, h3, h4⟩ F1 N1 QB hQB
    dsimp only at h1 h2 h3 h4 F1 N1
    clear lF' lN'
    have e1 : (2 * (pos' : Int) + 1).toNat = 2 * pos' + 1 := by lia
    have e2 : (2 * (pos' : Int) + 1 + 1).toNat = 2 * pos' + 2 := by lia
    have step : ∀ c, c = suPick es' pos' → 2 * pos' + 1 < es'.length →
        (es'.set pos' (es'.getD c e0)).length = es.length ∧ c < es.length ∧ (∀ e ∈ es'.set pos' (es'.getD c e0), e ∈ es) ∧ suLoop (es'.set pos' (es'.getD c e0)) c = suLoop es 0 := by
      rintro c rfl hc
      refine ⟨by simp [h1], by have := suPick_lt hc; lia, fun q hq => ?_, ?_⟩
      · rcases List.mem_or_eq_of_mem_set hq with hq | rfl
        · exact h3 _ hq
        · exact h3 _ (getD_mem (suPick_lt hc))
      · rw [← h4, suLoop_go hc]
    k_with "call ref" => (refine hold_of ?_)
    k_steps
    case kx => rw [e1]; exact h3 _ (getD_mem (by lia))
    case ky => rw [e2]; exact h3 _ (getD_mem (by lia))
    all_goals ((rename Fr g' L' _ _ => lF); (rename News g' L' _ _ => lN))
    · have hc : 2 * pos' + 1 = suPick es' pos' := by
        rename Ent.lt _ _ = true => hlt
        rw [e1, e2] at hlt
        unfold suPick
        rw [hlt]; simp
      rw [e1] at lN
      refine hQB _ _ ?_
      refine ksw_end (es'.set pos' (es'.getD (2 * pos' + 1) e0), 2 * pos' + 1, _, _) lF lN (fun p hp => hp) trivial (by kst_all) (by (intro z h2 h3; simp only [List.forall_mem_cons, List.not_mem_nil, false_implies, implies_true, and_true, ne_eq] at h2; (try simp only [List.contains_cons, List.contains_nil, Bool.or_false, Bool.or_eq_false_iff, beq_eq_false_iff_ne, ne_eq] at h3); simp [h2, h3, kstB])) (step _ hc (by lia)) (by dsimp only; lia)
    · have hc : 2 * pos' + 2 = suPick es' pos' := by
        rename Ent.lt _ _ = false => hlt
        rw [e1, e2] at hlt
        unfold suPick
        rw [hlt, if_pos ⟨by lia, rfl⟩]
      rw [e2] at lN
      refine hQB _ _ ?_
      refine ksw_end (es'.set pos' (es'.getD (2 * pos' + 2) e0), 2 * pos' + 2, _, _) lF lN (fun p hp => hp) trivial (by kst_all) (by (intro z h2 h3; simp only [List.forall_mem_cons, List.not_mem_nil, false_implies, implies_true, and_true, ne_eq] at h2; (try simp only [List.contains_cons, List.contains_nil, Bool.or_false, Bool.or_eq_false_iff, beq_eq_false_iff_ne, ne_eq] at h3); simp [h2, h3, kstB])) (step _ hc (by lia)) (by dsimp only; lia)
    · have hc : 2 * pos' + 1 = suPick es' pos' := by
        unfold suPick
        rw [if_neg]; lia
      rw [e1] at lN
      refine hQB _ _ ?_
      refine ksw_end (es'.set pos' (es'.getD (2 * pos' + 1) e0), 2 * pos' + 1, _, _) lF lN (fun p hp => hp) trivial (by kst_all) (by (intro z h2 h3; simp only [List.forall_mem_cons, List.not_mem_nil, false_implies, implies_true, and_true, ne_eq] at h2; (try simp only [List.contains_cons, List.contains_nil, Bool.or_false, Bool.or_eq_false_iff, beq_eq_false_iff_ne, ne_eq] at h3); simp [h2, h3, kstB])) (step _ hc (by lia)) (by dsimp only; lia)
    · have hs : suLoop es 0 = (es', pos') := by rw [← h4, suLoop_stop (by lia)]
      refine ⟨?_⟩
      k_dflt refine siftdown_spec B' lF X' lN T' rfl (by first | exact roomB hd rfl | exact roomA hd rfl | ktr_room) (by first | exact roomB hu rfl | exact roomA hu rfl | ktr_units) (p := pos') ?_ rfl (by simp; lia) (by simp; lia) ?_
      · intro e he
        refine lF.keep _ _ (hge e ?_)
        rcases List.mem_or_eq_of_mem_set he with he | rfl
        · exact h3 _ he
        · exact getD_mem hp2
      · intro h'' tk'' n'' hM hH
        have lF2 := hM.fr lF (fun a ha => by rw [List.mem_singleton.mp ha]; exact (lN _ (.head _)).2)
        clear lF lN
        k_steps
        refine hQA _ _ ?_
        refine backM_ lF2 fun hM' => ret _ _ n'' hM' ?_
        rw [hH]
        simp [suAll, hs, h1, h2]
end
theorem mode4 : True := by
  w_top off
  k_with_none
  trivial
section
local macro_rules | `(tactic| walk_at "subscriptTail") => `(tactic| (k_here; (with_reducible refine gd6 ?_); (refine' ent_item ?k1 ?k2 ?k3 ?k4 ?k5 ?_ ?k7; (case k1 => k_asm); (case k2 => k_mem); (case k3 | k4 | k5 => lia); (case k7 => with_unfolding_all rfl); k_whole); (try simp only [Int.toNat_natCast])))
local macro_rules | `(tactic| walk_at "setItem ref int") => `(tactic| (k_here; (with_reducible refine gd12 ?_); (refine' ent_set ?k1 ?k2 ?k3 ?k4 ?k5 ?k6 ?_; (case k1 | k2 => k_asm); (case k3 => k_upd); (case k4 | k5 | k6 => lia); k_whole); intro h' F' N'; (try simp only [Int.toNat_natCast] at N'); (try k_sweep)))
local macro_rules | `(tactic| walk_at "call builtin:list.append") => `(tactic| (k_here; (with_reducible refine gd13 ?_); k_dflt (refine' ent_append ?k1 ?k2 ?k3 ?k4 ?_; (case k1 | k2 => k_asm); (case k3 => k_upd); (case k4 => lia); k_whole); intro h' F' N'; (try k_sweep)))
local macro_rules | `(tactic| walk_at "call builtin:list.pop") => `(tactic| (k_here; (with_reducible refine gd14 ?_); k_dflt (refine' ent_pop ?k1 ?k2 ?k3 ?k4 ?_; (case k1 | k2 => k_asm); (case k3 => k_upd); (case k4 => lia); k_whole); intro h' F' N'; (try k_sweep)))

noncomputable def hpush (es : List Ent) (e : Ent) : List Ent := sdLoop e (es ++ [e]) es.length
noncomputable def hpop (init : List Ent) (last : Ent) : Ent × List Ent := match init with
  | [] => (last, [])
  | x :: r => (x, suAll last (last :: r))

theorem held_ents {es : List Ent} {h g : Heap} {H : Addr} {n : Nat} {es₀ : List Ent} (hHeld : Held [(H, entList es₀ n)] h g) (hH : h.get? H = some (entList es₀ n)) (hes : ∀ e ∈ es, h.get? e.a = some e.obj) : ∀ e ∈ es, g.get? e.a = some e.obj := fun e he => hHeld _ _ (fun p hp => by
    simp only [List.mem_singleton] at hp
    subst hp
    intro q
    have h1 := hes e he
    dsimp only at q
    rw [← q, hH] at h1
    simp [entList, Ent.obj, pairObj] at h1) (hes e he)

theorem heappush_spec {prog : Program} {w : World} {loose : List Str} {mean : ExcName → Option Value} {mg mb : Str → Option Value} 
  {dp un : Nat} {gd : Option (List Code)} {cn : Str} {cs : Scope} {a : Addr} {ccd : Value} {cl : List (Str × Addr)} {outer : List Env} {A₀ : Around} {base h₀ : Heap} {L : Addr} {m : Str → Option Value} {s : Shared} {H : Addr} {es : List Ent} {e : Ent} {n : Nat}
    {Q E : Value → Shared → Prop}
    (B : Below A₀ base outer h₀) (F : Fr h₀ L s.heap m) (X : (Mine.hd.heap_1 w.params).In h₀) (N : News h₀ L s.heap [(H, entList es n)]) (T : Top Mine.hd.view_1 loose mean mg mb h₀) (hk : cs.kind = .function) 
    (hd : dp + 20 < recursionLimit) (hu : un + 160 < cLine) (hes : ∀ e ∈ es, s.heap.get? e.a = some e.obj) (he : s.heap.get? e.a = some e.obj) (hz : es.length ≤ 900)
    (ret : ∀ h' tk' n', Mod [H] s.heap h' → h'.get? H = some (entList (hpush es e) n') → Q .none { s with heap := h', toks := tk' }) :
    wpAny (model prog w) (ktrTop dp un gd cn cs L a ccd cl outer) (call (.ref 155) [.ref H, e.val]) Q E s := by
  refine wpAny_call ?_
  k_dflt refine' enterM (binds := [(Str.ofString "heap", Value.ref H), (Str.ofString "item", e.val)]) ?k1 ?k2 ?k3 ?k4 ?k5 ?kA ?kF ?kK ?k6 ?k7 ?k8 ?k9 ?kB ?_ ?c2 ?c3 ?c4 ?c5
  k_dflt ((case kA | kF => exact rfl); (case kK => first | assumption | exact rfl); (case k1 | k2 | k3 | k4 | k5 => k_asm); (case k6 | k7 => k_is); (case k8 => ktr_room); (case k9 => exact BindsTo.of_eq rfl); (case c5 => decide); (case kB => exact locs rfl); (case c2 | c3 | c4 => exact rfl); k_whole)
  intro g' L' h' hHeld' hSize' hKeep' F' N' B' X' T'
  refine hide fun QA hQA => ?_
  have hge : ∀ x ∈ es ++ [e], g'.get? x.a = some x.obj := held_ents hHeld' (N _ (.head _)).1 (fun x hx => by
    rcases List.mem_append.mp hx with hx | hx
    · exact hes x hx
    · rw [List.mem_singleton.mp hx]; exact he)
  try k_fold
  clear N F
  k_steps
  (rename Fr g' L' _ _ => lF); (rename News g' L' _ _ => lN)
  k_dflt refine siftdown_spec B' lF X' lN T' rfl (by first | exact roomB hd rfl | exact roomA hd rfl | ktr_room) (by first | exact roomB hu rfl | exact roomA hu rfl | ktr_units) (p := es.length) (fun x hx => lF.keep _ _ (hge x hx)) (by simp) (by simp) (by simp; lia) ?_
  intro h'' tk'' n'' hM hH
  have lF2 := hM.fr lF (fun a ha => by rw [List.mem_singleton.mp ha]; exact (lN _ (.head _)).2)
  clear lF lN
  k_steps
  refine hQA _ _ ?_
  refine backM_ lF2 fun hM' => ret _ _ n'' hM' ?_
  rw [hH]
  simp [hpush]

theorem heappop_spec {prog : Program} {w : World} {loose : List Str} {mean : ExcName → Option Value} {mg mb : Str → Option Value} 
  {dp un : Nat} {gd : Option (List Code)} {cn : Str} {cs : Scope} {a : Addr} {ccd : Value} {cl : List (Str × Addr)} {outer : List Env} {A₀ : Around} {base h₀ : Heap} {L : Addr} {m : Str → Option Value} {s : Shared} {H : Addr} {es : List Ent} {e : Ent} {n : Nat}
    {Q E : Value → Shared → Prop}
    (B : Below A₀ base outer h₀) (F : Fr h₀ L s.heap m) (X : (Mine.hd.heap_1 w.params).In h₀) (N : News h₀ L s.heap [(H, entList (es ++ [e]) n)]) (T : Top Mine.hd.view_1 loose mean mg mb h₀) (hk : cs.kind = .function) 
    (hd : dp + 30 < recursionLimit) (hu : un + 240 < cLine) (hes : ∀ x ∈ es ++ [e], s.heap.get? x.a = some x.obj) (hz : es.length ≤ 900)
    (ret : ∀ h' tk' n', Mod [H] s.heap h' → h'.get? H = some (entList (hpop es e).2 n') → Q (hpop es e).1.val { s with heap := h', toks := tk' }) :
    wpAny (model prog w) (ktrTop dp un gd cn cs L a ccd cl outer) (call (.ref 162) [.ref H]) Q E s := by
  refine wpAny_call ?_
  k_dflt refine' enterM (binds := [(Str.ofString "heap", Value.ref H)]) ?k1 ?k2 ?k3 ?k4 ?k5 ?kA ?kF ?kK ?k6 ?k7 ?k8 ?k9 ?kB ?_ ?c2 ?c3 ?c4 ?c5
  k_dflt ((case kA | kF => exact rfl); (case kK => first | assumption | exact rfl); (case k1 | k2 | k3 | k4 | k5 => k_asm); (case k6 | k7 => k_is); (case k8 => ktr_room); (case k9 => exact BindsTo.of_eq rfl); (case c5 => decide); (case kB => exact locs rfl); (case c2 | c3 | c4 => exact rfl); k_whole)
  intro g' L' h' hHeld' hSize' hKeep' F' N' B' X' T'
  refine hide fun QA hQA => ?_
  have hge : ∀ x ∈ es ++ [e], g'.get? x.a = some x.obj := held_ents hHeld' (N _ (.head _)).1 hes
  try k_fold
  clear N F
  k_steps
  · (rename Fr g' L' _ _ => lF); (rename News g' L' _ _ => lN); (rename List.isEmpty _ = true => hE)
    have hn : es = [] := by simpa using hE
    subst hn
    dsimp only
    refine hQA _ _ ?_
    exact backM_ lF fun hM' => ret _ _ _ hM' (lN _ (.head _)).1
  · (rename List.isEmpty _ = false => hE)
    cases es with
    | nil => cases hE
    | cons x r =>
      have hlen : 0 < (x :: r).length := by simp
      k_steps
      (rename Fr g' L' _ _ => lF); (rename News g' L' _ _ => lN)
      k_dflt refine siftup_spec B' lF X' lN T' rfl (by first | exact roomB hd rfl | exact roomA hd rfl | ktr_room) (by first | exact roomB hu rfl | exact roomA hu rfl | ktr_units) (fun y hy => lF.keep _ _ (hge y ?_)) (by simp) (by simp at hz ⊢; lia) ?_
      · rcases List.mem_or_eq_of_mem_set hy with hy | rfl
        · exact List.mem_append_left _ hy
        · simp
      intro h'' tk'' n'' hM hH
      have lF2 := hM.fr lF (fun a ha => by rw [List.mem_singleton.mp ha]; exact (lN _ (.head _)).2)
      clear lF lN
      k_steps
      dsimp only
      refine hQA _ _ ?_
      refine backM_ lF2 fun hM' => ret _ _ n'' hM' ?_
      rw [hH]
      simp [hpop]
end
theorem mode5 : True := by
  w_top off
  k_with_none
  trivial
noncomputable def sDict (w : World) (t1 t2 t3 t4 : Tok) (D : Addr) (rd : Value) (po nf : Value) : List DictEntry :=
  [⟨PyData.keyHash w.params (Str.ofString "_node2info"), .str (Str.ofString "_node2info") t1, .ref D⟩,
   ⟨PyData.keyHash w.params (Str.ofString "_ready_nodes"), .str (Str.ofString "_ready_nodes") t2, rd⟩,
   ⟨PyData.keyHash w.params (Str.ofString "_npassedout"), .str (Str.ofString "_npassedout") t3, po⟩,
   ⟨PyData.keyHash w.params (Str.ofString "_nfinished"), .str (Str.ofString "_nfinished") t4, nf⟩]
noncomputable def infoObj (i : Int) (t : Tok) (np : Int) (tn : Tok) (d l : Addr) : Obj := { cls := .ref 47, dict := some d, data := .plain, slots := #[some (.int i t), some (.int np tn), some (.ref l)] }

theorem put_po (w : World) (t1 t2 t3 t4 : Tok) (D : Addr) (rd po nf v : Value) (n : Nat) (hs : Int) (k : Value) :
    (putL (Str.ofString "_npassedout") hs k v (sDict w t1 t2 t3 t4 D rd po nf), putN (Str.ofString "_npassedout") (sDict w t1 t2 t3 t4 D rd po nf) n) = (sDict w t1 t2 t3 t4 D rd v nf, n) := by rfl
theorem put_nf (w : World) (t1 t2 t3 t4 : Tok) (D : Addr) (rd po nf v : Value) (n : Nat) (hs : Int) (k : Value) :
    (putL (Str.ofString "_nfinished") hs k v (sDict w t1 t2 t3 t4 D rd po nf), putN (Str.ofString "_nfinished") (sDict w t1 t2 t3 t4 D rd po nf) n) = (sDict w t1 t2 t3 t4 D rd po v, n) := by rfl
theorem put_rd (w : World) (t1 t2 t3 t4 : Tok) (D : Addr) (rd po nf v : Value) (n : Nat) (hs : Int) (k : Value) :
    (putL (Str.ofString "_ready_nodes") hs k v (sDict w t1 t2 t3 t4 D rd po nf), putN (Str.ofString "_ready_nodes") (sDict w t1 t2 t3 t4 D rd po nf) n) = (sDict w t1 t2 t3 t4 D v po nf, n) := by rfl

local macro_rules | `(tactic| walk_at "call builtin:dict.get") => `(tactic| (k_here; k_dflt (refine' kdg_get1 (knd := PySem.intKind _ _) ?N ?p ?d ?lo (intKind_is _ _ _ _) _ ?hl ?_; (case N => k_asm); (case p => k_mem); (case d | lo | hl => k_asm); k_whole); (try dsimp only [Option.getD])))
local macro_rules | `(tactic| walk_at "setItem ref int") => `(tactic| (k_here; (with_reducible refine gd4 ?_); k_dflt (refine' kda_set (knd := PySem.intKind _ _) ?F ?N ?U ?d (intKind_is _ _ _ _) ?z ?_; (case F | N => k_asm); (case U => k_updF); (case d => k_asm); (case z => (rw [sizeLine_eq]; lia)); k_whole); intro h' o' F' N' hd'; (try dsimp only at N')))
local macro_rules | `(tactic| k_room) => `(tactic| ktr_room)
local macro_rules | `(tactic| walk_at "call builtin:len") => `(tactic| (k_here; (with_reducible refine gd3 ?_); (refine' tup_len ?k1 ?k2 ?k3 ?_; (case k1 => k_asm); (case k2 => k_mem); (case k3 => walk_at "my nums"); k_whole); intro t' tk'; walk_at "my lens"))
local macro_rules | `(tactic| walk_at "call builtin:list.append") => `(tactic| (k_here; (with_reducible refine gd5 ?_); k_dflt (refine' lst_append ?k1 ?k2 ?k3 ?k4 ?_; (case k1 | k2 => k_asm); (case k3 => k_upd); (case k4 => first | lia | walk_at "my nums"); k_whole); intro h' F' N'; (try k_sweep)))
local macro_rules | `(tactic| walk_at "subscriptTail") => `(tactic| (k_here; (with_reducible refine gd6 ?_); k_dflt (refine' kda_item (knd := PySem.intKind _ _) ?N ?p ?d (intKind_is _ _ _ _) ?hl ?_ ?hs; (case N => k_asm); (case p => k_mem); (case d | hl => k_asm); (case hs => with_unfolding_all rfl); k_whole)))
local macro_rules | `(tactic| walk_at "call builtin:list.clear") => `(tactic| (k_here; k_dflt (refine' lst_clear ?k1 ?k2 ?k3 ?k4 ?_; (case k1 | k2 => k_asm); (case k3 => k_upd); (case k4 => first | lia | walk_at "my nums"); k_whole); intro h' F' N'; (try k_sweep)))
section
theorem getinfo_new {prog : Program} {w : World} {loose : List Str} {mean : ExcName → Option Value} {mg mb : Str → Option Value} 
  {dp un : Nat} {gd : Option (List Code)} {cn : Str} {cs : Scope} {a : Addr} {ccd : Value} {cl : List (Str × Addr)} {outer : List Env} {A₀ : Around} {base h₀ : Heap} {L : Addr} {m : Str → Option Value} {s : Shared} 
  {S dx D : Addr} {t1 t2 t3 t4 : Tok} {rd po nf : Value} {nd : Nat} {oD : Obj} {kvs : List (Int × Value)} {i : Int} {t : Tok}
    {Q E : Value → Shared → Prop}
    (B : Below A₀ base outer h₀) (F : Fr h₀ L s.heap m) (X : (Mine.hd.heap_1 w.params).In h₀) (N : News h₀ L s.heap [(S, instObj 144 dx), (dx, dictOf (sDict w t1 t2 t3 t4 D rd po nf) nd), (D, oD)]) (T : Top Mine.hd.view_1 loose mean mg mb h₀) (hk : cs.kind = .function) 
    (hD : oD.IsDictOf (intKind prog w) kvs) (hnone : valueAt kvs i = none) (hne1 : S ≠ dx) (hne2 : S ≠ D) (hne3 : dx ≠ D) (hkz : kvs.length ≤ 1000) (hlo : (D == sysModules) = false)
    (hd : dp + 20 < recursionLimit) (hu : un + 160 < cLine)
    (ret : ∀ h' tk' x d l tn oD', Mod [D] s.heap h' → s.heap.get? x = none → s.heap.get? d = none → s.heap.get? l = none → h'.get? x = some (infoObj i t 0 tn d l) → h'.get? d = some (dictOf [] 0) → h'.get? l = some (listOf #[] 0) →
      h'.get? D = some oD' → oD'.IsDictOf (intKind prog w) (stored kvs i (.ref x)) → Q (.ref x) { s with heap := h', toks := tk' }) :
    wpAny (model prog w) (ktrTop dp un gd cn cs L a ccd cl outer) (call (.ref 87) [.ref S, .int i t]) Q E s := by
  refine wpAny_call ?_
  k_dflt refine' enterM (binds := [(Str.ofString "self", Value.ref S), (Str.ofString "node", Value.int i t)]) ?k1 ?k2 ?k3 ?k4 ?k5 ?kA ?kF ?kK ?k6 ?k7 ?k8 ?k9 ?kB ?_ ?c2 ?c3 ?c4 ?c5
  k_dflt ((case kA | kF => exact rfl); (case kK => first | assumption | exact rfl); (case k1 | k2 | k3 | k4 | k5 => k_asm); (case k6 | k7 => k_is); (case k8 => ktr_room); (case k9 => exact BindsTo.of_eq rfl); (case c5 => decide); (case kB => exact locs rfl); (case c2 | c3 | c4 => exact rfl); k_whole)
  intro g' L' h' hHeld' hSize' hKeep' F' N' B' X' T'
  refine hide fun QA hQA => ?_
  have hS := (N _ (.head _)).1
  have hX := (N _ (.tail _ (.head _))).1
  have hDD := (N _ (.tail _ (.tail _ (.head _)))).1
  clear N F
  k_steps
  (rename Fr g' L' _ _ => lF); (rename News g' L' _ _ => lN)
  dsimp only
  refine hQA _ _ ?_
  refine backM_ lF fun hM => ?_
  have fresh : ∀ b : Addr, b ≠ S → b ≠ dx → b ≠ D → g'.get? b = none → s.heap.get? b = none := by
    intro b h1 h2 h3 hg
    cases q : s.heap.get? b with
    | none => rfl
    | some o =>
      have := hHeld' b o (by intro p hp; simp only [List.mem_cons, List.not_mem_nil, or_false] at hp; rcases hp with rfl | rfl | rfl; exact Ne.symm h1; exact Ne.symm h2; exact Ne.symm h3) q
      rw [hg] at this; cases this
  have ml := lN _ (.head _)
  have mx := lN _ (.tail _ (.head _))
  have md := lN _ (.tail _ (.tail _ (.head _)))
  have mS := lN _ (.tail _ (.tail _ (.tail _ (.head _))))
  have mX := lN _ (.tail _ (.tail _ (.tail _ (.tail _ (.head _)))))
  have mD := lN _ (.tail _ (.tail _ (.tail _ (.tail _ (.tail _ (.head _))))))
  exact ret _ _ _ _ _ _ _ ((hM.shrink hS mS.1).shrink hX mX.1) (fresh _ (by k_ne) (by k_ne) (by k_ne) mx.2.2) (fresh _ (by k_ne) (by k_ne) (by k_ne) md.2.2) (fresh _ (by k_ne) (by k_ne) (by k_ne) ml.2.2) mx.1 md.1 ml.1 mD.1 (by assumption)

theorem getinfo_old {prog : Program} {w : World} {loose : List Str} {mean : ExcName → Option Value} {mg mb : Str → Option Value} 
  {dp un : Nat} {gd : Option (List Code)} {cn : Str} {cs : Scope} {a : Addr} {ccd : Value} {cl : List (Str × Addr)} {outer : List Env} {A₀ : Around} {base h₀ : Heap} {L : Addr} {m : Str → Option Value} {s : Shared} 
  {S dx D : Addr} {t1 t2 t3 t4 : Tok} {rd po nf : Value} {nd : Nat} {oD : Obj} {kvs : List (Int × Value)} {i : Int} {t : Tok} {x : Addr}
    {Q E : Value → Shared → Prop}
    (B : Below A₀ base outer h₀) (F : Fr h₀ L s.heap m) (X : (Mine.hd.heap_1 w.params).In h₀) (N : News h₀ L s.heap [(S, instObj 144 dx), (dx, dictOf (sDict w t1 t2 t3 t4 D rd po nf) nd), (D, oD)]) (T : Top Mine.hd.view_1 loose mean mg mb h₀) (hk : cs.kind = .function) 
    (hD : oD.IsDictOf (intKind prog w) kvs) (hsome : valueAt kvs i = some (.ref x)) (hne1 : S ≠ dx) (hne2 : S ≠ D) (hne3 : dx ≠ D) (hkz : kvs.length ≤ 1000) (hlo : (D == sysModules) = false)
    (hd : dp + 20 < recursionLimit) (hu : un + 160 < cLine)
    (ret : ∀ h' tk', Mod [] s.heap h' → Q (.ref x) { s with heap := h', toks := tk' }) :
    wpAny (model prog w) (ktrTop dp un gd cn cs L a ccd cl outer) (call (.ref 87) [.ref S, .int i t]) Q E s := by
  refine wpAny_call ?_
  k_dflt refine' enterM (binds := [(Str.ofString "self", Value.ref S), (Str.ofString "node", Value.int i t)]) ?k1 ?k2 ?k3 ?k4 ?k5 ?kA ?kF ?kK ?k6 ?k7 ?k8 ?k9 ?kB ?_ ?c2 ?c3 ?c4 ?c5
  k_dflt ((case kA | kF => exact rfl); (case kK => first | assumption | exact rfl); (case k1 | k2 | k3 | k4 | k5 => k_asm); (case k6 | k7 => k_is); (case k8 => ktr_room); (case k9 => exact BindsTo.of_eq rfl); (case c5 => decide); (case kB => exact locs rfl); (case c2 | c3 | c4 => exact rfl); k_whole)
  intro g' L' h' hHeld' hSize' hKeep' F' N' B' X' T'
  refine hide fun QA hQA => ?_
  have hS := (N _ (.head _)).1
  have hX := (N _ (.tail _ (.head _))).1
  have hDD := (N _ (.tail _ (.tail _ (.head _)))).1
  clear N F
  k_steps
  (rename Fr g' L' _ _ => lF); (rename News g' L' _ _ => lN)
  dsimp only
  refine hQA _ _ ?_
  refine backM_ lF fun hM => ?_
  exact ret _ _ (((hM.shrink hS (lN _ (.head _)).1).shrink hX (lN _ (.tail _ (.head _))).1).shrink hDD (lN _ (.tail _ (.tail _ (.head _)))).1)
end
theorem mode6 : True := by
  w_top off
  k_with_none
  trivial
structure Nd where
  x : Addr
  d : Addr
  l : Addr
  i : Int
  t : Tok
  np : Int
  tn : Tok
  sc : List (Int × Tok)
  ln : Nat
noncomputable def Nd.obj (n : Nd) : Obj := infoObj n.i n.t n.np n.tn n.d n.l
noncomputable def Nd.lst (n : Nd) : Obj := listOf (ivals n.sc).toArray n.ln
structure NdAt (h : Heap) (n : Nd) : Prop where
  x : h.get? n.x = some n.obj
  d : h.get? n.d = some (dictOf [] 0)
  l : h.get? n.l = some n.lst
noncomputable def kvsOf (nds : List Nd) : List (Int × Value) := nds.map fun n => (n.i, .ref n.x)
structure SorterAt (prog : Program) (w : World) (h : Heap) (S dx D : Addr) (rd : Value) (po nf : Int) (nds : List Nd) : Prop where
  atS : h.get? S = some (instObj 144 dx)
  atX : Sm7 (fun t1 t2 t3 t4 tp tf nd => h.get? dx = some (dictOf (sDict w t1 t2 t3 t4 D rd (.int po tp) (.int nf tf)) nd))
  atD : ∃ oD, h.get? D = some oD ∧ oD.IsDictOf (intKind prog w) (kvsOf nds)
  atN : ∀ n ∈ nds, NdAt h n
  ls : (nds.map (·.l)).Nodup
  neXD : dx ≠ D
  neXd : ∀ n ∈ nds, n.d ≠ dx ∧ n.d ≠ D
  lo : (D == sysModules) = false

theorem SorterAt.neSX {prog : Program} {w : World} {h : Heap} {S dx D : Addr} {rd : Value} {po nf : Int} {nds : List Nd} (s : SorterAt prog w h S dx D rd po nf nds) : S ≠ dx := fun q => by
  refine Classical.byContradiction fun hGG => ?_
  obtain ⟨_, _, _, _, _, _, _, e⟩ := s.atX
  refine hGG ?_
  clear hGG
  have := s.atS
  rw [q, e] at this
  cases this
theorem SorterAt.neSD {prog : Program} {w : World} {h : Heap} {S dx D : Addr} {rd : Value} {po nf : Int} {nds : List Nd} (s : SorterAt prog w h S dx D rd po nf nds) : S ≠ D := fun q => by
  refine Classical.byContradiction fun hGG => ?_
  obtain ⟨oD, e, es, ep, hx, _⟩ := s.atD
  refine hGG ?_
  clear hGG
  have := s.atS
  rw [q, e] at this
  have e2 := Option.some.inj this
  rw [e2] at hx
  exact absurd hx.1 (by first | exact mc0 | exact mc1 | exact mc2 | exact mc3 | exact mc4 | exact mc5 | exact mc6 | exact mc7 | simp)

noncomputable def addSucc (nds : List Nd) (j : Int) (v : Int × Tok) : List Nd := nds.map fun n => if n.i = j then { n with sc := n.sc ++ [v], ln := n.ln + 1 } else n
noncomputable def addAll (nds : List Nd) (preds : List (Int × Tok)) (v : Int × Tok) : List Nd := preds.foldl (fun nds p => addSucc nds p.1 v) nds

theorem valueAt_none {nds : List Nd} {k : Int} (h : ∀ n ∈ nds, n.i ≠ k) : valueAt (kvsOf nds) k = none := by
  have : (kvsOf nds).find? (fun kv => decide (kv.1 = k)) = none := by
    rw [List.find?_eq_none]
    intro x hx
    obtain ⟨n, hn, rfl⟩ := List.mem_map.mp hx
    simpa using h n hn
  unfold valueAt
  simp only [this, Option.map_none]
theorem stored_new {nds : List Nd} {k : Int} {v : Value} (h : ∀ n ∈ nds, n.i ≠ k) : stored (kvsOf nds) k v = kvsOf nds ++ [(k, v)] := by
  unfold stored
  rw [if_neg]
  simp only [List.any_eq_true, decide_eq_true_eq]
  intro hR1
  refine Classical.byContradiction fun hGG => ?_
  obtain ⟨x, hx, e⟩ := hR1
  refine hGG ?_
  clear hGG
  obtain ⟨n, hn, rfl⟩ := List.mem_map.mp hx
  exact h n hn e
noncomputable def sAddrs (S dx D : Addr) (nds : List Nd) : List Addr := S :: dx :: D :: nds.flatMap fun n => [n.x, n.d, n.l]
theorem mem_sx {S dx D : Addr} {nds : List Nd} {n : Nd} (h : n ∈ nds) : n.x ∈ sAddrs S dx D nds := by
  simp only [sAddrs, List.mem_cons, List.mem_flatMap]; exact .inr (.inr (.inr ⟨n, h, (by first | exact mc0 | exact mc1 | exact mc2 | exact mc3 | exact mc4 | exact mc5 | exact mc6 | exact mc7 | exact mc8 | exact mc9 | exact mc10 | exact mc11 | simp)⟩))
theorem mem_sd {S dx D : Addr} {nds : List Nd} {n : Nd} (h : n ∈ nds) : n.d ∈ sAddrs S dx D nds := by
  simp only [sAddrs, List.mem_cons, List.mem_flatMap]; exact .inr (.inr (.inr ⟨n, h, (by first | exact mc0 | exact mc1 | exact mc2 | exact mc3 | exact mc4 | exact mc5 | exact mc6 | exact mc7 | exact mc8 | exact mc9 | exact mc10 | exact mc11 | simp)⟩))
theorem mem_sl {S dx D : Addr} {nds : List Nd} {n : Nd} (h : n ∈ nds) : n.l ∈ sAddrs S dx D nds := by
  simp only [sAddrs, List.mem_cons, List.mem_flatMap]; exact .inr (.inr (.inr ⟨n, h, (by first | exact mc0 | exact mc1 | exact mc2 | exact mc3 | exact mc4 | exact mc5 | exact mc6 | exact mc7 | exact mc8 | exact mc9 | exact mc10 | exact mc11 | simp)⟩))
section
variable {prog : Program} {w : World} {h h' : Heap} {S dx D : Addr} {rd : Value} {po nf : Int} {nds : List Nd}
theorem SorterAt.live (s : SorterAt prog w h S dx D rd po nf nds) : ∀ b ∈ sAddrs S dx D nds, ∃ o, h.get? b = some o := by
  intro b hb
  simp only [sAddrs, memC, List.mem_flatMap, List.not_mem_nil, or_false] at hb
  rcases hb with rfl | rfl | rfl | ⟨n, hn, rfl | rfl | rfl⟩
  · exact ⟨_, s.atS⟩
  · obtain ⟨_, _, _, _, _, _, _, e⟩ := s.atX; exact ⟨_, e⟩
  · obtain ⟨_, e, _⟩ := s.atD; exact ⟨_, e⟩
  · exact ⟨_, (s.atN n hn).x⟩
  · exact ⟨_, (s.atN n hn).d⟩
  · exact ⟨_, (s.atN n hn).l⟩
theorem SorterAt.ids (s : SorterAt prog w h S dx D rd po nf nds) : (nds.map (·.i)).Nodup := by
  refine Classical.byContradiction fun hGG => ?_
  obtain ⟨oD, _, _, _, _, _, _, _, hn⟩ := s.atD
  refine hGG ?_
  clear hGG
  simpa [kvsOf, Function.comp_def] using hn
theorem SorterAt.keep (s : SorterAt prog w h S dx D rd po nf nds) (hk : ∀ b ∈ sAddrs S dx D nds, ∀ o, h.get? b = some o → h'.get? b = some o) : SorterAt prog w h' S dx D rd po nf nds := by
  refine Classical.byContradiction fun hGG => ?_
  obtain ⟨t1, t2, t3, t4, tp, tf, nd, hX⟩ := s.atX
  obtain ⟨oD, hDD, hDk⟩ := s.atD
  refine hGG ?_
  clear hGG
  refine ⟨hk _ (by first | exact mc0 | exact mc1 | exact mc2 | exact mc3 | exact mc4 | simp [sAddrs]) _ s.atS, ⟨t1, t2, t3, t4, tp, tf, nd, hk _ (by first | exact mc0 | exact mc1 | exact mc2 | exact mc3 | exact mc4 | simp [sAddrs]) _ hX⟩, ⟨oD, hk _ (by first | exact mc0 | exact mc1 | exact mc2 | exact mc3 | exact mc4 | simp [sAddrs]) _ hDD, hDk⟩, fun n hn => ⟨hk _ (mem_sx hn) _ (s.atN n hn).x, hk _ (mem_sd hn) _ (s.atN n hn).d, hk _ (mem_sl hn) _ (s.atN n hn).l⟩, s.ls, s.neXD, s.neXd, s.lo⟩
theorem SorterAt.mod {foot : List Addr} (s : SorterAt prog w h S dx D rd po nf nds) (M : Mod foot h h') (hf : ∀ b ∈ sAddrs S dx D nds, b ∉ foot) : SorterAt prog w h' S dx D rd po nf nds :=
  s.keep fun b hb o e => M.keep b o (hf b hb) e
theorem nodup_inj {β : Type} (f : Nd → β) {nds : List Nd} (h : (nds.map f).Nodup) : ∀ {n n' : Nd}, n ∈ nds → n' ∈ nds → f n = f n' → n = n' := by
  induction nds with
  | nil => exact fun hn => nomatch hn
  | cons a r ih =>
    intro n n' hn hn' e
    rw [List.map_cons, List.nodup_cons] at h
    rcases List.mem_cons.mp hn with q | hn1
    · rcases List.mem_cons.mp hn' with q' | hn1'
      · rw [q, q']
      · exact absurd (List.mem_map.mpr ⟨n', hn1', by rw [← e, q]⟩) h.1
    · rcases List.mem_cons.mp hn' with q' | hn1'
      · exact absurd (List.mem_map.mpr ⟨n, hn1, by rw [e, q']⟩) h.1
      · exact ih h.2 hn1 hn1' e
theorem nd_unique (s : SorterAt prog w h S dx D rd po nf nds) {n n' : Nd} (hn : n ∈ nds) (hn' : n' ∈ nds) (e : n.i = n'.i) : n = n' := nodup_inj (·.i) s.ids hn hn' e
theorem l_unique (s : SorterAt prog w h S dx D rd po nf nds) {n n' : Nd} (hn : n ∈ nds) (hn' : n' ∈ nds) (e : n.l = n'.l) : n = n' := nodup_inj (·.l) s.ls hn hn' e
theorem addSucc_mem {j : Int} {v : Int × Tok} {n' : Nd} (h : n' ∈ addSucc nds j v) : ∃ n ∈ nds, n' = if n.i = j then { n with sc := n.sc ++ [v], ln := n.ln + 1 } else n := by
  refine Classical.byContradiction fun hGG => ?_
  obtain ⟨n, hn, e⟩ := List.mem_map.mp h
  refine hGG ?_
  clear hGG
  exact ⟨n, hn, e.symm⟩
theorem addSucc_kvs (nds : List Nd) (j : Int) (v : Int × Tok) : kvsOf (addSucc nds j v) = kvsOf nds := by
  unfold kvsOf addSucc
  rw [List.map_map]
  refine List.map_congr_left fun n _ => ?_
  simp only [Function.comp_apply]
  split <;> rfl
theorem addSucc_ls (nds : List Nd) (j : Int) (v : Int × Tok) : (addSucc nds j v).map (·.l) = nds.map (·.l) := by
  unfold addSucc
  rw [List.map_map]
  refine List.map_congr_left fun n _ => ?_
  show (if n.i = j then { n with sc := n.sc ++ [v], ln := n.ln + 1 } else n : Nd).l = _
  split <;> rfl
theorem addSucc_addrs (S dx D : Addr) (nds : List Nd) (j : Int) (v : Int × Tok) : sAddrs S dx D (addSucc nds j v) = sAddrs S dx D nds := by
  unfold sAddrs addSucc
  rw [List.flatMap_map]
  congr 4
  funext n
  split <;> rfl
theorem SorterAt.succ (s : SorterAt prog w h S dx D rd po nf nds) {n : Nd} (hn : n ∈ nds) {v : Int × Tok} (hk : ∀ b ∈ sAddrs S dx D nds, b ≠ n.l → ∀ o, h.get? b = some o → h'.get? b = some o)
    (hl : h'.get? n.l = some (listOf (ivals (n.sc ++ [v])).toArray (n.ln + 1))) : SorterAt prog w h' S dx D rd po nf (addSucc nds n.i v) := by
  refine Classical.byContradiction fun hGG => ?_
  obtain ⟨t1, t2, t3, t4, tp, tf, nd, hX⟩ := s.atX
  obtain ⟨oD, hDD, hDk⟩ := s.atD
  refine hGG ?_
  clear hGG
  have nS : S ≠ n.l := fun q => by have := s.atS; rw [q, (s.atN n hn).l] at this; simp [Nd.lst] at this
  have nX : dx ≠ n.l := fun q => by rw [q, (s.atN n hn).l] at hX; simp [Nd.lst] at hX
  have nD : D ≠ n.l := fun q => by
    refine Classical.byContradiction fun hGG => ?_
    obtain ⟨es, ep, hx, _⟩ := hDk
    refine hGG ?_
    clear hGG
    rw [q, (s.atN n hn).l] at hDD
    rw [← Option.some.inj hDD] at hx
    exact absurd hx.1 (by simp [Nd.lst])
  refine ⟨hk _ (by first | exact mc0 | exact mc1 | exact mc2 | exact mc3 | exact mc4 | simp [sAddrs]) nS _ s.atS, ⟨t1, t2, t3, t4, tp, tf, nd, hk _ (by first | exact mc0 | exact mc1 | exact mc2 | exact mc3 | exact mc4 | simp [sAddrs]) nX _ hX⟩, ⟨oD, hk _ (by first | exact mc0 | exact mc1 | exact mc2 | exact mc3 | exact mc4 | simp [sAddrs]) nD _ hDD, by rw [addSucc_kvs]; exact hDk⟩, ?_, by rw [addSucc_ls]; exact s.ls, s.neXD, ?_, s.lo⟩
  · intro n' hn'
    obtain ⟨n₁, hn₁, rfl⟩ := addSucc_mem hn'
    have a1 := s.atN n₁ hn₁
    have x1 : n₁.x ≠ n.l := fun q => by have := a1.x; rw [q, (s.atN n hn).l] at this; simp [Nd.lst, Nd.obj, infoObj] at this
    have d1 : n₁.d ≠ n.l := fun q => by have := a1.d; rw [q, (s.atN n hn).l] at this; simp [Nd.lst] at this
    split
    · rename_i e
      have := nd_unique s hn₁ hn e
      subst this
      exact ⟨hk _ (mem_sx hn₁) x1 _ a1.x, hk _ (mem_sd hn₁) d1 _ a1.d, hl⟩
    · rename_i e
      exact ⟨hk _ (mem_sx hn₁) x1 _ a1.x, hk _ (mem_sd hn₁) d1 _ a1.d, hk _ (mem_sl hn₁) (fun q => e (by rw [l_unique s hn₁ hn q])) _ a1.l⟩
  · intro n' hn'
    obtain ⟨n₁, hn₁, rfl⟩ := addSucc_mem hn'
    have := s.neXd n₁ hn₁
    split <;> exact this
end
noncomputable def sLed (S dx D : Addr) (oX oD : Obj) (nds : List Nd) : List (Addr × Obj) := (S, instObj 144 dx) :: (dx, oX) :: (D, oD) :: nds.flatMap fun n => [(n.x, n.obj), (n.d, dictOf [] 0), (n.l, n.lst)]
theorem sLed_addrs (S dx D : Addr) (oX oD : Obj) (nds : List Nd) : (sLed S dx D oX oD nds).map (·.1) = sAddrs S dx D nds := by
  simp [sLed, sAddrs, List.map_flatMap]
theorem SorterAt.news {prog : Program} {w : World} {h₀ h : Heap} {L S dx D : Addr} {rd : Value} {po nf : Int} {nds : List Nd} {oX oD : Obj} (s : SorterAt prog w h S dx D rd po nf nds) (hX : h.get? dx = some oX) (hD : h.get? D = some oD)
    (hoff : ∀ b ∈ sAddrs S dx D nds, b ≠ L ∧ h₀.get? b = none) : News h₀ L h (sLed S dx D oX oD nds) := by
  intro p hp
  have hb : p.1 ∈ sAddrs S dx D nds := by rw [← sLed_addrs S dx D oX oD]; exact List.mem_map.mpr ⟨p, hp, rfl⟩
  refine ⟨?_, hoff _ hb⟩
  simp only [sLed, memC, List.mem_flatMap, List.not_mem_nil, or_false] at hp
  rcases hp with rfl | rfl | rfl | ⟨n, hn, rfl | rfl | rfl⟩
  · exact s.atS
  · exact hX
  · exact hD
  · exact (s.atN n hn).x
  · exact (s.atN n hn).d
  · exact (s.atN n hn).l
theorem addAll_addrs (S dx D : Addr) (v : Int × Tok) : ∀ (preds : List (Int × Tok)) (nds : List Nd), sAddrs S dx D (addAll nds preds v) = sAddrs S dx D nds
  | [], _ => rfl
  | p :: r, nds => by
    show sAddrs S dx D (addAll (addSucc nds p.1 v) r v) = _
    rw [addAll_addrs S dx D v r, addSucc_addrs]
theorem addAll_take {nds : List Nd} {preds : List (Int × Tok)} {v : Int × Tok} {i : Nat} {p : Int × Tok} (h : preds[i]? = some p) : addAll nds (preds.take (i + 1)) v = addSucc (addAll nds (preds.take i) v) p.1 v := by
  have hs : preds.take (i + 1) = preds.take i ++ [p] := by simp [List.take_add_one, h]
  rw [hs, addAll, List.foldl_append]; rfl
theorem addAll_ids (v : Int × Tok) : ∀ (preds : List (Int × Tok)) (nds : List Nd), (addAll nds preds v).map (·.i) = nds.map (·.i)
  | [], _ => rfl
  | p :: r, nds => by
    show (addAll (addSucc nds p.1 v) r v).map (·.i) = _
    rw [addAll_ids v r]
    unfold addSucc
    rw [List.map_map]
    refine List.map_congr_left fun n _ => ?_
    simp only [Function.comp_apply]
    split <;> rfl
theorem addSucc_len {nds : List Nd} {j : Int} {v : Int × Tok} {c : Nat} (h : ∀ n ∈ nds, n.sc.length ≤ c) : ∀ n ∈ addSucc nds j v, n.sc.length ≤ c + 1 := by
  intro n hn
  obtain ⟨n₁, hn₁, rfl⟩ := addSucc_mem hn
  have := h n₁ hn₁
  split
  · simp; lia
  · lia
theorem valueAt_some {nds : List Nd} {n : Nd} (hn : n ∈ nds) (hd : (nds.map (·.i)).Nodup) : valueAt (kvsOf nds) n.i = some (.ref n.x) := by
  induction nds with
  | nil => cases hn
  | cons a r ih =>
    rw [List.map_cons, List.nodup_cons] at hd
    unfold valueAt kvsOf
    rw [List.map_cons, List.find?_cons]
    rcases memC.mp hn with rfl | hn
    · simp
    · have : a.i ≠ n.i := fun q => hd.1 (q ▸ List.mem_map.mpr ⟨n, hn, rfl⟩)
      simp only [this, decide_false]
      exact ih hn hd.2
theorem sAddrs_append (S dx D : Addr) (a b : List Nd) : sAddrs S dx D (a ++ b) = sAddrs S dx D a ++ b.flatMap fun n => [n.x, n.d, n.l] := by simp [sAddrs]
theorem addSucc_append {a b : List Nd} {j : Int} {v : Int × Tok} (h : ∀ n ∈ b, n.i ≠ j) : addSucc (a ++ b) j v = addSucc a j v ++ b := by
  unfold addSucc
  rw [List.map_append]
  congr 1
  conv => rhs; rw [← List.map_id b]
  refine List.map_congr_left fun n hn => ?_
  rw [if_neg (h n hn)]; rfl

local macro_rules | `(tactic| walk_at "exec For Name Name cons nil") => `(tactic| (k_here; walk_at "my for"))
local macro_rules | `(tactic| walk_at "exec For Name Attribute cons nil") => `(tactic| (k_here; walk_at "my for"))
local macro_rules | `(tactic| walk_at "exec For Name Call cons nil") => `(tactic| (k_here; walk_at "my for"))
local macro_rules | `(tactic| k_put) => `(tactic| first | exact put_po .. | exact put_nf .. | exact put_rd ..)
section
--SETATTR
theorem add_code {prog : Program} {w : World} {loose : List Str} {mean : ExcName → Option Value} {mg mb : Str → Option Value} 
  {dp un : Nat} {gd : Option (List Code)} {cn : Str} {cs : Scope} {a : Addr} {ccd : Value} {cl : List (Str × Addr)} {outer : List Env} {A₀ : Around} {base h₀ : Heap} {L : Addr} {m : Str → Option Value} {s : Shared} 
  {S dx D : Addr} {po nf : Int} {nds : List Nd} {k : Int} {t : Tok} {preds : List (Int × Tok)}
    {Q E : Value → Shared → Prop}
    (B : Below A₀ base outer h₀) (F : Fr h₀ L s.heap m) (X : (Mine.hd.heap_1 w.params).In h₀) (T : Top Mine.hd.view_1 loose mean mg mb h₀) (hk : cs.kind = .function) 
    (hS : SorterAt prog w s.heap S dx D .none po nf nds) (hoff : ∀ b ∈ sAddrs S dx D nds, b ≠ L ∧ h₀.get? b = none)
    (hknew : ∀ n ∈ nds, n.i ≠ k) (hsc : ∀ n ∈ nds, n.sc.length ≤ 100) (hpre : ∀ p ∈ preds, ∃ n ∈ nds, n.i = p.1) (hz : nds.length ≤ 100) (hz2 : preds.length ≤ 100)
    (hd : dp + 40 < recursionLimit) (hu : un + 320 < cLine)
    (ret : ∀ h' tk' x d l tn, Mod (sAddrs S dx D nds) s.heap h' → s.heap.get? x = none → s.heap.get? d = none → s.heap.get? l = none →
      SorterAt prog w h' S dx D .none po nf (addAll nds preds (k, t) ++ [⟨x, d, l, k, t, preds.length, tn, [], 0⟩]) → Q .none { s with heap := h', toks := tk' }) :
    codeAny (model prog w) (ktrTop dp un gd cn cs L a ccd cl outer) (.call (.ref 94) ⟨.ref S :: .int k t :: ivals preds, []⟩) (fun r s' => match r with | .ok (.ret v) => Q v s' | .ok _ => False | .error e => E e s') s := by
  refine Classical.byContradiction fun hGG => ?_
  obtain ⟨t1, t2, t3, t4, tp, tf, nd, hX⟩ := hS.atX
  obtain ⟨oD, hDD, hDk⟩ := hS.atD
  refine hGG ?_
  clear hGG
  have N := hS.news (h₀ := h₀) (L := L) hX hDD hoff
  k_dflt refine' enterR (vs := ivals preds) (binds := fun v => [(Str.ofString "self", Value.ref S), (Str.ofString "node", Value.int k t), (Str.ofString "predecessors", v)]) ?k1 ?k2 ?k3 ?k4 ?k5 ?kA ?kF ?kK ?k6 ?k7 ?k8 ?kbind ?kz ?kB ?_ ?c2 ?c3 ?c4 ?c5
  k_dflt ((case kA | kF => exact rfl); (case kK => first | assumption | exact rfl); (case k1 | k2 | k3 | k4 | k5 => k_asm); (case k6 | k7 => k_is); (case k8 => ktr_room); (case c5 => decide); (case c2 | c3 | c4 => exact rfl))
  (case kbind => (generalize ivals preds = vs9; cases vs9 <;> with_unfolding_all rfl))
  (case kz => simp [ivals]; lia)
  (case kB => exact fun _ => locs rfl)
  intro P g' L' h' tk0 hHeld' hPf hPl hPL hKeep' F' N' B' X' T'
  refine hide fun QA hQA => ?_
  have N1 : News g' L' h' [(P, ({ cls := .type "tuple", data := .seq (ivals preds).toArray } : Obj)), (S, instObj 144 dx), (dx, dictOf (sDict w t1 t2 t3 t4 D .none (.int po tp) (.int nf tf)) nd), (D, oD)] := newsOf N' mc0 (newsOf N' mc1 (newsOf N' mc2 (newsOf N' mc3 newsNil)))
  refine Classical.byContradiction fun hGG => ?_
  obtain ⟨g1, F1, N1, st1, hold1⟩ := rebase F' N1
  refine hGG ?_
  clear hGG
  have B1 := below_sub B' st1
  have X1 := X'.keeps st1
  have T1 := T'.keeps st1
  have hne1 := neN hS.neSX
  have hne2 := neN hS.neSD
  have hne3 := neN hS.neXD
  have hlo := hS.lo
  have hkz : (kvsOf nds).length ≤ 1000 := by simp [kvsOf]; lia
  have hvn := valueAt_none hknew
  have pS : @LT.lt Nat _ S P := hPl _ (.head _)
  have pX : @LT.lt Nat _ dx P := hPl _ (.tail _ (.head _))
  have pD : @LT.lt Nat _ D P := hPl _ (.tail _ (.tail _ (.head _)))
  clear F N
  k_with "call ref" => (
    (rename Fr g1 L' _ _ => lF); (rename News g1 L' _ _ => lN);
    k_dflt refine getinfo_new B1 lF X1 (fun p hp => lN p (.tail _ hp)) T1 rfl hDk hvn hne1 hne2 hne3 hkz hlo (by first | exact roomB hd rfl | exact roomA hd rfl | ktr_room) (by first | exact roomB hu rfl | exact roomA hu rfl | ktr_units) (hold_of ?kr))
  k_steps
  case kr =>
    refine ⟨?_⟩
    intro h1 tk1 x d l tn oD' hM fx fd fl hx hdx hl hDD' hDk'
    dsimp only at hM fx fd fl
    have oP := lN _ (.head _)
    have oS := lN _ (.tail _ (.head _))
    have oX := lN _ (.tail _ (.tail _ (.head _)))
    have oD1 := (lN _ (.tail _ (.tail _ (.tail _ (.head _))))).2
    dsimp only at oP oS oX oD1
    have F2 := hM.fr lF (fun b hb => by rw [List.mem_singleton.mp hb]; exact oD1)
    have nx := fr_new lF fx
    have ndx := fr_new lF fd
    have nl := fr_new lF fl
    have hP1 : h1.get? P = some _ := hM.keep _ _ (by simp; exact Nat.ne_of_gt pD) oP.1
    have hS1 : h1.get? S = some _ := hM.keep _ _ (by simpa using hne2) oS.1
    have hX1 : h1.get? dx = some _ := hM.keep _ _ (by simpa using hne3) oX.1
    have N2 : News g1 L' h1 [(x, infoObj k t 0 tn d l), (d, dictOf [] 0), (l, listOf #[] 0), (P, ({ cls := .type "tuple", data := .seq (ivals preds).toArray } : Obj)), (S, instObj 144 dx), (dx, dictOf (sDict w t1 t2 t3 t4 D .none (.int po tp) (.int nf tf)) nd), (D, oD')] := by
      refine newsCons ?_ (newsCons ?_ (newsCons ?_ (newsCons ?_ (newsCons ?_ (newsCons ?_ (newsCons ?_ newsNil))))))
      · exact ⟨hx, nx⟩
      · exact ⟨hdx, ndx⟩
      · exact ⟨hl, nl⟩
      · exact ⟨hP1, oP.2⟩
      · exact ⟨hS1, oS.2⟩
      · exact ⟨hX1, oX.2⟩
      · exact ⟨hDD', oD1⟩
    have xP := ne_of_fresh fx oP.1
    have xS := ne_of_fresh fx oS.1
    have xX := ne_of_fresh fx oX.1
    have xD : @Ne Nat x D := ne_of_fresh fx (lN _ (.tail _ (.tail _ (.tail _ (.head _))))).1
    have xd : @Ne Nat x d := fun q => by rw [q, hdx] at hx; simp [infoObj] at hx
    have xl : @Ne Nat x l := fun q => by rw [q, hl] at hx; simp [infoObj] at hx
    clear lF lN
    k_with "exec For Name Name cons nil" => (refine forH g' rfl rfl ?_ (fun _ => rfl) (by passes_own))
    k_steps
    (rename Fr g1 L' _ _ => lF); (rename News g1 L' _ _ => lN)
    rename_i tn1 hs
    rw [Int.zero_add] at lN
    dsimp only at lN
    have mx := lN _ (.head _)
    have md := lN _ (.tail _ (.head _))
    have ml := lN _ (.tail _ (.tail _ (.head _)))
    have mP := lN _ (.tail _ (.tail _ (.tail _ (.head _))))
    have mS := lN _ (.tail _ (.tail _ (.tail _ (.tail _ (.head _)))))
    have mX := lN _ (.tail _ (.tail _ (.tail _ (.tail _ (.tail _ (.head _))))))
    have mD := lN _ (.tail _ (.tail _ (.tail _ (.tail _ (.tail _ (.tail _ (.head _)))))))
    dsimp only at mx md ml mP mS mX mD
    have ltL : ∀ b ∈ sAddrs S dx D nds, @LT.lt Nat _ b L' := fun b hb => by
      rw [← sLed_addrs S dx D (dictOf (sDict w t1 t2 t3 t4 D .none (.int po tp) (.int nf tf)) nd) oD] at hb
      obtain ⟨p, hp, rfl⟩ := List.mem_map.mp hb
      exact Nat.lt_trans (hPl p hp) hPL
    have inG : ∀ b ∈ sAddrs S dx D nds, b ≠ S → b ≠ dx → b ≠ D → ∀ o, s.heap.get? b = some o → hs.get? b = some o := fun b hb n1 n2 n3 o e => by
      refine lF.keep b o (hold1 b o (ltL b hb) (fun p hp => ?_) (hKeep' b o e))
      simp only [memC, List.not_mem_nil, or_false] at hp
      rcases hp with rfl | rfl | rfl | rfl
      · exact ne_of_fresh hPf e
      · exact Ne.symm n1
      · exact Ne.symm n2
      · exact Ne.symm n3
    have hSA : SorterAt prog w hs S dx D .none po nf (nds ++ [⟨x, d, l, k, t, preds.length, tn1, [], 0⟩]) := by
      refine ⟨mS.1, ⟨t1, t2, t3, t4, tp, tf, nd, mX.1⟩, ⟨oD', mD.1, ?_⟩, ?_, ?_, hne3, ?_, hlo⟩
      · rw [stored_new hknew] at hDk'
        simpa [kvsOf] using hDk'
      · intro n hn
        rcases List.mem_append.mp hn with hn | hn
        · have a1 := hS.atN n hn
          have e1 : n.x ≠ S := fun q => by have := a1.x; rw [q, hS.atS] at this; simp [Nd.obj, infoObj] at this
          have e2 : n.x ≠ dx := fun q => by have := a1.x; rw [q, hX] at this; simp [Nd.obj, infoObj] at this
          have e3 : n.x ≠ D := fun q => by
            refine Classical.byContradiction fun hGG => ?_
            obtain ⟨es, ep, hx, _⟩ := hDk
            refine hGG ?_
            clear hGG
            have := a1.x
            rw [q, hDD] at this
            rw [Option.some.inj this] at hx
            exact absurd hx.1 (by simp [Nd.obj, infoObj])
          have f1 : n.d ≠ S := fun q => by have := a1.d; rw [q, hS.atS] at this; simp at this
          have l1 : n.l ≠ S := fun q => by have := a1.l; rw [q, hS.atS] at this; simp [Nd.lst] at this
          have l2 : n.l ≠ dx := fun q => by have := a1.l; rw [q, hX] at this; simp [Nd.lst] at this
          have l3 : n.l ≠ D := fun q => by
            refine Classical.byContradiction fun hGG => ?_
            obtain ⟨es, ep, hx, _⟩ := hDk
            refine hGG ?_
            clear hGG
            have := a1.l
            rw [q, hDD] at this
            rw [Option.some.inj this] at hx
            exact absurd hx.1 (by simp [Nd.lst])
          exact ⟨inG _ (mem_sx hn) e1 e2 e3 _ a1.x, inG _ (mem_sd hn) f1 (hS.neXd n hn).1 (hS.neXd n hn).2 _ a1.d, inG _ (mem_sl hn) l1 l2 l3 _ a1.l⟩
        · rw [List.mem_singleton.mp hn]
          exact ⟨mx.1, md.1, ml.1⟩
      · rw [List.map_append, List.nodup_append]
        refine ⟨hS.ls, (by first | exact mc0 | exact mc1 | exact mc2 | exact mc3 | exact mc4 | exact mc5 | exact mc6 | exact mc7 | exact mc8 | exact mc9 | exact mc10 | exact mc11 | simp), ?_⟩
        intro a ha b hb e
        simp only [List.map_cons, List.map_nil, List.mem_singleton] at hb
        obtain ⟨n, hn, rfl⟩ := List.mem_map.mp ha
        have := hKeep' _ _ (hS.atN n hn).l
        rw [e, hb, fl] at this
        cases this
      · intro n hn
        rcases List.mem_append.mp hn with hn | hn
        · exact hS.neXd n hn
        · rw [List.mem_singleton.mp hn]
          exact ⟨ne_of_fresh fd oX.1, ne_of_fresh fd (hKeep' _ _ hDD)⟩
    have A0 : ∀ i, sAddrs S dx D (addAll nds (preds.take i) (k, t) ++ [⟨x, d, l, k, t, preds.length, tn1, [], 0⟩]) = sAddrs S dx D (nds ++ [⟨x, d, l, k, t, preds.length, tn1, [], 0⟩]) := by
      intro i; rw [sAddrs_append, sAddrs_append, addAll_addrs]
    have off1 : ∀ b ∈ sAddrs S dx D (nds ++ [⟨x, d, l, k, t, preds.length, tn1, [], 0⟩]), b ≠ L' ∧ g'.get? b = none := by
      intro b hb
      rw [sAddrs_append] at hb
      have sub : ∀ {b : Addr}, g1.get? b = none → g'.get? b = none := fun {b} e => by
        cases q : g'.get? b with
        | none => rfl
        | some o => rw [st1 _ _ q] at e; cases e
      rcases List.mem_append.mp hb with hb | hb
      · rw [← sLed_addrs S dx D (dictOf (sDict w t1 t2 t3 t4 D .none (.int po tp) (.int nf tf)) nd) oD] at hb
        obtain ⟨p, hp, rfl⟩ := List.mem_map.mp hb
        exact (N' p (.tail _ hp)).2
      · simp only [List.flatMap_cons, List.flatMap_nil, List.append_nil, memC, List.not_mem_nil, or_false] at hb
        rcases hb with rfl | rfl | rfl
        · exact ⟨mx.2.1, sub mx.2.2⟩
        · exact ⟨md.2.1, sub md.2.2⟩
        · exact ⟨ml.2.1, sub ml.2.2⟩
    have liveI : ∀ I, hs.get? I = none → ∀ b ∈ sAddrs S dx D (nds ++ [⟨x, d, l, k, t, preds.length, tn1, [], 0⟩]), I ≠ b := fun I fI b hb => by
      obtain ⟨o, ho⟩ := hSA.live b hb
      exact ne_of_fresh fI ho
    refine loop_seq (T := P) (cls := "tuple") (h₀ := g') rfl (.inl rfl) mP.1 rfl rfl (fr_sub lF st1 F') mP.2.1
      (fun I i mm hh => SorterAt prog w hh S dx D .none po nf (addAll nds (preds.take i) (k, t) ++ [⟨x, d, l, k, t, preds.length, tn1, [], 0⟩]) ∧ (∀ n ∈ addAll nds (preds.take i) (k, t), n.sc.length ≤ 100 + i) ∧
        ∀ z, z ≠ Str.ofString "pred" → z ≠ Str.ofString "pred_info" → mm z = (fun y => if y = Str.ofString "nodeinfo" then some (Value.ref x) else List.lookup y [(Str.ofString "self", Value.ref S), (Str.ofString "node", Value.int k t), (Str.ofString "predecessors", Value.ref P)].reverse) z) ?h0 ?stab ⟨?turn⟩ ⟨?done⟩
    case h0 =>
      intro I h2 fI hM2
      exact ⟨hSA.mod hM2 (fun _ _ q => nomatch q), fun n hn => by simpa using hsc n hn, fun _ _ _ => rfl⟩
    case stab =>
      intro I i mm h2 h3 fI hR2 hM2
      refine Classical.byContradiction fun hGG => ?_
      obtain ⟨a1, a2, a3⟩ := hR2
      refine hGG ?_
      clear hGG
      refine ⟨a1.mod hM2 ?_, a2, a3⟩
      intro b hb q
      rw [A0] at hb
      rcases List.mem_cons.mp q with q | q
      · exact (off1 b hb).1 q
      · exact liveI I fI b hb (List.mem_singleton.mp q).symm
    case turn =>
      intro I oI i v mm hh tk2 fI fI0 hIL hIP hI hPt hv hR3 F3
      refine Classical.byContradiction fun hGG => ?_
      obtain ⟨hSA2, hsc2, hmm⟩ := hR3
      refine hGG ?_
      clear hGG
      replace F3 : Fr g' L' hh _ := F3
      refine hide fun QB hQB => ?_
      refine Classical.byContradiction fun hGG => ?_
      obtain ⟨p, hp, rfl⟩ : ∃ p, preds[i]? = some p ∧ v = .int p.1 p.2 := by
        simp only [ivals, List.getElem?_toArray, List.getElem?_map, Option.map_eq_some_iff] at hv
        obtain ⟨p, hp, e⟩ := hv
        exact ⟨p, hp, e.symm⟩
      obtain ⟨n0, hn0, hni⟩ := hpre p (List.mem_of_getElem? hp)
      obtain ⟨n1, hn1, hn1i⟩ : ∃ n1 ∈ addAll nds (preds.take i) (k, t), n1.i = p.1 := by
        have : p.1 ∈ (addAll nds (preds.take i) (k, t)).map (·.i) := by rw [addAll_ids]; exact List.mem_map.mpr ⟨n0, hn0, hni⟩
        obtain ⟨n1, hn1, e⟩ := List.mem_map.mp this
        exact ⟨n1, hn1, e⟩
      refine hGG ?_
      clear hGG
      have hn1' : n1 ∈ addAll nds (preds.take i) (k, t) ++ [⟨x, d, l, k, t, preds.length, tn1, [], 0⟩] := List.mem_append_left _ hn1
      have hnw : (⟨x, d, l, k, t, preds.length, tn1, [], 0⟩ : Nd) ∈ addAll nds (preds.take i) (k, t) ++ [⟨x, d, l, k, t, preds.length, tn1, [], 0⟩] := List.mem_append_right _ (List.mem_singleton.mpr rfl)
      have a1 := hSA2.atN n1 hn1'
      have aw := hSA2.atN _ hnw
      refine Classical.byContradiction fun hGG => ?_
      obtain ⟨u1, u2, u3, u4, up, uf, und, hX2⟩ := hSA2.atX
      obtain ⟨oD2, hDD2, hDk2⟩ := hSA2.atD
      refine hGG ?_
      clear hGG
      have off2 : ∀ b ∈ sAddrs S dx D (addAll nds (preds.take i) (k, t) ++ [⟨x, d, l, k, t, preds.length, tn1, [], 0⟩]), b ≠ L' ∧ g'.get? b = none := fun b hb => off1 b (by rw [← A0 i]; exact hb)
      have oP' : g'.get? P = none := (N' _ (.head _)).2.2
      have N3 : News g' L' hh [(I, oI), (P, ({ cls := .type "tuple", data := .seq (ivals preds).toArray } : Obj)), (n1.x, n1.obj), (n1.d, dictOf [] 0), (n1.l, listOf (ivals n1.sc).toArray n1.ln), (x, infoObj k t preds.length tn1 d l), (d, dictOf [] 0), (l, listOf #[] 0), (S, instObj 144 dx), (dx, dictOf (sDict w u1 u2 u3 u4 D .none (.int po up) (.int nf uf)) und), (D, oD2)] := by
        refine newsCons ?_ (newsCons ?_ (newsCons ?_ (newsCons ?_ (newsCons ?_ (newsCons ?_ (newsCons ?_ (newsCons ?_ (newsCons ?_ (newsCons ?_ (newsCons ?_ newsNil))))))))))
        · exact ⟨hI, hIL, fI0⟩
        · exact ⟨hPt, mP.2.1, oP'⟩
        · exact ⟨a1.x, off2 _ (mem_sx hn1')⟩
        · exact ⟨a1.d, off2 _ (mem_sd hn1')⟩
        · exact ⟨a1.l, off2 _ (mem_sl hn1')⟩
        · exact ⟨aw.x, off2 _ (mem_sx hnw)⟩
        · exact ⟨aw.d, off2 _ (mem_sd hnw)⟩
        · exact ⟨aw.l, off2 _ (mem_sl hnw)⟩
        · exact ⟨hSA2.atS, off2 _ (by first | exact mc0 | exact mc1 | exact mc2 | exact mc3 | exact mc4 | simp [sAddrs])⟩
        · exact ⟨hX2, off2 _ (by first | exact mc0 | exact mc1 | exact mc2 | exact mc3 | exact mc4 | simp [sAddrs])⟩
        · exact ⟨hDD2, off2 _ (by first | exact mc0 | exact mc1 | exact mc2 | exact mc3 | exact mc4 | simp [sAddrs])⟩
      refine Classical.byContradiction fun hGG => ?_
      obtain ⟨g3, F4, N4, st3, hold3⟩ := rebase F3 N3
      refine hGG ?_
      clear hGG
      have B3 := below_sub B' st3
      have X3 := X'.keeps st3
      have T3 := T'.keeps st3
      have F5 := kst_fr (ps := []) (stored := [Str.ofString "pred_info"]) (m₀ := (fun y => if y = Str.ofString "nodeinfo" then some (Value.ref x) else List.lookup y [(Str.ofString "self", Value.ref S), (Str.ofString "node", Value.int k t), (Str.ofString "predecessors", Value.ref P)].reverse)) (by first | exact mc0 | exact mc1 | exact mc2 | exact mc3 | exact mc4 | exact mc5 | exact mc6 | exact mc7 | simp) (fun z hz _ hz2 => hmm z hz (by simpa using hz2)) F4
      clear F4 F3 lF lN
      -- the addresses differ
      have eIl : @Ne Nat I n1.l := liveI I fI _ (by rw [← A0 i]; exact mem_sl hn1')
      have ePl : @Ne Nat P n1.l := fun q => by rw [q, a1.l] at hPt; simp [Nd.lst] at hPt
      have exl : @Ne Nat n1.x n1.l := fun q => by have := a1.x; rw [q, a1.l] at this; simp [Nd.lst, Nd.obj, infoObj] at this
      have edl : @Ne Nat n1.d n1.l := fun q => by have := a1.d; rw [q, a1.l] at this; simp [Nd.lst] at this
      have ewl : @Ne Nat x n1.l := fun q => by have := aw.x; rw [q, a1.l] at this; simp [Nd.lst, Nd.obj, infoObj] at this
      have ewd : @Ne Nat d n1.l := fun q => by have := aw.d; rw [q, a1.l] at this; simp [Nd.lst] at this
      have hik : n1.i ≠ k := by rw [hn1i, ← hni]; exact hknew n0 hn0
      have ell : @Ne Nat l n1.l := fun q => by
        have := l_unique hSA2 hnw hn1' q
        exact hik (by rw [← this])
      have eSl : @Ne Nat S n1.l := fun q => by have := hSA2.atS; rw [q, a1.l] at this; simp [Nd.lst] at this
      have eXl : @Ne Nat dx n1.l := fun q => by rw [q, a1.l] at hX2; simp [Nd.lst] at hX2
      have eDl : @Ne Nat D n1.l := fun q => by
        refine Classical.byContradiction fun hGG => ?_
        obtain ⟨es, ep, hxx, _⟩ := hDk2
        refine hGG ?_
        clear hGG
        rw [q, a1.l] at hDD2
        rw [← Option.some.inj hDD2] at hxx
        exact absurd hxx.1 (by simp [Nd.lst])
      have hvs : valueAt (kvsOf (addAll nds (preds.take i) (k, t) ++ [⟨x, d, l, k, t, preds.length, tn1, [], 0⟩])) p.1 = some (.ref n1.x) := by rw [← hn1i]; exact valueAt_some hn1' hSA2.ids
      have hkz2 : (kvsOf (addAll nds (preds.take i) (k, t) ++ [⟨x, d, l, k, t, preds.length, tn1, [], 0⟩])).length ≤ 1000 := by
        have : (addAll nds (preds.take i) (k, t)).length = nds.length := by
          have := congrArg List.length (addAll_ids (k, t) (preds.take i) nds)
          simpa using this
        simp [kvsOf, this]; lia
      have hil : i < preds.length := by
        rcases Nat.lt_or_ge i preds.length with q | q
        · exact q
        · rw [List.getElem?_eq_none q] at hp; cases hp
      have hsz : (ivals n1.sc).length ≤ 1000 := by rw [ivals_len]; have := hsc2 n1 hn1; lia
      have keep4 : Hold (News g3 L' hh _) := ⟨N4⟩
      k_with_none
      k_with "call ref" => (
        (rename Fr g3 L' _ _ => lF); (rename News g3 L' _ _ => lN);
        k_dflt refine getinfo_old B3 lF X3 (fun q hq => lN q (.tail _ (.tail _ (.tail _ (.tail _ (.tail _ (.tail _ (.tail _ (.tail _ hq))))))))) T3 rfl hDk2 hvs hne1 hne2 hne3 hkz2 hlo (by first | exact roomB hd rfl | exact roomA hd rfl | ktr_room) (by first | exact roomB hu rfl | exact roomA hu rfl | ktr_units) (hold_of ?kr2))
      k_steps
      case kr2 =>
        refine ⟨?_⟩
        intro h5 tk5 hM5
        dsimp only at hM5
        have F6 := hM5.fr lF (fun _ q => nomatch q)
        have N6 := hM5.news lN (fun _ _ q => nomatch q)
        clear lF lN
        k_steps
        (rename Fr g3 L' _ _ => lF); (rename News g3 L' _ _ => lN)
        have kk := turn_keep keep4.out lF lN hold3 [n1.l] (SameL.out (by repeat (first | exact SameL.nil _ | (with_reducible exact SameL.same _) | (with_reducible refine SameL.keep ?_) | (refine SameL.upd ?_ (by first | exact mc0 | exact mc1 | exact mc2 | exact mc3 | exact mc4 | exact mc5 | exact mc6 | exact mc7 | simp)) | refine SameL.new ?_)))
        refine hQB _ _ ?_
        refine ⟨_, _, _, rfl, fr_sub lF st3 F', ?_, ?_, ?_, ?_⟩
        · intro b hb o e
          simp only [memC, List.not_mem_nil, or_false] at hb
          rcases hb with rfl | rfl
          · exact kk _ o (.inr ⟨_, .head _, rfl⟩) (by simpa using eIl) e
          · exact kk _ o (.inr ⟨_, .tail _ (.head _), rfl⟩) (by simpa using ePl) e
        · have h9 := hSA2.succ hn1' (v := (k, t)) (fun b hb hbl o e => kk b o (by
            rw [A0, sAddrs_append] at hb
            rcases List.mem_append.mp hb with hb | hb
            · exact .inl (ltL b hb)
            · right
              simp only [List.flatMap_cons, List.flatMap_nil, List.append_nil, List.mem_cons, List.not_mem_nil, or_false] at hb
              rcases hb with hb | hb | hb
              · exact ⟨(x, infoObj k t preds.length tn1 d l), (by first | exact mc0 | exact mc1 | exact mc2 | exact mc3 | exact mc4 | exact mc5 | exact mc6 | exact mc7 | exact mc8 | exact mc9 | exact mc10 | exact mc11 | simp), hb.symm⟩
              · exact ⟨(d, dictOf [] 0), (by first | exact mc0 | exact mc1 | exact mc2 | exact mc3 | exact mc4 | exact mc5 | exact mc6 | exact mc7 | exact mc8 | exact mc9 | exact mc10 | exact mc11 | simp), hb.symm⟩
              · exact ⟨(l, listOf #[] 0), (by first | exact mc0 | exact mc1 | exact mc2 | exact mc3 | exact mc4 | exact mc5 | exact mc6 | exact mc7 | exact mc8 | exact mc9 | exact mc10 | exact mc11 | simp), hb.symm⟩) (by simpa using hbl) e) (by
            have := (lN _ (.tail _ (.tail _ (.tail _ (.tail _ (.head _)))))).1
            simpa [ivals] using this)
          rw [addSucc_append (by intro n hn; rw [List.mem_singleton.mp hn]; exact Ne.symm hik)] at h9
          rw [addAll_take hp, ← hn1i]
          exact h9
        · rw [addAll_take hp]
          exact addSucc_len hsc2
        · intro z hz1 hz2
          simp [hz1, hz2, kstB]
    case done =>
      intro I mm hh tk2 fI _ hR4 F3
      refine Classical.byContradiction fun hGG => ?_
      obtain ⟨a1, a2, a3⟩ := hR4
      refine hGG ?_
      clear hGG
      replace F3 : Fr g' L' hh _ := F3
      k_with_none
      k_steps
      refine hQA _ _ ?_
      refine backM_ F3 fun hM9 => ret _ _ x d l tn1 (by rw [sLed_addrs] at hM9; exact hM9) ?_ ?_ ?_ ?_
      · cases q : s.heap.get? x with
        | none => rfl
        | some o => rw [hKeep' _ _ q] at fx; cases fx
      · cases q : s.heap.get? d with
        | none => rfl
        | some o => rw [hKeep' _ _ q] at fd; cases fd
      · cases q : s.heap.get? l with
        | none => rfl
        | some o => rw [hKeep' _ _ q] at fl; cases fl
      · have e : List.take (ivals preds).toArray.size preds = preds := List.take_of_length_le (by simp [ivals])
        rw [e] at a1
        exact a1
end
theorem mode7 : True := by
  w_top off
  k_with_none
  trivial
noncomputable def setNp (nds : List Nd) (j : Int) (np : Int) (tn : Tok) : List Nd := nds.map fun n => if n.i = j then { n with np := np, tn := tn } else n
section
variable {prog : Program} {w : World} {h h' : Heap} {S dx D : Addr} {rd : Value} {po nf : Int} {nds : List Nd}
theorem setNp_mem {j np : Int} {tn : Tok} {n' : Nd} (h : n' ∈ setNp nds j np tn) : ∃ n ∈ nds, n' = if n.i = j then { n with np := np, tn := tn } else n := by
  refine Classical.byContradiction fun hGG => ?_
  obtain ⟨n, hn, e⟩ := List.mem_map.mp h
  refine hGG ?_
  clear hGG
  exact ⟨n, hn, e.symm⟩
theorem setNp_kvs (nds : List Nd) (j np : Int) (tn : Tok) : kvsOf (setNp nds j np tn) = kvsOf nds := by
  unfold kvsOf setNp
  rw [List.map_map]
  refine List.map_congr_left fun n _ => ?_
  simp only [Function.comp_apply]
  split <;> rfl
theorem setNp_ls (nds : List Nd) (j np : Int) (tn : Tok) : (setNp nds j np tn).map (·.l) = nds.map (·.l) := by
  unfold setNp
  rw [List.map_map]
  refine List.map_congr_left fun n _ => ?_
  simp only [Function.comp_apply]
  split <;> rfl
theorem setNp_ids (nds : List Nd) (j np : Int) (tn : Tok) : (setNp nds j np tn).map (·.i) = nds.map (·.i) := by
  unfold setNp
  rw [List.map_map]
  refine List.map_congr_left fun n _ => ?_
  simp only [Function.comp_apply]
  split <;> rfl
theorem setNp_addrs (S dx D : Addr) (nds : List Nd) (j np : Int) (tn : Tok) : sAddrs S dx D (setNp nds j np tn) = sAddrs S dx D nds := by
  unfold sAddrs setNp
  rw [List.flatMap_map]
  congr 4
  funext n
  split <;> rfl
theorem SorterAt.xS (s : SorterAt prog w h S dx D rd po nf nds) {n : Nd} (hn : n ∈ nds) : n.x ≠ S := fun q => by have := (s.atN n hn).x; rw [q, s.atS] at this; simp [Nd.obj, infoObj] at this
theorem SorterAt.xX (s : SorterAt prog w h S dx D rd po nf nds) {n : Nd} (hn : n ∈ nds) : n.x ≠ dx := fun q => by
  refine Classical.byContradiction fun hGG => ?_
  obtain ⟨_, _, _, _, _, _, _, e⟩ := s.atX
  refine hGG ?_
  clear hGG
  have := (s.atN n hn).x; rw [q, e] at this; simp [Nd.obj, infoObj] at this
theorem SorterAt.xD (s : SorterAt prog w h S dx D rd po nf nds) {n : Nd} (hn : n ∈ nds) : n.x ≠ D := fun q => by
  refine Classical.byContradiction fun hGG => ?_
  obtain ⟨oD, hDD, es, ep, hx, _⟩ := s.atD
  refine hGG ?_
  clear hGG
  have := (s.atN n hn).x
  rw [q, hDD] at this
  rw [Option.some.inj this] at hx
  exact absurd hx.1 (by simp [Nd.obj, infoObj])
theorem SorterAt.xd (s : SorterAt prog w h S dx D rd po nf nds) {n n' : Nd} (hn : n ∈ nds) (hn' : n' ∈ nds) : n.x ≠ n'.d := fun q => by
  have := (s.atN n hn).x; rw [q, (s.atN n' hn').d] at this; simp [Nd.obj, infoObj] at this
theorem SorterAt.xl (s : SorterAt prog w h S dx D rd po nf nds) {n n' : Nd} (hn : n ∈ nds) (hn' : n' ∈ nds) : n.x ≠ n'.l := fun q => by
  have := (s.atN n hn).x; rw [q, (s.atN n' hn').l] at this; simp [Nd.obj, infoObj, Nd.lst] at this
theorem SorterAt.xx (s : SorterAt prog w h S dx D rd po nf nds) {n n' : Nd} (hn : n ∈ nds) (hn' : n' ∈ nds) (q : n.x = n'.x) : n = n' := by
  have := (s.atN n hn).x
  rw [q, (s.atN n' hn').x] at this
  refine nd_unique s hn hn' ?_
  have e := Option.some.inj this
  simp only [Nd.obj, infoObj, Obj.mk.injEq] at e
  have e3 := e.2.2.2
  simp at e3
  exact e3.1.1.symm
theorem SorterAt.np (s : SorterAt prog w h S dx D rd po nf nds) {n : Nd} (hn : n ∈ nds) {np : Int} {tn : Tok} (hk : ∀ b ∈ sAddrs S dx D nds, b ≠ n.x → ∀ o, h.get? b = some o → h'.get? b = some o)
    (hl : h'.get? n.x = some (infoObj n.i n.t np tn n.d n.l)) : SorterAt prog w h' S dx D rd po nf (setNp nds n.i np tn) := by
  refine Classical.byContradiction fun hGG => ?_
  obtain ⟨t1, t2, t3, t4, tp, tf, nd, hX⟩ := s.atX
  obtain ⟨oD, hDD, hDk⟩ := s.atD
  refine hGG ?_
  clear hGG
  refine ⟨hk _ (by first | exact mc0 | exact mc1 | exact mc2 | exact mc3 | exact mc4 | simp [sAddrs]) (Ne.symm (s.xS hn)) _ s.atS, ⟨t1, t2, t3, t4, tp, tf, nd, hk _ (by first | exact mc0 | exact mc1 | exact mc2 | exact mc3 | exact mc4 | simp [sAddrs]) (Ne.symm (s.xX hn)) _ hX⟩, ⟨oD, hk _ (by first | exact mc0 | exact mc1 | exact mc2 | exact mc3 | exact mc4 | simp [sAddrs]) (Ne.symm (s.xD hn)) _ hDD, by rw [setNp_kvs]; exact hDk⟩, ?_, by rw [setNp_ls]; exact s.ls, s.neXD, ?_, s.lo⟩
  · intro n' hn'
    obtain ⟨n₁, hn₁, rfl⟩ := setNp_mem hn'
    have a1 := s.atN n₁ hn₁
    have d1 := hk _ (mem_sd hn₁) (Ne.symm (s.xd hn hn₁)) _ a1.d
    have l1 := hk _ (mem_sl hn₁) (Ne.symm (s.xl hn hn₁)) _ a1.l
    split
    · rename_i e
      have := nd_unique s hn₁ hn e
      subst this
      exact ⟨hl, d1, l1⟩
    · rename_i e
      exact ⟨hk _ (mem_sx hn₁) (fun q => e (by rw [s.xx hn₁ hn q])) _ a1.x, d1, l1⟩
  · intro n' hn'
    obtain ⟨n₁, hn₁, rfl⟩ := setNp_mem hn'
    have := s.neXd n₁ hn₁
    split <;> exact this
end
noncomputable def outAll (nds : List Nd) (rl : List (Int × Tok)) (np : Int) (tn : Tok) : List Nd := rl.foldl (fun nds p => setNp nds p.1 np tn) nds
theorem outAll_addrs (S dx D : Addr) (np : Int) (tn : Tok) : ∀ (rl : List (Int × Tok)) (nds : List Nd), sAddrs S dx D (outAll nds rl np tn) = sAddrs S dx D nds
  | [], _ => rfl
  | p :: r, nds => by
    show sAddrs S dx D (outAll (setNp nds p.1 np tn) r np tn) = _
    rw [outAll_addrs S dx D np tn r, setNp_addrs]
theorem outAll_ids (np : Int) (tn : Tok) : ∀ (rl : List (Int × Tok)) (nds : List Nd), (outAll nds rl np tn).map (·.i) = nds.map (·.i)
  | [], _ => rfl
  | p :: r, nds => by
    show (outAll (setNp nds p.1 np tn) r np tn).map (·.i) = _
    rw [outAll_ids np tn r, setNp_ids]
theorem outAll_take {nds : List Nd} {rl : List (Int × Tok)} {np : Int} {tn : Tok} {i : Nat} {p : Int × Tok} (h : rl[i]? = some p) : outAll nds (rl.take (i + 1)) np tn = setNp (outAll nds (rl.take i) np tn) p.1 np tn := by
  have hs : rl.take (i + 1) = rl.take i ++ [p] := by simp [List.take_add_one, h]
  rw [hs, outAll, List.foldl_append]; rfl

section
--SETATTR
theorem ready_spec {prog : Program} {w : World} {loose : List Str} {mean : ExcName → Option Value} {mg mb : Str → Option Value} 
  {dp un : Nat} {gd : Option (List Code)} {cn : Str} {cs : Scope} {a : Addr} {ccd : Value} {cl : List (Str × Addr)} {outer : List Env} {A₀ : Around} {base h₀ : Heap} {L : Addr} {m : Str → Option Value} {s : Shared} 
  {S dx D R : Addr} {po nf : Int} {nds : List Nd} {rl : List (Int × Tok)} {rn : Nat}
    {Q E : Value → Shared → Prop}
    (B : Below A₀ base outer h₀) (F : Fr h₀ L s.heap m) (X : (Mine.hd.heap_1 w.params).In h₀) (T : Top Mine.hd.view_1 loose mean mg mb h₀) (hk : cs.kind = .function) 
    (hS : SorterAt prog w s.heap S dx D (.ref R) po nf nds) (hR : s.heap.get? R = some (listOf (ivals rl).toArray rn)) (hRl : ∀ n ∈ nds, n.l ≠ R) (hoff : ∀ b ∈ R :: sAddrs S dx D nds, b ≠ L ∧ h₀.get? b = none)
    (hrl : ∀ p ∈ rl, ∃ n ∈ nds, n.i = p.1) (hz : nds.length ≤ 100) (hz2 : rl.length ≤ 100)
    (hd : dp + 40 < recursionLimit) (hu : un + 320 < cLine)
    (ret : ∀ h' tk' U rn', Mod (R :: sAddrs S dx D nds) s.heap h' → s.heap.get? U = none → h'.get? U = some ({ cls := .type "tuple", data := .seq (ivals rl).toArray } : Obj) → h'.get? R = some (listOf #[] rn') →
      SorterAt prog w h' S dx D (.ref R) (po + rl.length) nf (outAll nds rl (-1) 210) → Q (.ref U) { s with heap := h', toks := tk' }) :
    wpAny (model prog w) (ktrTop dp un gd cn cs L a ccd cl outer) (call (.ref 106) [.ref S]) Q E s := by
  refine Classical.byContradiction fun hGG => ?_
  obtain ⟨t1, t2, t3, t4, tp, tf, nd, hX⟩ := hS.atX
  obtain ⟨oD, hDD, hDk⟩ := hS.atD
  refine hGG ?_
  clear hGG
  have N : News h₀ L s.heap ((R, listOf (ivals rl).toArray rn) :: sLed S dx D (dictOf (sDict w t1 t2 t3 t4 D (.ref R) (.int po tp) (.int nf tf)) nd) oD nds) := by
    intro p hp
    rcases memC.mp hp with rfl | hp
    · exact ⟨hR, hoff _ (.head _)⟩
    · exact hS.news hX hDD (fun b hb => hoff b (.tail _ hb)) p hp
  refine wpAny_call ?_
  k_dflt refine' enterM (binds := [(Str.ofString "self", Value.ref S)]) ?k1 ?k2 ?k3 ?k4 ?k5 ?kA ?kF ?kK ?k6 ?k7 ?k8 ?k9 ?kB ?_ ?c2 ?c3 ?c4 ?c5
  k_dflt ((case kA | kF => exact rfl); (case kK => first | assumption | exact rfl); (case k1 | k2 | k3 | k4 | k5 => k_asm); (case k6 | k7 => k_is); (case k8 => ktr_room); (case k9 => exact BindsTo.of_eq rfl); (case c5 => decide); (case kB => exact locs rfl); (case c2 | c3 | c4 => exact rfl); k_whole)
  intro g' L' h' hHeld' hSize' hKeep' F' N' B' X' T'
  refine hide fun QA hQA => ?_
  have N1 : News g' L' h' [(R, listOf (ivals rl).toArray rn), (S, instObj 144 dx), (dx, dictOf (sDict w t1 t2 t3 t4 D (.ref R) (.int po tp) (.int nf tf)) nd), (D, oD)] := newsOf N' mc0 (newsOf N' mc1 (newsOf N' mc2 (newsOf N' mc3 newsNil)))
  refine Classical.byContradiction fun hGG => ?_
  obtain ⟨g1, F1, N1, st1, hold1⟩ := rebase F' N1
  refine hGG ?_
  clear hGG
  have B1 := below_sub B' st1
  have X1 := X'.keeps st1
  have T1 := T'.keeps st1
  have hne1 := neN hS.neSX
  have hne2 := neN hS.neSD
  have hne3 := neN hS.neXD
  have hlo := hS.lo
  have hrz : (ivals rl).length ≤ 1000 := by rw [ivals_len]; omega
  clear F N
  k_with "exec For Name Name cons nil" => (refine forH g' rfl rfl ?_ (fun _ => rfl) (by passes_own))
  k_steps
  (rename Fr g1 L' _ _ => lF); (rename News g1 L' _ _ => lN)
  rename_i U _ _ _ _ hs _
  have mU := lN _ (.head _)
  have mR := lN _ (.tail _ (.head _))
  have mS := lN _ (.tail _ (.tail _ (.head _)))
  have mX := lN _ (.tail _ (.tail _ (.tail _ (.head _))))
  have mD := lN _ (.tail _ (.tail _ (.tail _ (.tail _ (.head _)))))
  dsimp only at mU mR mS mX mD
  have ltL : ∀ b ∈ R :: sAddrs S dx D nds, @LT.lt Nat _ b L' := fun b hb => by
    rcases memC.mp hb with rfl | hb
    · rw [← hSize']; exact Heap.lt_size hR
    · obtain ⟨o, ho⟩ := hS.live b hb
      rw [← hSize']; exact Heap.lt_size ho
  have nRS : R ≠ S := fun q => by rw [q, hS.atS] at hR; simp at hR
  have nRX : R ≠ dx := fun q => by rw [q, hX] at hR; simp at hR
  have nRD : R ≠ D := fun q => by
    refine Classical.byContradiction fun hGG => ?_
    obtain ⟨es, ep, hx, _⟩ := hDk
    refine hGG ?_
    clear hGG
    rw [q, hDD] at hR
    rw [Option.some.inj hR] at hx
    exact absurd hx.1 (by first | exact mc0 | exact mc1 | exact mc2 | exact mc3 | exact mc4 | exact mc5 | exact mc6 | exact mc7 | simp)
  have nRx : ∀ n ∈ nds, n.x ≠ R := fun n hn q => by have := (hS.atN n hn).x; rw [q, hR] at this; simp [Nd.obj, infoObj] at this
  have nRd : ∀ n ∈ nds, n.d ≠ R := fun n hn q => by have := (hS.atN n hn).d; rw [q, hR] at this; simp at this
  have nRA : ∀ b ∈ sAddrs S dx D nds, b ≠ R := fun b hb => by
    simp only [sAddrs, List.mem_cons, List.mem_flatMap, List.not_mem_nil, or_false] at hb
    rcases hb with q | q | q | ⟨n, hn, q | q | q⟩
    · rw [q]; exact Ne.symm nRS
    · rw [q]; exact Ne.symm nRX
    · rw [q]; exact Ne.symm nRD
    · rw [q]; exact nRx n hn
    · rw [q]; exact nRd n hn
    · rw [q]; exact hRl n hn
  have kept : ∀ b ∈ sAddrs S dx D nds, ∀ o, s.heap.get? b = some o → hs.get? b = some o := fun b hb o e => by
    by_cases h1 : b = S
    · rw [h1, hS.atS] at e; cases e; rw [h1]; exact mS.1
    · by_cases h2 : b = dx
      · rw [h2, hX] at e; cases e; rw [h2]; exact mX.1
      · by_cases h3 : b = D
        · rw [h3, hDD] at e; cases e; rw [h3]; exact mD.1
        · refine lF.keep b o (hold1 b o (ltL b (.tail _ hb)) (fun p hp => ?_) (hKeep' b o e))
          simp only [memC, List.not_mem_nil, or_false] at hp
          rcases hp with rfl | rfl | rfl | rfl
          · exact Ne.symm (nRA b hb)
          · exact Ne.symm h1
          · exact Ne.symm h2
          · exact Ne.symm h3
  have hSA : SorterAt prog w hs S dx D (.ref R) po nf nds := hS.keep kept
  have off1 : ∀ b ∈ R :: sAddrs S dx D nds, b ≠ L' ∧ g'.get? b = none := fun b hb => by
    refine ⟨Nat.ne_of_lt (ltL b hb), ?_⟩
    rcases memC.mp hb with rfl | hb
    · exact (N' _ (.head _)).2.2
    · rw [← sLed_addrs S dx D (dictOf (sDict w t1 t2 t3 t4 D (.ref R) (.int po tp) (.int nf tf)) nd) oD] at hb
      obtain ⟨p, hp, rfl⟩ := List.mem_map.mp hb
      exact (N' p (.tail _ hp)).2.2
  have oU : g'.get? U = none := by
    cases q : g'.get? U with
    | none => rfl
    | some o => have := mU.2.2; rw [st1 _ _ q] at this; cases this
  have nUA : ∀ b ∈ sAddrs S dx D nds, U ≠ b := fun b hb q => by
    have hb2 := hb
    simp only [sAddrs, List.mem_cons, List.mem_flatMap, List.not_mem_nil, or_false] at hb2
    have hu := mU.1
    rw [q] at hu
    rcases hb2 with q | q | q | ⟨n, hn, q | q | q⟩
    · rw [q, hSA.atS] at hu; simp at hu
    · rw [q, mX.1] at hu; simp at hu
    · refine Classical.byContradiction fun hGG => ?_
      obtain ⟨es, ep, hx, _⟩ := hDk
      refine hGG ?_
      clear hGG
      rw [q, mD.1] at hu
      rw [Option.some.inj hu] at hx
      exact absurd hx.1 (by first | exact mc0 | exact mc1 | exact mc2 | exact mc3 | exact mc4 | exact mc5 | exact mc6 | exact mc7 | simp)
    · rw [q, (hSA.atN n hn).x] at hu; simp [Nd.obj, infoObj] at hu
    · rw [q, (hSA.atN n hn).d] at hu; simp at hu
    · rw [q, (hSA.atN n hn).l] at hu; simp [Nd.lst] at hu
  have nUR : U ≠ R := fun q => by have := mU.1; rw [q, mR.1] at this; simp at this
  have liveI : ∀ I, hs.get? I = none → ∀ b ∈ R :: sAddrs S dx D nds, I ≠ b := fun I fI b hb => by
    rcases List.mem_cons.mp hb with q | hb
    · rw [q]; exact ne_of_fresh fI mR.1
    · obtain ⟨o, ho⟩ := hSA.live b hb
      exact ne_of_fresh fI ho
  refine loop_seq (T := U) (cls := "tuple") (h₀ := g') rfl (.inl rfl) mU.1 rfl rfl (fr_sub lF st1 F') mU.2.1
    (fun I i mm hh => SorterAt prog w hh S dx D (.ref R) po nf (outAll nds (rl.take i) (-1) 210) ∧ hh.get? R = some (listOf (ivals rl).toArray rn) ∧
      ∀ z, z ≠ Str.ofString "node" → mm z = (fun y => if y = Str.ofString "n2i" then some (Value.ref D) else if y = Str.ofString "result" then some (Value.ref U) else List.lookup y [(Str.ofString "self", Value.ref S)].reverse) z) ?h0 ?stab ⟨?turn⟩ ⟨?done⟩
  case h0 =>
    intro I h2 fI hM2
    exact ⟨hSA.mod hM2 (fun _ _ q => nomatch q), hM2.keep _ _ (fun q => nomatch q) mR.1, fun _ _ => rfl⟩
  case stab =>
    intro I i mm h2 h3 fI hR1 hM2
    refine Classical.byContradiction fun hGG => ?_
    obtain ⟨a1, a2, a3⟩ := hR1
    refine hGG ?_
    clear hGG
    have nin : ∀ b ∈ R :: sAddrs S dx D nds, b ∉ [L', I] := fun b hb q => by
      rcases List.mem_cons.mp q with q | q
      · exact (off1 b hb).1 q
      · exact liveI I fI b hb (List.mem_singleton.mp q).symm
    refine ⟨a1.mod hM2 (fun b hb => ?_), hM2.keep _ _ (nin R (.head _)) a2, a3⟩
    rw [outAll_addrs] at hb
    exact nin b (.tail _ hb)
  case turn =>
    intro I oI i v mm hh tk2 fI fI0 hIL hIU hI hUt hv hR2 F3
    refine Classical.byContradiction fun hGG => ?_
    obtain ⟨hSA2, hR2, hmm⟩ := hR2
    refine hGG ?_
    clear hGG
    replace F3 : Fr g' L' hh _ := F3
    refine hide fun QB hQB => ?_
    refine Classical.byContradiction fun hGG => ?_
    obtain ⟨p, hp, rfl⟩ : ∃ p, rl[i]? = some p ∧ v = .int p.1 p.2 := by
      simp only [ivals, List.getElem?_toArray, List.getElem?_map, Option.map_eq_some_iff] at hv
      obtain ⟨p, hp, e⟩ := hv
      exact ⟨p, hp, e.symm⟩
    obtain ⟨n0, hn0, hni⟩ := hrl p (List.mem_of_getElem? hp)
    obtain ⟨n1, hn1, hn1i⟩ : ∃ n1 ∈ outAll nds (rl.take i) (-1) 210, n1.i = p.1 := by
      have : p.1 ∈ (outAll nds (rl.take i) (-1) 210).map (·.i) := by rw [outAll_ids]; exact List.mem_map.mpr ⟨n0, hn0, hni⟩
      obtain ⟨n1, hn1, e⟩ := List.mem_map.mp this
      exact ⟨n1, hn1, e⟩
    refine hGG ?_
    clear hGG
    have a1 := hSA2.atN n1 hn1
    refine Classical.byContradiction fun hGG => ?_
    obtain ⟨oD2, hDD2, hDk2⟩ := hSA2.atD
    refine hGG ?_
    clear hGG
    have off2 : ∀ b ∈ sAddrs S dx D (outAll nds (rl.take i) (-1) 210), b ≠ L' ∧ g'.get? b = none := fun b hb => off1 b (by rw [outAll_addrs] at hb; exact .tail _ hb)
    have N3 : News g' L' hh [(I, oI), (U, ({ cls := .type "tuple", data := .seq (ivals rl).toArray } : Obj)), (n1.x, n1.obj), (n1.d, dictOf [] 0), (D, oD2)] := by
      refine newsCons ?_ (newsCons ?_ (newsCons ?_ (newsCons ?_ (newsCons ?_ newsNil))))
      · exact ⟨hI, hIL, fI0⟩
      · exact ⟨hUt, mU.2.1, oU⟩
      · exact ⟨a1.x, off2 _ (mem_sx hn1)⟩
      · exact ⟨a1.d, off2 _ (mem_sd hn1)⟩
      · exact ⟨hDD2, off2 _ (by first | exact mc0 | exact mc1 | exact mc2 | exact mc3 | exact mc4 | simp [sAddrs])⟩
    refine Classical.byContradiction fun hGG => ?_
    obtain ⟨g3, F4, N4, st3, hold3⟩ := rebase F3 N3
    refine hGG ?_
    clear hGG
    have B3 := below_sub B' st3
    have X3 := X'.keeps st3
    have T3 := T'.keeps st3
    have F5 := kst_fr (ps := []) (stored := []) (m₀ := (fun y => if y = Str.ofString "n2i" then some (Value.ref D) else if y = Str.ofString "result" then some (Value.ref U) else List.lookup y [(Str.ofString "self", Value.ref S)].reverse)) (by first | exact mc0 | exact mc1 | exact mc2 | exact mc3 | exact mc4 | exact mc5 | exact mc6 | exact mc7 | simp) (fun z hz _ hz2 => hmm z hz) F4
    clear F4 F3 lF lN
    have eIx : @Ne Nat I n1.x := liveI I fI _ (.tail _ (by rw [← outAll_addrs S dx D (-1) 210 (rl.take i) nds]; exact mem_sx hn1))
    have eUx : @Ne Nat U n1.x := fun q => by rw [q, a1.x] at hUt; simp [Nd.obj, infoObj] at hUt
    have edx : @Ne Nat n1.d n1.x := Ne.symm (hSA2.xd hn1 hn1)
    have eDx : @Ne Nat D n1.x := Ne.symm (hSA2.xD hn1)
    have hvs : valueAt (kvsOf (outAll nds (rl.take i) (-1) 210)) p.1 = some (.ref n1.x) := by rw [← hn1i]; exact valueAt_some hn1 hSA2.ids
    have keep4 : Hold (News g3 L' hh _) := ⟨N4⟩
    k_with_none
    k_steps
    (rename Fr g3 L' _ _ => lF); (rename News g3 L' _ _ => lN)
    have kk := turn_keep keep4.out lF lN hold3 [n1.x] (SameL.out (by repeat (first | exact SameL.nil _ | (with_reducible exact SameL.same _) | (with_reducible refine SameL.keep ?_) | (refine SameL.upd ?_ (by first | exact mc0 | exact mc1 | exact mc2 | exact mc3 | exact mc4 | exact mc5 | exact mc6 | exact mc7 | simp)) | refine SameL.new ?_)))
    refine hQB _ _ ?_
    refine ⟨_, _, _, rfl, fr_sub lF st3 F', ?_, ?_, ?_, ?_⟩
    · intro b hb o e
      simp only [memC, List.not_mem_nil, or_false] at hb
      rcases hb with rfl | rfl
      · exact kk _ o (.inr ⟨_, .head _, rfl⟩) (by simpa using eIx) e
      · exact kk _ o (.inr ⟨_, .tail _ (.head _), rfl⟩) (by simpa using eUx) e
    · rw [outAll_take hp, ← hn1i]
      refine hSA2.np hn1 (fun b hb hbl o e => kk b o (.inl (ltL b (.tail _ (by rw [outAll_addrs] at hb; exact hb)))) (by simpa using hbl) e) ?_
      exact (lN _ (.tail _ (.tail _ (.head _)))).1
    · exact kk R _ (.inl (ltL R (.head _))) (by
        intro q
        rw [List.mem_singleton.mp q, a1.x] at hR2
        simp [Nd.obj, infoObj] at hR2) hR2
    · intro z hz1
      simp [hz1, kstB]
  case done =>
    intro I mm hh tk2 fI hmU hR3 F3
    refine Classical.byContradiction fun hGG => ?_
    obtain ⟨a1, a2, a3⟩ := hR3
    refine hGG ?_
    clear hGG
    replace F3 : Fr g' L' hh _ := F3
    have e : List.take (ivals rl).toArray.size rl = rl := List.take_of_length_le (by simp [ivals])
    rw [e] at a1
    refine Classical.byContradiction fun hGG => ?_
    obtain ⟨u1, u2, u3, u4, up, uf, und, hX2⟩ := a1.atX
    refine hGG ?_
    clear hGG
    have N3 : News g' L' hh [(U, ({ cls := .type "tuple", data := .seq (ivals rl).toArray } : Obj)), (R, listOf (ivals rl).toArray rn), (S, instObj 144 dx), (dx, dictOf (sDict w u1 u2 u3 u4 D (.ref R) (.int po up) (.int nf uf)) und)] := by
      refine newsCons ?_ (newsCons ?_ (newsCons ?_ (newsCons ?_ newsNil)))
      · exact ⟨hmU, mU.2.1, oU⟩
      · exact ⟨a2, off1 _ (.head _)⟩
      · exact ⟨a1.atS, off1 _ (by first | exact mc0 | exact mc1 | exact mc2 | exact mc3 | exact mc4 | simp [sAddrs])⟩
      · exact ⟨hX2, off1 _ (by first | exact mc0 | exact mc1 | exact mc2 | exact mc3 | exact mc4 | simp [sAddrs])⟩
    refine Classical.byContradiction fun hGG => ?_
    obtain ⟨g3, F4, N4, st3, hold3⟩ := rebase F3 N3
    refine hGG ?_
    clear hGG
    have B3 := below_sub B' st3
    have X3 := X'.keeps st3
    have T3 := T'.keeps st3
    have F5 := kst_frOut (x := Str.ofString "node") (ps := []) (stored := []) (m₀ := (fun y => if y = Str.ofString "n2i" then some (Value.ref D) else if y = Str.ofString "result" then some (Value.ref U) else List.lookup y [(Str.ofString "self", Value.ref S)].reverse)) (by first | exact mc0 | exact mc1 | exact mc2 | exact mc3 | exact mc4 | exact mc5 | exact mc6 | exact mc7 | simp) (fun z hz _ hz2 => a3 z hz) F4
    clear F4 F3 lF lN
    have eUR := neN nUR
    have eUS : @Ne Nat U S := nUA S (by first | exact mc0 | exact mc1 | exact mc2 | exact mc3 | exact mc4 | simp [sAddrs])
    have eUX : @Ne Nat U dx := nUA dx (by first | exact mc0 | exact mc1 | exact mc2 | exact mc3 | exact mc4 | simp [sAddrs])
    have eRS := neN nRS
    have eRX := neN nRX
    have keep4 : Hold (News g3 L' hh _) := ⟨N4⟩
    k_with_none
    k_steps
    (rename Fr g3 L' _ _ => lF); (rename News g3 L' _ _ => lN)
    have kk := turn_keep keep4.out lF lN hold3 [R, dx] (SameL.out (by repeat (first | exact SameL.nil _ | (with_reducible exact SameL.same _) | (with_reducible refine SameL.keep ?_) | (refine SameL.upd ?_ (by first | exact mc0 | exact mc1 | exact mc2 | exact mc3 | exact mc4 | exact mc5 | exact mc6 | exact mc7 | simp)) | refine SameL.new ?_)))
    have pU := lN _ (.head _)
    have pR := lN _ (.tail _ (.head _))
    have pS := lN _ (.tail _ (.tail _ (.head _)))
    have pX := lN _ (.tail _ (.tail _ (.tail _ (.head _))))
    dsimp only at pU pR pS pX
    dsimp only
    refine hQA _ _ ?_
    refine backM_ (fr_sub lF st3 F') fun hM9 => ret _ _ U _ (by simpa [sLed_addrs] using hM9) ?_ pU.1 pR.1 ?_
    · cases q : s.heap.get? U with
      | none => rfl
      | some o =>
        have hl : @LT.lt Nat _ U L' := by rw [← hSize']; exact Heap.lt_size q
        have := hold1 U o hl (fun p hp => by
          simp only [memC, List.not_mem_nil, or_false] at hp
          rcases hp with rfl | rfl | rfl | rfl
          · exact Ne.symm nUR
          · exact Ne.symm (nUA _ (by first | exact mc0 | exact mc1 | exact mc2 | exact mc3 | exact mc4 | simp [sAddrs]))
          · exact Ne.symm (nUA _ (by first | exact mc0 | exact mc1 | exact mc2 | exact mc3 | exact mc4 | simp [sAddrs]))
          · exact Ne.symm (nUA _ (by first | exact mc0 | exact mc1 | exact mc2 | exact mc3 | exact mc4 | simp [sAddrs]))) (hKeep' U o q)
        rw [mU.2.2] at this; cases this
    · refine Classical.byContradiction fun hGG => ?_
      obtain ⟨oD9, hDD9, hDk9⟩ := a1.atD
      refine hGG ?_
      clear hGG
      have k9 : ∀ b ∈ sAddrs S dx D nds, b ≠ dx → ∀ o, hh.get? b = some o → _ := fun b hb hbX o e9 => kk b o (.inl (ltL b (.tail _ hb))) (by
        simp only [List.mem_cons, List.not_mem_nil, or_false, not_or]; exact ⟨nRA b hb, hbX⟩) e9
      have A9 : ∀ n ∈ outAll nds rl (-1) 210, n.x ∈ sAddrs S dx D nds ∧ n.d ∈ sAddrs S dx D nds ∧ n.l ∈ sAddrs S dx D nds := fun n hn => by
        rw [← outAll_addrs S dx D (-1) 210 rl nds]; exact ⟨mem_sx hn, mem_sd hn, mem_sl hn⟩
      refine ⟨pS.1, ⟨_, _, _, _, _, _, _, pX.1⟩, ⟨oD9, k9 D (by first | exact mc0 | exact mc1 | exact mc2 | exact mc3 | exact mc4 | simp [sAddrs]) (Ne.symm hne3) _ hDD9, hDk9⟩, fun n hn => ⟨k9 _ (A9 n hn).1 (a1.xX hn) _ (a1.atN n hn).x, k9 _ (A9 n hn).2.1 (a1.neXd n hn).1 _ (a1.atN n hn).d, k9 _ (A9 n hn).2.2 (fun q => ?_) _ (a1.atN n hn).l⟩, a1.ls, a1.neXD, a1.neXd, a1.lo⟩
      have := (a1.atN n hn).l
      rw [q, hX2] at this
      simp [Nd.lst] at this
end
theorem mode8 : True := by
  w_top off
  k_with_none
  trivial
structure Base (g : Heap) : Prop where
  out : True
theorem forB {prog : Program} {w : World} {A : Around} {s : Shared} {env : Env} {h₀ : Heap} {E : Value → Shared → Prop} {Q : Flow → Shared → Prop} {x : Str} {px pos : Pos} {iter : Expr} {body : List Stmt} (b : Base h₀) (hx : env.kindOf x = some .local)
    (hp : (env.scope.kind == .class || (env.scope.kind == .module && env.locals != env.globals)) = false)
    (h : wpAny (model prog w) A (eval iter env) (fun xv s₁ => wpAny (model prog w) A (pyIter xv) (fun it s₂ => LoopH prog w A h₀ env x body Q E it s₂) E s₁) E s)
    (hs : ∀ x, foldedSetIterable iter env x = pure x) (hE : PassesOwn (model prog w) A env E) :
    wpAny (model prog w) A (exec (.For (.Name x px) iter body [] pos) env) Q E s := forH h₀ hx hp h hs hE
/-- two addresses differ: kept out of omega's sight -/
structure Apart (a b : Nat) : Prop where
  ne : a ≠ b
theorem Apart.l {a b : Nat} (h : Apart a b) : a ≠ b := h.ne
theorem Apart.r {a b : Nat} (h : Apart b a) : a ≠ b := Ne.symm h.ne
theorem SorterAt.attr {prog : Program} {w : World} {h h' : Heap} {S dx D : Addr} {rd rd' : Value} {po nf po' nf' : Int} {nds : List Nd} (s : SorterAt prog w h S dx D rd po nf nds) (hk : ∀ b ∈ sAddrs S dx D nds, b ≠ dx → ∀ o, h.get? b = some o → h'.get? b = some o)
    (hX : Sm7 (fun t1 t2 t3 t4 tp tf nd => h'.get? dx = some (dictOf (sDict w t1 t2 t3 t4 D rd' (.int po' tp) (.int nf' tf)) nd))) : SorterAt prog w h' S dx D rd' po' nf' nds := by
  refine Classical.byContradiction fun hGG => ?_
  obtain ⟨oD9, hDD9, hDk9⟩ := s.atD
  obtain ⟨_, _, _, _, _, _, _, hX2⟩ := s.atX
  refine hGG ?_
  clear hGG
  refine ⟨hk _ (by first | exact mc0 | exact mc1 | exact mc2 | exact mc3 | exact mc4 | simp [sAddrs]) s.neSX _ s.atS, hX, ⟨oD9, hk D (by first | exact mc0 | exact mc1 | exact mc2 | exact mc3 | exact mc4 | simp [sAddrs]) (Ne.symm s.neXD) _ hDD9, hDk9⟩, fun n hn => ⟨hk _ (mem_sx hn) (s.xX hn) _ (s.atN n hn).x, hk _ (mem_sd hn) (s.neXd n hn).1 _ (s.atN n hn).d, hk _ (mem_sl hn) (fun q => ?_) _ (s.atN n hn).l⟩, s.ls, s.neXD, s.neXd, s.lo⟩
  have := (s.atN n hn).l
  rw [q, hX2] at this
  simp [Nd.lst] at this
noncomputable def Nd.shape (n : Nd) : Addr × Addr × Addr × Int × Tok × List (Int × Tok) × Nat := (n.x, n.d, n.l, n.i, n.t, n.sc, n.ln)
theorem setNp_shape (nds : List Nd) (j np : Int) (tn : Tok) : (setNp nds j np tn).map Nd.shape = nds.map Nd.shape := by
  unfold setNp
  rw [List.map_map]
  refine List.map_congr_left fun n _ => ?_
  simp only [Function.comp_apply]
  split <;> rfl
theorem shape_addrs (S dx D : Addr) {nds nds' : List Nd} (h : nds'.map Nd.shape = nds.map Nd.shape) : sAddrs S dx D nds' = sAddrs S dx D nds := by
  have e : ∀ l : List Nd, sAddrs S dx D l = S :: dx :: D :: (l.map Nd.shape).flatMap fun p => [p.1, p.2.1, p.2.2.1] := fun l => by
    unfold sAddrs
    rw [List.flatMap_map]
    rfl
  rw [e, e, h]
theorem shape_ids {nds nds' : List Nd} (h : nds'.map Nd.shape = nds.map Nd.shape) : nds'.map (·.i) = nds.map (·.i) := by
  have e : ∀ l : List Nd, l.map (·.i) = (l.map Nd.shape).map fun p => p.2.2.2.1 := fun l => by rw [List.map_map]; rfl
  rw [e, e, h]
theorem shape_mem {nds nds' : List Nd} (h : nds'.map Nd.shape = nds.map Nd.shape) {n : Nd} (hn : n ∈ nds) : ∃ n' ∈ nds', n'.shape = n.shape := by
  have : n.shape ∈ nds'.map Nd.shape := by rw [h]; exact List.mem_map.mpr ⟨n, hn, rfl⟩
  refine Classical.byContradiction fun hGG => ?_
  obtain ⟨n', hn', e⟩ := List.mem_map.mp this
  refine hGG ?_
  clear hGG
  exact ⟨n', hn', e⟩
noncomputable def NpIs (nds : List Nd) (f : Int → Int) : Prop := ∀ n ∈ nds, n.np = f n.i
noncomputable def decStep (st : (Int → Int) × List (Int × Tok)) (p : Int × Tok) : (Int → Int) × List (Int × Tok) :=
  (fun c => if c = p.1 then st.1 c - 1 else st.1 c, if st.1 p.1 - 1 = 0 then st.2 ++ [p] else st.2)
noncomputable def decAll (st : (Int → Int) × List (Int × Tok)) (l : List (Int × Tok)) : (Int → Int) × List (Int × Tok) := l.foldl decStep st
theorem decAll_take {st : (Int → Int) × List (Int × Tok)} {l : List (Int × Tok)} {i : Nat} {p : Int × Tok} (h : l[i]? = some p) : decAll st (l.take (i + 1)) = decStep (decAll st (l.take i)) p := by
  have hs : l.take (i + 1) = l.take i ++ [p] := by simp [List.take_add_one, h]
  rw [hs, decAll, List.foldl_append]; rfl
theorem decAll_len (l : List (Int × Tok)) : ∀ st, (decAll st l).2.length ≤ st.2.length + l.length := by
  induction l with
  | nil => intro st; simp [decAll]
  | cons p r ih =>
    intro st
    have := ih (decStep st p)
    show (decAll (decStep st p) r).2.length ≤ _
    have h2 : (decStep st p).2.length ≤ st.2.length + 1 := by
      unfold decStep; dsimp only; split <;> simp
    simp only [List.length_cons]; omega
theorem npIs_set {nds : List Nd} {f : Int → Int} {j np : Int} {tn : Tok} (h : NpIs nds f) : NpIs (setNp nds j np tn) (fun c => if c = j then np else f c) := by
  intro n hn
  obtain ⟨n₁, hn₁, rfl⟩ := setNp_mem hn
  split
  · rename_i e; simp [e]
  · rename_i e; simp [e, h n₁ hn₁]

local macro_rules | `(tactic| walk_at "my for") => `(tactic| k_dflt (refine forB (by assumption) rfl rfl ?_ (fun _ => rfl) (by passes_own)))
local macro_rules | `(tactic| k_ne) => `(tactic| (refine neN ?_; (try dsimp only); first | exact Apart.l (by assumption) | exact Apart.r (by assumption)))
section
--SETATTR
--APART
theorem done_spec {prog : Program} {w : World} {loose : List Str} {mean : ExcName → Option Value} {mg mb : Str → Option Value} 
  {dp un : Nat} {gd : Option (List Code)} {cn : Str} {cs : Scope} {a : Addr} {ccd : Value} {cl : List (Str × Addr)} {outer : List Env} {A₀ : Around} {base h₀ : Heap} {L : Addr} {m : Str → Option Value} {s : Shared} 
  {S dx D R : Addr} {po nf : Int} {nds : List Nd} {rl : List (Int × Tok)} {rn : Nat} {f : Int → Int} {nj : Nd} {tj : Tok} {j : Int}
    {Q E : Value → Shared → Prop}
    (B : Below A₀ base outer h₀) (F : Fr h₀ L s.heap m) (X : (Mine.hd.heap_1 w.params).In h₀) (T : Top Mine.hd.view_1 loose mean mg mb h₀) (hk : cs.kind = .function) 
    (hS : SorterAt prog w s.heap S dx D (.ref R) po nf nds) (hR : s.heap.get? R = some (listOf (ivals rl).toArray rn)) (hRl : ∀ n ∈ nds, n.l ≠ R) (hoff : ∀ b ∈ R :: sAddrs S dx D nds, b ≠ L ∧ h₀.get? b = none)
    (hf : NpIs nds f) (hnj : nj ∈ nds) (hj : nj.i = j) (hfj : f j = -1) (hsc : ∀ p ∈ nj.sc, ∃ n ∈ nds, n.i = p.1) (hz : nds.length ≤ 100) (hz2 : rl.length ≤ 100) (hz3 : nj.sc.length ≤ 100)
    (hd : dp + 40 < recursionLimit) (hu : un + 320 < cLine)
    (ret : ∀ h' tk' rn' nds', Mod (R :: sAddrs S dx D nds) s.heap h' → nds'.map Nd.shape = nds.map Nd.shape → NpIs nds' (decAll (fun c => if c = j then -2 else f c, rl) nj.sc).1 →
      h'.get? R = some (listOf (ivals (decAll (fun c => if c = j then -2 else f c, rl) nj.sc).2).toArray rn') →
      SorterAt prog w h' S dx D (.ref R) po (nf + 1) nds' → Q .none { s with heap := h', toks := tk' }) :
    wpAny (model prog w) (ktrTop dp un gd cn cs L a ccd cl outer) (call (.ref 127) [.ref S, .int j tj]) Q E s := by
  refine Classical.byContradiction fun hGG => ?_
  obtain ⟨t1, t2, t3, t4, tp, tf, nd, hX⟩ := hS.atX
  obtain ⟨oD, hDD, hDk⟩ := hS.atD
  refine hGG ?_
  clear hGG
  have N : News h₀ L s.heap ((R, listOf (ivals rl).toArray rn) :: sLed S dx D (dictOf (sDict w t1 t2 t3 t4 D (.ref R) (.int po tp) (.int nf tf)) nd) oD nds) := by
    intro p hp
    rcases memC.mp hp with rfl | hp
    · exact ⟨hR, hoff _ (.head _)⟩
    · exact hS.news hX hDD (fun b hb => hoff b (.tail _ hb)) p hp
  refine wpAny_call ?_
  k_dflt refine' enterR (vs := [.int j tj]) (binds := fun v => [(Str.ofString "self", Value.ref S), (Str.ofString "nodes", v)]) ?k1 ?k2 ?k3 ?k4 ?k5 ?kA ?kF ?kK ?k6 ?k7 ?k8 ?kbind ?kz ?kB ?_ ?c2 ?c3 ?c4 ?c5
  k_dflt ((case kA | kF => exact rfl); (case kK => first | assumption | exact rfl); (case k1 | k2 | k3 | k4 | k5 => k_asm); (case k6 | k7 => k_is); (case k8 => ktr_room); (case c5 => decide); (case c2 | c3 | c4 => exact rfl))
  (case kbind => with_unfolding_all rfl)
  (case kz => simp)
  (case kB => exact fun _ => locs rfl)
  intro P g' L' h' tk0 hHeld' hPf hPl hPL hKeep' F' N' B' X' T'
  refine hide fun QA hQA => ?_
  have nRS : R ≠ S := fun q => by rw [q, hS.atS] at hR; simp at hR
  have nRX : R ≠ dx := fun q => by rw [q, hX] at hR; simp at hR
  have nRD : R ≠ D := fun q => by
    refine Classical.byContradiction fun hGG => ?_
    obtain ⟨es, ep, hx, _⟩ := hDk
    refine hGG ?_
    clear hGG
    rw [q, hDD] at hR
    rw [Option.some.inj hR] at hx
    exact absurd hx.1 (by first | exact mc0 | exact mc1 | exact mc2 | exact mc3 | exact mc4 | exact mc5 | exact mc6 | exact mc7 | simp)
  have nRx : ∀ n ∈ nds, n.x ≠ R := fun n hn q => by have := (hS.atN n hn).x; rw [q, hR] at this; simp [Nd.obj, infoObj] at this
  have nRd : ∀ n ∈ nds, n.d ≠ R := fun n hn q => by have := (hS.atN n hn).d; rw [q, hR] at this; simp at this
  have nRA : ∀ b ∈ sAddrs S dx D nds, b ≠ R := fun b hb => by
    simp only [sAddrs, List.mem_cons, List.mem_flatMap, List.not_mem_nil, or_false] at hb
    rcases hb with q | q | q | ⟨n, hn, q | q | q⟩
    · rw [q]; exact Ne.symm nRS
    · rw [q]; exact Ne.symm nRX
    · rw [q]; exact Ne.symm nRD
    · rw [q]; exact nRx n hn
    · rw [q]; exact nRd n hn
    · rw [q]; exact hRl n hn
  have ltP : ∀ b ∈ R :: sAddrs S dx D nds, @LT.lt Nat _ b P := fun b hb => by
    rcases memC.mp hb with rfl | hb
    · exact hPl _ (.head _)
    · rw [← sLed_addrs S dx D (dictOf (sDict w t1 t2 t3 t4 D (.ref R) (.int po tp) (.int nf tf)) nd) oD] at hb
      obtain ⟨p, hp, rfl⟩ := List.mem_map.mp hb
      exact hPl p (.tail _ hp)
  have ltL : ∀ b ∈ R :: sAddrs S dx D nds, @LT.lt Nat _ b L' := fun b hb => Nat.lt_trans (ltP b hb) hPL
  have anj := hS.atN nj hnj
  have hnp : nj.np = -1 := by rw [hf nj hnj, hj]; exact hfj
  have hox : nj.obj = infoObj j nj.t (-1) nj.tn nj.d nj.l := by rw [← hnp, ← hj]; rfl
  have mem1 : ∀ p ∈ [(nj.x, nj.obj), (nj.d, dictOf [] 0)], p ∈ sLed S dx D (dictOf (sDict w t1 t2 t3 t4 D (.ref R) (.int po tp) (.int nf tf)) nd) oD nds := by
    intro p hp
    simp only [sLed, memC, List.mem_flatMap, List.not_mem_nil, or_false] at hp ⊢
    rcases hp with rfl | rfl
    · exact .inr (.inr (.inr ⟨nj, hnj, .inl rfl⟩))
    · exact .inr (.inr (.inr ⟨nj, hnj, .inr (.inl rfl)⟩))
  have N1 : News g' L' h' [(P, ({ cls := .type "tuple", data := .seq [.int j tj].toArray } : Obj)), (nj.x, infoObj j nj.t (-1) nj.tn nj.d nj.l), (nj.d, dictOf [] 0), (R, listOf (ivals rl).toArray rn), (S, instObj 144 dx), (dx, dictOf (sDict w t1 t2 t3 t4 D (.ref R) (.int po tp) (.int nf tf)) nd), (D, oD)] := newsOf N' mc0 (newsCons (by rw [← hox]; exact N' (nj.x, nj.obj) (.tail _ (.tail _ (mem1 _ mc0)))) (newsOf N' (.tail _ (.tail _ (mem1 _ mc1))) (newsOf N' mc1 (newsOf N' mc2 (newsOf N' mc3 (newsOf N' mc4 newsNil))))))
  refine Classical.byContradiction fun hGG => ?_
  obtain ⟨g1, F1, N1, st1, hold1⟩ := rebase F' N1
  refine hGG ?_
  clear hGG
  have B1 := below_sub B' st1
  have X1 := X'.keeps st1
  have T1 := T'.keeps st1
  have hne1 := Apart.mk hS.neSX
  have hne2 := Apart.mk hS.neSD
  have hne3 := Apart.mk hS.neXD
  have hlo := hS.lo
  have pR : Apart R P := ⟨Nat.ne_of_lt (ltP R (.head _))⟩
  have pS : Apart S P := ⟨Nat.ne_of_lt (ltP S (by first | exact mc0 | exact mc1 | exact mc2 | exact mc3 | exact mc4 | simp [sAddrs]))⟩
  have pX : Apart dx P := ⟨Nat.ne_of_lt (ltP dx (by first | exact mc0 | exact mc1 | exact mc2 | exact mc3 | exact mc4 | simp [sAddrs]))⟩
  have pD : Apart D P := ⟨Nat.ne_of_lt (ltP D (by first | exact mc0 | exact mc1 | exact mc2 | exact mc3 | exact mc4 | simp [sAddrs]))⟩
  have px : Apart nj.x P := ⟨Nat.ne_of_lt (ltP nj.x (.tail _ (mem_sx hnj)))⟩
  have pd : Apart nj.d P := ⟨Nat.ne_of_lt (ltP nj.d (.tail _ (mem_sd hnj)))⟩
  have exd : Apart nj.x nj.d := ⟨hS.xd hnj hnj⟩
  have exR : Apart nj.x R := ⟨nRx nj hnj⟩
  have exS : Apart nj.x S := ⟨hS.xS hnj⟩
  have exX : Apart nj.x dx := ⟨hS.xX hnj⟩
  have exD : Apart nj.x D := ⟨hS.xD hnj⟩
  have eRS := Apart.mk nRS
  have eRX := Apart.mk nRX
  have eRD := Apart.mk nRD
  have edR : Apart nj.d R := ⟨nRd nj hnj⟩
  have edX : Apart nj.d dx := ⟨(hS.neXd nj hnj).1⟩
  have edD : Apart nj.d D := ⟨(hS.neXd nj hnj).2⟩
  have edS : Apart nj.d S := ⟨fun q => by have := anj.d; rw [q, hS.atS] at this; simp at this⟩
  have hvj : valueAt (kvsOf nds) j = some (.ref nj.x) := by rw [← hj]; exact valueAt_some hnj hS.ids
  clear F N
  have bG : Base g' := ⟨trivial⟩
  k_steps
  (rename Fr g1 L' _ _ => lF); (rename News g1 L' _ _ => lN)
  rename_i hs _
  have mP := lN _ (.head _)
  have mx := lN _ (.tail _ (.head _))
  have md := lN _ (.tail _ (.tail _ (.head _)))
  have mR := lN _ (.tail _ (.tail _ (.tail _ (.head _))))
  have mS := lN _ (.tail _ (.tail _ (.tail _ (.tail _ (.head _)))))
  have mX := lN _ (.tail _ (.tail _ (.tail _ (.tail _ (.tail _ (.head _))))))
  have mD := lN _ (.tail _ (.tail _ (.tail _ (.tail _ (.tail _ (.tail _ (.head _)))))))
  dsimp only at mP mx md mR mS mX mD
  have kept : ∀ b ∈ sAddrs S dx D nds, ∀ o, s.heap.get? b = some o → hs.get? b = some o := fun b hb o e => by
    by_cases hled : ∃ p ∈ [(P, ({ cls := .type "tuple", data := .seq [.int j tj].toArray } : Obj)), (nj.x, infoObj j nj.t (-1) nj.tn nj.d nj.l), (nj.d, dictOf [] 0), (R, listOf (ivals rl).toArray rn), (S, instObj 144 dx), (dx, dictOf (sDict w t1 t2 t3 t4 D (.ref R) (.int po tp) (.int nf tf)) nd), (D, oD)], p.1 = b
    · refine Classical.byContradiction fun hGG => ?_
      obtain ⟨p, hp, q⟩ := hled
      refine hGG ?_
      clear hGG
      have e1 := (N1 p hp).1
      rw [q, hKeep' b o e] at e1
      have e2 := (lN p hp).1
      rw [q] at e2
      rw [e2, e1]
    · exact lF.keep b o (hold1 b o (ltL b (.tail _ hb)) (fun p hp q => hled ⟨p, hp, q⟩) (hKeep' b o e))
  have hSA : SorterAt prog w hs S dx D (.ref R) po nf nds := hS.keep kept
  have off1 : ∀ b ∈ R :: sAddrs S dx D nds, b ≠ L' ∧ g'.get? b = none := fun b hb => by
    refine ⟨Nat.ne_of_lt (ltL b hb), ?_⟩
    rcases memC.mp hb with rfl | hb
    · exact (N' _ (.tail _ (.head _))).2.2
    · rw [← sLed_addrs S dx D (dictOf (sDict w t1 t2 t3 t4 D (.ref R) (.int po tp) (.int nf tf)) nd) oD] at hb
      obtain ⟨p, hp, rfl⟩ := List.mem_map.mp hb
      exact (N' p (.tail _ (.tail _ hp))).2.2
  have oP' : g'.get? P = none := (N' _ (.head _)).2.2
  have liveI : ∀ I, hs.get? I = none → ∀ b ∈ R :: sAddrs S dx D nds, I ≠ b := fun I fI b hb => by
    rcases List.mem_cons.mp hb with q | hb
    · rw [q]; exact ne_of_fresh fI mR.1
    · obtain ⟨o, ho⟩ := hSA.live b hb
      exact ne_of_fresh fI ho
  refine loop_seq (T := P) (cls := "tuple") (h₀ := g') rfl (.inl rfl) mP.1 rfl rfl (fr_sub lF st1 F') mP.2.1
    (fun I i mm hh => ((i = 0 ∧ SorterAt prog w hh S dx D (.ref R) po nf nds ∧ hh.get? R = some (listOf (ivals rl).toArray rn)) ∨
        (i = 1 ∧ Sm2 (fun nds' rn' => Al4 (nds'.map Nd.shape = nds.map Nd.shape) (NpIs nds' (decAll (fun c => if c = j then -2 else f c, rl) nj.sc).1) (hh.get? R = some (listOf (ivals (decAll (fun c => if c = j then -2 else f c, rl) nj.sc).2).toArray rn')) (SorterAt prog w hh S dx D (.ref R) po (nf + 1) nds')))) ∧
      ∀ z, z ≠ Str.ofString "node" → z ≠ Str.ofString "nodeinfo" → z ≠ Str.ofString "stat" → z ≠ Str.ofString "successor" → z ≠ Str.ofString "successor_info" → mm z = (fun y => if y = Str.ofString "n2i" then some (Value.ref D) else List.lookup y [(Str.ofString "self", Value.ref S), (Str.ofString "nodes", Value.ref P)].reverse) z) ?h0 ?stab ⟨?turn⟩ ⟨?done⟩
  case h0 =>
    intro I h2 fI hM2
    exact ⟨.inl ⟨rfl, hSA.mod hM2 (fun _ _ q => nomatch q), hM2.keep _ _ (fun q => nomatch q) mR.1⟩, fun _ _ _ _ _ _ => rfl⟩
  case stab =>
    rintro I i mm h2 h3 fI ⟨a12, a3⟩ hM2
    have nin : ∀ b ∈ R :: sAddrs S dx D nds, b ∉ [L', I] := fun b hb q => by
      rcases List.mem_cons.mp q with q | q
      · exact (off1 b hb).1 q
      · exact liveI I fI b hb (List.mem_singleton.mp q).symm
    refine ⟨a12.imp ?_ ?_, a3⟩
    · intro hR1
      refine Classical.byContradiction fun hGG => ?_
      obtain ⟨e, a1, a2⟩ := hR1
      refine hGG ?_
      clear hGG
      exact ⟨e, a1.mod hM2 (fun b hb => nin b (.tail _ hb)), hM2.keep _ _ (nin R (.head _)) a2⟩
    · intro hR2
      refine Classical.byContradiction fun hGG => ?_
      obtain ⟨e, nds', rn', s1, s2, s3, s4⟩ := hR2
      refine hGG ?_
      clear hGG
      exact ⟨e, nds', rn', s1, s2, hM2.keep _ _ (nin R (.head _)) s3, s4.mod hM2 (fun b hb => nin b (.tail _ (by rw [shape_addrs S dx D s1] at hb; exact hb)))⟩
  case done =>
    rintro I mm hh tk2 fI _ ⟨a12, a3⟩ F3
    replace F3 : Fr g' L' hh _ := F3
    rcases a12 with ⟨e, _⟩ | ⟨e, nds', rn', s1, s2, s3, s4⟩
    · simp at e
    · k_with_none
      k_steps
      refine hQA _ _ ?_
      exact backM_ F3 fun hM9 => ret _ _ rn' nds' (by simpa [sLed_addrs] using hM9) s1 s2 s3 s4
  case turn =>
    rintro I oI i v mm hh tk2 fI fI0 hIL hIP hI hPt hv ⟨a12, hmm⟩ F3
    replace F3 : Fr g' L' hh _ := F3
    refine hide fun QB hQB => ?_
    have hi0 : i = 0 := by
      rcases Nat.lt_or_ge i 1 with q | q
      · omega
      · rw [Array.getElem?_eq_none (by simpa using q)] at hv; cases hv
    subst hi0
    have hv' : v = .int j tj := by simpa using hv.symm
    subst hv'
    refine Classical.byContradiction fun hGG => ?_
    obtain ⟨hSA2, hR2⟩ : SorterAt prog w hh S dx D (.ref R) po nf nds ∧ hh.get? R = some (listOf (ivals rl).toArray rn) := by
      rcases a12 with ⟨_, a⟩ | ⟨e, _⟩
      · exact a
      · exact absurd e (by decide)
    obtain ⟨u1, u2, u3, u4, up, uf, und, hX2⟩ := hSA2.atX
    obtain ⟨oD2, hDD2, hDk2⟩ := hSA2.atD
    refine hGG ?_
    clear hGG
    have a1 := hSA2.atN nj hnj
    have a1x := a1.x
    rw [hox] at a1x
    have N3 : News g' L' hh [(I, oI), (P, ({ cls := .type "tuple", data := .seq [.int j tj].toArray } : Obj)), (nj.x, infoObj j nj.t (-1) nj.tn nj.d nj.l), (nj.d, dictOf [] 0), (R, listOf (ivals rl).toArray rn), (S, instObj 144 dx), (dx, dictOf (sDict w u1 u2 u3 u4 D (.ref R) (.int po up) (.int nf uf)) und), (D, oD2)] := by
      refine newsCons ?_ (newsCons ?_ (newsCons ?_ (newsCons ?_ (newsCons ?_ (newsCons ?_ (newsCons ?_ (newsCons ?_ newsNil)))))))
      · exact ⟨hI, hIL, fI0⟩
      · exact ⟨hPt, mP.2.1, oP'⟩
      · exact ⟨a1x, off1 _ (.tail _ (mem_sx hnj))⟩
      · exact ⟨a1.d, off1 _ (.tail _ (mem_sd hnj))⟩
      · exact ⟨hR2, off1 _ (.head _)⟩
      · exact ⟨hSA2.atS, off1 _ (by first | exact mc0 | exact mc1 | exact mc2 | exact mc3 | exact mc4 | simp [sAddrs])⟩
      · exact ⟨hX2, off1 _ (by first | exact mc0 | exact mc1 | exact mc2 | exact mc3 | exact mc4 | simp [sAddrs])⟩
      · exact ⟨hDD2, off1 _ (by first | exact mc0 | exact mc1 | exact mc2 | exact mc3 | exact mc4 | simp [sAddrs])⟩
    refine Classical.byContradiction fun hGG => ?_
    obtain ⟨g2, F4, N4, st2, hold2⟩ := rebase F3 N3
    refine hGG ?_
    clear hGG
    have B2 := below_sub B' st2
    have X2 := X'.keeps st2
    have T2 := T'.keeps st2
    have F5 := kst_fr (ps := []) (stored := [Str.ofString "nodeinfo", Str.ofString "stat", Str.ofString "successor", Str.ofString "successor_info"]) (m₀ := (fun y => if y = Str.ofString "n2i" then some (Value.ref D) else List.lookup y [(Str.ofString "self", Value.ref S), (Str.ofString "nodes", Value.ref P)].reverse)) (by first | exact mc0 | exact mc1 | exact mc2 | exact mc3 | exact mc4 | exact mc5 | exact mc6 | exact mc7 | simp) (fun z hz _ hz2 => by
      simp only [List.contains_cons, List.contains_nil, Bool.or_false, Bool.or_eq_false_iff, beq_eq_false_iff_ne, ne_eq] at hz2
      exact hmm z hz hz2.1 hz2.2.1 hz2.2.2.1 hz2.2.2.2) F4
    clear F4 F3 lF lN
    have lI := liveI I fI
    have eIx : Apart I nj.x := ⟨lI _ (.tail _ (mem_sx hnj))⟩
    have eId : Apart I nj.d := ⟨lI _ (.tail _ (mem_sd hnj))⟩
    have eIR : Apart I R := ⟨lI _ (.head _)⟩
    have eIS : Apart I S := ⟨lI _ (by first | exact mc0 | exact mc1 | exact mc2 | exact mc3 | exact mc4 | simp [sAddrs])⟩
    have eIX : Apart I dx := ⟨lI _ (by first | exact mc0 | exact mc1 | exact mc2 | exact mc3 | exact mc4 | simp [sAddrs])⟩
    have eID : Apart I D := ⟨lI _ (by first | exact mc0 | exact mc1 | exact mc2 | exact mc3 | exact mc4 | simp [sAddrs])⟩
    have eIP : Apart I P := ⟨hIP⟩
    have keep4 : Hold (News g2 L' hh _) := ⟨N4⟩
    k_steps
    (rename Fr g2 L' _ _ => lF); (rename News g2 L' _ _ => lN)
    rename_i ts hb
    have qI := lN _ (.head _)
    have qP := lN _ (.tail _ (.head _))
    have qx := lN _ (.tail _ (.tail _ (.head _)))
    have qR := lN _ (.tail _ (.tail _ (.tail _ (.tail _ (.head _)))))
    dsimp only at qI qP qx qR
    have kk := turn_keep keep4.out lF lN hold2 [nj.x] (SameL.out (by repeat (first | exact SameL.nil _ | (with_reducible exact SameL.same _) | (with_reducible refine SameL.keep ?_) | (refine SameL.upd ?_ (by first | exact mc0 | exact mc1 | exact mc2 | exact mc3 | exact mc4 | exact mc5 | exact mc6 | exact mc7 | simp)) | refine SameL.new ?_)))
    have hSA3 : SorterAt prog w hb S dx D (.ref R) po nf (setNp nds nj.i (-2) 213) :=
      hSA2.np hnj (fun b hb hbl o e => kk b o (.inl (ltL b (.tail _ hb))) (by simpa using hbl) e) (by rw [hj]; exact qx.1)
    have hSh3 : (setNp nds nj.i (-2) 213).map Nd.shape = nds.map Nd.shape := setNp_shape _ _ _ _
    have hNp3 : NpIs (setNp nds nj.i (-2) 213) (fun c => if c = j then -2 else f c) := by
      have := npIs_set (j := nj.i) (np := -2) (tn := 213) hf
      rw [hj] at this ⊢
      exact this
    refine Classical.byContradiction fun hGG => ?_
    obtain ⟨n3, hn3, hn3s⟩ := shape_mem hSh3 hnj
    refine hGG ?_
    clear hGG
    have e3l : n3.l = nj.l := congrArg (fun p => p.2.2.1) hn3s
    have e3s : n3.sc = nj.sc := congrArg (fun p => p.2.2.2.2.2.1) hn3s
    have e3n : n3.ln = nj.ln := congrArg (fun p => p.2.2.2.2.2.2) hn3s
    have hT3 : hb.get? nj.l = some (listOf (ivals nj.sc).toArray nj.ln) := by
      have := (hSA3.atN n3 hn3).l
      rw [Nd.lst, e3l, e3s, e3n] at this
      exact this
    have liveI2 : ∀ I2, hb.get? I2 = none → ∀ b ∈ R :: sAddrs S dx D nds, I2 ≠ b := fun I2 fI2 b hb2 => by
      rcases List.mem_cons.mp hb2 with q | hb2
      · rw [q]; exact ne_of_fresh fI2 qR.1
      · obtain ⟨o, ho⟩ := hSA3.live b (by rw [setNp_addrs]; exact hb2)
        exact ne_of_fresh fI2 ho
    refine loop_seq (T := nj.l) (cls := "list") (h₀ := g') rfl (.inr rfl) hT3 rfl rfl (fr_sub lF st2 F') (off1 _ (.tail _ (mem_sl hnj))).1
      (fun I2 i mm2 hh2 => (Sm2 (fun nds' rn' => Al4 (nds'.map Nd.shape = nds.map Nd.shape) (NpIs nds' (decAll (fun c => if c = j then -2 else f c, rl) (nj.sc.take i)).1) (hh2.get? R = some (listOf (ivals (decAll (fun c => if c = j then -2 else f c, rl) (nj.sc.take i)).2).toArray rn')) (SorterAt prog w hh2 S dx D (.ref R) po nf nds'))) ∧
        hh2.get? I = some oI ∧ hh2.get? P = some ({ cls := .type "tuple", data := .seq [.int j tj].toArray } : Obj) ∧
        ∀ z, z ≠ Str.ofString "successor" → z ≠ Str.ofString "successor_info" → mm2 z = (fun y => if y = Str.ofString "stat" then some (Value.int (-1) ts) else if y = Str.ofString "nodeinfo" then some (Value.ref nj.x) else if y = Str.ofString "node" then some (Value.int j tj) else
          kstB (fun z => if [Str.ofString "nodeinfo", Str.ofString "stat", Str.ofString "successor", Str.ofString "successor_info"].contains z = true then mm z else if z = Str.ofString "n2i" then some (Value.ref D) else List.lookup z [(Str.ofString "self", Value.ref S), (Str.ofString "nodes", Value.ref P)].reverse) [] y) z) ?h02 ?stab2 ⟨?turn2⟩ ⟨?done2⟩
    case h02 =>
      intro I2 h2 fI2 hM2
      exact ⟨⟨_, rn, hSh3, hNp3, hM2.keep _ _ (fun q => nomatch q) qR.1, hSA3.mod hM2 (fun _ _ q => nomatch q)⟩, hM2.keep _ _ (fun q => nomatch q) qI.1, hM2.keep _ _ (fun q => nomatch q) qP.1, fun _ _ _ => rfl⟩
    case stab2 =>
      intro I2 i mm2 h2 h3 fI2 hR3 hM2
      refine Classical.byContradiction fun hGG => ?_
      obtain ⟨⟨nds', rn', s1, s2, s3, s4⟩, b1, b2, b3⟩ := hR3
      refine hGG ?_
      clear hGG
      have nin : ∀ b ∈ R :: sAddrs S dx D nds, b ∉ [L', I2] := fun b hb q => by
        rcases List.mem_cons.mp q with q | q
        · exact (off1 b hb).1 q
        · exact liveI2 I2 fI2 b hb (List.mem_singleton.mp q).symm
      refine ⟨⟨nds', rn', s1, s2, hM2.keep _ _ (nin R (.head _)) s3, s4.mod hM2 (fun b hb => nin b (.tail _ (by rw [shape_addrs S dx D s1] at hb; exact hb)))⟩, hM2.keep _ _ (fun q => ?_) b1, hM2.keep _ _ (fun q => ?_) b2, b3⟩
      · rcases List.mem_cons.mp q with q | q
        · exact hIL q
        · exact ne_of_fresh fI2 qI.1 (List.mem_singleton.mp q).symm
      · rcases List.mem_cons.mp q with q | q
        · exact mP.2.1 q
        · exact ne_of_fresh fI2 qP.1 (List.mem_singleton.mp q).symm
    case done2 =>
      intro I2 mm2 hh2 tk5 fI2 hTl hR4 F6
      refine Classical.byContradiction fun hGG => ?_
      obtain ⟨⟨nds', rn', s1, s2, s3, s4⟩, b1, b2, b3⟩ := hR4
      refine hGG ?_
      clear hGG
      replace F6 : Fr g' L' hh2 _ := F6
      have e9 : List.take (ivals nj.sc).toArray.size nj.sc = nj.sc := List.take_of_length_le (by simp [ivals])
      rw [e9] at s2 s3
      refine Classical.byContradiction fun hGG => ?_
      obtain ⟨v1, v2, v3, v4, vp, vf, vnd, hX4⟩ := s4.atX
      refine hGG ?_
      clear hGG
      have N6 : News g' L' hh2 [(I, oI), (P, ({ cls := .type "tuple", data := .seq [.int j tj].toArray } : Obj)), (S, instObj 144 dx), (dx, dictOf (sDict w v1 v2 v3 v4 D (.ref R) (.int po vp) (.int nf vf)) vnd)] := by
        refine newsCons ?_ (newsCons ?_ (newsCons ?_ (newsCons ?_ newsNil)))
        · exact ⟨b1, hIL, fI0⟩
        · exact ⟨b2, mP.2.1, oP'⟩
        · exact ⟨s4.atS, off1 _ (by first | exact mc0 | exact mc1 | exact mc2 | exact mc3 | exact mc4 | simp [sAddrs])⟩
        · exact ⟨hX4, off1 _ (by first | exact mc0 | exact mc1 | exact mc2 | exact mc3 | exact mc4 | simp [sAddrs])⟩
      refine Classical.byContradiction fun hGG => ?_
      obtain ⟨g4, F7, N7, st4, hold4⟩ := rebase F6 N6
      refine hGG ?_
      clear hGG
      have B4 := below_sub B' st4
      have X4 := X'.keeps st4
      have T4 := T'.keeps st4
      have F8 := kst_frOut (x := Str.ofString "successor") (ps := []) (stored := [Str.ofString "successor_info"]) (m₀ := (fun y => if y = Str.ofString "stat" then some (Value.int (-1) ts) else if y = Str.ofString "nodeinfo" then some (Value.ref nj.x) else if y = Str.ofString "node" then some (Value.int j tj) else
          kstB (fun z => if [Str.ofString "nodeinfo", Str.ofString "stat", Str.ofString "successor", Str.ofString "successor_info"].contains z = true then mm z else if z = Str.ofString "n2i" then some (Value.ref D) else List.lookup z [(Str.ofString "self", Value.ref S), (Str.ofString "nodes", Value.ref P)].reverse) [] y)) (by first | exact mc0 | exact mc1 | exact mc2 | exact mc3 | exact mc4 | exact mc5 | exact mc6 | exact mc7 | simp) (fun z hz _ hz2 => b3 z hz (by simpa using hz2)) F7
      clear F7 F6 lF lN
      have keep7 : Hold (News g4 L' hh2 _) := ⟨N7⟩
      k_steps
      (rename Fr g4 L' _ _ => lF); (rename News g4 L' _ _ => lN)
      have kk2 := turn_keep keep7.out lF lN hold4 [dx] (SameL.out (by repeat (first | exact SameL.nil _ | (with_reducible exact SameL.same _) | (with_reducible refine SameL.keep ?_) | (refine SameL.upd ?_ (by first | exact mc0 | exact mc1 | exact mc2 | exact mc3 | exact mc4 | exact mc5 | exact mc6 | exact mc7 | simp)) | refine SameL.new ?_)))
      refine hQB _ _ ?_
      refine ⟨_, _, _, rfl, fr_sub lF st4 F', ?_, ⟨.inr ⟨by simp, nds', rn', s1, s2, ?_, ?_⟩, ?_⟩⟩
      · intro b hb o e
        simp only [memC, List.not_mem_nil, or_false] at hb
        rcases hb with rfl | rfl
        · rw [hI] at e; cases e; exact (lN _ (.head _)).1
        · rw [hPt] at e; cases e; exact (lN _ (.tail _ (.head _))).1
      · exact kk2 R _ (.inl (ltL R (.head _))) (by simpa using nRX) s3
      · exact s4.attr (fun b hb hbX o e => kk2 b o (.inl (ltL b (.tail _ (by rw [shape_addrs S dx D s1] at hb; exact hb)))) (by simpa using hbX) e) ⟨_, _, _, _, _, _, _, (lN _ (.tail _ (.tail _ (.tail _ (.head _))))).1⟩
      · intro z z1 z2 z3 z4 z5
        simp [z1, z2, z3, z4, z5, kstB]
    case turn2 =>
      intro I2 oI2 i v mm2 hh2 tk5 fI2 fI20 hI2L hI2T hI2 hTl hv2 hR5 F6
      refine Classical.byContradiction fun hGG => ?_
      obtain ⟨⟨nds', rn', s1, s2, s3, s4⟩, b1, b2, b3⟩ := hR5
      refine hGG ?_
      clear hGG
      replace F6 : Fr g' L' hh2 _ := F6
      refine hide fun QC hQC => ?_
      refine Classical.byContradiction fun hGG => ?_
      obtain ⟨p, hp, rfl⟩ : ∃ p, nj.sc[i]? = some p ∧ v = .int p.1 p.2 := by
        simp only [ivals, List.getElem?_toArray, List.getElem?_map, Option.map_eq_some_iff] at hv2
        obtain ⟨p, hp, e⟩ := hv2
        exact ⟨p, hp, e.symm⟩
      obtain ⟨n0, hn0, hni⟩ := hsc p (List.mem_of_getElem? hp)
      obtain ⟨nc, hnc, hncs⟩ := shape_mem s1 hn0
      refine hGG ?_
      clear hGG
      have hnci : nc.i = p.1 := by rw [← hni]; exact congrArg (fun p => p.2.2.2.1) hncs
      have ac := s4.atN nc hnc
      have A5 := shape_addrs S dx D s1
      refine Classical.byContradiction fun hGG => ?_
      obtain ⟨oD4, hDD4, hDk4⟩ := s4.atD
      obtain ⟨v1, v2, v3, v4, vp, vf, vnd, hX4⟩ := s4.atX
      refine hGG ?_
      clear hGG
      have off5 : ∀ b ∈ sAddrs S dx D nds', b ≠ L' ∧ g'.get? b = none := fun b hb => off1 b (by rw [A5] at hb; exact .tail _ hb)
      generalize hst : decAll (fun c => if c = j then -2 else f c, rl) (nj.sc.take i) = st at s2 s3
      have hnpc : nc.np = st.1 p.1 := by rw [s2 nc hnc, hnci]
      have hocx : nc.obj = infoObj p.1 nc.t (st.1 p.1) nc.tn nc.d nc.l := by rw [← hnpc, ← hnci]; rfl
      have acx := ac.x
      rw [hocx] at acx
      have hil : i < nj.sc.length := by
        rcases Nat.lt_or_ge i nj.sc.length with q | q
        · exact q
        · rw [List.getElem?_eq_none q] at hp; cases hp
      have hrz : (ivals st.2).length ≤ 1000 := by
        rw [ivals_len, ← hst]
        have := decAll_len (nj.sc.take i) ((fun c => if c = j then -2 else f c, rl))
        simp at this
        omega
      have N6 : News g' L' hh2 [(I2, oI2), (I, oI), (P, ({ cls := .type "tuple", data := .seq [.int j tj].toArray } : Obj)), (nc.x, infoObj p.1 nc.t (st.1 p.1) nc.tn nc.d nc.l), (nc.d, dictOf [] 0), (R, listOf (ivals st.2).toArray rn'), (S, instObj 144 dx), (dx, dictOf (sDict w v1 v2 v3 v4 D (.ref R) (.int po vp) (.int nf vf)) vnd), (D, oD4)] := by
        refine newsCons ?_ (newsCons ?_ (newsCons ?_ (newsCons ?_ (newsCons ?_ (newsCons ?_ (newsCons ?_ (newsCons ?_ (newsCons ?_ newsNil))))))))
        · exact ⟨hI2, hI2L, fI20⟩
        · exact ⟨b1, hIL, fI0⟩
        · exact ⟨b2, mP.2.1, oP'⟩
        · exact ⟨acx, off5 _ (mem_sx hnc)⟩
        · exact ⟨ac.d, off5 _ (mem_sd hnc)⟩
        · exact ⟨s3, off1 _ (.head _)⟩
        · exact ⟨s4.atS, off5 _ (by first | exact mc0 | exact mc1 | exact mc2 | exact mc3 | exact mc4 | simp [sAddrs])⟩
        · exact ⟨hX4, off5 _ (by first | exact mc0 | exact mc1 | exact mc2 | exact mc3 | exact mc4 | simp [sAddrs])⟩
        · exact ⟨hDD4, off5 _ (by first | exact mc0 | exact mc1 | exact mc2 | exact mc3 | exact mc4 | simp [sAddrs])⟩
      refine Classical.byContradiction fun hGG => ?_
      obtain ⟨g4, F7, N7, st4, hold4⟩ := rebase F6 N6
      refine hGG ?_
      clear hGG
      have B4 := below_sub B' st4
      have X4 := X'.keeps st4
      have T4 := T'.keeps st4
      have F8 := kst_fr (ps := []) (stored := [Str.ofString "successor_info"]) (m₀ := (fun y => if y = Str.ofString "stat" then some (Value.int (-1) ts) else if y = Str.ofString "nodeinfo" then some (Value.ref nj.x) else if y = Str.ofString "node" then some (Value.int j tj) else
          kstB (fun z => if [Str.ofString "nodeinfo", Str.ofString "stat", Str.ofString "successor", Str.ofString "successor_info"].contains z = true then mm z else if z = Str.ofString "n2i" then some (Value.ref D) else List.lookup z [(Str.ofString "self", Value.ref S), (Str.ofString "nodes", Value.ref P)].reverse) [] y)) (by first | exact mc0 | exact mc1 | exact mc2 | exact mc3 | exact mc4 | exact mc5 | exact mc6 | exact mc7 | simp) (fun z hz _ hz2 => b3 z hz (by simpa using hz2)) F7
      clear F7 F6 lF lN
      have l2 := liveI2 I2 fI2
      have cA : ∀ {b}, b ∈ sAddrs S dx D nds' → b ∈ R :: sAddrs S dx D nds := fun hb => .tail _ (by rw [A5] at hb; exact hb)
      have e1 : Apart I2 nc.x := ⟨l2 _ (cA (mem_sx hnc))⟩
      have e2 : Apart I2 nc.d := ⟨l2 _ (cA (mem_sd hnc))⟩
      have e3 : Apart I2 R := ⟨l2 _ (.head _)⟩
      have e4 : Apart I nc.x := ⟨lI _ (cA (mem_sx hnc))⟩
      have e5 : Apart I nc.d := ⟨lI _ (cA (mem_sd hnc))⟩
      have e6 : Apart nc.x nc.d := ⟨s4.xd hnc hnc⟩
      have e7 : Apart nc.x R := ⟨nRA _ (by rw [← A5]; exact mem_sx hnc)⟩
      have e8 : Apart nc.d R := ⟨nRA _ (by rw [← A5]; exact mem_sd hnc)⟩
      have e9 : Apart nc.x S := ⟨s4.xS hnc⟩
      have e10 : Apart nc.x dx := ⟨s4.xX hnc⟩
      have e11 : Apart nc.x D := ⟨s4.xD hnc⟩
      have pcx : Apart nc.x P := ⟨Nat.ne_of_lt (ltP nc.x (cA (mem_sx hnc)))⟩
      have pcd : Apart nc.d P := ⟨Nat.ne_of_lt (ltP nc.d (cA (mem_sd hnc)))⟩
      have hvs : valueAt (kvsOf nds') p.1 = some (.ref nc.x) := by rw [← hnci]; exact valueAt_some hnc s4.ids
      have keep7 : Hold (News g4 L' hh2 _) := ⟨N7⟩
      k_steps
      all_goals ((rename Fr g4 L' _ _ => lF); (rename News g4 L' _ _ => lN))
      · rename _ - 1 = (0 : Int) => hc0
        have kk2 := turn_keep keep7.out lF lN hold4 [nc.x, R] (SameL.out (by repeat (first | exact SameL.nil _ | (with_reducible exact SameL.same _) | (with_reducible refine SameL.keep ?_) | (refine SameL.upd ?_ (by first | exact mc0 | exact mc1 | exact mc2 | exact mc3 | exact mc4 | exact mc5 | exact mc6 | exact mc7 | simp)) | refine SameL.new ?_)))
        have wx := lN _ (.tail _ (.tail _ (.tail _ (.head _))))
        have wR := lN _ (.tail _ (.tail _ (.tail _ (.tail _ (.tail _ (.head _))))))
        dsimp only at wx wR
        rw [← hnci] at wx
        have hW := s4.np hnc (fun b hb hbl o e => kk2 b o (.inl (ltL b (cA hb))) (by simp only [List.mem_cons, List.not_mem_nil, or_false, not_or]; exact ⟨hbl, nRA b (by rw [← A5]; exact hb)⟩) e) wx.1
        have hRe : (decAll (fun c => if c = j then -2 else f c, rl) (nj.sc.take (i + 1))).2 = st.2 ++ [p] := by
          rw [decAll_take hp, hst]
          unfold decStep
          dsimp only
          rw [if_pos hc0]
        have wR1 := wR.1
        rw [show ivals st.2 ++ [.int p.1 p.2] = ivals (st.2 ++ [p]) from by simp [ivals], ← hRe] at wR1
        refine hQC _ _ ?_
        refine ⟨_, _, _, rfl, fr_sub lF st4 F', ?_, ⟨⟨_, _, (setNp_shape _ _ _ _).trans s1, ?_, wR1, hW⟩, (lN _ (.tail _ (.head _))).1, (lN _ (.tail _ (.tail _ (.head _)))).1, fun z z1 z2 => by simp [z1, z2, kstB]⟩⟩
        · intro b hb o e
          simp only [memC, List.not_mem_nil, or_false] at hb
          rcases hb with rfl | rfl
          · exact kk2 _ o (.inr ⟨_, .head _, rfl⟩) (by simp only [List.mem_cons, List.not_mem_nil, or_false, not_or]; exact ⟨e1.ne, e3.ne⟩) e
          · exact kk2 _ o (.inl (ltL _ (.tail _ (mem_sl hnj)))) (by
              simp only [List.mem_cons, List.not_mem_nil, or_false, not_or]
              refine ⟨fun q => ?_, hRl nj hnj⟩
              rw [q, ac.x] at hTl
              simp [Nd.obj, infoObj] at hTl) e
        · rw [decAll_take hp, hst]
          have := npIs_set (j := nc.i) (np := st.1 nc.i - 1) (tn := 0) s2
          intro n hn
          obtain ⟨n₁, hn₁, rfl⟩ := setNp_mem hn
          show (if n₁.i = nc.i then _ else n₁ : Nd).np = _
          have h9 := s2 n₁ hn₁
          unfold decStep
          dsimp only
          rw [← hnci]
          split
          · rename_i q; simp [q]
          · rename_i q; simp [q, h9]
      · rename _ - 1 ≠ (0 : Int) => hc0
        have kk2 := turn_keep keep7.out lF lN hold4 [nc.x, R] (SameL.out (by repeat (first | exact SameL.nil _ | (with_reducible exact SameL.same _) | (with_reducible refine SameL.keep ?_) | (refine SameL.upd ?_ (by first | exact mc0 | exact mc1 | exact mc2 | exact mc3 | exact mc4 | exact mc5 | exact mc6 | exact mc7 | simp)) | refine SameL.new ?_)))
        have wx := lN _ (.tail _ (.tail _ (.tail _ (.head _))))
        have wR := lN _ (.tail _ (.tail _ (.tail _ (.tail _ (.tail _ (.head _))))))
        dsimp only at wx wR
        rw [← hnci] at wx
        have hW := s4.np hnc (fun b hb hbl o e => kk2 b o (.inl (ltL b (cA hb))) (by simp only [List.mem_cons, List.not_mem_nil, or_false, not_or]; exact ⟨hbl, nRA b (by rw [← A5]; exact hb)⟩) e) wx.1
        have hRe : (decAll (fun c => if c = j then -2 else f c, rl) (nj.sc.take (i + 1))).2 = st.2 := by
          rw [decAll_take hp, hst]
          unfold decStep
          dsimp only
          rw [if_neg hc0]
        have wR1 := wR.1
        rw [← hRe] at wR1
        refine hQC _ _ ?_
        refine ⟨_, _, _, rfl, fr_sub lF st4 F', ?_, ⟨⟨_, _, (setNp_shape _ _ _ _).trans s1, ?_, wR1, hW⟩, (lN _ (.tail _ (.head _))).1, (lN _ (.tail _ (.tail _ (.head _)))).1, fun z z1 z2 => by simp [z1, z2, kstB]⟩⟩
        · intro b hb o e
          simp only [memC, List.not_mem_nil, or_false] at hb
          rcases hb with rfl | rfl
          · exact kk2 _ o (.inr ⟨_, .head _, rfl⟩) (by simp only [List.mem_cons, List.not_mem_nil, or_false, not_or]; exact ⟨e1.ne, e3.ne⟩) e
          · exact kk2 _ o (.inl (ltL _ (.tail _ (mem_sl hnj)))) (by
              simp only [List.mem_cons, List.not_mem_nil, or_false, not_or]
              refine ⟨fun q => ?_, hRl nj hnj⟩
              rw [q, ac.x] at hTl
              simp [Nd.obj, infoObj] at hTl) e
        · rw [decAll_take hp, hst]
          have := npIs_set (j := nc.i) (np := st.1 nc.i - 1) (tn := 0) s2
          intro n hn
          obtain ⟨n₁, hn₁, rfl⟩ := setNp_mem hn
          show (if n₁.i = nc.i then _ else n₁ : Nd).np = _
          have h9 := s2 n₁ hn₁
          unfold decStep
          dsimp only
          rw [← hnci]
          split
          · rename_i q; simp [q]
          · rename_i q; simp [q, h9]
end
noncomputable def nextObj (I : Addr) : Obj := { cls := .type "method-wrapper", data := .fields #[.builtin "list_iterator.__next__", .ref I] }
theorem slot_li_ga : Slot "list_iterator" "__getattribute__" "object.__getattribute__" :=
  .of (owner := "object") (n := "__getattribute__") (by rw [typeLookup_type, builtinLookup_eq_fast]; kernel_rfl) (by decide +kernel) (by decide +kernel) (by decide +kernel)
    (by first | exact .inl (by decide +kernel) | exact .inr (by decide +kernel)) (by rw [isSubtype_type]; kernel_rfl)
theorem li_getattr_none : typeLookup (.type "list_iterator") "__getattr__" = pure none := by rw [typeLookup_type, builtinLookup_eq_fast]; kernel_rfl
theorem li_next : typeLookup (.type "list_iterator") "__next__" = pure (some (.builtin "list_iterator.__next__")) := by rw [typeLookup_type, builtinLookup_eq_fast]; kernel_rfl
theorem type_lin : typeOf (.builtin "list_iterator.__next__") = pure (.type "wrapper_descriptor") := by show builtinType _ = _; rw [builtinType_eq_fast]; kernel_rfl
theorem slot_wget : Slot "wrapper_descriptor" "__get__" "wrapper_descriptor.__get__" :=
  .of (owner := "wrapper_descriptor") (n := "__get__") (by rw [typeLookup_type, builtinLookup_eq_fast]; kernel_rfl) (by decide +kernel) (by decide +kernel) (by decide +kernel)
    (by first | exact .inl (by decide +kernel) | exact .inr (by decide +kernel)) (by rw [isSubtype_type]; kernel_rfl)
theorem entry_wget : entryFor table "wrapper_descriptor.__get__" = some Builtin.«wrapper_descriptor.__get__» := entryFor_of_tree (by kernel_rfl)
theorem args_wget (a b c : Value) : argsOk "wrapper_descriptor.__get__" ⟨[a, b, c], []⟩ := by unfold argsOk; kernel_rfl
theorem look_wset : typeLookup (.type "wrapper_descriptor") "__set__" = pure none := by rw [typeLookup_type, builtinLookup_eq_fast]; kernel_rfl
theorem look_wdel : typeLookup (.type "wrapper_descriptor") "__delete__" = pure none := by rw [typeLookup_type, builtinLookup_eq_fast]; kernel_rfl
theorem sub_li : isSubtype (.type "list_iterator") (.type "list_iterator") = pure true := by rw [isSubtype_type]; kernel_rfl
theorem owner_lin : (kfb_private% "ownerAndName") "list_iterator.__next__" = ("list_iterator", "__next__") := by first | decide +kernel | kernel_rfl

theorem run_wget {prog : Program} {w : World} {A : Around} {E : Value → Shared → Prop} {s : Shared} {I : Addr} {t : Value} {P : Fin → Shared → Prop} (hT : s.TypeIs (.ref I) "list_iterator")
    (h : P (.done (.ret (.ref s.heap.objs.size))) { s with heap := s.heap.push (nextObj I) }) :
    wpAny (model prog w) A (Builtin.«wrapper_descriptor.__get__» ⟨[.builtin "list_iterator.__next__", .ref I, .type "list_iterator"], []⟩) P E s := by
  unfold Builtin.«wrapper_descriptor.__get__»
  refine wpAny_bind (wpAny_of_eq (a := (.builtin "list_iterator.__next__", some (.ref I), some (.type "list_iterator"))) (by first | rfl | kernel_rfl) ?_)
  dsimp only
  refine wpAny_bind (m := (kfb_private% "checkInstance") _ _) ?_
  show wpAny _ _ ((kfb_private% "nameAndClass") _ >>= _) _ _ _
  refine wpAny_bind (wpAny_of_eq (a := (Str.ofString "__next__", Value.type "list_iterator")) (by first | rfl | kernel_rfl) ?_)
  dsimp only
  refine wpAny_bind (wpAny_isInstance (T := "list_iterator") (b := true) hT sub_li ?_)
  refine wpAny_pure ?_
  exact wpAny_bind (wpAny_newObj_type (wpAny_pure h))

theorem run_next_attr (I : Addr) (vs : Array Value) (sl : Array (Option Value)) (u : Tok) {prog : Program} {w : World} {A : Around} {E : Value → Shared → Prop} {s : Shared} {P : Fin → Shared → Prop}
   (hx : s.heap.get? I = some { cls := .type "list_iterator", dict := none, data := .fields vs, slots := sl }) 
    (h : P (.done (.ret (.ref s.heap.objs.size))) { s with heap := s.heap.push (nextObj I) }) :
    wpAny (model prog w) A (Builtin.«object.__getattribute__» ⟨[.ref I, .str (Str.ofString "__next__") u], []⟩) P E s := by
    obtain ⟨hp, g, d, tk, os⟩ := s
    have hT : (⟨hp, g, d, tk, os⟩ : Shared).TypeIs (.ref I) "list_iterator" := ⟨_, hx, rfl⟩
    have f1 := li_next
    have f2 := type_lin
    have f3 := slot_wget.lookup
    have f4 := look_wset
    have f5 := look_wdel
    unfold Builtin.«object.__getattribute__»
    repeat (any_goals (first | assumption | ((with_reducible show wpAny _ _ (call (Value.builtin "wrapper_descriptor.__get__") _ _) _ _ _); refine wpAny_call_entry slot_wget type_lin entry_wget (run_wget (t := .none) hT ⟨_, rfl, ?_⟩) (args_wget _ _ _)) | wp_step))
theorem getAttr_next {prog : Program} {w : World} {A : Around} {E : Value → Shared → Prop} {s : Shared} {I : Addr} {vs : Array Value} {sl : Array (Option Value)} {Q : Value → Shared → Prop}
    (hx : s.heap.get? I = some { cls := .type "list_iterator", dict := none, data := .fields vs, slots := sl })
    (h : Q (.ref s.heap.objs.size) { s with heap := s.heap.push (nextObj I), toks := s.toks + 1 }) :
    wpAny (model prog w) A (getAttr (.ref I) (Str.ofString "__next__") true) Q E s := by
  obtain ⟨hp, g, d, tk, os⟩ := s
  have hT : ∀ tk', (⟨hp, g, d, tk', os⟩ : Shared).TypeIs (.ref I) "list_iterator" := fun _ => ⟨_, hx, rfl⟩
  have f3 := slot_li_ga.lookup
  have f4 := slot_li_ga.bind (.ref I)
  have f5 := li_getattr_none
  unfold getAttr getAttrBy
  repeat (any_goals (first | assumption | exact hT _ | ((with_reducible show wpAny _ _ (call (Value.builtin "object.__getattribute__") _ _) _ _ _); refine wpAny_call_entry slot_li_ga (hT _) F.entry_object_getattribute (run_next_attr I vs sl _ hx ⟨_, rfl, ?_⟩) (F.args_object_getattribute_2 _ _)) | wp_step))
noncomputable def frs (l : List Env) : List Addr := l.filterMap (·.frame)
/-- kept but for the frames' slots -/
structure KeepF (fr : List Addr) (h h' : Heap) : Prop where
  keep : ∀ b o, b ∉ fr → h.get? b = some o → h'.get? b = some o
  slot : ∀ b o, b ∈ fr → h.get? b = some o → (∀ vs, o.data ≠ .fields vs) → ∃ sl, h'.get? b = some { o with slots := sl }
theorem KeepF.funFrames {fr : List Addr} {h h' g : Heap} (k : KeepF fr h h') {l : List Env} (hl : h.FunFrames g l) : h'.FunFrames g l :=
  hl.of_keeps fun b o e hn => by
    by_cases q : b ∈ fr
    · obtain ⟨sl, z⟩ := k.slot b o q e hn
      exact ⟨_, z, rfl⟩
    · exact ⟨o, k.keep b o q e, rfl⟩

section
variable {prog : Program} {w : World} {A₀ : Around} {E : Value → Shared → Prop} {s' : Shared} {g h : Heap} {outer : List Env} {L a e : Addr} {m : Str → Option Value} {name : Str} {scope : Scope} {cd : Value}
  {b₀ : Stmt} {suite : List Stmt} {pos np : Pos} {rest : List ExceptHandler} {Q : Flow → Shared → Prop} {K : Frag}
  {p : Program} {loose : List Str} {mg mb : Str → Option Value} {x : Str} {X T' : String}
theorem catchF (hA : A₀.frames = some outer) (F : Fr g L h m) (FF : h.FunFrames g outer) (hx : Heap.NewExc h s'.heap e X) (XK : K.In g)
    (T : TopRead p loose mg mb g) (ex : nsIn K mainGlobals x = some none) (hv : bootBuiltins x = some (.type T')) (hn : x ≠ "__name__")
    (hexc : isSubtype (.type T') (.type "BaseException") = pure true) (hnt : isSubtype (.type ((Manifest.find? T').elim "type" fun y => y.metatype)) (.type "tuple") = pure false) (hsub : isSubtype (.type X) (.type T') = pure true)
    (k : ∀ h', Fr g L h' m → KeepF (L :: frs outer) h h' →
      wpAny (model prog w) ((A₀.deeper (envOf name scope L a cd)).mark (some (.ref e))) (execs (b₀ :: suite) (envOf name scope L a cd)) Q E { s' with heap := h' })
    (hk : scope.kind = .function) (hxn : (envOf name scope L a cd).kindOf x = some .globalImplicit) (hd : (x == ("__debug__" : Str)) = false)
    (hE : PassesOwnAt (model prog w) ((A₀.deeper (envOf name scope L a cd)).mark (some (.ref e))) (A₀.deeper (envOf name scope L a cd)) (envOf name scope L a cd) E) :
    wpAny (model prog w) (A₀.deeper (envOf name scope L a cd)) (noteFrame (.ref e) (envOf name scope L a cd))
      (fun _ s₂ => wpAny (model prog w) (A₀.deeper (envOf name scope L a cd)) (setFlight (.ref e) none) (fun _ s₃ =>
        wpAny (model prog w) (A₀.deeper (envOf name scope L a cd)) (handleBy (.ref e) (envOf name scope L a cd) (.ExceptHandler (some (.Name x np)) none (b₀ :: suite) pos :: rest)) Q E s₃) E s₂) E s' := by
  refine Classical.byContradiction fun hGG => ?_
  obtain ⟨ob, tp, he, hcls, hdat⟩ := hx.there
  refine hGG ?_
  clear hGG
  have gL : g.get? L = none := kts_self F
  have FF1 : h.FunFrames g (envOf name scope L a cd :: outer) := .cons (by show scope.kind ≠ .module; rw [hk]; decide) rfl F.ns gL FF
  have hin : ∀ env ∈ (envOf name scope L a cd :: outer), ∀ b, env.frame = some b → b ∈ frs (envOf name scope L a cd :: outer) := fun env he b hb => List.mem_filterMap.mpr ⟨env, he, hb⟩
  have FF2 : h.FunFrames (hideAll h (frs (envOf name scope L a cd :: outer))) (envOf name scope L a cd :: outer) := funFrames_hide FF1 hin
  have FF3 : s'.heap.FunFrames (hideAll h (frs (envOf name scope L a cd :: outer))) (envOf name scope L a cd :: outer) := FF2.of_keeps fun b o e _ => ⟨o, hx.keeps b o e, rfl⟩
  have frE : frs (envOf name scope L a cd :: outer) = L :: frs outer := rfl
  generalize hB : hideAll h (frs (envOf name scope L a cd :: outer)) = B at FF2 FF3
  have bk : ∀ b o, B.get? b = some o → h.get? b = some o := fun b o q => of_hideAll _ (hB ▸ q)
  have kb : ∀ b o, b ∉ L :: frs outer → h.get? b = some o → B.get? b = some o := fun b o n q => hB ▸ hideAll_get _ q n
  have hen : B.get? e = none := by
    cases q : B.get? e with
    | none => rfl
    | some o => have := bk _ _ q; rw [hx.new] at this; cases this
  have gB : ∀ b o, g.get? b = some o → B.get? b = some o := fun b o q => kb b o (fun n => by
    rw [← frE] at n
    rw [(FF1.mem n).1] at q; cases q) (F.keep b o q)
  have fin : ∀ h', (∀ b o, B.get? b = some o → h'.get? b = some o) → s'.heap.UpToSlots h' → Fr g L h' m ∧ KeepF (L :: frs outer) h h' := fun h' k1 k2 => by
    refine ⟨⟨k2.ns (F.ns.keeps hx.keeps), fun b o q => k1 b o (gB b o q), F.above⟩, ⟨fun b o n q => k1 b o (kb b o n q), fun b o n q hn => k2 b o (hx.keeps b o q) hn⟩⟩
  unfold noteFrame
  simp only [show (envOf name scope L a cd).frame = some L from rfl]
  refine wpAny_bind (wpAny_field he hdat (x := .none) rfl ?_)
  rw [if_neg (by decide)]
  refine wpAny_entryW (a0 := tp) (Around.frames_deeper hA) FF3 rfl he (fun b o eb => hx.keeps b o (bk b o eb)) hen hdat (by show 1 < 6; decide) rfl fun h₄ hN => ?_
  refine Classical.byContradiction fun hGG => ?_
  obtain ⟨k1, k2, k3, k4⟩ := hN
  refine hGG ?_
  clear hGG
  refine wpAny_landsW ⟨k1, hen, k2, k3⟩ fun h₅ hfl hsm₅ => ?_
  have sm5 : s'.heap.UpToSlots h₅ := Heap.UpToSlots.trans k4 hsm₅
  refine Classical.byContradiction fun hGG => ?_
  obtain ⟨F₅, K₅⟩ := fin h₅ hfl.1 sm5
  obtain ⟨ob', hob, hobc⟩ := hfl.there
  refine hGG ?_
  clear hGG
  refine wpAny_handleBy_builtin (X := X) (T := T') (b := true) hexc hnt hsub (name_B F₅ XK T ex hv hn ⟨rfl, ⟨ob', hob, by rw [hobc, hcls]⟩, ?_⟩ hk hxn hd)
  refine lands_againW hfl fun h₆ hfl₆ hsm₆ => ?_
  obtain ⟨F₆, K₆⟩ := fin h₆ hfl₆.1 (sm5.trans hsm₆)
  exact wpAny_passesOwnAt hE (k h₆ F₆ K₆)
end

structure ModF (foot fr : List Addr) (h h' : Heap) : Prop where
  keep : ∀ b o, b ∉ foot → b ∉ fr → h.get? b = some o → h'.get? b = some o
  slot : ∀ b o, b ∈ fr → h.get? b = some o → (∀ vs, o.data ≠ .fields vs) → ∃ sl, h'.get? b = some { o with slots := sl }
noncomputable def SlotF (fr : List Addr) (h h' : Heap) : Prop := ∀ b o, b ∈ fr → h.get? b = some o → (∀ vs, o.data ≠ .fields vs) → ∃ sl, h'.get? b = some { o with slots := sl }
noncomputable def BackF (g h : Heap) (foot fr : List Addr) (R : Result → Shared → Prop) (v : Value) (s' : Shared) : Prop :=
  Sm2 (fun L' m' => Al3 (Fr g L' s'.heap m') (SlotF fr h s'.heap) ((ModF foot fr h s'.heap → R (.ok (.ret v)) s')))
theorem backF_ {g h : Heap} {foot fr : List Addr} {R : Result → Shared → Prop} {v : Value} {s' : Shared} {L' : Addr} {m' : Str → Option Value} (F' : Fr g L' s'.heap m') (S : SlotF fr h s'.heap)
    (k : ModF foot fr h s'.heap → R (.ok (.ret v)) s') : BackF g h foot fr R v s' := ⟨L', m', F', S, k⟩
theorem SlotF.trans {fr : List Addr} {h₁ h₂ h₃ : Heap} (x : SlotF fr h₁ h₂) (y : SlotF fr h₂ h₃) : SlotF fr h₁ h₃ := fun b o hb e hn => by
  refine Classical.byContradiction fun hGG => ?_
  obtain ⟨s1, e1⟩ := x b o hb e hn
  obtain ⟨s2, e2⟩ := y b _ hb e1 hn
  refine hGG ?_
  clear hGG
  exact ⟨s2, e2⟩
theorem SlotF.of_keep {fr : List Addr} {h h' : Heap} (k : ∀ b o, b ∈ fr → h.get? b = some o → h'.get? b = some o) : SlotF fr h h' := fun b o hb e _ => ⟨o.slots, k b o hb e⟩
theorem SlotF.funFrames {h h' g : Heap} {l : List Env} (k : SlotF (frs l) h h') (hl : h.FunFrames g l) : h'.FunFrames g l := by
  induction l with
  | nil => trivial
  | cons env rest ih =>
    refine Classical.byContradiction fun hGG => ?_
    obtain ⟨hk, ⟨L, o, hf, hn, ho, hd⟩, hr⟩ := hl
    obtain ⟨sl, z⟩ := k L o (List.mem_filterMap.mpr ⟨env, .head _, hf⟩) ho hd
    refine hGG ?_
    clear hGG
    refine ⟨hk, ⟨L, _, hf, hn, z, hd⟩, ih (fun b o hb => k b o ?_) hr⟩
    refine Classical.byContradiction fun hGG => ?_
    obtain ⟨e2, he2, hf2⟩ := List.mem_filterMap.mp hb
    refine hGG ?_
    clear hGG
    exact List.mem_filterMap.mpr ⟨e2, .tail _ he2, hf2⟩
theorem frs_mem {h g : Heap} {l : List Env} (hl : h.FunFrames g l) {b : Addr} (hb : b ∈ frs l) : g.get? b = none ∧ ∃ o, h.get? b = some o ∧ ∀ vs, o.data ≠ .fields vs := hl.mem hb
theorem KeepF.slotF {fr : List Addr} {h h' : Heap} (k : KeepF fr h h') : SlotF fr h h' := k.slot

/-- the ground of a segment holds the frames: calls of the usual kind may be made -/
theorem belowF {A : Around} {g g2 h : Heap} {L : Addr} {outer : List Env} {led : List (Addr × Obj)} (hA : A.frames = some outer) (st : g.StaysIn g2) (FF : h.FunFrames g outer)
    (hold : ∀ b o, b < L → (∀ p ∈ led, p.1 ≠ b) → h.get? b = some o → g2.get? b = some o) (hlt : ∀ b ∈ frs outer, @LT.lt Nat _ b L) (hne : ∀ b ∈ frs outer, ∀ p ∈ led, p.1 ≠ b) : Below A g outer g2 := by
  refine ⟨hA, st, ?_⟩
  have : ∀ l : List Env, (∀ b ∈ frs l, b ∈ frs outer) → h.FunFrames g l → g2.FunFrames g l := by
    intro l
    induction l with
    | nil => intro _ _; trivial
    | cons env rest ih =>
      intro hs hR7
      refine Classical.byContradiction fun hGG => ?_
      obtain ⟨hk, ⟨L1, o, hf, hn, ho, hd⟩, hr⟩ := hR7
      refine hGG ?_
      clear hGG
      have hb := hs L1 (List.mem_filterMap.mpr ⟨env, .head _, hf⟩)
      refine ⟨hk, ⟨L1, o, hf, hn, hold L1 o (hlt L1 hb) (hne L1 hb) ho, hd⟩, ih (fun b hb => hs b ?_) hr⟩
      refine Classical.byContradiction fun hGG => ?_
      obtain ⟨e2, he2, hf2⟩ := List.mem_filterMap.mp hb
      refine hGG ?_
      clear hGG
      exact List.mem_filterMap.mpr ⟨e2, .tail _ he2, hf2⟩
  exact this outer (fun _ h => h) FF

section
variable {prog : Program} {w : World} {A : Around} {s : Shared} {K : Frag} {L : Addr} {h₀ : Heap} {m mg mb : Str → Option Value} {news : List (Addr × Obj)} {p : Program} {loose : List Str} {mean : ExcName → Option Value}
theorem enterF {env : Env} {outer : List Env} {R : Result → Shared → Prop} {name qual : Str} {params : Arguments} {body : List Stmt} {scope : Scope} {dV kV doc pm cdv ct oc : Value} {an od : Option Addr} {osl : Array (Option Value)} {f : Addr} {args : Args} {binds : List (Str × Value)}
    (FF : s.heap.FunFrames h₀ outer) (F : Fr h₀ L s.heap m) (X₀ : K.In h₀) (N : News h₀ L s.heap news) (T : Top p loose mean mg mb h₀) (hA : A.frames = some (env :: outer)) (hf : env.frame = some L) (hke : env.scope.kind = .function)
    (ho : K.lookup f = some ⟨oc, od, .func (fnOf name qual params body scope dV kV doc pm an cdv ct), osl⟩) (hcd : codeIn K cdv qual = true) (hroom : A.depth < recursionLimit)
    (hbind : BindsTo s (fnOf name qual params body scope dV kV doc pm an cdv ct) args binds) (hloc : ∀ y ∈ binds, scope.names.lookup y.1 = some .local)
    (h : ∀ g L' h₁, (∀ b o, b ∉ L :: frs outer → (∀ p ∈ news, p.1 ≠ b) → s.heap.get? b = some o → g.get? b = some o) → s.heap.objs.size = L' → (∀ b o, s.heap.get? b = some o → h₁.get? b = some o) → Fr g L' h₁ (fun y => binds.reverse.lookup y) → News g L' h₁ news →
      h₁.FunFrames g (env :: outer) → A.frames = some (env :: outer) → (∀ b ∈ frs (env :: outer), @LT.lt Nat _ b L') → K.In g → Top p loose mean mg mb g →
      wpAny (model prog w) (A.deeper (envOf qual scope L' f cdv)) (execs body (envOf qual scope L' f cdv))
        (fun fl s' => BackF g s.heap (news.map (·.1)) (frs (env :: outer)) R (match fl with | .ret v => v | _ => .none) s')
        (fun e s' => wpAny (model prog w) (A.deeper (envOf qual scope L' f cdv)) (leaving (envOf qual scope L' f cdv) e) (fun _ s'' => R (.error e) s'') (fun e' s'' => R (.error e') s'') s')
        { s with heap := h₁, toks := s.toks + binds.length })
    (hco : scope.isCoroutine = false) (hgen : scope.isGenerator = false) (hk : scope.kind = .function)
    (hcell : ∀ x ∈ scope.names, x.2 ≠ .cell) : codeAny (model prog w) A (.call (.ref f) args) R s := by
  have frE : frs (env :: outer) = L :: frs outer := by simp [frs, hf]
  have FF1 : s.heap.FunFrames h₀ (env :: outer) := .cons (by rw [hke]; decide) hf F.ns (kts_self F) FF
  have st : h₀.StaysIn (hideAll s.heap (frs (env :: outer) ++ news.map (·.1))) := fun b o e => hideAll_get _ (F.keep b o e) fun q => by
    rcases List.mem_append.mp q with q | q
    · rw [(FF1.mem q).1] at e; cases e
    · obtain ⟨p, hp, rfl⟩ := List.mem_map.mp q
      rw [(N p hp).2.2] at e; cases e
  refine codeAny_call_def (fd := fnOf name qual params body scope dV kV doc pm an cdv ct) (body := body) (binds := binds) hroom ((X₀.keeps F.keep) _ _ ho) rfl (T.nolimit.keeps F.keep) (codeRec_of (X₀.keeps F.keep) hcd) rfl hbind hcell hloc (fun h₁ hns hk₁ => ?_) hco hgen hk
  have F' : Fr (hideAll s.heap (frs (env :: outer) ++ news.map (·.1))) s.heap.objs.size h₁ (fun y => binds.reverse.lookup y) := ⟨hns, fun b o e => hk₁ b o (of_hideAll _ e), Nat.le_of_eq (hideAll_size _ _)⟩
  have HD : ∀ b o, b ∉ L :: frs outer → (∀ p ∈ news, p.1 ≠ b) → s.heap.get? b = some o → (hideAll s.heap (frs (env :: outer) ++ news.map (·.1))).get? b = some o := fun b o hb1 hb e => hideAll_get _ e fun q => by
    rcases List.mem_append.mp q with q | q
    · rw [frE] at q; exact hb1 q
    · refine Classical.byContradiction fun hGG => ?_
      obtain ⟨p, hp, e'⟩ := List.mem_map.mp q
      refine hGG ?_
      clear hGG
      exact hb p hp e'
  have FF2 : h₁.FunFrames (hideAll s.heap (frs (env :: outer) ++ news.map (·.1))) (env :: outer) :=
    (funFrames_hide FF1 (fun e he b hb => List.mem_append_left _ (List.mem_filterMap.mpr ⟨e, he, hb⟩))).of_keeps fun b o e _ => ⟨o, hk₁ b o e, rfl⟩
  refine wpAny_mono (h _ s.heap.objs.size h₁ HD rfl hk₁ F'
    (fun p hp => ⟨hk₁ _ _ (N p hp).1, Nat.ne_of_lt (Heap.lt_size (N p hp).1), hideAll_none _ (List.mem_append_right _ (List.mem_map_of_mem hp))⟩) FF2 hA (fun b hb => ?_) (X₀.keeps st) (T.keeps st)) (fun fl s' hl => ?_) fun _ _ y => y
  · refine Classical.byContradiction fun hGG => ?_
    obtain ⟨_, o, ho, _⟩ := FF1.mem hb
    refine hGG ?_
    clear hGG
    exact Heap.lt_size ho
  · refine Classical.byContradiction fun hGG => ?_
    obtain ⟨L', m', F₂, S, k⟩ := hl
    refine hGG ?_
    clear hGG
    refine k ⟨fun b o hb hb2 e => F₂.keep b o (HD b o (by rw [← frE]; exact hb2) (fun p hp q => hb (List.mem_map.mpr ⟨p, hp, q⟩)) e), S⟩
end
noncomputable def iterObj (l : Addr) (i : Nat) : Obj := { cls := .type "list_iterator", data := .fields #[.ref l, .int i 0] }
noncomputable def iterDead (i : Nat) : Obj := { cls := .type "list_iterator", data := .fields #[.none, .int i 0] }
theorem quiet_lin {as : Args} : (Code.builtin "list_iterator.__next__" as).quiet = true := Code.quiet_builtin _ (by decide +kernel)
theorem check_lin {I : Addr} : checkBoundCall "list_iterator.__next__" ⟨[.ref I], []⟩ = pure () := by first | kernel_rfl | rfl
section
variable {prog : Program} {w : World} {A : Around} {E : Value → Shared → Prop} {s : Shared} {U I l : Addr} {i : Nat}
theorem next_item {P : Fin → Shared → Prop} {items : Array Value} {x : Value} (hI : s.heap.get? I = some (iterObj l i)) (hl : s.heap.IsList l items) (hx : items[i]? = some x)
    (h : ∀ h', Heap.SameBut I s.heap h' → h'.get? I = some (iterObj l (i + 1)) → P (.done (.ret x)) { s with heap := h' }) :
    wpAny (model prog w) A (Builtin.«list_iterator.__next__» ⟨[.ref I], []⟩) P E s := by
  obtain ⟨ol, hol, _, nl, hdl⟩ := hl
  show wpAny _ _ (field (.ref I) 0 >>= _) _ _ s
  refine wpAny_bind (wpAny_field hI rfl (x := .ref l) rfl ?_)
  show wpAny _ _ (if (Value.ref l == Value.none) = true then _ else _) _ _ s
  rw [if_neg (show ¬ ((Value.ref l == Value.none) = true) from Bool.false_ne_true)]
  show wpAny _ _ (field (.ref I) 1 >>= _) _ _ s
  refine wpAny_bind (wpAny_field hI rfl (x := .int i 0) rfl ?_)
  show wpAny _ _ (seqItems? (.ref l) >>= _) _ _ s
  refine wpAny_bind (wpAny_seqItems hol hdl ?_)
  simp only [Int.toNat_natCast, hx]
  refine wpAny_bind (wpAny_setField hI rfl (by simp) (wpAny_pure (h _ (Heap.SameBut.update ..) ?_)))
  rw [Heap.get?_update_self _ hI (Obj.isFreed_of_fields (Obj.data_mapFields (vs := #[.ref l, .int i 0]) rfl _))]
  simp [iterObj, Obj.mapFields, rawInt]
theorem next_end {P : Fin → Shared → Prop} {items : Array Value} (hh : A.handled = none) (hI : s.heap.get? I = some (iterObj l i)) (hl : s.heap.IsList l items) (hx : items[i]? = none)
    (h : ∀ h1 h' e, Heap.SameBut I s.heap h1 → h1.get? I = some (iterDead i) → Heap.NewExc h1 h' e "StopIteration" → E (.ref e) { s with heap := h' }) :
    wpAny (model prog w) A (Builtin.«list_iterator.__next__» ⟨[.ref I], []⟩) P E s := by
  obtain ⟨ol, hol, _, nl, hdl⟩ := hl
  show wpAny _ _ (field (.ref I) 0 >>= _) _ _ s
  refine wpAny_bind (wpAny_field hI rfl (x := .ref l) rfl ?_)
  show wpAny _ _ (if (Value.ref l == Value.none) = true then _ else _) _ _ s
  rw [if_neg (show ¬ ((Value.ref l == Value.none) = true) from Bool.false_ne_true)]
  show wpAny _ _ (field (.ref I) 1 >>= _) _ _ s
  refine wpAny_bind (wpAny_field hI rfl (x := .int i 0) rfl ?_)
  show wpAny _ _ (seqItems? (.ref l) >>= _) _ _ s
  refine wpAny_bind (wpAny_seqItems hol hdl ?_)
  simp only [Int.toNat_natCast, hx]
  refine wpAny_bind (wpAny_rule (wpAny_bind (wpAny_setField hI rfl (by simp) ?_)))
  have h1 : (s.heap.update I (Obj.mapFields (·.setIfInBounds 0 .none))).get? I = some (iterDead i) := by
    rw [Heap.get?_update_self _ hI (Obj.isFreed_of_fields (Obj.data_mapFields (vs := #[.ref l, .int i 0]) rfl _))]
    simp [iterObj, iterDead, Obj.mapFields]
  have hs : Heap.SameBut I s.heap (s.heap.update I (Obj.mapFields (·.setIfInBounds 0 .none))) := Heap.SameBut.update ..
  generalize s.heap.update I (Obj.mapFields (·.setIfInBounds 0 .none)) = h1 at *
  show wpAny _ _ (newExc (.type "StopIteration") [] >>= _) _ _ _
  refine wpAny_bind ?_
  simp only [newExc, newTuple]
  refine wpAny_bind (wpAny_newObj_type ?_ (by size_fits))
  refine wpAny_bind (m := firstArgMember _ _) (wpAny_of_eq (a := Value.none) (by first | rfl | (simp only [firstArgMember]; rfl)) ?_)
  refine wpAny_newObj_type ?_ (by size_fits)
  refine wpAny_raiseNew_none hh (h _ _ _ hs h1 ⟨fun b o e => Heap.get?_push_of_some _ (Heap.get?_push_of_some _ e), Heap.get?_none_of_le (by simp), _, _, Heap.get?_push_size _ rfl, rfl, rfl⟩)
theorem call_next_item {Q : Value → Shared → Prop} {items : Array Value} {x : Value} (hU : s.heap.get? U = some (nextObj I)) (hI : s.heap.get? I = some (iterObj l i)) (hl : s.heap.IsList l items) (hx : items[i]? = some x)
    (h : ∀ h', Heap.SameBut I s.heap h' → h'.get? I = some (iterObj l (i + 1)) → Q x { s with heap := h' }) : wpAny (model prog w) A (call (.ref U) []) Q E s := by
  refine wpAny_call (codeAny_of_tree ?_)
  show wpAny _ A.in1 (callAny (.ref U) ⟨[], []⟩) _ _ s
  simp only [callAny]
  refine wpAny_bind (wpAny_load hU ?_)
  simp only [nextObj, show (Value.type "method-wrapper" == Value.type "method" || Value.type "method-wrapper" == Value.type "builtin_function_or_method" || Value.type "method-wrapper" == Value.type "method-wrapper") = true by decide, if_true]
  refine KFB.if_so (by decide) ?_
  refine wpAny_bind (wpAny_of_eq (a := ()) check_lin ?_)
  refine wpAny_bind (wpAny_pure (wpAny_pure ?_))
  exact ⟨quiet_lin, codeAny_builtin PySem.entry_listiter_next (next_item hI hl hx h)⟩
theorem call_next_end {Q : Value → Shared → Prop} {items : Array Value} (hh : A.handled = none) (hU : s.heap.get? U = some (nextObj I)) (hI : s.heap.get? I = some (iterObj l i)) (hl : s.heap.IsList l items) (hx : items[i]? = none)
    (h : ∀ h1 h' e, Heap.SameBut I s.heap h1 → h1.get? I = some (iterDead i) → Heap.NewExc h1 h' e "StopIteration" → E (.ref e) { s with heap := h' }) : wpAny (model prog w) A (call (.ref U) []) Q E s := by
  refine wpAny_call (codeAny_of_tree ?_)
  show wpAny _ A.in1 (callAny (.ref U) ⟨[], []⟩) _ _ s
  simp only [callAny]
  refine wpAny_bind (wpAny_load hU ?_)
  simp only [nextObj, show (Value.type "method-wrapper" == Value.type "method" || Value.type "method-wrapper" == Value.type "builtin_function_or_method" || Value.type "method-wrapper" == Value.type "method-wrapper") = true by decide, if_true]
  refine KFB.if_so (by decide) ?_
  refine wpAny_bind (wpAny_of_eq (a := ()) check_lin ?_)
  refine wpAny_bind (wpAny_pure (wpAny_pure ?_))
  exact ⟨quiet_lin, codeAny_builtin PySem.entry_listiter_next (next_end hh hI hl hx h)⟩
/-- f() where f is such an object -/
theorem callWith_next {pos : Pos} {Q : Value → Shared → Prop} (hU : s.heap.get? U = some (nextObj I)) (h : wpAny (model prog w) A (call (.ref U) []) Q E s) : wpAny (model prog w) A (callWith pos (.ref U) [] [] []) Q E s := by
  unfold callWith
  refine wpAny_bind (wpAny_holding ?_)
  refine wpAny_of_eq (a := (⟨[], []⟩ : Args)) (by rfl) ?_
  refine wpAny_bind (wpAny_standAt ?_)
  simp only [List.any_nil, Bool.or_false]
  refine wpAny_bind (m := keeperOf (.ref U)) ?_
  unfold keeperOf
  refine wpAny_bind (wpAny_load hU ?_)
  simp only [nextObj, show (Value.type "method-wrapper" != Value.type "method") = true by decide, show (Value.type "method-wrapper" == Value.type "builtin_function_or_method" || Value.type "method-wrapper" == Value.type "method-wrapper") = true by decide, if_true]
  refine wpAny_pure ?_
  exact wpAny_bind (wpAny_mono h (fun r s₂ hr => wpAny_bind (wpAny_holding (wpAny_point (wpAny_pure hr)))) fun _ _ x => x)
end
noncomputable def PostW (n : Nat) (I : Nat → Shared → Prop) (Q : Flow → Shared → Prop) (f : Flow) (s : Shared) : Prop :=
  match f with
  | .ret v => Q (.ret v) s
  | .brk => Q .next s
  | _ => ∃ m, m < n ∧ I m s
section
variable {prog : Program} {w : World} {A : Around} {s : Shared} {env : Env} {h₀ : Heap}
theorem whileS {E : Value → Shared → Prop} {Q : Flow → Shared → Prop} {test : Expr} {body orelse : List Stmt} {pos : Pos} (I : Nat → Shared → Prop) (n : Nat) (h : I n s)
    (turn : Hold (∀ n s, I n s → wpAny (model prog w) A (isTrue test env (eval test env)) (fun b s₂ =>
        if b = true then wpAny (model prog w) A (execs body env) (PostW n I Q) E s₂ else wpAny (model prog w) A (execs orelse env) Q E s₂) E s))
    (hE : PassesOwn (model prog w) A env E) : wpAny (model prog w) A (exec (.While test body orelse pos) env) Q E s := by
  refine wpAny_While (codeAny_whileLoop I (fun n s hI => ?_) n h)
  refine wpAny_passesOwn hE (wpAny_mono (turn.out n s hI) (fun b s₂ h₂ => ?_) fun _ _ e => e)
  cases b with
  | false =>
    simp only [Bool.false_eq_true, if_false] at h₂ ⊢
    exact wpAny_passesOwn hE (wpAny_mono h₂ (fun f s₃ h₃ => h₃) fun _ _ e => e)
  | true =>
    simp only [if_true] at h₂ ⊢
    refine wpAny_passesOwn hE (wpAny_mono h₂ (fun f s₃ h₃ => ?_) fun _ _ e => e)
    cases f with
    | next => exact h₃
    | cont => exact h₃
    | brk => exact h₃
    | ret v => exact h₃

/-- a loop over the keys of a dict of ints -/
theorem loop_dict {E : Value → Shared → Prop} {Q : Flow → Shared → Prop} {x : Str} {body : List Stmt} {m : Str → Option Value} {D : Addr} {oD : Obj} {kvs : List (Int × Value)}
    (hh : A.handled = none) (hlo : (D == sysModules) = false) (hD : s.heap.get? D = some oD) (hDk : oD.IsDictOf (intKind prog w) kvs) (F : Fr h₀ env.locals s.heap m) (hDL : D ≠ env.locals)
    (Inv : Addr → Nat → (Str → Option Value) → Heap → Prop)
    (h0 : ∀ I h, s.heap.get? I = none → Mod [] s.heap h → Inv I 0 m h)
    (stab : ∀ I i m h h', s.heap.get? I = none → Inv I i m h → Mod [env.locals, I] h h' → Inv I i m h')
    (turn : Hold (∀ I oI i k t x' m h tk, s.heap.get? I = none → h₀.get? I = none → I ≠ env.locals → I ≠ D → h.get? I = some oI → h.get? D = some oD → kvs[i]? = some (k, x') → Inv I i m h → Fr h₀ env.locals h (fun y => if y = x then some (.int k t) else m y) →
      wpAny (model prog w) A (execs body env) (PostH h₀ env.locals [I, D] h s (Inv I (i + 1)) Q) E { s with heap := h, toks := tk }))
    (done : Hold (∀ I m h tk, s.heap.get? I = none → h.get? D = some oD → Inv I kvs.length m h → Fr h₀ env.locals h m → Q .next { s with heap := h, toks := tk })) :
    wpAny (model prog w) A (pyIter (.ref D)) (fun it s₂ => LoopH prog w A h₀ env x body Q E it s₂) E s := by
  refine Classical.byContradiction fun hGG => ?_
  obtain ⟨es, ep, hDk'⟩ := hDk
  refine hGG ?_
  clear hGG
  have hDA : s.heap.DictAt (intKind prog w) D kvs ep := ⟨oD, es, hD, hDk'⟩
  have hf := fresh_size s.heap
  have hne : D ≠ s.heap.objs.size := Nat.ne_of_lt (Heap.lt_size hD)
  have hLI : s.heap.objs.size ≠ env.locals := Nat.ne_of_gt F.ns.lt
  have hI0 : h₀.get? s.heap.objs.size = none := by
    cases q : h₀.get? s.heap.objs.size with
    | none => rfl
    | some o => rw [F.keep _ _ q] at hf; cases hf
  have hLf : env.locals ∉ [s.heap.objs.size, D] := fun z => by
    rcases List.mem_cons.mp z with q | z
    · exact hLI q.symm
    · exact hDL (List.mem_singleton.mp z).symm
  refine wpAny_pyIter_dict hlo hDA ?_
  refine ⟨_, _, _, _, _, _, m, fun i m h => Inv s.heap.objs.size i m h ∧ h.get? D = some oD, rfl, Walks.dictKeys (knd := intKind prog w) hh s.heap.objs.size D hne kvs ep, hLf, fun b hb => by rw [List.mem_singleton.mp hb]; exact hI0,
    ⟨⟨_, Heap.get?_push_size _ rfl, rfl, rfl⟩, hDA.push _⟩, F.push _, ⟨h0 _ _ hf (mod_push _ _ _), Heap.get?_push_of_some _ hD⟩, ?_, ?_, ?_⟩
  · rintro i m h h' ⟨hi, ht⟩ hM
    refine ⟨stab _ i m h h' hf hi hM, hM.keep _ _ (fun z => ?_) ht⟩
    rcases List.mem_cons.mp z with q | z
    · exact hDL q
    · exact hne (List.mem_singleton.mp z)
  · intro i v m h tk hi hR5 hR6 st' F'
    refine Classical.byContradiction fun hGG => ?_
    obtain ⟨k, x', hkx, hkv⟩ := hR5
    obtain ⟨hinv, ht⟩ := hR6
    refine hGG ?_
    clear hGG
    refine Classical.byContradiction fun hGG => ?_
    obtain ⟨t', rfl⟩ := PySem.Value.isInt_shape hkv
    obtain ⟨⟨oI', hI', _⟩, _⟩ := st'
    refine hGG ?_
    clear hGG
    refine wpAny_mono (turn.out _ oI' i k t' x' m h tk hf hI0 hLI (Ne.symm hne) hI' ht hkx hinv F') (fun f s₃ h₃ => ?_) fun _ _ e => e
    cases f with
    | ret v => exact h₃
    | brk => exact h₃
    | cont => obtain ⟨h'', tk'', m'', e, F'', hk, hJ⟩ := h₃; exact ⟨h'', tk'', m'', e, F'', hk, hJ, hk D (by simp) _ ht⟩
    | next => obtain ⟨h'', tk'', m'', e, F'', hk, hJ⟩ := h₃; exact ⟨h'', tk'', m'', e, F'', hk, hJ, hk D (by simp) _ ht⟩
  · rintro m h tk ⟨hinv, ht⟩ F'
    exact done.out _ m h tk hf ht hinv F'
end
section
variable {prog : Program} {w : World} {A : Around} {E : Value → Shared → Prop} {s : Shared} {h₀ : Heap} {L : Addr} {m : Str → Option Value} {news : List (Addr × Obj)}
theorem lst_iter {l : Addr} {vs : List Value} {n : Nat} {Q : Value → Shared → Prop} (F : Fr h₀ L s.heap m) (N : News h₀ L s.heap news) (hm : (l, listOf vs.toArray n) ∈ news)
    (h : ∀ I h', Fr h₀ L h' m → News h₀ L h' ((I, iterObj l 0) :: news) → (∀ p ∈ news, p.1 < I) → Q (.ref I) { s with heap := h' }) : wpAny (model prog w) A (call (.builtin "iter") [.ref l]) Q E s := by
  have hl : s.heap.IsList l vs.toArray := ⟨_, (N _ hm).1, rfl, n, rfl⟩
  refine call_function_entry (by decide +kernel) (by decide +kernel) kdk_entry_iter (kdk_args_iter _) ?_
  unfold Builtin.«iter»
  refine wpAny_bind (m := someArgs "iter" 1 2 _) (wpAny_of_eq (a := [Value.ref l]) (by first | rfl | kernel_rfl!) ?_)
  dsimp only
  refine wpAny_bind (wpAny_pyIter_list hl (wpAny_pure ⟨_, rfl, ?_⟩))
  exact h _ _ (F.push _) (N.push F _) fun p hp => Heap.lt_size (N p hp).1
theorem lst_next_attr {l I : Addr} {i : Nat} {Q : Value → Shared → Prop} (F : Fr h₀ L s.heap m) (N : News h₀ L s.heap news) (hm : (I, iterObj l i) ∈ news)
    (h : ∀ U h', Fr h₀ L h' m → News h₀ L h' ((U, nextObj I) :: news) → (∀ p ∈ news, p.1 < U) → Q (.ref U) { s with heap := h', toks := s.toks + 1 }) : wpAny (model prog w) A (getAttr (.ref I) (Str.ofString "__next__") true) Q E s :=
  getAttr_next (N _ hm).1 (h _ _ (F.push _) (N.push F _) fun p hp => Heap.lt_size (N p hp).1)
theorem lst_pop {H : Addr} {vs : List Value} {v : Value} {n : Nat} {news' : List (Addr × Obj)} {Q : Value → Shared → Prop} (F : Fr h₀ L s.heap m) (N : News h₀ L s.heap news) (U : Upd H (listOf (vs ++ [v]).toArray n) (listOf vs.toArray (n + 1)) news news') (hz : vs.length ≤ 1000)
    (h : ∀ h', Fr h₀ L h' m → News h₀ L h' news' → Q v { s with heap := h' }) : wpAny (model prog w) A (call (.builtin "list.pop") [.ref H]) Q E s := by
  refine kl_pop (p := vs) F N ?_ U (by simp [sizeLine]; lia) h
  simp [kl_last_append]
theorem lst_last {value slice : PySem.Expr} {H : Addr} {vs : List Value} {v : Value} {n : Nat} {u : Tok} {Q : Value → Shared → Prop} (N : News h₀ L s.heap news) (hm : (H, listOf (vs ++ [v]).toArray n) ∈ news) (hz : vs.length ≤ 1000)
    (h : Q v s) (hs : subscripted slice false (.ref H) (.int (-1) u) = operate [.ref H, .int (-1) u] (getItem (.ref H) (.int (-1) u)) := by with_unfolding_all rfl) :
    wpAny (model prog w) A (subscriptTail value slice (.ref H) (.int (-1) u)) Q E s := by
  have hl : s.heap.IsList H (vs ++ [v]).toArray := PySem.IsL.isList (n := n) (N _ hm).1
  refine tail_any hl.typeIs slot_list_getitem.lookup (wpAny_getItem_list_neg hl (by decide) (by simp; lia) (by decide) ?_ h) hs
  have : ((-1 : Int) + ((vs ++ [v]).toArray.size : Int)).toNat = vs.length := by simp; lia
  rw [this]
  simp
end
/-- a level of the search -/
structure Lv where
  i : Int
  t : Tok
  U : Addr
  I : Addr
  nd : Nd
  pos : Nat
noncomputable def Lv.left (v : Lv) : Nat := v.nd.sc.length - v.pos
noncomputable def meas (nds : List Nd) (stk : List Lv) (seen : List Int) : Nat := (nds.map fun n => if n.i ∈ seen then 0 else n.sc.length + 1).sum + (stk.map Lv.left).sum
structure CycAt (prog : Program) (w : World) (hh : Heap) (nds : List Nd) (St It Se Nk : Addr) (stk : List Lv) (seen : List Int) : Prop where
  st : ∃ n, hh.get? St = some (listOf (stk.map (fun v => Value.int v.i v.t)).toArray n)
  it : ∃ n, hh.get? It = some (listOf (stk.map (fun v => Value.ref v.U)).toArray n)
  se : ∃ o, hh.get? Se = some o ∧ o.SetObjOf (intKind prog w) (fun k => decide (k ∈ seen)) seen.length
  nk : ∃ o kvs, hh.get? Nk = some o ∧ o.IsDictOf (intKind prog w) kvs ∧ kvs.map (·.1) = stk.map (·.i)
  lv : ∀ v ∈ stk, v.nd ∈ nds ∧ v.nd.i = v.i ∧ hh.get? v.U = some (nextObj v.I) ∧ hh.get? v.I = some (iterObj v.nd.l v.pos) ∧ v.pos ≤ v.nd.sc.length
  is : (stk.map (·.I)).Nodup
  inc : (stk.map (·.i)).Pairwise (· < ·)
  sub : ∀ k ∈ seen, ∃ n ∈ nds, n.i = k
  nodup : seen.Nodup
noncomputable def cAddrs (St It Se Nk : Addr) (stk : List Lv) : List Addr := St :: It :: Se :: Nk :: stk.flatMap fun v => [v.U, v.I]
theorem mem_cU {St It Se Nk : Addr} {stk : List Lv} {v : Lv} (h : v ∈ stk) : v.U ∈ cAddrs St It Se Nk stk := by
  simp only [cAddrs, List.mem_cons, List.mem_flatMap]; exact .inr (.inr (.inr (.inr ⟨v, h, by simp⟩)))
theorem mem_cI {St It Se Nk : Addr} {stk : List Lv} {v : Lv} (h : v ∈ stk) : v.I ∈ cAddrs St It Se Nk stk := by
  simp only [cAddrs, List.mem_cons, List.mem_flatMap]; exact .inr (.inr (.inr (.inr ⟨v, h, by simp⟩)))
theorem CycAt.keep {prog : Program} {w : World} {hh h' : Heap} {nds : List Nd} {St It Se Nk : Addr} {stk : List Lv} {seen : List Int} (c : CycAt prog w hh nds St It Se Nk stk seen)
    (k : ∀ b ∈ cAddrs St It Se Nk stk, ∀ o, hh.get? b = some o → h'.get? b = some o) : CycAt prog w h' nds St It Se Nk stk seen := by
  obtain ⟨n1, h1⟩ := c.st
  obtain ⟨n2, h2⟩ := c.it
  obtain ⟨o3, h3, h3'⟩ := c.se
  obtain ⟨o4, kv, h4, h4', h4''⟩ := c.nk
  refine ⟨⟨n1, k _ (by simp [cAddrs]) _ h1⟩, ⟨n2, k _ (by simp [cAddrs]) _ h2⟩, ⟨o3, k _ (by simp [cAddrs]) _ h3, h3'⟩, ⟨o4, kv, k _ (by simp [cAddrs]) _ h4, h4', h4''⟩, fun v hv => ?_, c.is, c.inc, c.sub, c.nodup⟩
  obtain ⟨a1, a2, a3, a4, a5⟩ := c.lv v hv
  exact ⟨a1, a2, k _ (mem_cU hv) _ a3, k _ (mem_cI hv) _ a4, a5⟩
theorem len_sub {l : List Int} {nds : List Nd} (hn : l.Nodup) (hs : ∀ k ∈ l, ∃ n ∈ nds, n.i = k) : l.length ≤ nds.length := by
  induction l generalizing nds with
  | nil => simp
  | cons a r ih =>
    rw [List.nodup_cons] at hn
    obtain ⟨n, hn1, hni⟩ := hs a (.head _)
    obtain ⟨p, q, rfl⟩ := List.append_of_mem hn1
    have := ih (nds := p ++ q) hn.2 fun k hk => by
      obtain ⟨n', hn', e⟩ := hs k (.tail _ hk)
      refine ⟨n', ?_, e⟩
      simp only [List.mem_append, List.mem_cons] at hn' ⊢
      rcases hn' with h | rfl | h
      · exact .inl h
      · rw [hni] at e; exact absurd (e ▸ hk) hn.1
      · exact .inr h
    simp at this ⊢
    lia
theorem inc_nodup {l : List Int} (h : l.Pairwise (· < ·)) : l.Nodup := h.imp fun h => Int.ne_of_lt h
theorem CycAt.len {prog : Program} {w : World} {hh : Heap} {nds : List Nd} {St It Se Nk : Addr} {stk : List Lv} {seen : List Int} (c : CycAt prog w hh nds St It Se Nk stk seen) : stk.length ≤ nds.length := by
  have := len_sub (nds := nds) (inc_nodup c.inc) fun k hk => by
    obtain ⟨v, hv, rfl⟩ := List.mem_map.mp hk
    obtain ⟨a1, a2, _⟩ := c.lv v hv
    exact ⟨v.nd, a1, a2⟩
  simpa using this
theorem CycAt.slen {prog : Program} {w : World} {hh : Heap} {nds : List Nd} {St It Se Nk : Addr} {stk : List Lv} {seen : List Int} (c : CycAt prog w hh nds St It Se Nk stk seen) : seen.length ≤ nds.length :=
  len_sub c.nodup c.sub
theorem sum_le {f g : Nd → Nat} : ∀ {l : List Nd}, (∀ n ∈ l, f n ≤ g n) → (l.map f).sum ≤ (l.map g).sum
  | [], _ => by simp
  | a :: r, h => by
    have h1 := h a (.head _)
    have h2 := sum_le (l := r) fun n hn => h n (.tail _ hn)
    simp only [List.map_cons, List.sum_cons]
    lia
theorem sum_lt {f g : Nd → Nat} {d : Nat} {nj : Nd} : ∀ {l : List Nd}, nj ∈ l → f nj + d ≤ g nj → (∀ n ∈ l, f n ≤ g n) → (l.map f).sum + d ≤ (l.map g).sum
  | a :: r, hm, hj, h => by
    simp only [List.map_cons, List.sum_cons]
    rcases List.mem_cons.mp hm with rfl | hm
    · have h2 := sum_le (l := r) fun n hn => h n (.tail _ hn)
      lia
    · have h1 := h a (.head _)
      have h2 := sum_lt (l := r) hm hj fun n hn => h n (.tail _ hn)
      lia
theorem meas_push {nds : List Nd} {stk : List Lv} {seen : List Int} {nj : Nd} {v : Lv} (hn : nj ∈ nds) (hs : nj.i ∉ seen) (hv : v.nd = nj) : meas nds (stk ++ [v]) (seen ++ [nj.i]) + 1 ≤ meas nds stk seen := by
  unfold meas
  have := sum_lt (f := fun n => if n.i ∈ seen ++ [nj.i] then 0 else n.sc.length + 1) (g := fun n => if n.i ∈ seen then 0 else n.sc.length + 1) (d := nj.sc.length + 1) hn (by simp [hs]) (fun n hn => by
    by_cases q : n.i ∈ seen
    · simp [q]
    · by_cases q2 : n.i = nj.i
      · simp [q2, hs]
      · simp [q, q2])
  have e : v.left ≤ nj.sc.length := by rw [← hv]; exact Nat.sub_le _ _
  simp only [List.map_append, List.sum_append, List.map_cons, List.map_nil, List.sum_cons, List.sum_nil]
  lia
theorem meas_step {nds : List Nd} {p : List Lv} {v v' : Lv} {seen : List Int} (h : v'.left + 1 ≤ v.left) : meas nds (p ++ [v']) seen + 1 ≤ meas nds (p ++ [v]) seen := by
  unfold meas
  simp only [List.map_append, List.sum_append, List.map_cons, List.map_nil, List.sum_cons, List.sum_nil]
  lia
theorem meas_pop {nds : List Nd} {p : List Lv} {v : Lv} {seen : List Int} : meas nds p seen ≤ meas nds (p ++ [v]) seen := by
  unfold meas
  simp only [List.map_append, List.sum_append, List.map_cons, List.map_nil, List.sum_cons, List.sum_nil]
  lia
noncomputable def lvLed (stk : List Lv) : List (Addr × Obj) := stk.flatMap fun v => [(v.U, nextObj v.I), (v.I, iterObj v.nd.l v.pos)]
structure TailNe (d : Addr) (l : List (Addr × Obj)) : Prop where
  ne : ∀ p ∈ l, p.1 ≠ d
theorem mem_lU {stk : List Lv} {v : Lv} (h : v ∈ stk) : (v.U, nextObj v.I) ∈ lvLed stk := List.mem_flatMap.mpr ⟨v, h, by simp⟩
theorem mem_lI {stk : List Lv} {v : Lv} (h : v ∈ stk) : (v.I, iterObj v.nd.l v.pos) ∈ lvLed stk := List.mem_flatMap.mpr ⟨v, h, by simp⟩
theorem lvLed_mem {stk : List Lv} {p : Addr × Obj} (h : p ∈ lvLed stk) : ∃ v ∈ stk, p = (v.U, nextObj v.I) ∨ p = (v.I, iterObj v.nd.l v.pos) := by
  obtain ⟨v, hv, hp⟩ := List.mem_flatMap.mp h
  simp at hp
  exact ⟨v, hv, hp⟩
theorem lvLed_append (p q : List Lv) : lvLed (p ++ q) = lvLed p ++ lvLed q := List.flatMap_append
theorem dict_del {prog : Program} {w : World} {K : Type} [DecidableEq K] {knd : KeyKind prog w K} {A : Around} {E : Value → Shared → Prop} {s : Shared} {h₀ : Heap} {L d : Addr} {m : Str → Option Value}
    {news : List (Addr × Obj)} {g : Obj → List (Addr × Obj)} {kvs : List (K × Value)} {o : Obj} {k : K} {key : Value} {Q : Unit → Shared → Prop} (F : Fr h₀ L s.heap m) (N : News h₀ L s.heap news) (U : UpdF d o news g) (hd : o.IsDictOf knd kvs) (hkey : knd.is k key = true) (hsz : kvs.length ≤ 1000)
    (hl : (valueAt kvs k).isSome = true)
    (h : ∀ h' o', Fr h₀ L h' m → News h₀ L h' (g o') → o'.IsDictOf knd (without kvs k) → Q () { s with heap := h', toks := s.toks + 1 }) : wpAny (model prog w) A (delItem (.ref d) key) Q E s := by
  refine Classical.byContradiction fun hGG => ?_
  obtain ⟨pre, post, rfl, hg, a, b⟩ := U.split
  refine hGG ?_
  clear hGG
  have hm := N (d, o) (List.mem_append_right _ (.head _))
  have hD : s.heap.DictOf knd d kvs := Heap.dictOf_iff.mpr ⟨o, hm.1, hd⟩
  unfold delItem
  try with_reducible refine wpAny_holding ?_
  refine wpAny_bind (wpAny_sequenceKey hD.typeIs (by decide) ?_)
  refine wpAny_bind (wpAny_callSpecial?_slot (name := Str.ofString "__delitem__") hD.typeIs PySem.F.slot_dict_delitem
    (call_meetsIn PySem.F.slot_dict_delitem hD.typeIs PySem.F.entry_dict_delitem (PySem.F.args_dict_delitem_2 _ _) (meets_dict_delitem_pairs knd d hkey) ⟨kvs, hD, (by rw [sizeLine_eq]; omega), hl, fun h' hmm hs => ?_⟩))
  refine Classical.byContradiction fun hGG => ?_
  obtain ⟨o', ho', hd'⟩ := Heap.dictOf_iff.mp hmm
  refine hGG ?_
  clear hGG
  exact wpAny_pure (h h' o' (F.change hs hm.2.1 hm.2.2) (hg o' ▸ N.setIn a b hs ho') hd')
section
variable {M : Model} {A : Around} {E : Value → Shared → Prop} {s : Shared} {env : Env}
theorem cut_at {c : Stmt} {rest : List Stmt} {Q : Flow → Shared → Prop} (Mid : Shared → Prop) (h1 : wpAny M A (exec c env) (fun f s' => Hold (f = .next ∧ Mid s')) E s) (h2 : ∀ s', Mid s' → wpAny M A (execs rest env) Q E s') :
    wpAny M A (exec c env) (fun f s' => match f with | .next => wpAny M A (execs rest env) Q E s' | f => Q f s') E s :=
  wpAny_mono h1 (fun f s' h => by obtain ⟨rfl, hm⟩ := h.out; exact h2 s' hm) fun _ _ e => e
end
theorem without_last {kvs : List (Int × Value)} {p : List Int} {k : Int} (h : kvs.map (·.1) = p ++ [k]) (hn : k ∉ p) : (without kvs k).map (·.1) = p ∧ (valueAt kvs k).isSome = true := by
  have e : (without kvs k).map (·.1) = (kvs.map (·.1)).filter fun x => decide (x ≠ k) := by
    unfold without
    rw [List.filter_map]
    rfl
  refine ⟨?_, ?_⟩
  · rw [e, h, List.filter_append]
    have : p.filter (fun x => decide (x ≠ k)) = p := List.filter_eq_self.mpr fun x hx => by
      simp; exact fun q => hn (q ▸ hx)
    rw [this]; simp
  · have hk : k ∈ kvs.map (·.1) := by rw [h]; simp
    obtain ⟨x, hx, rfl⟩ := List.mem_map.mp hk
    unfold valueAt
    rw [Option.isSome_map, List.find?_isSome]
    exact ⟨x, hx, (by first | exact mc0 | exact mc1 | exact mc2 | exact mc3 | exact mc4 | exact mc5 | exact mc6 | exact mc7 | exact mc8 | exact mc9 | exact mc10 | exact mc11 | simp)⟩
/-- the search's own objects as a ledger -/
theorem CycAt.led {prog : Program} {w : World} {hh g : Heap} {L I : Addr} {nds : List Nd} {St It Se Nk : Addr} {stk : List Lv} {seen : List Int} (c : CycAt prog w hh nds St It Se Nk stk seen) (off : ∀ b ∈ cAddrs St It Se Nk stk, b ≠ L ∧ g.get? b = none ∧ b ≠ I) :
    News g L hh (lvLed stk) := fun q hq => by
  refine Classical.byContradiction fun hGG => ?_
  obtain ⟨v, hv, e⟩ := lvLed_mem hq
  obtain ⟨_, _, b3, b4, _⟩ := c.lv v hv
  refine hGG ?_
  clear hGG
  rcases e with rfl | rfl
  · exact ⟨b3, (off _ (mem_cU hv)).1, (off _ (mem_cU hv)).2.1⟩
  · exact ⟨b4, (off _ (mem_cI hv)).1, (off _ (mem_cI hv)).2.1⟩
theorem CycAt.kinds {prog : Program} {w : World} {hh : Heap} {nds : List Nd} {St It Se Nk : Addr} {stk : List Lv} {seen : List Int} (c : CycAt prog w hh nds St It Se Nk stk seen) {b : Addr} {o : Obj} (e : hh.get? b = some o) (hd : ∀ fs, o.data ≠ .fields fs) : TailNe b (lvLed stk) := ⟨fun p hp q => by
  refine Classical.byContradiction fun hGG => ?_
  obtain ⟨v, hv, e2⟩ := lvLed_mem hp
  obtain ⟨_, _, b3, b4, _⟩ := c.lv v hv
  refine hGG ?_
  clear hGG
  rcases e2 with rfl | rfl
  · rw [show v.U = b from q, e] at b3
    exact hd _ (congrArg Obj.data (Option.some.inj b3))
  · rw [show v.I = b from q, e] at b4
    exact hd _ (congrArg Obj.data (Option.some.inj b4))⟩
theorem TailNe.sub {b : Addr} {p q : List Lv} (h : TailNe b (lvLed (p ++ q))) : TailNe b (lvLed p) := ⟨fun x hx => h.ne x (by rw [lvLed_append]; exact List.mem_append_left _ hx)⟩
theorem lst_truthy_app {prog : Program} {w : World} {A : Around} {E : Value → Shared → Prop} {s : Shared} {h₀ : Heap} {L : Addr} {news : List (Addr × Obj)} {H : Addr} {vs : List Value} {v : Value} {n : Nat} {Q : Bool → Shared → Prop} (N : News h₀ L s.heap news) (hm : (H, listOf (vs ++ [v]).toArray n) ∈ news) (hz : vs.length ≤ 999)
    (h : ∀ tk, Q true ⟨s.heap, s.gens, s.drawn, tk, s.os⟩) : wpAny (model prog w) A (truthy (.ref H)) Q E s :=
  lst_truthy N hm (by simp; omega) fun tk => by
    have : decide (0 < (vs ++ [v]).length) = true := by simp
    rw [this]; exact h tk
noncomputable def cMap (S D St It Se Nk : Addr) (j : Int) (tj : Tok) : Str → Option Value := fun y => if y = Str.ofString "node" then some (Value.int j tj) else if y = Str.ofString "node2stacki" then some (Value.ref Nk) else if y = Str.ofString "seen" then some (Value.ref Se) else if y = Str.ofString "itstack" then some (Value.ref It) else if y = Str.ofString "stack" then some (Value.ref St) else if y = Str.ofString "n2i" then some (Value.ref D) else List.lookup y [(Str.ofString "self", Value.ref S)].reverse
structure CycMid (prog : Program) (w : World) (g : Heap) (L : Addr) (h0 h : Heap) (nds : List Nd) (S dx D St It Se Nk I : Addr) (oI : Obj) (frl : List Addr) (stk : List Lv) (seen : List Int) (j : Int) (tj : Tok) : Prop where
  fr : Fr g L h (cMap S D St It Se Nk j tj)
  cyc : CycAt prog w h nds St It Se Nk stk seen
  kS : ∀ b ∈ sAddrs S dx D nds, ∀ o, h0.get? b = some o → h.get? b = some o
  sl : SlotF frl h0 h
  hI : h.get? I = some oI
  off : ∀ b ∈ cAddrs St It Se Nk stk, b ≠ L ∧ g.get? b = none ∧ b ≠ I ∧ b ∉ sAddrs S dx D nds ∧ b ∉ frl
theorem cAddrs_mem {St It Se Nk : Addr} {stk : List Lv} {b : Addr} (h : b ∈ cAddrs St It Se Nk stk) : b = St ∨ b = It ∨ b = Se ∨ b = Nk ∨ ∃ v ∈ stk, b = v.U ∨ b = v.I := by
  simp only [cAddrs, List.mem_cons, List.mem_flatMap, List.not_mem_nil, or_false] at h
  exact h
theorem cAddrs_pos {St It Se Nk : Addr} {p : List Lv} {v v' : Lv} (hU : v'.U = v.U) (hI : v'.I = v.I) : cAddrs St It Se Nk (p ++ [v']) = cAddrs St It Se Nk (p ++ [v]) := by
  simp [cAddrs, List.flatMap_append, hU, hI]
theorem cAddrs_sub {St It Se Nk : Addr} {p : List Lv} {v : Lv} {b : Addr} (h : b ∈ cAddrs St It Se Nk p) : b ∈ cAddrs St It Se Nk (p ++ [v]) := by
  rcases cAddrs_mem h with rfl | rfl | rfl | rfl | ⟨u, hu, rfl | rfl⟩
  · simp [cAddrs]
  · simp [cAddrs]
  · simp [cAddrs]
  · simp [cAddrs]
  · exact mem_cU (List.mem_append_left _ hu)
  · exact mem_cI (List.mem_append_left _ hu)
section
variable {prog : Program} {w : World} {g h0 h h2 : Heap} {L : Addr} {nds : List Nd} {S dx D St It Se Nk I : Addr} {oI : Obj} {frl : List Addr} {stk p : List Lv} {v : Lv} {seen : List Int} {j j2 : Int} {tj tj2 : Tok}
theorem CycMid.frm (c : CycMid prog w g L h0 h nds S dx D St It Se Nk I oI frl stk seen j tj) : Fr g L h (fun y => if y = Str.ofString "node" then some (Value.int j tj) else if y = Str.ofString "node2stacki" then some (Value.ref Nk) else if y = Str.ofString "seen" then some (Value.ref Se) else if y = Str.ofString "itstack" then some (Value.ref It) else if y = Str.ofString "stack" then some (Value.ref St) else if y = Str.ofString "n2i" then some (Value.ref D) else List.lookup y [(Str.ofString "self", Value.ref S)].reverse) := c.fr
theorem CycMid.store (c : CycMid prog w g L h0 h nds S dx D St It Se Nk I oI frl stk seen j tj) (F2 : Fr g L h2 (cMap S D St It Se Nk j2 tj2)) (k : ∀ b o, b ∈ sAddrs S dx D nds ∨ b ∈ frl ∨ b = I ∨ b ∈ cAddrs St It Se Nk stk → h.get? b = some o → h2.get? b = some o) :
    CycMid prog w g L h0 h2 nds S dx D St It Se Nk I oI frl stk seen j2 tj2 :=
  ⟨F2, c.cyc.keep fun b hb o e => k b o (.inr (.inr (.inr hb))) e, fun b hb o e => k b o (.inl hb) (c.kS b hb o e), c.sl.trans (SlotF.of_keep fun b o hb e => k b o (.inr (.inl hb)) e), k I oI (.inr (.inr (.inl rfl))) c.hI, c.off⟩
theorem CycMid.item (c : CycMid prog w g L h0 h nds S dx D St It Se Nk I oI frl (p ++ [v]) seen j tj) (hs : Heap.SameBut v.I h h2) (hI : h2.get? v.I = some (iterObj v.nd.l (v.pos + 1))) (hp : v.pos < v.nd.sc.length) :
    CycMid prog w g L h0 h2 nds S dx D St It Se Nk I oI frl (p ++ [{ v with pos := v.pos + 1 }]) seen j tj := by
  have hv : v ∈ p ++ [v] := by simp
  refine Classical.byContradiction fun hGG => ?_
  obtain ⟨o1, o2, o3, o4, o5⟩ := c.off v.I (mem_cI hv)
  refine hGG ?_
  clear hGG
  have kk : ∀ b o, b ≠ v.I → h.get? b = some o → h2.get? b = some o := fun b o hb e => (hs.2 b hb).trans e
  have lvI : h.get? v.I = some (iterObj v.nd.l v.pos) := (c.cyc.lv v hv).2.2.2.1
  have ne : ∀ {b : Addr} {o : Obj}, h.get? b = some o → (∀ fs, o.data ≠ .fields fs) → b ≠ v.I := fun {b o} e hd q => by
    rw [q, lvI] at e
    exact hd _ (congrArg Obj.data (Option.some.inj e).symm)
  refine Classical.byContradiction fun hGG => ?_
  obtain ⟨n1, h1⟩ := c.cyc.st
  obtain ⟨n2, hi2⟩ := c.cyc.it
  obtain ⟨o3', h3, h3'⟩ := c.cyc.se
  obtain ⟨o4', kv, h4, h4', h4''⟩ := c.cyc.nk
  refine hGG ?_
  clear hGG
  have nd := c.cyc.is
  refine ⟨c.fr.change hs o1 o2, ⟨⟨n1, ?_⟩, ⟨n2, ?_⟩, ⟨o3', kk _ _ (ne h3 fun fs q => ?_) h3, h3'⟩, ⟨o4', kv, kk _ _ (ne h4 fun fs q => ?_) h4, h4', ?_⟩, ?_, ?_, ?_, c.cyc.sub, c.cyc.nodup⟩, fun b hb o e => kk b o (fun q => o4 (q ▸ hb)) (c.kS b hb o e),
    c.sl.trans (SlotF.of_keep fun b o hb e => kk b o (fun q => o5 (q ▸ hb)) e), kk _ _ (Ne.symm o3) c.hI, fun b hb => c.off b ((cAddrs_pos (St := St) (It := It) (Se := Se) (Nk := Nk) (p := p) (v := v) (v' := { v with pos := v.pos + 1 }) rfl rfl) ▸ hb)⟩
  · rw [kk _ _ (ne h1 (fun fs q => by cases q)) h1]; simp
  · rw [kk _ _ (ne hi2 (fun fs q => by cases q)) hi2]; simp
  · refine Classical.byContradiction fun hGG => ?_
    obtain ⟨_, _, _, _, z, _⟩ := h3'
    refine hGG ?_
    clear hGG
    rw [z] at q; cases q
  · refine Classical.byContradiction fun hGG => ?_
    obtain ⟨_, _, _, z, _⟩ := h4'
    refine hGG ?_
    clear hGG
    rw [z] at q; cases q
  · rw [h4'']; simp
  · intro u hu
    rcases List.mem_append.mp hu with hu | hu
    · refine Classical.byContradiction fun hGG => ?_
      obtain ⟨a1, a2, a3, a4, a5⟩ := c.cyc.lv u (List.mem_append_left _ hu)
      refine hGG ?_
      clear hGG
      have nI : u.I ≠ v.I := fun q => by
        rw [List.map_append, List.nodup_append] at nd
        exact nd.2.2 u.I (List.mem_map_of_mem hu) v.I (by first | exact mc0 | exact mc1 | exact mc2 | exact mc3 | exact mc4 | exact mc5 | exact mc6 | exact mc7 | simp) q
      refine ⟨a1, a2, kk _ _ (fun q => ?_) a3, kk _ _ nI a4, a5⟩
      rw [q, lvI] at a3
      exact absurd (congrArg Obj.cls (Option.some.inj a3)) (by simp [iterObj, nextObj])
    · rw [List.mem_singleton] at hu
      subst hu
      refine Classical.byContradiction fun hGG => ?_
      obtain ⟨a1, a2, a3, a4, a5⟩ := c.cyc.lv v hv
      refine hGG ?_
      clear hGG
      refine ⟨a1, a2, kk _ _ (fun q => ?_) a3, hI, hp⟩
      rw [q, lvI] at a3
      exact absurd (congrArg Obj.cls (Option.some.inj a3)) (by simp [iterObj, nextObj])
  · simpa using nd
  · simpa using c.cyc.inc
theorem funFrames_at {h h2 g : Heap} : ∀ {l : List Env}, h.FunFrames g l → (∀ b ∈ frs l, ∃ o, h2.get? b = some o ∧ ∀ vs, o.data ≠ .fields vs) → h2.FunFrames g l
  | [], _, _ => trivial
  | env :: rest, ⟨hk, ⟨L, o, hf, hn, ho, hd⟩, hr⟩, k => by
    refine Classical.byContradiction fun hGG => ?_
    obtain ⟨o2, ho2, hd2⟩ := k L (List.mem_filterMap.mpr ⟨env, .head _, hf⟩)
    refine hGG ?_
    clear hGG
    refine ⟨hk, ⟨L, o2, hf, hn, ho2, hd2⟩, funFrames_at hr fun b hb => k b ?_⟩
    refine Classical.byContradiction fun hGG => ?_
    obtain ⟨e2, he2, hf2⟩ := List.mem_filterMap.mp hb
    refine hGG ?_
    clear hGG
    exact List.mem_filterMap.mpr ⟨e2, .tail _ he2, hf2⟩
theorem CycMid.news (c : CycMid prog w g L h0 h nds S dx D St It Se Nk I oI frl stk seen j tj) (hIL : I ≠ L) (gI : g.get? I = none) {oSe oNk : Obj} {n1 n2 : Nat} (h1 : h.get? St = some (listOf (stk.map (fun v => Value.int v.i v.t)).toArray n1)) (h2 : h.get? It = some (listOf (stk.map (fun v => Value.ref v.U)).toArray n2)) (h3 : h.get? Se = some oSe) (h4 : h.get? Nk = some oNk) :
    News g L h ((Se, oSe) :: (Nk, oNk) :: (It, listOf (stk.map (fun v => Value.ref v.U)).toArray n2) :: (St, listOf (stk.map (fun v => Value.int v.i v.t)).toArray n1) :: (I, oI) :: lvLed stk) := by
  have of := fun b hb => (⟨(c.off b hb).1, (c.off b hb).2.1⟩ : b ≠ L ∧ g.get? b = none)
  intro q hq
  simp only [List.mem_cons] at hq
  rcases hq with rfl | rfl | rfl | rfl | rfl | hq
  · exact ⟨h3, of _ (by first | exact mc0 | exact mc1 | exact mc2 | exact mc3 | exact mc4 | simp [cAddrs])⟩
  · exact ⟨h4, of _ (by first | exact mc0 | exact mc1 | exact mc2 | exact mc3 | exact mc4 | simp [cAddrs])⟩
  · exact ⟨h2, of _ (by first | exact mc0 | exact mc1 | exact mc2 | exact mc3 | exact mc4 | simp [cAddrs])⟩
  · exact ⟨h1, of _ (by first | exact mc0 | exact mc1 | exact mc2 | exact mc3 | exact mc4 | simp [cAddrs])⟩
  · exact ⟨c.hI, hIL, gI⟩
  · refine Classical.byContradiction fun hGG => ?_
    obtain ⟨v, hv, e⟩ := lvLed_mem hq
    obtain ⟨_, _, b3, b4, _⟩ := c.cyc.lv v hv
    refine hGG ?_
    clear hGG
    rcases e with rfl | rfl
    · exact ⟨b3, of _ (mem_cU hv)⟩
    · exact ⟨b4, of _ (mem_cI hv)⟩
theorem cLed_mem {St It Se Nk I b : Addr} {o1 o2 o3 o4 o5 : Obj} {stk : List Lv} (h : b = I ∨ b ∈ cAddrs St It Se Nk stk) : ∃ p ∈ (Se, o1) :: (Nk, o2) :: (It, o3) :: (St, o4) :: (I, o5) :: lvLed stk, p.1 = b := by
  rcases h with rfl | h
  · exact ⟨(b, o5), (by first | exact mc0 | exact mc1 | exact mc2 | exact mc3 | exact mc4 | exact mc5 | exact mc6 | exact mc7 | exact mc8 | exact mc9 | exact mc10 | exact mc11 | simp), rfl⟩
  · rcases cAddrs_mem h with rfl | rfl | rfl | rfl | ⟨u, hu, rfl | rfl⟩
    · exact ⟨(b, o4), (by first | exact mc0 | exact mc1 | exact mc2 | exact mc3 | exact mc4 | exact mc5 | exact mc6 | exact mc7 | exact mc8 | exact mc9 | exact mc10 | exact mc11 | simp), rfl⟩
    · exact ⟨(b, o3), (by first | exact mc0 | exact mc1 | exact mc2 | exact mc3 | exact mc4 | exact mc5 | exact mc6 | exact mc7 | exact mc8 | exact mc9 | exact mc10 | exact mc11 | simp), rfl⟩
    · exact ⟨(b, o1), (by first | exact mc0 | exact mc1 | exact mc2 | exact mc3 | exact mc4 | exact mc5 | exact mc6 | exact mc7 | exact mc8 | exact mc9 | exact mc10 | exact mc11 | simp), rfl⟩
    · exact ⟨(b, o2), (by first | exact mc0 | exact mc1 | exact mc2 | exact mc3 | exact mc4 | exact mc5 | exact mc6 | exact mc7 | exact mc8 | exact mc9 | exact mc10 | exact mc11 | simp), rfl⟩
    · exact ⟨_, .tail _ (.tail _ (.tail _ (.tail _ (.tail _ (mem_lU hu))))), rfl⟩
    · exact ⟨_, .tail _ (.tail _ (.tail _ (.tail _ (.tail _ (mem_lI hu))))), rfl⟩
theorem sub_StopIteration : isSubtype (.type "StopIteration") (.type "StopIteration") = pure true := by rw [isSubtype_type]; kernel_rfl
theorem exc_StopIteration : isSubtype (.type "StopIteration") (.type "BaseException") = pure true := by rw [isSubtype_type]; kernel_rfl
theorem nt_StopIteration : isSubtype (.type ((Manifest.find? "StopIteration").elim "type" fun y => y.metatype)) (.type "tuple") = pure false := by first | (rw [isSubtype_type]; kernel_rfl) | decide +kernel
theorem CycMid.caught {h1 h4 : Heap} (c : CycMid prog w g L h0 h nds S dx D St It Se Nk I oI frl (p ++ [v]) seen j tj) (hs : Heap.SameBut v.I h h1) (K4 : KeepF (L :: frl) h1 h4) (hIf : I ∉ frl) (hIL : I ≠ L) (hoff : ∀ b ∈ sAddrs S dx D nds, b ≠ L ∧ b ∉ frl) :
    (∀ b o, b ∈ sAddrs S dx D nds ∨ b = I ∨ b ∈ cAddrs St It Se Nk p → h.get? b = some o → h4.get? b = some o) ∧ SlotF frl h h4 := by
  have hv : v ∈ p ++ [v] := by simp
  refine Classical.byContradiction fun hGG => ?_
  obtain ⟨o1, o2, o3, o4, o5⟩ := c.off v.I (mem_cI hv)
  refine hGG ?_
  clear hGG
  have lvI : h.get? v.I = some (iterObj v.nd.l v.pos) := (c.cyc.lv v hv).2.2.2.1
  have ne : ∀ {b : Addr} {o : Obj}, h.get? b = some o → (∀ fs, o.data ≠ .fields fs) → b ≠ v.I := fun {b o} e hd q => by
    rw [q, lvI] at e
    exact hd _ (congrArg Obj.data (Option.some.inj e).symm)
  refine Classical.byContradiction fun hGG => ?_
  obtain ⟨n1, h1'⟩ := c.cyc.st
  obtain ⟨n2, hi2⟩ := c.cyc.it
  obtain ⟨o3', h3, h3'⟩ := c.cyc.se
  obtain ⟨o4', kv, h4, h4', h4''⟩ := c.cyc.nk
  refine hGG ?_
  clear hGG
  have nd := c.cyc.is
  have nI : ∀ b, b ∈ cAddrs St It Se Nk p → b ≠ v.I := fun b hb => by
    rcases cAddrs_mem hb with rfl | rfl | rfl | rfl | ⟨u, hu, rfl | rfl⟩
    · exact ne h1' (fun fs q => by cases q)
    · exact ne hi2 (fun fs q => by cases q)
    · exact ne h3 (fun fs q => by
        refine Classical.byContradiction fun hGG => ?_
        obtain ⟨_, _, _, _, z, _⟩ := h3'
        refine hGG ?_
        clear hGG
        rw [z] at q; cases q)
    · exact ne h4 (fun fs q => by
        refine Classical.byContradiction fun hGG => ?_
        obtain ⟨_, _, _, z, _⟩ := h4'
        refine hGG ?_
        clear hGG
        rw [z] at q; cases q)
    · intro q
      have a3 := (c.cyc.lv u (List.mem_append_left _ hu)).2.2.1
      rw [q, lvI] at a3
      exact absurd (congrArg Obj.cls (Option.some.inj a3)) (by simp [iterObj, nextObj])
    · intro q
      rw [List.map_append, List.nodup_append] at nd
      exact nd.2.2 u.I (List.mem_map_of_mem hu) v.I (by first | exact mc0 | exact mc1 | exact mc2 | exact mc3 | exact mc4 | exact mc5 | exact mc6 | exact mc7 | simp) q
  refine ⟨fun b o hb e => ?_, SlotF.trans (SlotF.of_keep fun b o hb e => (hs.2 b (fun q => o5 (q ▸ hb))).trans e) fun b o hb => K4.slot b o (.tail _ hb)⟩
  have key : b ≠ v.I ∧ b ∉ L :: frl := by
    rcases hb with hb | rfl | hb
    · exact ⟨fun q => o4 (q ▸ hb), fun q => (List.mem_cons.mp q).elim (hoff b hb).1 (hoff b hb).2⟩
    · exact ⟨Ne.symm o3, fun q => (List.mem_cons.mp q).elim hIL hIf⟩
    · have := c.off b (cAddrs_sub hb)
      exact ⟨nI b hb, fun q => (List.mem_cons.mp q).elim this.1 this.2.2.2.2⟩
  exact K4.keep b o key.2 ((hs.2 b key.1).trans e)
/-- a new level -/
theorem CycMid.push {nj : Nd} {U I3 : Addr} (c : CycMid prog w g L h0 h nds S dx D St It Se Nk I oI frl stk seen j tj) (F2 : Fr g L h2 (cMap S D St It Se Nk j tj))
    (k : ∀ b o, b ∈ sAddrs S dx D nds ∨ b ∈ frl ∨ b = I ∨ (∃ u ∈ stk, b = u.U ∨ b = u.I) → h.get? b = some o → h2.get? b = some o)
    (st : ∃ n, h2.get? St = some (listOf (stk.map (fun v => Value.int v.i v.t) ++ [Value.int j tj]).toArray n)) (it : ∃ n, h2.get? It = some (listOf (stk.map (fun v => Value.ref v.U) ++ [Value.ref U]).toArray n))
    (se : ∃ o, h2.get? Se = some o ∧ o.SetObjOf (intKind prog w) (fun k' => decide (k' ∈ seen) || decide (k' = j)) (if decide (j ∈ seen) = true then seen.length else seen.length + 1))
    (nk : ∃ o kvs, h2.get? Nk = some o ∧ o.IsDictOf (intKind prog w) kvs ∧ kvs.map (·.1) = stk.map (·.i) ++ [j])
    (hU : h2.get? U = some (nextObj I3)) (hI3 : h2.get? I3 = some (iterObj nj.l 0)) (hnj : nj ∈ nds) (hnji : nj.i = j) (hlt : ∀ v ∈ stk, v.i < j) (hns : j ∉ seen)
    (offU : U ≠ L ∧ g.get? U = none ∧ U ≠ I ∧ U ∉ sAddrs S dx D nds ∧ U ∉ frl) (offI : I3 ≠ L ∧ g.get? I3 = none ∧ I3 ≠ I ∧ I3 ∉ sAddrs S dx D nds ∧ I3 ∉ frl) (nI3 : ∀ v ∈ stk, v.I ≠ I3) :
    CycMid prog w g L h0 h2 nds S dx D St It Se Nk I oI frl (stk ++ [⟨j, tj, U, I3, nj, 0⟩]) (seen ++ [j]) j tj := by
  refine Classical.byContradiction fun hGG => ?_
  obtain ⟨n1, st⟩ := st
  obtain ⟨n2, it⟩ := it
  obtain ⟨o3, se, se'⟩ := se
  obtain ⟨o4, kvs, nk, nk', nk''⟩ := nk
  refine hGG ?_
  clear hGG
  rw [if_neg (by simpa using hns)] at se'
  have e3 : (fun k' => decide (k' ∈ seen) || decide (k' = j)) = fun k' => decide (k' ∈ seen ++ [j]) := by
    funext k'
    simp
  rw [e3] at se'
  refine ⟨F2, ⟨⟨n1, by simpa using st⟩, ⟨n2, by simpa using it⟩, ⟨o3, se, by simpa using se'⟩, ⟨o4, kvs, nk, nk', by simpa using nk''⟩, ?_, ?_, ?_, ?_, ?_⟩, fun b hb o e => k b o (.inl hb) (c.kS b hb o e), c.sl.trans (SlotF.of_keep fun b o hb e => k b o (.inr (.inl hb)) e), k _ _ (.inr (.inr (.inl rfl))) c.hI, ?_⟩
  · intro v hv
    rcases List.mem_append.mp hv with hv | hv
    · refine Classical.byContradiction fun hGG => ?_
      obtain ⟨a1, a2, a3, a4, a5⟩ := c.cyc.lv v hv
      refine hGG ?_
      clear hGG
      exact ⟨a1, a2, k _ _ (.inr (.inr (.inr ⟨v, hv, .inl rfl⟩))) a3, k _ _ (.inr (.inr (.inr ⟨v, hv, .inr rfl⟩))) a4, a5⟩
    · rw [List.mem_singleton] at hv
      subst hv
      exact ⟨hnj, hnji, hU, hI3, Nat.zero_le _⟩
  · rw [List.map_append, List.nodup_append]
    refine ⟨c.cyc.is, (by first | exact mc0 | exact mc1 | exact mc2 | exact mc3 | exact mc4 | exact mc5 | exact mc6 | exact mc7 | exact mc8 | exact mc9 | exact mc10 | exact mc11 | simp), fun x hx y hy => ?_⟩
    obtain ⟨v, hv, rfl⟩ := List.mem_map.mp hx
    simp at hy
    rw [hy]
    exact nI3 v hv
  · rw [List.map_append, List.pairwise_append]
    refine ⟨c.cyc.inc, (by first | exact mc0 | exact mc1 | exact mc2 | exact mc3 | exact mc4 | exact mc5 | exact mc6 | exact mc7 | exact mc8 | exact mc9 | exact mc10 | exact mc11 | simp), fun x hx y hy => ?_⟩
    obtain ⟨v, hv, rfl⟩ := List.mem_map.mp hx
    simp at hy
    rw [hy]
    exact hlt v hv
  · intro q hq
    rcases List.mem_append.mp hq with hq | hq
    · exact c.cyc.sub q hq
    · rw [List.mem_singleton] at hq
      exact ⟨nj, hnj, by rw [hnji, hq]⟩
  · rw [List.nodup_append]
    refine ⟨c.cyc.nodup, (by first | exact mc0 | exact mc1 | exact mc2 | exact mc3 | exact mc4 | exact mc5 | exact mc6 | exact mc7 | exact mc8 | exact mc9 | exact mc10 | exact mc11 | simp), fun x hx y hy => ?_⟩
    simp at hy
    rw [hy]
    exact fun q => hns (q ▸ hx)
  · intro b hb
    rcases cAddrs_mem hb with rfl | rfl | rfl | rfl | ⟨u, hu, hb⟩
    · exact c.off _ (by first | exact mc0 | exact mc1 | exact mc2 | exact mc3 | exact mc4 | simp [cAddrs])
    · exact c.off _ (by first | exact mc0 | exact mc1 | exact mc2 | exact mc3 | exact mc4 | simp [cAddrs])
    · exact c.off _ (by first | exact mc0 | exact mc1 | exact mc2 | exact mc3 | exact mc4 | simp [cAddrs])
    · exact c.off _ (by first | exact mc0 | exact mc1 | exact mc2 | exact mc3 | exact mc4 | simp [cAddrs])
    · rcases List.mem_append.mp hu with hu | hu
      · rcases hb with rfl | rfl
        · exact c.off _ (mem_cU hu)
        · exact c.off _ (mem_cI hu)
      · rw [List.mem_singleton] at hu
        subst hu
        rcases hb with rfl | rfl
        · exact offU
        · exact offI
theorem stored_last {kvs : List (Int × Value)} {k : Int} {v : Value} (h : valueAt kvs k = none) : (stored kvs k v).map (·.1) = kvs.map (·.1) ++ [k] := by
  unfold stored
  rw [if_neg]
  · simp
  · intro q
    simp only [List.any_eq_true, decide_eq_true_eq] at q
    refine Classical.byContradiction fun hGG => ?_
    obtain ⟨x, hx, e⟩ := q
    refine hGG ?_
    clear hGG
    unfold valueAt at h
    rw [Option.map_eq_none_iff, List.find?_eq_none] at h
    exact h x hx (by simpa using e)
/-- a level is done -/
theorem CycMid.pop (c : CycMid prog w g L h0 h nds S dx D St It Se Nk I oI frl (p ++ [v]) seen j tj) (F2 : Fr g L h2 (cMap S D St It Se Nk j tj)) (sl : SlotF frl h h2)
    (k : ∀ b o, b ∈ sAddrs S dx D nds ∨ b = I ∨ b = Se ∨ (∃ u ∈ p, b = u.U ∨ b = u.I) → h.get? b = some o → h2.get? b = some o)
    (st : ∃ n, h2.get? St = some (listOf (p.map (fun v => Value.int v.i v.t)).toArray n)) (it : ∃ n, h2.get? It = some (listOf (p.map (fun v => Value.ref v.U)).toArray n))
    (nk : ∃ o kvs, h2.get? Nk = some o ∧ o.IsDictOf (intKind prog w) kvs ∧ kvs.map (·.1) = p.map (·.i)) : CycMid prog w g L h0 h2 nds S dx D St It Se Nk I oI frl p seen j tj := by
  refine Classical.byContradiction fun hGG => ?_
  obtain ⟨o3', h3, h3'⟩ := c.cyc.se
  refine hGG ?_
  clear hGG
  have nd := c.cyc.is
  have inc := c.cyc.inc
  rw [List.map_append] at nd inc
  refine ⟨F2, ⟨st, it, ⟨o3', k _ _ (by first | exact mc0 | exact mc1 | exact mc2 | exact mc3 | exact mc4 | exact mc5 | exact mc6 | exact mc7 | simp) h3, h3'⟩, nk, fun u hu => ?_, (List.nodup_append.mp nd).1, (List.pairwise_append.mp inc).1, c.cyc.sub, c.cyc.nodup⟩, fun b hb o e => k b o (.inl hb) (c.kS b hb o e), c.sl.trans sl, k _ _ (by first | exact mc0 | exact mc1 | exact mc2 | exact mc3 | exact mc4 | exact mc5 | exact mc6 | exact mc7 | simp) c.hI, fun b hb => c.off b (cAddrs_sub hb)⟩
  refine Classical.byContradiction fun hGG => ?_
  obtain ⟨a1, a2, a3, a4, a5⟩ := c.cyc.lv u (List.mem_append_left _ hu)
  refine hGG ?_
  clear hGG
  exact ⟨a1, a2, k _ _ (.inr (.inr (.inr ⟨u, hu, .inl rfl⟩))) a3, k _ _ (.inr (.inr (.inr ⟨u, hu, .inr rfl⟩))) a4, a5⟩
end
theorem mode9 : True := by
  w_top off
  k_with_none
  trivial
theorem fr_eq {g h : Heap} {L : Addr} {m m' : Str → Option Value} (F : Fr g L h m) (e : ∀ z, m z = m' z) : Fr g L h m' := by
  have : m = m' := funext e
  exact this ▸ F
theorem kts_mem' {name : Str} {scope : Scope} {L a b : Addr} {cd : Value} {cl : List (Str × Addr)} {outer : List Env} (hm : b ∈ frs (envX name scope L a cd cl :: outer)) : b = L ∨ b ∈ frs outer := by
  refine Classical.byContradiction fun hGG => ?_
  obtain ⟨env, he, hf⟩ := List.mem_filterMap.mp hm
  refine hGG ?_
  clear hGG
  rcases memC.mp he with rfl | he
  · exact .inl (Option.some.inj hf).symm
  · exact .inr (List.mem_filterMap.mpr ⟨env, he, hf⟩)
section
--SETATTR
--APART
local macro_rules | `(tactic| walk_at "exec While") => `(tactic| (k_here; (with_reducible refine gd21 ?_); refine hold_of ?_))
local macro_rules | `(tactic| k_all) => `(tactic| exact TailNe.ne (by assumption))
local macro_rules | `(tactic| walk_at "setItem ref int") => `(tactic| (k_here; (with_reducible refine gd10 ?_); k_dflt (refine' kda_set (knd := PySem.intKind _ _) ?F ?N ?U ?d (intKind_is _ _ _ _) ?z ?_; (case F | N => k_asm); (case U => k_updF); (case d => k_asm); (case z => (rw [sizeLine_eq]; lia)); k_whole); intro h' o' F' N' hd'; (try dsimp only at N')))
local macro_rules | `(tactic| walk_at "call builtin:iter") => `(tactic| (k_here; (with_reducible refine gd22 ?_); k_dflt (refine' lst_iter ?k1 ?k2 ?k3 ?_; (case k1 | k2 => k_asm); (case k3 => k_mem); k_whole); intro I' h' F' N' l1; (try k_lt l1); (try k_sweep)))
local macro_rules | `(tactic| walk_at "getAttr ref") => `(tactic| (k_here; (with_reducible refine gd23 ?_); k_dflt (refine' lst_next_attr ?k1 ?k2 ?k3 ?_; (case k1 | k2 => k_asm); (case k3 => k_mem); k_whole); intro U' h' F' N' l1; (try k_lt l1); (try k_sweep)))
local macro_rules | `(tactic| walk_at "compareOp In int ref") => `(tactic| (k_here; k_dflt (refine' kda_in (knd := PySem.intKind _ _) ?N ?p ?d ?lo (intKind_is _ _ _ _) false ?hb ?_; (case N => k_asm); (case p => k_mem); (case d | lo => k_asm); (case hb => (simp only [*, Option.isSome_none])); k_whole)))
local macro_rules | `(tactic| walk_at "subscriptTail Name UnaryOp ref int") => `(tactic| (k_here; (with_reducible refine gd24 ?_); k_dflt (refine' lst_last ?k1 ?k2 ?k3 ?_ ?hs; (case k1 => k_asm); (case k2 => k_mem); (case k3 => first | assumption | lia); (case hs => exact rfl); k_whole)))
local macro_rules | `(tactic| walk_at "call builtin:list.pop") => `(tactic| (k_here; (with_reducible refine gd14 ?_); k_dflt (refine' lst_pop ?k1 ?k2 ?k3 ?k4 ?_; (case k1 | k2 => k_asm); (case k3 => k_upd); (case k4 => first | assumption | lia); k_whole); intro h' F' N'; (try k_sweep)))
local macro_rules | `(tactic| walk_at "delItem ref int") => `(tactic| (k_here; k_dflt (refine' dict_del (knd := PySem.intKind _ _) ?F ?N ?U ?d (intKind_is _ _ _ _) ?z ?hl ?_; (case F | N => k_asm); (case U => k_updF); (case d => k_asm); (case z => first | assumption | lia); (case hl => assumption); k_whole); intro h' o' F' N' hd'; (try dsimp only at N')))
local macro_rules | `(tactic| walk_at "truthy ref") => `(tactic| (k_here; k_dflt (refine' lst_truthy_app ?k1 ?k2 ?k3 ?_; (case k1 => k_asm); (case k2 => k_mem); (case k3 => assumption); k_whole); intro tk'))
theorem cycle_spec {prog : Program} {w : World} {loose : List Str} {mean : ExcName → Option Value} {mg mb : Str → Option Value} 
  {dp un : Nat} {gd : Option (List Code)} {cn : Str} {cs : Scope} {a : Addr} {ccd : Value} {cl : List (Str × Addr)} {outer : List Env} {h₀ : Heap} {L : Addr} {m : Str → Option Value} {s : Shared} 
  {S dx D : Addr} {rd : Value} {po nf : Int} {nds : List Nd}
    {Q E : Value → Shared → Prop}
    (FF : s.heap.FunFrames h₀ outer) (F : Fr h₀ L s.heap m) (X : (Mine.hd.heap_1 w.params).In h₀) (T : Top Mine.hd.view_1 loose mean mg mb h₀) (hk : cs.kind = .function) 
    (hS : SorterAt prog w s.heap S dx D rd po nf nds) (hoff : ∀ b ∈ sAddrs S dx D nds, b ≠ L ∧ h₀.get? b = none) (hofr : ∀ b ∈ sAddrs S dx D nds, b ∉ frs outer)
    (hsc : ∀ n ∈ nds, ∀ p ∈ n.sc, n.i < p.1 ∧ ∃ n' ∈ nds, n'.i = p.1) (hz : nds.length ≤ 100) (hz2 : ∀ n ∈ nds, n.sc.length ≤ 100)
    (hd : dp + 40 < recursionLimit) (hu : un + 320 < cLine)
    (ret : ∀ h' tk', ModF [] (L :: frs outer) s.heap h' → Q .none { s with heap := h', toks := tk' }) :
    wpAny (model prog w) (ktrTop dp un gd cn cs L a ccd cl outer) (call (.ref 134) [.ref S]) Q E s := by
  refine Classical.byContradiction fun hGG => ?_
  obtain ⟨t1, t2, t3, t4, tp, tf, nd, hX⟩ := hS.atX
  obtain ⟨oD, hDD, hDk⟩ := hS.atD
  refine hGG ?_
  clear hGG
  have N : News h₀ L s.heap (sLed S dx D (dictOf (sDict w t1 t2 t3 t4 D rd (.int po tp) (.int nf tf)) nd) oD nds) := hS.news hX hDD hoff
  refine wpAny_call ?_
  k_dflt refine' enterF (binds := [(Str.ofString "self", Value.ref S)]) ?k1 ?k2 ?k3 ?k4 ?k5 ?kA ?kF ?kK ?k6 ?k7 ?k8 ?k9 ?kB ?_ ?c2 ?c3 ?c4 ?c5
  k_dflt ((case kA | kF => exact rfl); (case kK => first | assumption | exact rfl); (case k1 | k2 | k3 | k4 | k5 => k_asm); (case k6 | k7 => k_is); (case k8 => ktr_room); (case k9 => exact BindsTo.of_eq rfl); (case c5 => decide); (case kB => exact locs rfl); (case c2 | c3 | c4 => exact rfl); k_whole)
  intro g' L' h' hHeld' hSize' hKeep' F' N' FF' hA' hLt' X' T'
  refine hide fun QA hQA => ?_
  have N1 : News g' L' h' [(S, instObj 144 dx), (dx, dictOf (sDict w t1 t2 t3 t4 D rd (.int po tp) (.int nf tf)) nd), (D, oD)] := newsOf N' mc0 (newsOf N' mc1 (newsOf N' mc2 newsNil))
  refine Classical.byContradiction fun hGG => ?_
  obtain ⟨g1, F1, N1, st1, hold1⟩ := rebase F' N1
  refine hGG ?_
  clear hGG
  have X1 := X'.keeps st1
  have T1 := T'.keeps st1
  have hne1 := neN hS.neSX
  have hne2 := neN hS.neSD
  have hne3 := neN hS.neXD
  have hlo := hS.lo
  have Fk : Hold (Fr h₀ L s.heap m) := ⟨F⟩
  clear F N
  k_with "exec For Name Name cons nil" => (refine forH g' rfl rfl ?_ (fun _ => rfl) (by passes_own))
  k_steps
  (rename Fr g1 L' _ _ => lF); (rename News g1 L' _ _ => lN)
  rename_i _ _ St _ lSt _ _ It _ lIt _ _ Se _ led hSe _ lSe _ _ Nk _ oNk loNk _ _ hNk _ lNk hs tks
  have ltL : ∀ b ∈ sAddrs S dx D nds, @LT.lt Nat _ b L' := fun b hb => by
    obtain ⟨o, ho⟩ := hS.live b hb
    rw [← hSize']; exact Heap.lt_size ho
  have frL : ∀ b ∈ frs (envX cn cs L a ccd cl :: outer), b ∉ sAddrs S dx D nds := fun b hb hb2 => by
    rcases kts_mem' hb with q | q
    · exact (hoff b hb2).1 q
    · exact hofr b hb2 q
  have n3 : ∀ b, b ∈ frs (envX cn cs L a ccd cl :: outer) → b ≠ S ∧ b ≠ dx ∧ b ≠ D := fun b hb => ⟨fun q => frL b hb (by simp [sAddrs, q]), fun q => frL b hb (by simp [sAddrs, q]), fun q => frL b hb (by simp [sAddrs, q])⟩
  have old1 : ∀ b o, @LT.lt Nat _ b L' → b ≠ S → b ≠ dx → b ≠ D → s.heap.get? b = some o → g1.get? b = some o := fun b o hb h1 h2 h3 e => by
    refine hold1 b o hb (fun p hp => ?_) (hKeep' b o e)
    simp only [memC, List.not_mem_nil, or_false] at hp
    rcases hp with rfl | rfl | rfl
    · exact Ne.symm h1
    · exact Ne.symm h2
    · exact Ne.symm h3
  have mNk := lN _ (.head _)
  have mSe := lN _ (.tail _ (.head _))
  have mIt := lN _ (.tail _ (.tail _ (.head _)))
  have mSt := lN _ (.tail _ (.tail _ (.tail _ (.head _))))
  have mS := lN _ (.tail _ (.tail _ (.tail _ (.tail _ (.head _)))))
  have mX := lN _ (.tail _ (.tail _ (.tail _ (.tail _ (.tail _ (.head _))))))
  have mD := lN _ (.tail _ (.tail _ (.tail _ (.tail _ (.tail _ (.tail _ (.head _)))))))
  dsimp only at mNk mSe mIt mSt mS mX mD
  have keptS : ∀ b ∈ sAddrs S dx D nds, ∀ o, s.heap.get? b = some o → hs.get? b = some o := fun b hb o e => by
    by_cases h1 : b = S
    · rw [h1, hS.atS] at e; cases e; rw [h1]; exact mS.1
    · by_cases h2 : b = dx
      · rw [h2, hX] at e; cases e; rw [h2]; exact mX.1
      · by_cases h3 : b = D
        · rw [h3, hDD] at e; cases e; rw [h3]; exact mD.1
        · exact lF.keep b o (old1 b o (ltL b hb) h1 h2 h3 e)
  have frLive : ∀ b ∈ frs (envX cn cs L a ccd cl :: outer), g'.get? b = none ∧ ∃ o, h'.get? b = some o ∧ ∀ vs, o.data ≠ .fields vs := fun b hb => frs_mem FF' hb
  have keptF : ∀ b ∈ frs (envX cn cs L a ccd cl :: outer), ∀ o, s.heap.get? b = some o → hs.get? b = some o := fun b hb o e =>
    lF.keep b o (old1 b o (hLt' b hb) (n3 b hb).1 (n3 b hb).2.1 (n3 b hb).2.2 e)
  have slot0 : SlotF (frs (envX cn cs L a ccd cl :: outer)) s.heap hs := SlotF.of_keep fun b o hb e => keptF b hb o e
  have frS : ∀ b ∈ frs (envX cn cs L a ccd cl :: outer), ∃ o, s.heap.get? b = some o ∧ ∀ vs, o.data ≠ .fields vs := fun b hb => by
    rcases kts_mem' hb with q | q
    · refine Classical.byContradiction fun hGG => ?_
      obtain ⟨oL, es, ep, hL, hLd, _⟩ := Fk.out.ns
      refine hGG ?_
      clear hGG
      rw [q]
      exact ⟨oL, hL, fun vs z => by rw [hLd] at z; cases z⟩
    · exact (frs_mem FF q).2
  have oldG : ∀ b, b ∈ sAddrs S dx D nds ∨ b ∈ frs (envX cn cs L a ccd cl :: outer) → b = S ∨ b = dx ∨ b = D ∨ ∃ o, g1.get? b = some o := fun b hb => by
    by_cases h1 : b = S
    · exact .inl h1
    · by_cases h2 : b = dx
      · exact .inr (.inl h2)
      · by_cases h3 : b = D
        · exact .inr (.inr (.inl h3))
        · right; right; right
          rcases hb with hb | hb
          · obtain ⟨o, ho⟩ := hS.live b hb
            exact ⟨o, old1 b o (ltL b hb) h1 h2 h3 ho⟩
          · refine Classical.byContradiction fun hGG => ?_
            obtain ⟨o, ho, _⟩ := frS b hb
            refine hGG ?_
            clear hGG
            exact ⟨o, old1 b o (hLt' b hb) h1 h2 h3 ho⟩
  have gsub : ∀ {b : Addr}, g1.get? b = none → g'.get? b = none := fun {b} e => by
    cases q : g'.get? b with
    | none => rfl
    | some o => rw [st1 _ _ q] at e; cases e
  have newA : ∀ c, c = St ∨ c = It ∨ c = Se ∨ c = Nk → (∀ b, b ∈ sAddrs S dx D nds ∨ b ∈ frs (envX cn cs L a ccd cl :: outer) → c ≠ b) ∧ c ≠ L' ∧ g'.get? c = none := fun c hc => by
    have base : g1.get? c = none ∧ c ≠ L' ∧ @Ne Nat c S ∧ @Ne Nat c dx ∧ @Ne Nat c D := by
      rcases hc with rfl | rfl | rfl | rfl
      · exact ⟨mSt.2.2, mSt.2.1, by lia, by lia, by lia⟩
      · exact ⟨mIt.2.2, mIt.2.1, by lia, by lia, by lia⟩
      · exact ⟨mSe.2.2, mSe.2.1, by lia, by lia, by lia⟩
      · exact ⟨mNk.2.2, mNk.2.1, by lia, by lia, by lia⟩
    refine ⟨fun b hb q => ?_, base.2.1, gsub base.1⟩
    rcases oldG b hb with z | z | z | ⟨o, z⟩
    · exact base.2.2.1 (q.trans z)
    · exact base.2.2.2.1 (q.trans z)
    · exact base.2.2.2.2 (q.trans z)
    · rw [← q, base.1] at z; cases z
  have neSI : @Ne Nat St It := by lia
  have neSS : @Ne Nat St Se := by lia
  have neSN : @Ne Nat St Nk := by lia
  have neIS : @Ne Nat It Se := by lia
  have neIN : @Ne Nat It Nk := by lia
  have neEN : @Ne Nat Se Nk := by lia
  have cyc0 : CycAt prog w hs nds St It Se Nk [] [] :=
    ⟨⟨_, mSt.1⟩, ⟨_, mIt.1⟩, ⟨_, mSe.1, by simpa using hSe⟩, ⟨_, [], mNk.1, hNk, rfl⟩, fun _ h => (nomatch h), (by first | exact mc0 | exact mc1 | exact mc2 | exact mc3 | exact mc4 | exact mc5 | exact mc6 | exact mc7 | exact mc8 | exact mc9 | exact mc10 | exact mc11 | simp), (by first | exact mc0 | exact mc1 | exact mc2 | exact mc3 | exact mc4 | exact mc5 | exact mc6 | exact mc7 | exact mc8 | exact mc9 | exact mc10 | exact mc11 | simp), fun _ h => (nomatch h), (by first | exact mc0 | exact mc1 | exact mc2 | exact mc3 | exact mc4 | exact mc5 | exact mc6 | exact mc7 | exact mc8 | exact mc9 | exact mc10 | exact mc11 | simp)⟩
  have sIds := hS.ids
  have kvI : ∀ (i : Nat) (k : Int) (x' : Value), (kvsOf nds)[i]? = some (k, x') → ∃ n ∈ nds, n.i = k := fun i k x' e => by
    simp only [kvsOf, List.getElem?_map, Option.map_eq_some_iff] at e
    refine Classical.byContradiction fun hGG => ?_
    obtain ⟨n, hn, e⟩ := e
    refine hGG ?_
    clear hGG
    exact ⟨n, List.mem_of_getElem? hn, congrArg (·.1) e⟩
  have hA1 : (ktrTop dp un gd cn cs L a ccd cl outer).frames = some (envX cn cs L a ccd cl :: outer) := hA'
  refine loop_dict (D := D) (h₀ := g') rfl hlo mD.1 hDk (fr_sub lF st1 F') mD.2.1
    (fun I i mm hh => (∃ seen, CycAt prog w hh nds St It Se Nk [] seen) ∧ (∀ b ∈ sAddrs S dx D nds, ∀ o, s.heap.get? b = some o → hh.get? b = some o) ∧ SlotF (frs (envX cn cs L a ccd cl :: outer)) s.heap hh ∧
      ∀ z, z ≠ Str.ofString "node" → mm z = (fun y => if y = Str.ofString "node2stacki" then some (Value.ref Nk) else if y = Str.ofString "seen" then some (Value.ref Se) else if y = Str.ofString "itstack" then some (Value.ref It) else if y = Str.ofString "stack" then some (Value.ref St) else if y = Str.ofString "n2i" then some (Value.ref D) else List.lookup y [(Str.ofString "self", Value.ref S)].reverse) z) ?h0 ?stab ⟨?turn⟩ ⟨?done⟩
  case h0 =>
    intro I h2 fI hM2
    exact ⟨⟨[], cyc0.keep fun b hb o e => hM2.keep b o (fun q => nomatch q) e⟩, fun b hb o e => hM2.keep b o (fun q => nomatch q) (keptS b hb o e), SlotF.of_keep fun b o hb e => hM2.keep b o (fun q => nomatch q) (keptF b hb o e), fun _ _ => rfl⟩
  case stab =>
    intro I i mm h2 h3 fI hR1 hM2
    refine Classical.byContradiction fun hGG => ?_
    obtain ⟨⟨seen, a1⟩, a2, a3, a4⟩ := hR1
    refine hGG ?_
    clear hGG
    have nI : ∀ {b : Addr} {o : Obj}, hs.get? b = some o → b ≠ L' → b ∉ [L', I] := fun {b o} e hb q => by
      rcases List.mem_cons.mp q with q | q
      · exact hb q
      · exact ne_of_fresh fI e (List.mem_singleton.mp q).symm
    refine ⟨⟨seen, a1.keep fun b hb o e => hM2.keep b o ?_ e⟩, fun b hb o e => hM2.keep b o ?_ (a2 b hb o e), ?_, a4⟩
    · simp only [cAddrs, List.flatMap_nil, memC, List.not_mem_nil, or_false] at hb
      rcases hb with rfl | rfl | rfl | rfl
      · exact nI mSt.1 mSt.2.1
      · exact nI mIt.1 mIt.2.1
      · exact nI mSe.1 mSe.2.1
      · exact nI mNk.1 mNk.2.1
    · exact nI (keptS b hb o e) (Nat.ne_of_lt (ltL b hb))
    · intro b o hb e hn
      obtain ⟨sl, z⟩ := a3 b o hb e hn
      exact ⟨sl, hM2.keep b _ (nI (keptF b hb o e) (Nat.ne_of_lt (hLt' b hb))) z⟩
  case done =>
    intro I mm hh tk2 fI _ hR2 F3
    refine Classical.byContradiction fun hGG => ?_
    obtain ⟨⟨seen, a1⟩, a2, a3, a4⟩ := hR2
    refine hGG ?_
    clear hGG
    replace F3 : Fr g' L' hh _ := F3
    k_with_none
    k_steps
    refine hQA _ _ ?_
    refine backF_ F3 a3 fun hM9 => ret _ _ ⟨fun b o hb1 hb2 e => ?_, ?_⟩
    · by_cases q : b ∈ sAddrs S dx D nds
      · exact a2 b q o e
      · exact hM9.keep b o (by rw [sLed_addrs]; exact q) hb2 e
    · exact hM9.slot
  case turn =>
    intro I oI i k t x' mm hh tk2 fI fI0 hIL hID hI hDt hkx hR3 F3
    refine Classical.byContradiction fun hGG => ?_
    obtain ⟨⟨seen, cyc1⟩, keepS1, slot1, hmm⟩ := hR3
    refine hGG ?_
    clear hGG
    replace F3 : Fr g' L' hh _ := F3
    refine hide fun QB hQB => ?_
    refine Classical.byContradiction fun hGG => ?_
    obtain ⟨nk, hnk, hnki⟩ := kvI i k x' hkx
    obtain ⟨nt1, hSt1⟩ := cyc1.st
    obtain ⟨nt2, hIt1⟩ := cyc1.it
    obtain ⟨oSe1, hSe1, hSeS1⟩ := cyc1.se
    obtain ⟨oNk1, kvs1, hNk1, hNkD1, hkv1⟩ := cyc1.nk
    refine hGG ?_
    clear hGG
    have slen1 := cyc1.slen
    have N3 : News g' L' hh [(I, oI), (Se, oSe1)] := by
      refine newsCons ?_ (newsCons ?_ newsNil)
      · exact ⟨hI, hIL, fI0⟩
      · exact ⟨hSe1, (newA Se (by first | exact mc0 | exact mc1 | exact mc2 | exact mc3 | exact mc4 | exact mc5 | exact mc6 | exact mc7 | simp)).2⟩
    refine Classical.byContradiction fun hGG => ?_
    obtain ⟨g3, F4, N4, st3, hold3⟩ := rebase F3 N3
    refine hGG ?_
    clear hGG
    have X3 := X'.keeps st3
    have T3 := T'.keeps st3
    have F5 := kst_fr (ps := []) (stored := []) (m₀ := (fun y => if y = Str.ofString "node2stacki" then some (Value.ref Nk) else if y = Str.ofString "seen" then some (Value.ref Se) else if y = Str.ofString "itstack" then some (Value.ref It) else if y = Str.ofString "stack" then some (Value.ref St) else if y = Str.ofString "n2i" then some (Value.ref D) else List.lookup y [(Str.ofString "self", Value.ref S)].reverse)) (by first | exact mc0 | exact mc1 | exact mc2 | exact mc3 | exact mc4 | exact mc5 | exact mc6 | exact mc7 | simp) (fun z hz _ _ => hmm z hz) F4
    have keep4 : Hold (News g3 L' hh _) := ⟨N4⟩
    clear F4 F3 lF lN
    k_with_none
    k_steps
    · rename_i hin tk4
      refine hQB _ _ ?_
      refine ⟨_, _, _, rfl, fr_sub F5 st3 F', fun b hb o e => e, ⟨seen, cyc1⟩, keepS1, slot1, fun z hz => ?_⟩
      simp [hz, kstB]
    · refine ⟨?_⟩
      refine whileS (fun n s' => Sm6 (fun hh2 tk stk seen2 j tj => Al5 (s' = { heap := hh2, gens := s.gens, drawn := s.drawn, toks := tk, os := s.os }) (CycMid prog w g' L' s.heap hh2 nds S dx D St It Se Nk I oI (frs (envX cn cs L a ccd cl :: outer)) stk seen2 j tj) ((∀ v ∈ stk, v.i < j)) ((∃ nj ∈ nds, nj.i = j)) (meas nds stk seen2 = n))) (meas nds [] seen) ⟨hh, _, [], seen, k, t, rfl, ⟨fr_eq (fr_sub F5 st3 F') (fun z => by simp [kstB, cMap]), cyc1, keepS1, slot1, hI, ?off⟩, fun _ h => (nomatch h), ⟨nk, hnk, hnki⟩, rfl⟩ ⟨?wturn⟩ (by passes_own)
      case off =>
        intro b hb
        simp only [cAddrs, List.flatMap_nil, List.mem_cons, List.not_mem_nil, or_false] at hb
        have e9 : ∀ {o : Obj}, hs.get? b = some o → b ≠ I := fun e q => ne_of_fresh fI e q.symm
        have hb2 : b = St ∨ b = It ∨ b = Se ∨ b = Nk := hb
        have n9 : b ∉ sAddrs S dx D nds ∧ b ∉ frs (envX cn cs L a ccd cl :: outer) := ⟨fun q => (newA b hb2).1 b (.inl q) rfl, fun q => (newA b hb2).1 b (.inr q) rfl⟩
        rcases hb with rfl | rfl | rfl | rfl
        · exact ⟨mSt.2.1, gsub mSt.2.2, e9 mSt.1, n9⟩
        · exact ⟨mIt.2.1, gsub mIt.2.2, e9 mIt.1, n9⟩
        · exact ⟨mSe.2.1, gsub mSe.2.2, e9 mSe.1, n9⟩
        · exact ⟨mNk.2.1, gsub mNk.2.2, e9 mNk.1, n9⟩
      case wturn =>
        have hDkeep : hh.get? D = some oD := hDt
        clear cyc1 keepS1 slot1 hmm N3 hold3 keep4 hSt1 hIt1 hSe1 hNk1 hkv1 slen1 hsoR NR X3 T3 st3 hNkD1
        rintro n s' ⟨hh2, tk3, stk, seen2, j, tj, rfl, mid2, hlt2, ⟨nj, hnj, hnji⟩, hn⟩
        clear F5
        have offS : ∀ b ∈ sAddrs S dx D nds, b ≠ L' ∧ g'.get? b = none := fun b hb => by
          refine ⟨Nat.ne_of_lt (ltL b hb), ?_⟩
          rw [← sLed_addrs S dx D (dictOf (sDict w t1 t2 t3 t4 D rd (.int po tp) (.int nf tf)) nd) oD] at hb
          obtain ⟨p, hp, rfl⟩ := List.mem_map.mp hb
          exact (N' p hp).2.2
        have F6 := mid2.frm
        have NN : News g' L' hh2 [] := fun _ h => nomatch h
        k_with "exec If" => (refine hold_of ?_)
        k_steps
        k_with_none
        clear NN
        refine ⟨cut_at (fun s' => Sm6 (fun hX tkX stk3 seen3 j3 tj3 => Al3 (s' = ⟨hX, s.gens, s.drawn, tkX, s.os⟩) (CycMid prog w g' L' s.heap hX nds S dx D St It Se Nk I oI (frs (envX cn cs L a ccd cl :: outer)) stk3 seen3 j3 tj3) (meas nds stk3 seen3 ≤ n))) ?h1 ?h2⟩
        case h1 =>
          refine Classical.byContradiction fun hGG => ?_
          obtain ⟨nt1, hSt1⟩ := mid2.cyc.st
          obtain ⟨nt2, hIt1⟩ := mid2.cyc.it
          obtain ⟨oSe1, hSe1, hSeS1⟩ := mid2.cyc.se
          obtain ⟨oNk1, kvs1, hNk1, hNkD1, hkv1⟩ := mid2.cyc.nk
          refine hGG ?_
          clear hGG
          have slen2 := mid2.cyc.slen
          have len2 := mid2.cyc.len
          have oSe' : Hold _ := ⟨mid2.off Se (by first | exact mc0 | exact mc1 | exact mc2 | exact mc3 | exact mc4 | simp [cAddrs])⟩
          have oSt' : Hold _ := ⟨mid2.off St (by first | exact mc0 | exact mc1 | exact mc2 | exact mc3 | exact mc4 | simp [cAddrs])⟩
          have oIt' : Hold _ := ⟨mid2.off It (by first | exact mc0 | exact mc1 | exact mc2 | exact mc3 | exact mc4 | simp [cAddrs])⟩
          have oNk' : Hold _ := ⟨mid2.off Nk (by first | exact mc0 | exact mc1 | exact mc2 | exact mc3 | exact mc4 | simp [cAddrs])⟩
          have kvlen : kvs1.length = stk.length := by have := congrArg List.length hkv1; simpa using this
          have hvn : valueAt kvs1 j = none := by
            have : kvs1.find? (fun kv => decide (kv.1 = j)) = none := by
              rw [List.find?_eq_none]
              intro x hx
              have : x.1 ∈ stk.map (·.i) := by rw [← hkv1]; exact List.mem_map_of_mem hx
              refine Classical.byContradiction fun hGG => ?_
              obtain ⟨v, hv, e⟩ := List.mem_map.mp this
              refine hGG ?_
              clear hGG
              have := hlt2 v hv
              simp; lia
            unfold valueAt
            simp only [this, Option.map_none]
          have aj := hS.atN nj hnj
          have ajx := mid2.kS _ (mem_sx hnj) _ aj.x
          have ajd := mid2.kS _ (mem_sd hnj) _ aj.d
          have ajl := mid2.kS _ (mem_sl hnj) _ aj.l
          have ajD := mid2.kS D (by first | exact mc0 | exact mc1 | exact mc2 | exact mc3 | exact mc4 | simp [sAddrs]) _ hDD
          have N6 : News g' L' hh2 ([(Se, oSe1), (Nk, oNk1), (It, listOf (stk.map (fun v => Value.ref v.U)).toArray nt2), (St, listOf (stk.map (fun v => Value.int v.i v.t)).toArray nt1), (I, oI), (D, oD), (nj.x, nj.obj), (nj.d, dictOf [] 0), (nj.l, listOf (ivals nj.sc).toArray nj.ln)] ++ lvLed stk) := by
            refine newsCons ?_ (newsCons ?_ (newsCons ?_ (newsCons ?_ (newsCons ?_ (newsCons ?_ (newsCons ?_ (newsCons ?_ (newsCons ?_ ?_))))))))
            · exact ⟨hSe1, oSe'.out.1, oSe'.out.2.1⟩
            · exact ⟨hNk1, oNk'.out.1, oNk'.out.2.1⟩
            · exact ⟨hIt1, oIt'.out.1, oIt'.out.2.1⟩
            · exact ⟨hSt1, oSt'.out.1, oSt'.out.2.1⟩
            · exact ⟨mid2.hI, hIL, fI0⟩
            · exact ⟨ajD, offS _ (by first | exact mc0 | exact mc1 | exact mc2 | exact mc3 | exact mc4 | simp [sAddrs])⟩
            · exact ⟨ajx, offS _ (mem_sx hnj)⟩
            · exact ⟨ajd, offS _ (mem_sd hnj)⟩
            · exact ⟨ajl, offS _ (mem_sl hnj)⟩
            · intro q hq
              refine Classical.byContradiction fun hGG => ?_
              obtain ⟨v, hv, e⟩ := lvLed_mem hq
              obtain ⟨_, _, b3, b4, _⟩ := mid2.cyc.lv v hv
              refine hGG ?_
              clear hGG
              rcases e with rfl | rfl
              · exact ⟨b3, (mid2.off _ (mem_cU hv)).1, (mid2.off _ (mem_cU hv)).2.1⟩
              · exact ⟨b4, (mid2.off _ (mem_cI hv)).1, (mid2.off _ (mem_cI hv)).2.1⟩
          simp only [List.cons_append, List.nil_append] at N6
          refine Classical.byContradiction fun hGG => ?_
          obtain ⟨g6, F7, N7, st6, hold6⟩ := rebase F6 N6
          refine hGG ?_
          clear hGG
          have X6 := X'.keeps st6
          have T6 := T'.keeps st6
          have keep7 : Hold (News g6 L' hh2 _) := ⟨N7⟩
          have keepF6 : Hold (Fr g' L' hh2 _) := ⟨F6⟩
          have hvs : valueAt (kvsOf nds) j = some (.ref nj.x) := by rw [← hnji]; exact valueAt_some hnj sIds
          have l1 : (stk.map (fun v => Value.int v.i v.t)).length ≤ 1000 := by simp; lia
          have l2 : (stk.map (fun v => Value.ref v.U)).length ≤ 1000 := by simp; lia
          have l3 : (ivals nj.sc).length ≤ 1000 := by rw [ivals_len]; have := hz2 nj hnj; lia
          have l4 : kvs1.length ≤ 1000 := by lia
          have l5 : (kvsOf nds).length ≤ 1000 := by simp [kvsOf]; lia
          have nw := fun c hc b hb => (newA c hc).1 b (.inl hb)
          have p1 : Apart Se Nk := ⟨neEN⟩
          have p2 : Apart St It := ⟨neSI⟩
          have p3 : Apart St Se := ⟨neSS⟩
          have p4 : Apart St Nk := ⟨neSN⟩
          have p5 : Apart It Se := ⟨neIS⟩
          have p6 : Apart It Nk := ⟨neIN⟩
          have q1 : Apart Se I := ⟨oSe'.out.2.2.1⟩
          have q2 : Apart Nk I := ⟨oNk'.out.2.2.1⟩
          have q3 : Apart It I := ⟨oIt'.out.2.2.1⟩
          have q4 : Apart St I := ⟨oSt'.out.2.2.1⟩
          have r1 : Apart Se D := ⟨nw Se (by first | exact mc0 | exact mc1 | exact mc2 | exact mc3 | exact mc4 | exact mc5 | exact mc6 | exact mc7 | simp) _ (by first | exact mc0 | exact mc1 | exact mc2 | exact mc3 | exact mc4 | simp [sAddrs])⟩
          have r2 : Apart Nk D := ⟨nw Nk (by first | exact mc0 | exact mc1 | exact mc2 | exact mc3 | exact mc4 | exact mc5 | exact mc6 | exact mc7 | simp) _ (by first | exact mc0 | exact mc1 | exact mc2 | exact mc3 | exact mc4 | simp [sAddrs])⟩
          have r3 : Apart It D := ⟨nw It (by first | exact mc0 | exact mc1 | exact mc2 | exact mc3 | exact mc4 | exact mc5 | exact mc6 | exact mc7 | simp) _ (by first | exact mc0 | exact mc1 | exact mc2 | exact mc3 | exact mc4 | simp [sAddrs])⟩
          have r4 : Apart St D := ⟨nw St (by first | exact mc0 | exact mc1 | exact mc2 | exact mc3 | exact mc4 | exact mc5 | exact mc6 | exact mc7 | simp) _ (by first | exact mc0 | exact mc1 | exact mc2 | exact mc3 | exact mc4 | simp [sAddrs])⟩
          have u1 : Apart Se nj.x := ⟨nw Se (by first | exact mc0 | exact mc1 | exact mc2 | exact mc3 | exact mc4 | exact mc5 | exact mc6 | exact mc7 | simp) _ (mem_sx hnj)⟩
          have u2 : Apart Nk nj.x := ⟨nw Nk (by first | exact mc0 | exact mc1 | exact mc2 | exact mc3 | exact mc4 | exact mc5 | exact mc6 | exact mc7 | simp) _ (mem_sx hnj)⟩
          have u3 : Apart It nj.x := ⟨nw It (by first | exact mc0 | exact mc1 | exact mc2 | exact mc3 | exact mc4 | exact mc5 | exact mc6 | exact mc7 | simp) _ (mem_sx hnj)⟩
          have u4 : Apart St nj.x := ⟨nw St (by first | exact mc0 | exact mc1 | exact mc2 | exact mc3 | exact mc4 | exact mc5 | exact mc6 | exact mc7 | simp) _ (mem_sx hnj)⟩
          have v1 : Apart Se nj.d := ⟨nw Se (by first | exact mc0 | exact mc1 | exact mc2 | exact mc3 | exact mc4 | exact mc5 | exact mc6 | exact mc7 | simp) _ (mem_sd hnj)⟩
          have v2 : Apart Nk nj.d := ⟨nw Nk (by first | exact mc0 | exact mc1 | exact mc2 | exact mc3 | exact mc4 | exact mc5 | exact mc6 | exact mc7 | simp) _ (mem_sd hnj)⟩
          have v3 : Apart It nj.d := ⟨nw It (by first | exact mc0 | exact mc1 | exact mc2 | exact mc3 | exact mc4 | exact mc5 | exact mc6 | exact mc7 | simp) _ (mem_sd hnj)⟩
          have v4 : Apart St nj.d := ⟨nw St (by first | exact mc0 | exact mc1 | exact mc2 | exact mc3 | exact mc4 | exact mc5 | exact mc6 | exact mc7 | simp) _ (mem_sd hnj)⟩
          have w1 : Apart Se nj.l := ⟨nw Se (by first | exact mc0 | exact mc1 | exact mc2 | exact mc3 | exact mc4 | exact mc5 | exact mc6 | exact mc7 | simp) _ (mem_sl hnj)⟩
          have w2 : Apart Nk nj.l := ⟨nw Nk (by first | exact mc0 | exact mc1 | exact mc2 | exact mc3 | exact mc4 | exact mc5 | exact mc6 | exact mc7 | simp) _ (mem_sl hnj)⟩
          have w3 : Apart It nj.l := ⟨nw It (by first | exact mc0 | exact mc1 | exact mc2 | exact mc3 | exact mc4 | exact mc5 | exact mc6 | exact mc7 | simp) _ (mem_sl hnj)⟩
          have w4 : Apart St nj.l := ⟨nw St (by first | exact mc0 | exact mc1 | exact mc2 | exact mc3 | exact mc4 | exact mc5 | exact mc6 | exact mc7 | simp) _ (mem_sl hnj)⟩
          have kinds : ∀ {b : Addr} {o : Obj}, hh2.get? b = some o → (∀ fs, o.data ≠ .fields fs) → TailNe b (lvLed stk) := fun {b o} e hd => ⟨fun p hp q => by
            refine Classical.byContradiction fun hGG => ?_
            obtain ⟨v, hv, e2⟩ := lvLed_mem hp
            obtain ⟨_, _, b3, b4, _⟩ := mid2.cyc.lv v hv
            refine hGG ?_
            clear hGG
            rcases e2 with rfl | rfl
            · rw [show v.U = b from q, e] at b3
              exact hd _ (congrArg Obj.data (Option.some.inj b3))
            · rw [show v.I = b from q, e] at b4
              exact hd _ (congrArg Obj.data (Option.some.inj b4))⟩
          have tn1 : TailNe St (lvLed stk) := kinds hSt1 (fun fs q => by cases q)
          have tn2 : TailNe It (lvLed stk) := kinds hIt1 (fun fs q => by cases q)
          have tn3 : TailNe Se (lvLed stk) := kinds hSe1 (fun fs q => by
            refine Classical.byContradiction fun hGG => ?_
            obtain ⟨_, _, _, _, z, _⟩ := hSeS1
            refine hGG ?_
            clear hGG
            rw [z] at q; cases q)
          have tn4 : TailNe Nk (lvLed stk) := kinds hNk1 (fun fs q => by
            refine Classical.byContradiction fun hGG => ?_
            obtain ⟨_, _, _, z, _⟩ := hNkD1
            refine hGG ?_
            clear hGG
            rw [z] at q; cases q)
          clear F6 neSI neSS neSN neIS neIN neEN
          k_steps
          all_goals ((rename Fr g6 L' _ _ => lF); (rename News g6 L' _ _ => lN))
          · exact ⟨rfl, hh2, _, stk, seen2, j, tj, rfl, mid2, Nat.le_of_eq hn⟩
          · rename_i hnin _ _ oSe3 hSe3 _ I3 _ lI3 U3 _ lU3 _ _ tl3 _ _ oNk3 hNk3 _ hB
            have kk := turn_keep keep7.out lF lN hold6 [Se, Nk, It, St] (SameL.out (by repeat (first | exact SameL.nil _ | (with_reducible exact SameL.same _) | (with_reducible refine SameL.keep ?_) | (refine SameL.upd ?_ (by first | exact List.mem_cons_self | exact List.mem_cons_of_mem _ List.mem_cons_self | exact List.mem_cons_of_mem _ (List.mem_cons_of_mem _ List.mem_cons_self) | exact List.mem_cons_of_mem _ (List.mem_cons_of_mem _ (List.mem_cons_of_mem _ List.mem_cons_self)))) | refine SameL.new ?_)))
            have nf : ∀ b, (b ∈ sAddrs S dx D nds ∨ b ∈ frs (envX cn cs L a ccd cl :: outer) ∨ b = I ∨ ∃ u ∈ stk, b = u.U ∨ b = u.I) → b ∉ [Se, Nk, It, St] := by
              intro b hb q
              have hq : b = Se ∨ b = Nk ∨ b = It ∨ b = St := by simpa using q
              have gen : ∀ c, (c = St ∨ c = It ∨ c = Se ∨ c = Nk) → TailNe c (lvLed stk) → c ≠ I → b = c → False := fun c hc hT hcI hbc => by
                rw [hbc] at hb
                rcases hb with hb | hb | hb | ⟨u, hu, hb | hb⟩
                · exact (newA c hc).1 c (.inl hb) rfl
                · exact (newA c hc).1 c (.inr hb) rfl
                · exact hcI hb
                · exact hT.ne _ (mem_lU hu) hb.symm
                · exact hT.ne _ (mem_lI hu) hb.symm
              rcases hq with hq | hq | hq | hq
              · exact gen Se (by first | exact mc0 | exact mc1 | exact mc2 | exact mc3 | exact mc4 | exact mc5 | exact mc6 | exact mc7 | simp) tn3 oSe'.out.2.2.1 hq
              · exact gen Nk (by first | exact mc0 | exact mc1 | exact mc2 | exact mc3 | exact mc4 | exact mc5 | exact mc6 | exact mc7 | simp) tn4 oNk'.out.2.2.1 hq
              · exact gen It (by first | exact mc0 | exact mc1 | exact mc2 | exact mc3 | exact mc4 | exact mc5 | exact mc6 | exact mc7 | simp) tn2 oIt'.out.2.2.1 hq
              · exact gen St (by first | exact mc0 | exact mc1 | exact mc2 | exact mc3 | exact mc4 | exact mc5 | exact mc6 | exact mc7 | simp) tn1 oSt'.out.2.2.1 hq
            have z1 := lN _ (.head _)
            have z2 := lN _ (.tail _ (.head _))
            have z3 := lN _ (.tail _ (.tail _ (.head _)))
            have z4 := lN _ (.tail _ (.tail _ (.tail _ (.head _))))
            have z5 := lN _ (.tail _ (.tail _ (.tail _ (.tail _ (.head _)))))
            have z6 := lN _ (.tail _ (.tail _ (.tail _ (.tail _ (.tail _ (.head _))))))
            dsimp only at z1 z2 z3 z4 z5 z6
            have gs6 : ∀ {b : Addr}, g6.get? b = none → g'.get? b = none := fun {b} e => by
              cases q : g'.get? b with
              | none => rfl
              | some o => rw [st6 _ _ q] at e; cases e
            have newO : ∀ c : Addr, g6.get? c = none → c ≠ L' → (∀ q ∈ (Se, oSe1) :: (Nk, oNk1) :: (It, listOf (stk.map (fun v => Value.ref v.U)).toArray nt2) :: (St, listOf (stk.map (fun v => Value.int v.i v.t)).toArray nt1) :: (I, oI) :: (D, oD) :: (nj.x, nj.obj) :: (nj.d, dictOf [] 0) :: (nj.l, listOf (ivals nj.sc).toArray nj.ln) :: lvLed stk, q.1 < c) →
                c ≠ L' ∧ g'.get? c = none ∧ c ≠ I ∧ c ∉ sAddrs S dx D nds ∧ c ∉ frs (envX cn cs L a ccd cl :: outer) := fun c hc hcL hlt => by
              have nl : ∀ q ∈ (Se, oSe1) :: (Nk, oNk1) :: (It, listOf (stk.map (fun v => Value.ref v.U)).toArray nt2) :: (St, listOf (stk.map (fun v => Value.int v.i v.t)).toArray nt1) :: (I, oI) :: (D, oD) :: (nj.x, nj.obj) :: (nj.d, dictOf [] 0) :: (nj.l, listOf (ivals nj.sc).toArray nj.ln) :: lvLed stk, q.1 ≠ c := fun q hq => Nat.ne_of_lt (hlt q hq)
              refine ⟨hcL, gs6 hc, Ne.symm (nl (I, oI) (by first | exact mc0 | exact mc1 | exact mc2 | exact mc3 | exact mc4 | exact mc5 | exact mc6 | exact mc7 | simp)), fun q => ?_, fun q => ?_⟩
              · obtain ⟨o, ho⟩ := hS.live c q
                rw [hold6 c o (ltL c q) nl (mid2.kS c q o ho)] at hc
                cases hc
              · refine Classical.byContradiction fun hGG => ?_
                obtain ⟨o, ho, hd⟩ := frS c q
                obtain ⟨sl, z⟩ := mid2.sl c o q ho hd
                refine hGG ?_
                clear hGG
                rw [hold6 c _ (hLt' c q) nl z] at hc
                cases hc
            have ltOf : ∀ c : Addr, Se < c → Nk < c → It < c → St < c → I < c → D < c → nj.x < c → nj.d < c → nj.l < c → AllLt c (lvLed stk) → ∀ q ∈ (Se, oSe1) :: (Nk, oNk1) :: (It, listOf (stk.map (fun v => Value.ref v.U)).toArray nt2) :: (St, listOf (stk.map (fun v => Value.int v.i v.t)).toArray nt1) :: (I, oI) :: (D, oD) :: (nj.x, nj.obj) :: (nj.d, dictOf [] 0) :: (nj.l, listOf (ivals nj.sc).toArray nj.ln) :: lvLed stk, q.1 < c := by
              intro c a1 a2 a3 a4 a5 a6 a7 a8 a9 a10 q hq
              simp only [memC] at hq
              rcases hq with rfl | rfl | rfl | rfl | rfl | rfl | rfl | rfl | rfl | hq
              · exact a1
              · exact a2
              · exact a3
              · exact a4
              · exact a5
              · exact a6
              · exact a7
              · exact a8
              · exact a9
              · exact ktn_ltOf a10 q hq
            refine Classical.byContradiction fun hGG => ?_
            obtain ⟨i1, i2, i3, i4, i5, i6, i7, i8, i9, i10⟩ := lI3
            obtain ⟨_, y1, y2, y3, y4, y5, y6, y7, y8, y9, y10⟩ := lU3
            refine hGG ?_
            clear hGG
            have hm := meas_push (nds := nds) (stk := stk) (seen := seen2) (nj := nj) (v := ⟨j, tj, U3, I3, nj, 0⟩) hnj (by rw [hnji]; exact hnin) rfl
            rw [hnji] at hm
            refine ⟨rfl, hB, _, stk ++ [⟨j, tj, U3, I3, nj, 0⟩], seen2 ++ [j], j, tj, rfl, mid2.push (fr_sub lF st6 keepF6.out) (fun b o hb e => kk b o ?_ (nf b hb) e) ⟨_, z6.1⟩ ⟨_, z5.1⟩ ⟨_, z3.1, hSe3⟩ ⟨_, _, z4.1, hNk3, by rw [stored_last hvn, hkv1]⟩ z1.1 z2.1 hnj hnji hlt2 hnin
              (newO U3 z1.2.2 z1.2.1 (ltOf U3 y1 y2 y3 y4 y5 y6 y7 y8 y9 y10)) (newO I3 z2.2.2 z2.2.1 (ltOf I3 i1 i2 i3 i4 i5 i6 i7 i8 i9 i10)) (fun v hv => Nat.ne_of_lt (ktn_ltOf i10 _ (mem_lI hv))), by lia⟩
            rcases hb with hb | hb | hb | ⟨u, hu, hb | hb⟩
            · exact .inl (ltL b hb)
            · exact .inl (hLt' b hb)
            · exact .inr ⟨(I, oI), (by first | exact mc0 | exact mc1 | exact mc2 | exact mc3 | exact mc4 | exact mc5 | exact mc6 | exact mc7 | exact mc8 | exact mc9 | exact mc10 | exact mc11 | simp), hb.symm⟩
            · exact .inr ⟨(u.U, nextObj u.I), by simp [mem_lU hu], hb.symm⟩
            · exact .inr ⟨(u.I, iterObj u.nd.l u.pos), by simp [mem_lI hu], hb.symm⟩
        case h2 =>
          clear F6 mid2 hlt2 hnj hnji hn nj j tj stk seen2 hh2 tk3
          have hIL2 : Hold (I ≠ L') := ⟨hIL⟩
          have p1 : Apart Se Nk := ⟨neEN⟩
          have p2 : Apart St It := ⟨neSI⟩
          have p3 : Apart St Se := ⟨neSS⟩
          have p4 : Apart St Nk := ⟨neSN⟩
          have p5 : Apart It Se := ⟨neIS⟩
          have p6 : Apart It Nk := ⟨neIN⟩
          clear neSI neSS neSN neIS neIN neEN hIL hID hne1 hne2 hne3
          rintro s' ⟨hX, tkX, stk3, seen3, j3, tj3, rfl, midX, hnX⟩
          refine hideQ fun QC hQC => ?_
          have FX := midX.frm
          have NN : News g' L' hX [] := fun _ h => nomatch h
          k_steps
          clear NN
          refine ⟨whileS (fun m s' => Sm6 (fun hY tkY stk seen2 j tj => Al4 (s' = ⟨hY, s.gens, s.drawn, tkY, s.os⟩) (CycMid prog w g' L' s.heap hY nds S dx D St It Se Nk I oI (frs (envX cn cs L a ccd cl :: outer)) stk seen2 j tj) (meas nds stk seen2 ≤ n) (stk.length = m))) stk3.length ⟨hX, _, stk3, seen3, j3, tj3, rfl, midX, hnX, rfl⟩ ⟨?iturn⟩ (by passes_own)⟩
          clear FX midX hnX
          rintro m s' ⟨hY, tkY, stk, seen2, j, tj, rfl, midY, hnY, hm⟩
          refine Classical.byContradiction fun hGG => ?_
          obtain ⟨nt1, hSt1⟩ := midY.cyc.st
          obtain ⟨nt2, hIt1⟩ := midY.cyc.it
          obtain ⟨oSe1, hSe1, hSeS1⟩ := midY.cyc.se
          obtain ⟨oNk1, kvs1, hNk1, hNkD1, hkv1⟩ := midY.cyc.nk
          refine hGG ?_
          clear hGG
          have slen2 := midY.cyc.slen
          have len2 := midY.cyc.len
          have oSe' : Hold _ := ⟨midY.off Se (by first | exact mc0 | exact mc1 | exact mc2 | exact mc3 | exact mc4 | simp [cAddrs])⟩
          have oSt' : Hold _ := ⟨midY.off St (by first | exact mc0 | exact mc1 | exact mc2 | exact mc3 | exact mc4 | simp [cAddrs])⟩
          have oIt' : Hold _ := ⟨midY.off It (by first | exact mc0 | exact mc1 | exact mc2 | exact mc3 | exact mc4 | simp [cAddrs])⟩
          have oNk' : Hold _ := ⟨midY.off Nk (by first | exact mc0 | exact mc1 | exact mc2 | exact mc3 | exact mc4 | simp [cAddrs])⟩
          have kvlen : kvs1.length = stk.length := by have := congrArg List.length hkv1; simpa using this
          have FY := midY.frm
          have l1 : (stk.map (fun v => Value.int v.i v.t)).length ≤ 1000 := by simp; lia
          have l2 : (stk.map (fun v => Value.ref v.U)).length ≤ 1000 := by simp; lia
          rcases List.eq_nil_or_concat stk with hnil | ⟨p, v, hpv⟩
          · subst hnil
            have NY : News g' L' hY [(St, listOf ([] : List Value).toArray nt1)] := by
              intro q hq
              rw [List.mem_singleton] at hq
              subst hq
              exact ⟨hSt1, oSt'.out.1, oSt'.out.2.1⟩
            have X6 := X'
            have T6 := T'
            k_steps
            refine hQC _ _ ?_
            refine wpAny_execs_nil ?_
            refine hQB _ _ ?_
            refine ⟨hY, _, _, rfl, midY.fr, fun b hb o e => ?_, ⟨seen2, midY.cyc⟩, midY.kS, midY.sl, fun z hz => ?_⟩
            · have hb2 : b = I ∨ b = D := by simpa using hb
              rcases hb2 with hb2 | hb2
              · rw [hb2, hI] at e; rw [hb2, midY.hI]; exact e
              · rw [hb2, hDkeep] at e; rw [hb2, midY.kS D (by first | exact mc0 | exact mc1 | exact mc2 | exact mc3 | exact mc4 | simp [sAddrs]) _ hDD]; exact e
            · simp only [cMap, if_neg hz]
          · rw [List.concat_eq_append] at hpv
            subst hpv
            have hv : v ∈ p ++ [v] := by simp
            refine Classical.byContradiction fun hGG => ?_
            obtain ⟨b1, b2, b3, b4, b5⟩ := midY.cyc.lv v hv
            refine hGG ?_
            clear hGG
            have oU : Hold _ := ⟨midY.off _ (mem_cU hv)⟩
            have oI' : Hold _ := ⟨midY.off _ (mem_cI hv)⟩
            have ajl := midY.kS _ (mem_sl b1) _ (hS.atN _ b1).l
            simp only [List.map_append, List.map_cons, List.map_nil] at hSt1 hIt1 l1 l2
            have l3 : (p.map (fun v => Value.ref v.U)).length ≤ 999 := by simp at l2 ⊢; lia
            have l3' : (p.map (fun v => Value.ref v.U)).length ≤ 1000 := by lia
            have l4 : (p.map (fun v => Value.int v.i v.t)).length ≤ 999 := by simp at l2 ⊢; lia
            have l4' : (p.map (fun v => Value.int v.i v.t)).length ≤ 1000 := by lia
            have NY : News g' L' hY [(It, listOf (p.map (fun v => Value.ref v.U) ++ [Value.ref v.U]).toArray nt2), (St, listOf (p.map (fun v => Value.int v.i v.t) ++ [Value.int v.i v.t]).toArray nt1)] := by
              refine newsCons ?_ (newsCons ?_ newsNil)
              · exact ⟨hIt1, oIt'.out.1, oIt'.out.2.1⟩
              · exact ⟨hSt1, oSt'.out.1, oSt'.out.2.1⟩
            have X6 := X'
            have T6 := T'
            k_with "callWith" => (refine hold_of ?_)
            k_steps
            k_with_none
            clear NY FY
            rcases Nat.lt_or_ge v.pos v.nd.sc.length with hpos | hpos
            · obtain ⟨x, hx⟩ : ∃ x, v.nd.sc[v.pos]? = some x := ⟨_, List.getElem?_eq_getElem hpos⟩
              have hxa : (ivals v.nd.sc).toArray[v.pos]? = some (.int x.1 x.2) := by simp [ivals, hx]
              refine ⟨callWith_next b3 (call_next_item b3 b4 ⟨_, ajl, rfl, _, rfl⟩ hxa fun h3 hsame3 hI3 => ?_)⟩
              have mid3 := midY.item hsame3 hI3 hpos
              have NY := mid3.news hIL2.out fI0 (mid3.cyc.st.choose_spec) (mid3.cyc.it.choose_spec) (mid3.cyc.se.choose_spec.1) (mid3.cyc.nk.choose_spec.choose_spec.1)
              refine Classical.byContradiction fun hGG => ?_
              obtain ⟨g6, F7, N7, st6, hold6⟩ := rebase mid3.frm NY
              refine hGG ?_
              clear hGG
              have X6 := X'.keeps st6
              have T6 := T'.keeps st6
              have keep7 : Hold (News g6 L' h3 _) := ⟨N7⟩
              clear NY hsame3 hI3
              k_steps
              (rename Fr g6 L' _ _ => lF); (rename News g6 L' _ _ => lN)
              rename_i t9
              have kk := turn_keep keep7.out lF lN hold6 [] (fun q hq _ => hq)
              refine wpAny_execs_nil ?_
              have hxm : x ∈ v.nd.sc := List.mem_of_getElem? hx
              refine Classical.byContradiction fun hGG => ?_
              obtain ⟨hxlt, nx, hnx, hnxi⟩ := hsc v.nd b1 x hxm
              refine hGG ?_
              clear hGG
              refine hQC _ _ ?_
              refine ⟨meas nds (p ++ [{ v with pos := v.pos + 1 }]) seen2, ?_, _, _, p ++ [{ v with pos := v.pos + 1 }], seen2, x.1, t9, rfl, mid3.store (fr_eq (fr_sub lF st6 mid3.fr) (fun z => by simp only [cMap]; split <;> simp_all)) (fun b o hb e => kk b o ?_ (by first | exact mc0 | exact mc1 | exact mc2 | exact mc3 | exact mc4 | exact mc5 | exact mc6 | exact mc7 | simp) e), ?_, ⟨nx, hnx, hnxi⟩, rfl⟩
              · have := meas_step (nds := nds) (p := p) (v := v) (v' := { v with pos := v.pos + 1 }) (seen := seen2) (by simp only [Lv.left]; lia)
                lia
              · rcases hb with hb | hb | hb
                · exact .inl (ltL b hb)
                · exact .inl (hLt' b hb)
                · exact .inr (cLed_mem hb)
              · intro u hu
                rcases List.mem_append.mp hu with hu | hu
                · have inc := midY.cyc.inc
                  rw [List.map_append, List.pairwise_append] at inc
                  have := inc.2.2 u.i (List.mem_map_of_mem hu) v.i (by first | exact mc0 | exact mc1 | exact mc2 | exact mc3 | exact mc4 | exact mc5 | exact mc6 | exact mc7 | simp)
                  rw [b2] at hxlt
                  exact Int.lt_trans this hxlt
                · rw [List.mem_singleton] at hu
                  subst hu
                  rw [b2] at hxlt
                  exact hxlt
            · have hxa : (ivals v.nd.sc).toArray[v.pos]? = none := by simp [ivals]; lia
              refine ⟨callWith_next b3 (call_next_end rfl b3 b4 ⟨_, ajl, rfl, _, rfl⟩ hxa fun h1 h3 e hsame3 hI3 hnew3 => ?_)⟩
              have F3 : Fr g' L' h1 _ := (midY.frm).change hsame3 oI'.out.1 oI'.out.2.1
              have kk1 : ∀ b o, b ≠ v.I → hY.get? b = some o → h1.get? b = some o := fun b o hb e => (hsame3.2 b hb).trans e
              have FF3 : h1.FunFrames g' (envX cn cs L a ccd cl :: outer) := funFrames_at FF' fun b hb => by
                refine Classical.byContradiction fun hGG => ?_
                obtain ⟨o, ho, hd⟩ := frS b hb
                obtain ⟨sl, z⟩ := midY.sl b o hb ho hd
                refine hGG ?_
                clear hGG
                exact ⟨_, kk1 b _ (fun q => oI'.out.2.2.2.2 (q ▸ hb)) z, hd⟩
              refine catchF (T' := "StopIteration") hA1 F3 FF3 hnew3 X' (by k_asm) (by k_is) PyProof.Rows.Boot.«StopIteration» (by decide +kernel) exc_StopIteration nt_StopIteration sub_StopIteration (fun h4 F4 K4 => ?_) rfl rfl (by decide) (by passes_own)
              have hIf : I ∉ frs (envX cn cs L a ccd cl :: outer) := fun q => by
                refine Classical.byContradiction fun hGG => ?_
                obtain ⟨o, ho, _⟩ := frS I q
                refine hGG ?_
                clear hGG
                exact ne_of_fresh fI (keptF I q o ho) rfl
              obtain ⟨ck, csl⟩ := midY.caught hsame3 K4 hIf hIL2.out (fun b hb => ⟨(offS b hb).1, fun q => frL b q hb⟩)
              have of := fun b hb => (⟨(midY.off b (cAddrs_sub hb)).1, (midY.off b (cAddrs_sub hb)).2.1⟩ : b ≠ L' ∧ g'.get? b = none)
              have N4 : News g' L' h4 ((Nk, oNk1) :: (It, listOf (p.map (fun v => Value.ref v.U) ++ [Value.ref v.U]).toArray nt2) :: (St, listOf (p.map (fun v => Value.int v.i v.t) ++ [Value.int v.i v.t]).toArray nt1) :: (Se, oSe1) :: (I, oI) :: lvLed p) := by
                refine newsCons ?_ (newsCons ?_ (newsCons ?_ (newsCons ?_ (newsCons ?_ ?_))))
                · exact ⟨ck _ _ (by first | exact mc0 | exact mc1 | exact mc2 | exact mc3 | exact mc4 | simp [cAddrs]) hNk1, of _ (by first | exact mc0 | exact mc1 | exact mc2 | exact mc3 | exact mc4 | simp [cAddrs])⟩
                · exact ⟨ck _ _ (by first | exact mc0 | exact mc1 | exact mc2 | exact mc3 | exact mc4 | simp [cAddrs]) hIt1, of _ (by first | exact mc0 | exact mc1 | exact mc2 | exact mc3 | exact mc4 | simp [cAddrs])⟩
                · exact ⟨ck _ _ (by first | exact mc0 | exact mc1 | exact mc2 | exact mc3 | exact mc4 | simp [cAddrs]) hSt1, of _ (by first | exact mc0 | exact mc1 | exact mc2 | exact mc3 | exact mc4 | simp [cAddrs])⟩
                · exact ⟨ck _ _ (by first | exact mc0 | exact mc1 | exact mc2 | exact mc3 | exact mc4 | simp [cAddrs]) hSe1, of _ (by first | exact mc0 | exact mc1 | exact mc2 | exact mc3 | exact mc4 | simp [cAddrs])⟩
                · exact ⟨ck _ _ (by first | exact mc0 | exact mc1 | exact mc2 | exact mc3 | exact mc4 | exact mc5 | exact mc6 | exact mc7 | simp) midY.hI, hIL2.out, fI0⟩
                · intro q hq
                  refine Classical.byContradiction fun hGG => ?_
                  obtain ⟨u, hu, e9⟩ := lvLed_mem hq
                  obtain ⟨_, _, c3, c4, _⟩ := midY.cyc.lv u (List.mem_append_left _ hu)
                  refine hGG ?_
                  clear hGG
                  rcases e9 with rfl | rfl
                  · exact ⟨ck _ _ (.inr (.inr (mem_cU hu))) c3, of _ (mem_cU hu)⟩
                  · exact ⟨ck _ _ (.inr (.inr (mem_cI hu))) c4, of _ (mem_cI hu)⟩
              have tn1 : TailNe St (lvLed p) := (midY.cyc.kinds hSt1 (fun fs q => by cases q)).sub
              have tn2 : TailNe It (lvLed p) := (midY.cyc.kinds hIt1 (fun fs q => by cases q)).sub
              have tn4 : TailNe Nk (lvLed p) := (midY.cyc.kinds hNk1 (fun fs q => by
                refine Classical.byContradiction fun hGG => ?_
                obtain ⟨_, _, _, z, _⟩ := hNkD1
                refine hGG ?_
                clear hGG
                rw [z] at q; cases q)).sub
              have q2 : Apart Nk I := ⟨oNk'.out.2.2.1⟩
              have q3 : Apart It I := ⟨oIt'.out.2.2.1⟩
              have q4 : Apart St I := ⟨oSt'.out.2.2.1⟩
              have hwo := without_last (kvs := kvs1) (p := p.map (·.i)) (k := v.i) (by rw [hkv1]; simp) (fun q => by
                have inc := midY.cyc.inc
                rw [List.map_append, List.pairwise_append] at inc
                have := inc.2.2 v.i q v.i (by first | exact mc0 | exact mc1 | exact mc2 | exact mc3 | exact mc4 | exact mc5 | exact mc6 | exact mc7 | simp)
                lia)
              have hwo2 := hwo.2
              have l9 : kvs1.length ≤ 1000 := by lia
              refine Classical.byContradiction fun hGG => ?_
              obtain ⟨g6, F7, N7, st6, hold6⟩ := rebase F4 N4
              refine hGG ?_
              clear hGG
              have X6 := X'.keeps st6
              have T6 := T'.keeps st6
              have keep7 : Hold (News g6 L' h4 _) := ⟨N7⟩
              have keepF4 : Hold (Fr g' L' h4 _) := ⟨F4⟩
              clear N4 hsame3 hI3 F4 F3 hpos
              k_steps
              (rename Fr g6 L' _ _ => lF); (rename News g6 L' _ _ => lN); (rename Obj.IsDictOf _ _ (without kvs1 v.i) => hdD)
              have kk := turn_keep keep7.out lF lN hold6 [Nk, It, St] (SameL.out (by repeat (first | exact SameL.nil _ | (with_reducible exact SameL.same _) | (with_reducible refine SameL.keep ?_) | (refine SameL.upd ?_ (by first | exact List.mem_cons_self | exact List.mem_cons_of_mem _ List.mem_cons_self | exact List.mem_cons_of_mem _ (List.mem_cons_of_mem _ List.mem_cons_self) | exact List.mem_cons_of_mem _ (List.mem_cons_of_mem _ (List.mem_cons_of_mem _ List.mem_cons_self)))) | refine SameL.new ?_)))
              have nf : ∀ b, (b ∈ sAddrs S dx D nds ∨ b = I ∨ b = Se ∨ (∃ u ∈ p, b = u.U ∨ b = u.I) ∨ b ∈ frs (envX cn cs L a ccd cl :: outer)) → b ∉ [Nk, It, St] := by
                intro b hb q
                have hq : b = Nk ∨ b = It ∨ b = St := by simpa using q
                rcases hq with hq | hq | hq
                · rw [hq] at hb
                  rcases hb with hb | hb | hb | ⟨u, hu, hb | hb⟩ | hb
                  · exact oNk'.out.2.2.2.1 hb
                  · exact oNk'.out.2.2.1 hb
                  · exact p1.ne hb.symm
                  · exact tn4.ne _ (mem_lU hu) hb.symm
                  · exact tn4.ne _ (mem_lI hu) hb.symm
                  · exact oNk'.out.2.2.2.2 hb
                · rw [hq] at hb
                  rcases hb with hb | hb | hb | ⟨u, hu, hb | hb⟩ | hb
                  · exact oIt'.out.2.2.2.1 hb
                  · exact oIt'.out.2.2.1 hb
                  · exact p5.ne hb
                  · exact tn2.ne _ (mem_lU hu) hb.symm
                  · exact tn2.ne _ (mem_lI hu) hb.symm
                  · exact oIt'.out.2.2.2.2 hb
                · rw [hq] at hb
                  rcases hb with hb | hb | hb | ⟨u, hu, hb | hb⟩ | hb
                  · exact oSt'.out.2.2.2.1 hb
                  · exact oSt'.out.2.2.1 hb
                  · exact p3.ne hb
                  · exact tn1.ne _ (mem_lU hu) hb.symm
                  · exact tn1.ne _ (mem_lI hu) hb.symm
                  · exact oSt'.out.2.2.2.2 hb
              refine ⟨p.length, (by simp at hm; lia), _, _, p, seen2, j, tj, rfl, midY.pop (fr_sub lF st6 keepF4.out) (csl.trans (SlotF.of_keep fun b o hb e => kk b o (.inl (hLt' b hb)) (nf b (.inr (.inr (.inr (.inr hb))))) e)) (fun b o hb e => ?_)
                ⟨_, (lN _ (.tail _ (.tail _ (.head _)))).1⟩ ⟨_, (lN _ (.tail _ (.head _))).1⟩ ⟨_, _, (lN _ (.head _)).1, hdD, hwo.1⟩, Nat.le_trans meas_pop hnY, rfl⟩
              have hb5 : b ∉ [Nk, It, St] := nf b (by
                rcases hb with hb | hb | hb | hb
                · exact .inl hb
                · exact .inr (.inl hb)
                · exact .inr (.inr (.inl hb))
                · exact .inr (.inr (.inr (.inl hb))))
              rcases hb with hb | hb | hb | ⟨u, hu, hb⟩
              · exact kk b o (.inl (ltL b hb)) hb5 (ck b o (.inl hb) e)
              · exact kk b o (.inr ⟨(I, oI), (by first | exact mc0 | exact mc1 | exact mc2 | exact mc3 | exact mc4 | exact mc5 | exact mc6 | exact mc7 | exact mc8 | exact mc9 | exact mc10 | exact mc11 | simp), hb.symm⟩) hb5 (ck b o (.inr (.inl hb)) e)
              · exact kk b o (.inr ⟨(Se, oSe1), (by first | exact mc0 | exact mc1 | exact mc2 | exact mc3 | exact mc4 | exact mc5 | exact mc6 | exact mc7 | exact mc8 | exact mc9 | exact mc10 | exact mc11 | simp), hb.symm⟩) hb5 (ck b o (.inr (.inr (by simp [cAddrs, hb]))) e)
              · rcases hb with hb | hb
                · exact kk b o (.inr ⟨(u.U, nextObj u.I), by simp [mem_lU hu], hb.symm⟩) hb5 (ck b o (.inr (.inr (hb ▸ mem_cU hu))) e)
                · exact kk b o (.inr ⟨(u.I, iterObj u.nd.l u.pos), by simp [mem_lI hu], hb.symm⟩) hb5 (ck b o (.inr (.inr (hb ▸ mem_cI hu))) e)
end
theorem mode10 : True := by
  w_top off
  k_with_none
  trivial
theorem ModF.fr {foot frl : List Addr} {g h h' : Heap} {L : Addr} {m : Str → Option Value} (x : ModF foot frl h h') (F : Fr g L h m) (hL : L ∈ frl) (hLf : L ∉ foot) (hg : ∀ b o, g.get? b = some o → b ∉ foot ∧ b ∉ frl) : Fr g L h' m := by
  refine Classical.byContradiction fun hGG => ?_
  obtain ⟨oL, es, ep, hLo, hLd, r⟩ := F.ns
  obtain ⟨sl, z⟩ := x.slot L oL hL hLo (fun vs q => by rw [hLd] at q; cases q)
  refine hGG ?_
  clear hGG
  exact ⟨⟨_, es, ep, z, hLd, r⟩, fun b o e => x.keep b o (hg b o e).1 (hg b o e).2 (F.keep b o e), F.above⟩
theorem testsOf_nil {prog : Program} {w : World} {A : Around} {cenv : Env} {Q : Bool → Shared → Prop} {E : Value → Shared → Prop} {s : Shared} (h : Q true s) : wpAny (model prog w) A (testsOf [] cenv) Q E s := by
  unfold testsOf
  exact wpAny_pure h
theorem testsOf_one {prog : Program} {w : World} {A : Around} {c : Expr} {cenv : Env} {Q : Bool → Shared → Prop} {E : Value → Shared → Prop} {s : Shared} (h : wpAny (model prog w) A (isTrue c cenv (eval c cenv)) Q E s) : wpAny (model prog w) A (testsOf [c] cenv) Q E s := by
  unfold testsOf
  simp only [List.forIn_cons, List.forIn_nil, if_true]
  refine wpAny_bind (wpAny_bind (wpAny_mono h (fun b s' hb => wpAny_pure (wpAny_pure hb)) fun _ _ e => e))
theorem unholdC {prog : Program} {w : World} {A : Around} {elt : Expr} {cenv : Env} {E' : Value → Shared → Prop} {s s₃ : Shared} {h : Heap} {ok : Bool} {P : Value → Heap → Prop} {P0 : Heap → Prop} (x : Hold (Sm2 (fun h₃ tk₃ => Al3 (s₃ = ⟨h₃, s.gens, s.drawn, tk₃, s.os⟩) (Kept h h₃) (if ok = true then wpAny (model prog w) A (eval elt cenv) (fun y s₄ => Hold (Sm2 (fun h₄ tk₄ => Al3 (s₄ = ⟨h₄, s.gens, s.drawn, tk₄, s.os⟩) (Kept h h₄) (P y h₄)))) E' s₃ else P0 h₃)))) :
    Sm2 (fun h₃ tk₃ => Al3 (s₃ = ⟨h₃, s.gens, s.drawn, tk₃, s.os⟩) (Kept h h₃) (if ok = true then wpAny (model prog w) A (eval elt cenv) (fun y s₄ => Sm2 (fun h₄ tk₄ => Al3 (s₄ = ⟨h₄, s.gens, s.drawn, tk₄, s.os⟩) (Kept h h₄) (P y h₄))) E' s₃ else P0 h₃)) := by
  refine Classical.byContradiction fun hGG => ?_
  obtain ⟨h₃, tk₃, e, k, y⟩ := x.out
  refine hGG ?_
  clear hGG
  refine ⟨h₃, tk₃, e, k, ?_⟩
  cases ok with
  | false => simpa using y
  | true =>
    simp only [if_true] at y ⊢
    exact wpAny_mono y (fun _ _ z => z.out) fun _ _ z => z
theorem name_comp {M : Model} {A : Around} {E : Value → Shared → Prop} {s : Shared} {h₀ : Heap} {C : Addr} {scope : Scope} {cl : List (Str × Addr)} {env : Env} {x : Str} {pos : Pos} {v : Value} {m : Str → Option Value} {Q : Value → Shared → Prop} (F : Fr h₀ C s.heap m) (hv : m x = some v) (h : Q v s)
    (hk : (compEnvC scope cl C env).scope.kind = .function) (hx : (compEnvC scope cl C env).kindOf x = some .local) (hd : (x == ("__debug__" : Str)) = false := by decide) :
    wpAny M A (eval (.Name x pos) (compEnvC scope cl C env)) Q E s := wpAny_Name (wpAny_loadName_local hk hx F.ns hv h) hd
/-- a comprehension over the values of a dict of ints -/
theorem comp_vals {prog : Program} {w : World} {A : Around} {E : Value → Shared → Prop} {env : Env} {s : Shared} {g : Heap} {scope : Scope} {cl : List (Str × Addr)} {x : Str} {ifs : List Expr} {elt : Expr} {Q : Value → Shared → Prop} {V D : Addr} {oD : Obj} {kvs : List (Int × Value)}
    (hh : A.handled = none) (hV : s.heap.get? V = some ({ cls := .type "dict_values", data := .fields #[.ref D] } : Obj)) (hD : s.heap.get? D = some oD) (hDk : oD.IsDictOf (intKind prog w) kvs) (hz : kvs.length ≤ 1000) (hg : Kept g s.heap) (hgs : g.objs.size ≤ s.heap.objs.size)
    (Rel : Nat → List Value → Prop) (h0 : Rel 0 [])
    (turn : Hold (∀ C R I i k v ys (m : Str → Option Value) h tk (E' : Value → Shared → Prop), s.heap.get? C = none → s.heap.get? R = none → s.heap.get? I = none → C ≠ R → I ≠ C → I ≠ R → kvs[i]? = some (k, v) → Rel i ys → Kept s.heap h →
      Fr g C h (fun y => if y = x then some v else m y) →
      wpAny (model prog w) A (testsOf ifs (compEnvC scope cl C env)) (fun ok s₃ => Hold (Sm2 (fun h₃ tk₃ => Al3 (s₃ = ⟨h₃, s.gens, s.drawn, tk₃, s.os⟩) (Kept h h₃) (if ok = true then wpAny (model prog w) A (eval elt (compEnvC scope cl C env)) (fun y s₄ => Hold (Sm2 (fun h₄ tk₄ => Al3 (s₄ = ⟨h₄, s.gens, s.drawn, tk₄, s.os⟩) (Kept h h₄) (Rel (i + 1) (ys ++ [y]))))) E' s₃
        else Rel (i + 1) ys)))) E' ⟨h, s.gens, s.drawn, tk, s.os⟩))
    (done : Hold (∀ R ys h tk, s.heap.get? R = none → Rel kvs.length ys → h.PlainList R ys.toArray → Kept s.heap h → Q (.ref R) ⟨h, s.gens, s.drawn, tk, s.os⟩)) :
    wpAny (model prog w) A (pyIter (.ref V)) (fun it s₂ => CompH prog w A g env scope cl x ifs elt Q it s₂) E s := by
  refine Classical.byContradiction fun hGG => ?_
  obtain ⟨es, ep, hDk'⟩ := hDk
  refine hGG ?_
  clear hGG
  have hDA : s.heap.DictAt (intKind prog w) D kvs ep := ⟨oD, es, hD, hDk'⟩
  have hf := fresh_size s.heap
  have hne : D ≠ s.heap.objs.size := Nat.ne_of_lt (Heap.lt_size hD)
  refine wpAny_pyIter_values (v := V) ⟨_, hV, rfl, rfl⟩ hDA ?_
  have up : ∀ a, (s.heap.push ({ cls := .type "dict_valueiterator", data := .fields #[.ref D, .int 0 0, .int kvs.length 0, .int ep 0] } : Obj)).get? a = none → s.heap.get? a = none ∧ s.heap.objs.size ≠ a := fun a ha => by
    refine ⟨?_, fun q => ?_⟩
    · cases e : s.heap.get? a with
      | none => rfl
      | some o => rw [Heap.get?_push_of_some _ e] at ha; cases ha
    · rw [← q, Heap.get?_push_size _ rfl] at ha; cases ha
  have hgI : g.get? s.heap.objs.size = none := by
    cases q : g.get? s.heap.objs.size with
    | none => rfl
    | some o => rw [hg _ _ q] at hf; cases hf
  refine ⟨s.heap.objs.size, _, _, kvs.length, _, _, fun C R i ys h => Rel i ys, rfl, Walks.dictValues (knd := intKind prog w) hh s.heap.objs.size D hne kvs ep, hz, ⟨⟨_, Heap.get?_push_size _ rfl, rfl, rfl⟩, hDA.push _⟩, ?_, ?_, fun b o e => Heap.get?_push_of_some _ (hg b o e), by rw [Heap.size_push]; exact Nat.le_succ_of_le hgs, fun _ _ _ _ _ _ => h0, fun _ _ _ _ _ _ _ _ h _ => h, ?_, ?_⟩
  · intro b hb
    have hb2 : b = s.heap.objs.size ∨ b = D := by simpa using hb
    rw [Heap.size_push]
    rcases hb2 with rfl | rfl
    · exact Nat.lt_succ_self _
    · exact Nat.lt_succ_of_lt (Heap.lt_size hD)
  · intro b hb
    rw [List.mem_singleton.mp hb]; exact hgI
  · rintro C R i v ys m h tk E' fC fR hCR hi ⟨k, hkv⟩ hyl hrel hst hpl hM F'
    refine wpAny_mono (turn.out C R s.heap.objs.size i k v ys m h tk E' (up C fC).1 (up R fR).1 hf hCR (up C fC).2 (up R fR).2 hkv hrel (fun b o e => hM.keep b o (fun q => ?_) (Heap.get?_push_of_some _ e)) F') (fun ok s₃ h₃ => unholdC h₃) fun _ _ e => e
    rw [List.mem_singleton.mp q] at e
    rw [hf] at e; cases e
  · intro C R ys h tk fC fR hrel hpl hM
    exact done.out R ys h tk (up R fR).1 hrel hpl (fun b o e => hM.keep b o (fun q => by rw [List.mem_singleton.mp q, hf] at e; cases e) (Heap.get?_push_of_some _ e))
local macro_rules | `(tactic| walk_at "eval Name") => `(tactic| (k_here; (with_reducible refine gd7 ?_); k_dflt (refine' name_comp ?F ?v ?_ ?a ?b; (case a | b => rfl); (case F => k_asm); (case v => exact rfl); k_whole)))
section
--SETATTR
--APART
--COMP
theorem prepare_spec {prog : Program} {w : World} {loose : List Str} {mean : ExcName → Option Value} {mg mb : Str → Option Value} 
  {dp un : Nat} {gd : Option (List Code)} {cn : Str} {cs : Scope} {a : Addr} {ccd : Value} {cl : List (Str × Addr)} {outer : List Env} {h₀ : Heap} {L : Addr} {m : Str → Option Value} {s : Shared} 
  {S dx D : Addr} {po nf : Int} {nds : List Nd}
    {Q E : Value → Shared → Prop}
    (FF : s.heap.FunFrames h₀ outer) (F : Fr h₀ L s.heap m) (X : (Mine.hd.heap_1 w.params).In h₀) (T : Top Mine.hd.view_1 loose mean mg mb h₀) (hk : cs.kind = .function) 
    (hS : SorterAt prog w s.heap S dx D .none po nf nds) (hoff : ∀ b ∈ sAddrs S dx D nds, b ≠ L ∧ h₀.get? b = none) (hofr : ∀ b ∈ sAddrs S dx D nds, b ∉ frs outer)
    (hsc : ∀ n ∈ nds, ∀ p ∈ n.sc, n.i < p.1 ∧ ∃ n' ∈ nds, n'.i = p.1) (hz : nds.length ≤ 100) (hz2 : ∀ n ∈ nds, n.sc.length ≤ 100)
    (hd : dp + 60 < recursionLimit) (hu : un + 480 < cLine)
    (ret : ∀ h' tk' R rn, ModF (sAddrs S dx D nds) (L :: frs outer) s.heap h' → s.heap.get? R = none → h'.get? R = some (listOf (ivals ((nds.filter fun n => decide (n.np = 0)).map fun n => (n.i, n.t))).toArray rn) →
      SorterAt prog w h' S dx D (.ref R) po nf nds → Q .none { s with heap := h', toks := tk' }) :
    wpAny (model prog w) (ktrTop dp un gd cn cs L a ccd cl outer) (call (.ref 99) [.ref S]) Q E s := by
  refine Classical.byContradiction fun hGG => ?_
  obtain ⟨t1, t2, t3, t4, tp, tf, nd, hX⟩ := hS.atX
  obtain ⟨oD, hDD, hDk⟩ := hS.atD
  refine hGG ?_
  clear hGG
  have N : News h₀ L s.heap (sLed S dx D (dictOf (sDict w t1 t2 t3 t4 D .none (.int po tp) (.int nf tf)) nd) oD nds) := hS.news hX hDD hoff
  refine wpAny_call ?_
  k_dflt refine' enterF (binds := [(Str.ofString "self", Value.ref S)]) ?k1 ?k2 ?k3 ?k4 ?k5 ?kA ?kF ?kK ?k6 ?k7 ?k8 ?k9 ?kB ?_ ?c2 ?c3 ?c4 ?c5
  k_dflt ((case kA | kF => exact rfl); (case kK => first | assumption | exact rfl); (case k1 | k2 | k3 | k4 | k5 => k_asm); (case k6 | k7 => k_is); (case k8 => ktr_room); (case k9 => exact BindsTo.of_eq rfl); (case c5 => decide); (case kB => exact locs rfl); (case c2 | c3 | c4 => exact rfl); k_whole)
  intro g' L' h' hHeld' hSize' hKeep' F' N' FF' hA' hLt' X' T'
  refine hide fun QA hQA => ?_
  have N1 : News g' L' h' [(S, instObj 144 dx), (dx, dictOf (sDict w t1 t2 t3 t4 D .none (.int po tp) (.int nf tf)) nd), (D, oD)] := newsOf N' mc0 (newsOf N' mc1 (newsOf N' mc2 newsNil))
  refine Classical.byContradiction fun hGG => ?_
  obtain ⟨g1, F1, N1, st1, hold1⟩ := rebase F' N1
  refine hGG ?_
  clear hGG
  have X1 := X'.keeps st1
  have T1 := T'.keeps st1
  have hne1 := neN hS.neSX
  have hne2 := neN hS.neSD
  have hne3 := neN hS.neXD
  have hlo := hS.lo
  have Fk : Hold (Fr h₀ L s.heap m) := ⟨F⟩
  clear F N
  k_with "eval ListComp" => (refine listCompH (g := g') rfl (by decide) rfl (by decide) rfl ?_ (fun _ => rfl))
  k_steps
  (rename Fr g1 L' _ _ => lF); (rename News g1 L' _ _ => lN)
  rename_i V hV lV
  k_with_none
  have ltL : ∀ b ∈ sAddrs S dx D nds, @LT.lt Nat _ b L' := fun b hb => by
    obtain ⟨o, ho⟩ := hS.live b hb
    rw [← hSize']; exact Heap.lt_size ho
  have frL : ∀ b ∈ frs (envX cn cs L a ccd cl :: outer), b ∉ sAddrs S dx D nds := fun b hb hb2 => by
    rcases kts_mem' hb with q | q
    · exact (hoff b hb2).1 q
    · exact hofr b hb2 q
  have old1 : ∀ b o, @LT.lt Nat _ b L' → b ≠ S → b ≠ dx → b ≠ D → s.heap.get? b = some o → g1.get? b = some o := fun b o hb h1 h2 h3 e => by
    refine hold1 b o hb (fun p hp => ?_) (hKeep' b o e)
    simp only [memC, List.not_mem_nil, or_false] at hp
    rcases hp with rfl | rfl | rfl
    · exact Ne.symm h1
    · exact Ne.symm h2
    · exact Ne.symm h3
  have mV := lN _ (.head _)
  have mS := lN _ (.tail _ (.head _))
  have mX := lN _ (.tail _ (.tail _ (.head _)))
  have mD := lN _ (.tail _ (.tail _ (.tail _ (.head _))))
  dsimp only at mV mS mX mD
  have keptS : ∀ b ∈ sAddrs S dx D nds, ∀ o, s.heap.get? b = some o → hV.get? b = some o := fun b hb o e => by
    by_cases h1 : b = S
    · rw [h1, hS.atS] at e; cases e; rw [h1]; exact mS.1
    · by_cases h2 : b = dx
      · rw [h2, hX] at e; cases e; rw [h2]; exact mX.1
      · by_cases h3 : b = D
        · rw [h3, hDD] at e; cases e; rw [h3]; exact mD.1
        · exact lF.keep b o (old1 b o (ltL b hb) h1 h2 h3 e)
  have offS : ∀ b ∈ sAddrs S dx D nds, b ≠ L' ∧ g'.get? b = none := fun b hb => by
    refine ⟨Nat.ne_of_lt (ltL b hb), ?_⟩
    rw [← sLed_addrs S dx D (dictOf (sDict w t1 t2 t3 t4 D .none (.int po tp) (.int nf tf)) nd) oD] at hb
    obtain ⟨p, hp, rfl⟩ := List.mem_map.mp hb
    exact (N' p hp).2.2
  have hkz : (kvsOf nds).length ≤ 1000 := by simp [kvsOf]; omega
  have lF2 : Fr g' L' hV _ := fr_sub lF st1 F'
  refine comp_vals rfl mV.1 mD.1 hDk hkz lF2.keep (Nat.le_trans F'.above (Nat.le_of_lt lF.ns.lt)) (fun i ys => ys = ivals (((nds.take i).filter fun n => decide (n.np = 0)).map fun n => (n.i, n.t))) (by simp [ivals]) ⟨?turn⟩ ⟨?done⟩
  case turn =>
    intro C R I i k v ys mm h2 tk2 E2 fC fR fI hCR hIC hIR hkv hys hkept F2
    refine Classical.byContradiction fun hGG => ?_
    obtain ⟨nj, hnj, hkn⟩ : ∃ n, nds[i]? = some n ∧ (n.i, Value.ref n.x) = (k, v) := by
      simpa [kvsOf] using hkv
    obtain ⟨hk1, rfl⟩ := Prod.mk.inj hkn
    refine hGG ?_
    clear hGG
    have hm := List.mem_of_getElem? hnj
    have aj := hS.atN nj hm
    have N2 : News g' C h2 [(nj.x, nj.obj), (nj.d, dictOf [] 0), (nj.l, nj.lst)] := by
      intro q hq
      have nC : ∀ {b : Addr} {o : Obj}, hV.get? b = some o → b ≠ C := fun e q => ne_of_fresh fC e q.symm
      simp only [memC, List.not_mem_nil, or_false] at hq
      rcases hq with rfl | rfl | rfl
      · exact ⟨hkept _ _ (keptS _ (mem_sx hm) _ aj.x), nC (keptS _ (mem_sx hm) _ aj.x), (offS _ (mem_sx hm)).2⟩
      · exact ⟨hkept _ _ (keptS _ (mem_sd hm) _ aj.d), nC (keptS _ (mem_sd hm) _ aj.d), (offS _ (mem_sd hm)).2⟩
      · exact ⟨hkept _ _ (keptS _ (mem_sl hm) _ aj.l), nC (keptS _ (mem_sl hm) _ aj.l), (offS _ (mem_sl hm)).2⟩
    refine Classical.byContradiction fun hGG => ?_
    obtain ⟨g9, F9, N9, st9, hold9⟩ := rebase F2 N2
    refine hGG ?_
    clear hGG
    have X9 := X'.keeps st9
    have T9 := T'.keeps st9
    refine testsOf_one ?_
    clear lF lN F2 N2 lF2
    simp only [Nd.obj, Nd.lst] at N9
    k_steps
    refine ⟨_, _, rfl, fun b o e => e, ?_⟩
    have ht : nds.take (i + 1) = nds.take i ++ [nj] := by rw [List.take_add_one, hnj]; rfl
    split
    · rename_i hb
      have hb0 : nj.np = 0 := by simpa using hb
      k_steps
      refine ⟨_, _, rfl, fun b o e => e, ?_⟩
      rw [ht, hys]
      simp [ivals, hb0]
    · rename_i hb
      have hb0 : ¬ nj.np = 0 := by simpa using hb
      rw [ht, hys]
      simp [ivals, hb0]
  case done =>
    intro R ys h2 tk2 fR hys hpl hkept
    have htk : nds.take (kvsOf nds).length = nds := by rw [show (kvsOf nds).length = nds.length by simp [kvsOf]]; exact List.take_length
    rw [htk] at hys
    obtain ⟨rn, hR⟩ := hpl
    rw [hys] at hR
    have nR := fr_new lF2 fR
    have oldR : ∀ {b : Addr} {o : Obj}, hV.get? b = some o → b ≠ R := fun e q => ne_of_fresh fR e q.symm
    have N3 : News g' L' h2 [(R, listOf (ivals ((nds.filter fun n => decide (n.np = 0)).map fun n => (n.i, n.t))).toArray rn), (S, instObj 144 dx), (dx, dictOf (sDict w t1 t2 t3 t4 D .none (.int po tp) (.int nf tf)) nd), (D, oD)] := by
      refine newsCons ?_ (newsCons ?_ (newsCons ?_ (newsCons ?_ newsNil)))
      · exact ⟨hR, nR⟩
      · exact ⟨hkept _ _ mS.1, offS _ (by first | exact mc0 | exact mc1 | exact mc2 | exact mc3 | exact mc4 | simp [sAddrs])⟩
      · exact ⟨hkept _ _ mX.1, offS _ (by first | exact mc0 | exact mc1 | exact mc2 | exact mc3 | exact mc4 | simp [sAddrs])⟩
      · exact ⟨hkept _ _ mD.1, offS _ (by first | exact mc0 | exact mc1 | exact mc2 | exact mc3 | exact mc4 | simp [sAddrs])⟩
    have F3 : Fr g' L' h2 _ := ⟨lF2.ns.keeps hkept, fun b o e => hkept b o (lF2.keep b o e), lF2.above⟩
    refine Classical.byContradiction fun hGG => ?_
    obtain ⟨g3, F4, N4, st3, hold3⟩ := rebase F3 N3
    refine hGG ?_
    clear hGG
    have X3 := X'.keeps st3
    have T3 := T'.keeps st3
    have r1 : Apart R S := ⟨Ne.symm (oldR mS.1)⟩
    have r2 : Apart R dx := ⟨Ne.symm (oldR mX.1)⟩
    have r3 : Apart R D := ⟨Ne.symm (oldR mD.1)⟩
    have keep4 : Hold (News g3 L' h2 _) := ⟨N4⟩
    have keepF3 : Hold (Fr g' L' h2 _) := ⟨F3⟩
    have lFk : Hold (Fr g1 L' hV _) := ⟨lF⟩
    clear F3 N3 lF2 lF lN
    k_with "call ref" => (refine hold_of ?_)
    k_steps
    (rename Fr g3 L' _ _ => lF); (rename News g3 L' _ _ => lN)
    rename_i hA
    k_with_none
    have F5 := fr_sub lF st3 keepF3.out
    have kk := turn_keep keep4.out lF lN hold3 [dx] (SameL.out (by repeat (first | exact SameL.nil _ | (with_reducible exact SameL.same _) | (with_reducible refine SameL.keep ?_) | (refine SameL.upd ?_ (by first | exact mc0 | exact mc1 | exact mc2 | exact mc3 | exact mc4 | exact mc5 | exact mc6 | exact mc7 | simp)) | refine SameL.new ?_)))
    have zX := lN _ (.tail _ (.tail _ (.head _)))
    have zR := lN _ (.head _)
    dsimp only at zX zR
    have hS5 : SorterAt prog w hA S dx D (.ref R) po nf nds := hS.attr (fun b hb hne o e => kk b o (.inl (ltL b hb)) (by simpa using hne) (hkept b o (keptS b hb o e))) ⟨t1, t2, t3, t4, tp, tf, _, zX.1⟩
    have nfr : ∀ b, b ∈ frs (envX cn cs L a ccd cl :: outer) → b ≠ S ∧ b ≠ dx ∧ b ≠ D := fun b hb => ⟨fun q => frL b hb (by simp [sAddrs, q]), fun q => frL b hb (by simp [sAddrs, q]), fun q => frL b hb (by simp [sAddrs, q])⟩
    have keptF : ∀ b ∈ frs (envX cn cs L a ccd cl :: outer), ∀ o, s.heap.get? b = some o → hA.get? b = some o := fun b hb o e =>
      kk b o (.inl (hLt' b hb)) (by simpa using (nfr b hb).2.1) (hkept b o (lFk.out.keep b o (old1 b o (hLt' b hb) (nfr b hb).1 (nfr b hb).2.1 (nfr b hb).2.2 e)))
    have frS : ∀ b ∈ frs (envX cn cs L a ccd cl :: outer), ∃ o, s.heap.get? b = some o ∧ ∀ vs, o.data ≠ .fields vs := fun b hb => by
      rcases kts_mem' hb with q | q
      · refine Classical.byContradiction fun hGG => ?_
        obtain ⟨oL, es, ep, hL, hLd, _⟩ := Fk.out.ns
        refine hGG ?_
        clear hGG
        rw [q]
        exact ⟨oL, hL, fun vs z => by rw [hLd] at z; cases z⟩
      · exact (frs_mem FF q).2
    have FF5 : hA.FunFrames g' (envX cn cs L a ccd cl :: outer) := funFrames_at FF' fun b hb => by
      refine Classical.byContradiction fun hGG => ?_
      obtain ⟨o, ho, hd⟩ := frS b hb
      refine hGG ?_
      clear hGG
      exact ⟨o, keptF b hb o ho, hd⟩
    refine ⟨?_⟩
    k_dflt refine cycle_spec FF5 F5 X' T' rfl hS5 offS (fun b hb q => frL b q hb) hsc hz hz2 (by first | exact roomB hd rfl | exact roomA hd rfl | ktr_room) (by first | exact roomB hu rfl | exact roomA hu rfl | ktr_units) ?_
    intro h6 tk6 hM6
    have F6 := hM6.fr F5 (.head _) List.not_mem_nil (fun b o e => ⟨List.not_mem_nil, fun q => by
      rcases List.mem_cons.mp q with q | q
      · rw [q, kts_self F5] at e; cases e
      · rw [(frs_mem FF' q).1] at e; cases e⟩)
    have nRf : R ∉ L' :: frs (envX cn cs L a ccd cl :: outer) := fun q => by
      rcases List.mem_cons.mp q with q | q
      · exact nR.1 q
      · refine Classical.byContradiction fun hGG => ?_
        obtain ⟨o, ho, _⟩ := frS R q
        refine hGG ?_
        clear hGG
        have := lFk.out.keep R o (old1 R o (hLt' R q) (nfr R q).1 (nfr R q).2.1 (nfr R q).2.2 ho)
        rw [fR] at this; cases this
    have hR6 := hM6.keep R _ List.not_mem_nil nRf zR.1
    have N6 : News g' L' h6 [(R, listOf (ivals ((nds.filter fun n => decide (n.np = 0)).map fun n => (n.i, n.t))).toArray rn)] := by
      intro q hq
      rw [List.mem_singleton] at hq
      subst hq
      exact ⟨hR6, nR⟩
    refine Classical.byContradiction fun hGG => ?_
    obtain ⟨g6, F7, N7, st6, hold6⟩ := rebase F6 N6
    refine hGG ?_
    clear hGG
    have X6 := X'.keeps st6
    have T6 := T'.keeps st6
    have keep7 : Hold (News g6 L' h6 _) := ⟨N7⟩
    have keepF6 : Hold (Fr g' L' h6 _) := ⟨F6⟩
    clear N6 F6 lF lN F5
    k_steps
    (rename Fr g6 L' _ _ => lF); (rename News g6 L' _ _ => lN)
    have kk6 := turn_keep keep7.out lF lN hold6 [] (fun q hq _ => hq)
    have hS7 := hS5.keep (fun b hb o e => kk6 b o (.inl (ltL b hb)) List.not_mem_nil (hM6.keep b o List.not_mem_nil (fun q => (List.mem_cons.mp q).elim (offS b hb).1 (fun z => frL b z hb)) e))
    refine hQA _ _ ?_
    refine backF_ (fr_sub lF st6 keepF6.out) ((SlotF.of_keep fun b o hb e => keptF b hb o e).trans (SlotF.trans (fun b o hb => hM6.slot b o (.tail _ hb)) (SlotF.of_keep fun b o hb e => kk6 b o (.inl (hLt' b hb)) List.not_mem_nil e))) fun hM => ret _ _ R rn ?_ ?_ (lN _ (.head _)).1 hS7
    · rw [sLed_addrs] at hM; exact hM
    · cases q : s.heap.get? R with
      | none => rfl
      | some o =>
        have hlt : @LT.lt Nat _ R L' := by rw [← hSize']; exact Heap.lt_size q
        have := lFk.out.keep R o (old1 R o hlt r1.ne r2.ne r3.ne q)
        rw [fR] at this; cases this
end
/-- the order of the heap's entries is total -/
structure LtOk : Prop where
  asym : ∀ x y : Ent, x.lt y = true → y.lt x = false
  trans : ∀ x y z : Ent, y.lt x = false → z.lt y = false → z.lt x = false
noncomputable abbrev ga (es : List Ent) (i : Nat) : Ent := es.getD i e0
theorem ga_set {es : List Ent} {i j : Nat} {e : Ent} (hi : i < es.length) : ga (es.set i e) j = if j = i then e else ga es j := by
  unfold ga
  simp only [List.getD_eq_getElem?_getD, List.getElem?_set]
  by_cases h : j = i
  · subst h; simp [hi]
  · have h' : ¬ i = j := fun q => h q.symm
    simp [h, h']
noncomputable def HeapOk (es : List Ent) : Prop := ∀ i, 0 < i → i < es.length → (ga es i).lt (ga es ((i - 1) / 2)) = false
theorem set_perm {es : List Ent} {i : Nat} (hi : i < es.length) (e : Ent) : (ga es i :: es.set i e).Perm (e :: es) := by
  induction es generalizing i with
  | nil => simp at hi
  | cons a r ih =>
    cases i with
    | zero => simp [ga]; exact List.Perm.swap ..
    | succ i =>
      simp only [ga, List.getD_cons_succ, List.set_cons_succ]
      have := ih (i := i) (by simpa using hi)
      exact (List.Perm.swap ..).trans ((List.Perm.cons a this).trans (List.Perm.swap ..))
theorem move_perm {es : List Ent} {p q : Nat} (hp : p < es.length) (hq : q < es.length) (hpq : p ≠ q) (e : Ent) : ((es.set p (ga es q)).set q e).Perm (es.set p e) := by
  have h1 := set_perm (es := es.set p (ga es q)) (i := q) (by simpa using hq) e
  rw [ga_set hp, if_neg (Ne.symm hpq)] at h1
  have h2 := set_perm (es := es) hp (ga es q)
  have h3 := set_perm (es := es) hp e
  -- ga q :: X ~ e :: es.set p (ga q);  ga p :: es.set p (ga q) ~ ga q :: es ; ga p :: es.set p e ~ e :: es
  have h4 : (ga es p :: ga es q :: (es.set p (ga es q)).set q e).Perm (ga es p :: e :: es.set p (ga es q)) := List.Perm.cons _ h1
  have h5 : (ga es p :: e :: es.set p (ga es q)).Perm (e :: ga es q :: es) := (List.Perm.swap ..).trans (List.Perm.cons _ h2)
  have h6 : (ga es q :: ga es p :: es.set p e).Perm (ga es q :: e :: es) := List.Perm.cons _ h3
  have h7 : (ga es p :: ga es q :: (es.set p (ga es q)).set q e).Perm (ga es p :: ga es q :: es.set p e) :=
    h4.trans (h5.trans ((List.Perm.swap ..).trans (h6.symm.trans (List.Perm.swap ..))))
  exact (List.perm_cons _).mp ((List.perm_cons _).mp h7)
/-- a hole at pos, e to be laid -/
structure HoleOk (e : Ent) (es : List Ent) (pos : Nat) : Prop where
  far : ∀ i, 0 < i → i < es.length → i ≠ pos → (i - 1) / 2 ≠ pos → (ga es i).lt (ga es ((i - 1) / 2)) = false
  kid : ∀ i, 0 < i → i < es.length → (i - 1) / 2 = pos → (ga es i).lt e = false
  up : ∀ i, 0 < i → i < es.length → (i - 1) / 2 = pos → 0 < pos → (ga es i).lt (ga es ((pos - 1) / 2)) = false
theorem sdLoop_ok (lo : LtOk) (e : Ent) (es : List Ent) (pos : Nat) (hp : pos < es.length) (h : HoleOk e es pos) : HeapOk (sdLoop e es pos) ∧ (sdLoop e es pos).Perm (es.set pos e) := by
  induction pos using Nat.strongRecOn generalizing es with
  | ind pos ih =>
    by_cases stop : pos = 0 ∨ e.lt (es.getD ((pos - 1) / 2) e0) = false
    · rw [sdLoop_stop stop hp]
      refine ⟨fun i h0 hi => ?_, List.Perm.refl _⟩
      rw [List.length_set] at hi
      rw [ga_set hp, ga_set hp]
      by_cases h1 : i = pos
      · rw [if_pos h1, if_neg (by lia)]
        subst h1
        rcases stop with q | q
        · lia
        · exact q
      · rw [if_neg h1]
        by_cases h2 : (i - 1) / 2 = pos
        · rw [if_pos h2]; exact h.kid i h0 hi h2
        · rw [if_neg h2]; exact h.far i h0 hi h1 h2
    · have h0 : pos ≠ 0 := fun q => stop (.inl q)
      have hl : e.lt (es.getD ((pos - 1) / 2) e0) = true := by
        cases q : e.lt (es.getD ((pos - 1) / 2) e0)
        · exact absurd (.inr q) stop
        · rfl
      rw [sdLoop_go h0 hl hp]
      have hq : (pos - 1) / 2 < es.length := by lia
      have hlt : (pos - 1) / 2 < pos := by lia
      have hle : (ga es ((pos - 1) / 2)).lt e = false := lo.asym _ _ hl
      suffices hole : HoleOk e (es.set pos (ga es ((pos - 1) / 2))) ((pos - 1) / 2) by
        obtain ⟨a1, a2⟩ := ih ((pos - 1) / 2) hlt (es.set pos (ga es ((pos - 1) / 2))) (by simpa using hq) hole
        exact ⟨a1, a2.trans (move_perm hp hq (by lia) e)⟩
      refine ⟨fun i i0 hi n1 n2 => ?_, fun i i0 hi n1 => ?_, fun i i0 hi n1 n2 => ?_⟩
      · rw [List.length_set] at hi
        rw [ga_set hp, ga_set hp]
        by_cases z1 : i = pos
        · subst z1; exact absurd rfl n2
        · rw [if_neg z1]
          by_cases z2 : (i - 1) / 2 = pos
          · rw [if_pos z2]; exact h.up i i0 hi z2 (by lia)
          · rw [if_neg z2]; exact h.far i i0 hi z1 z2
      · rw [List.length_set] at hi
        rw [ga_set hp]
        by_cases z1 : i = pos
        · rw [if_pos z1]; exact hle
        · rw [if_neg z1]
          have := h.far i i0 hi z1 (by lia)
          rw [n1] at this
          exact lo.trans e (ga es ((pos - 1) / 2)) (ga es i) hle this
      · rw [List.length_set] at hi
        have g1 : ga (es.set pos (ga es ((pos - 1) / 2))) (((pos - 1) / 2 - 1) / 2) = ga es (((pos - 1) / 2 - 1) / 2) := by rw [ga_set hp, if_neg (by lia)]
        rw [g1, ga_set hp]
        have up1 := h.far ((pos - 1) / 2) n2 hq (by lia) (by lia)
        by_cases z1 : i = pos
        · rw [if_pos z1]; exact up1
        · rw [if_neg z1]
          have := h.far i i0 hi z1 (by lia)
          rw [n1] at this
          exact lo.trans _ _ _ up1 this
theorem hpush_ok (lo : LtOk) {es : List Ent} (e : Ent) (h : HeapOk es) : HeapOk (hpush es e) ∧ (hpush es e).Perm (e :: es) := by
  have gl : ∀ i, i < es.length → ga (es ++ [e]) i = ga es i := fun i hi => by
    simp [ga, List.getElem?_append, hi]
  obtain ⟨a, b⟩ := sdLoop_ok lo e (es ++ [e]) es.length (by simp) ⟨fun i i0 hi n1 n2 => by
      simp at hi
      rw [gl i (by lia), gl _ (by lia)]
      exact h i i0 (by lia), fun i i0 hi n1 => by simp at hi; lia, fun i i0 hi n1 n2 => by simp at hi; lia⟩
  refine ⟨a, b.trans ?_⟩
  have : (es ++ [e]).set es.length e = es ++ [e] := by simp
  rw [this]
  exact List.perm_append_comm
/-- the hole going down -/
structure DownOk (es : List Ent) (pos : Nat) : Prop where
  far : ∀ i, 0 < i → i < es.length → i ≠ pos → (i - 1) / 2 ≠ pos → (ga es i).lt (ga es ((i - 1) / 2)) = false
  up : ∀ i, 0 < i → i < es.length → (i - 1) / 2 = pos → 0 < pos → (ga es i).lt (ga es ((pos - 1) / 2)) = false
theorem suLoop_ok (lo : LtOk) (e : Ent) : ∀ (k : Nat) (es : List Ent) (pos : Nat), es.length - pos ≤ k → pos < es.length → DownOk es pos →
    DownOk (suLoop es pos).1 (suLoop es pos).2 ∧ (suLoop es pos).2 < (suLoop es pos).1.length ∧ ¬ 2 * (suLoop es pos).2 + 1 < (suLoop es pos).1.length ∧ ((suLoop es pos).1.set (suLoop es pos).2 e).Perm (es.set pos e) ∧ (suLoop es pos).1.length = es.length := by
  intro k
  induction k with
  | zero => intro es pos h hp; lia
  | succ k ih =>
    intro es pos hk hp h
    by_cases go : 2 * pos + 1 < es.length
    · rw [suLoop_go go]
      have hc := suPick_lt go
      have hgt := suPick_gt es pos
      have hpar : (suPick es pos - 1) / 2 = pos := by unfold suPick; split <;> lia
      have hmin : ∀ i, 0 < i → i < es.length → (i - 1) / 2 = pos → (ga es i).lt (ga es (suPick es pos)) = false := fun i i0 hi hpi => by
        have irr : ∀ x : Ent, x.lt x = false := fun x => by
          cases q : x.lt x
          · rfl
          · have := lo.asym _ _ q; rw [q] at this; cases this
        have hi2 : i = 2 * pos + 1 ∨ i = 2 * pos + 2 := by lia
        unfold suPick
        split
        · rename_i c
          rcases hi2 with rfl | rfl
          · exact c.2
          · exact irr _
        · rename_i c
          rcases hi2 with rfl | rfl
          · exact irr _
          · have : ¬ ((es.getD (2 * pos + 1) e0).lt (es.getD (2 * pos + 2) e0) = false) := fun q => c ⟨hi, q⟩
            exact lo.asym _ _ (by simpa using this)
      generalize hcc : suPick es pos = c at *
      suffices hole : DownOk (es.set pos (ga es c)) c by
        obtain ⟨b1, b2, b3, b4, b5⟩ := ih (es.set pos (ga es c)) c (by simp; lia) (by simpa using hc) hole
        exact ⟨b1, b2, b3, b4.trans (move_perm hp hc (by lia) e), by simpa using b5⟩
      refine ⟨fun i i0 hi n1 n2 => ?_, fun i i0 hi n1 n2 => ?_⟩
      · rw [List.length_set] at hi
        rw [ga_set hp, ga_set hp]
        by_cases z1 : i = pos
        · subst z1
          rw [if_pos rfl, if_neg (by lia)]
          exact h.up c (by lia) hc hpar (by lia)
        · rw [if_neg z1]
          by_cases z2 : (i - 1) / 2 = pos
          · rw [if_pos z2]; exact hmin i i0 hi z2
          · rw [if_neg z2]; exact h.far i i0 hi z1 z2
      · rw [List.length_set] at hi
        have g1 : ga (es.set pos (ga es c)) ((c - 1) / 2) = ga es c := by rw [ga_set hp, if_pos hpar]
        rw [g1, ga_set hp, if_neg (by lia)]
        have := h.far i i0 hi (by lia) (by lia)
        rw [n1] at this
        exact this
    · rw [suLoop_stop go]
      exact ⟨h, hp, go, List.Perm.refl _, rfl⟩
theorem heap_min (lo : LtOk) {es : List Ent} (h : HeapOk es) : ∀ i, i < es.length → (ga es i).lt (ga es 0) = false := by
  intro i
  induction i using Nat.strongRecOn with
  | ind i ih =>
    intro hi
    by_cases z : i = 0
    · subst z
      cases q : (ga es 0).lt (ga es 0)
      · rfl
      · have := lo.asym _ _ q; rw [q] at this; cases this
    · exact lo.trans _ _ _ (ih ((i - 1) / 2) (by lia) (by lia)) (h i (by lia) hi)
theorem hpop_ok (lo : LtOk) {es : List Ent} {e : Ent} (h : HeapOk (es ++ [e])) : HeapOk (hpop es e).2 ∧ ((hpop es e).1 :: (hpop es e).2).Perm (es ++ [e]) ∧ ∀ x ∈ es ++ [e], x.lt (hpop es e).1 = false := by
  have mn := heap_min lo h
  have mem : ∀ x ∈ es ++ [e], x.lt (ga (es ++ [e]) 0) = false := fun x hx => by
    obtain ⟨i, hi, rfl⟩ := List.getElem_of_mem hx
    have := mn i hi
    have e1 : ga (es ++ [e]) i = (es ++ [e])[i] := by simp [ga, List.getElem?_eq_getElem hi]
    rwa [e1] at this
  cases es with
  | nil => exact ⟨fun i _ hi => by simp [hpop] at hi, List.Perm.refl _, mem⟩
  | cons x r =>
    show HeapOk (suAll e (e :: r)) ∧ (x :: suAll e (e :: r)).Perm _ ∧ _
    have gr : ∀ i, 0 < i → i < (e :: r).length → ga (e :: r) i = ga (x :: r ++ [e]) i := fun i i0 hi => by
      cases i with
      | zero => lia
      | succ i =>
        simp only [List.length_cons] at hi
        have : i < r.length := by lia
        simp [ga, List.getElem?_append, this]
    obtain ⟨b1, b2, b3, b4, b5⟩ := suLoop_ok lo e (e :: r).length (e :: r) 0 (by simp) (by simp) ⟨fun i i0 hi n1 n2 => by
      rw [gr i i0 hi, gr _ (by lia) (by lia)]
      exact h i i0 (by simp at hi ⊢; lia), fun i i0 hi n1 n2 => absurd n2 (by lia)⟩
    have ln : ((suLoop (e :: r) 0).1.set (suLoop (e :: r) 0).2 e).length = (suLoop (e :: r) 0).1.length := by simp
    obtain ⟨c1, c2⟩ := sdLoop_ok lo e ((suLoop (e :: r) 0).1.set (suLoop (e :: r) 0).2 e) (suLoop (e :: r) 0).2 (by rw [ln]; exact b2) ⟨fun i i0 hi n1 n2 => by
        rw [ln] at hi
        rw [ga_set b2, ga_set b2, if_neg n1, if_neg n2]
        exact b1.far i i0 hi n1 n2, fun i i0 hi n1 => by rw [ln] at hi; lia, fun i i0 hi n1 n2 => by rw [ln] at hi; lia⟩
    refine ⟨c1, ?_, by simpa [ga, hpop] using mem⟩
    have : suAll e (e :: r) = sdLoop e ((suLoop (e :: r) 0).1.set (suLoop (e :: r) 0).2 e) (suLoop (e :: r) 0).2 := rfl
    rw [this]
    have p1 : (sdLoop e ((suLoop (e :: r) 0).1.set (suLoop (e :: r) 0).2 e) (suLoop (e :: r) 0).2).Perm ((e :: r).set 0 e) := by
      refine c2.trans ?_
      simpa using b4
    simp only [List.set_cons_zero] at p1
    refine (List.Perm.cons x p1).trans ?_
    simp only [List.cons_append]
    exact List.Perm.cons x (List.perm_append_comm (l₁ := [e]))
noncomputable def needsOf (nl : List (List Int)) (p : Int) : List Int := nl.getD p.toNat []
structure NlOk (nl : List (List Int)) : Prop where
  lt : ∀ (p : Nat) (l : List Int), nl[p]? = some l → ∀ q ∈ l, 0 ≤ q ∧ q < (p : Int)
  nd : ∀ l ∈ nl, l.Nodup
noncomputable def Free (nl : List (List Int)) (ord : List Int) (p : Int) : Prop := 0 ≤ p ∧ p < (nl.length : Int) ∧ p ∉ ord ∧ ∀ q ∈ needsOf nl p, q ∈ ord
structure Greedy (nl : List (List Int)) (lt : Int → Int → Bool) (ord : List Int) : Prop where
  step : ∀ (t : Nat) (c : Int), ord[t]? = some c → Free nl (ord.take t) c ∧ ∀ c', Free nl (ord.take t) c' → lt c' c = false
theorem needsOf_nat {nl : List (List Int)} {p : Nat} {l : List Int} (h : nl[p]? = some l) : needsOf nl (p : Int) = l := by simp [needsOf, h]
theorem NlOk.needs {nl : List (List Int)} (o : NlOk nl) {p : Int} (h0 : 0 ≤ p) (h1 : p < (nl.length : Int)) : (∀ q ∈ needsOf nl p, 0 ≤ q ∧ q < p) ∧ (needsOf nl p).Nodup := by
  obtain ⟨k, rfl⟩ := Int.eq_ofNat_of_zero_le h0
  have hk : k < nl.length := by lia
  have e := List.getElem?_eq_getElem hk
  rw [needsOf_nat e]
  exact ⟨o.lt k _ e, o.nd _ (List.getElem_mem hk)⟩
theorem Greedy.prefix {nl : List (List Int)} {lt : Int → Int → Bool} {o₁ o₂ : List Int} (h : Greedy nl lt o₁) (k : Greedy nl lt o₂) (tot : ∀ a b, 0 ≤ a → a < (nl.length : Int) → 0 ≤ b → b < (nl.length : Int) → lt a b = false → lt b a = false → a = b) :
    ∀ t, t ≤ o₁.length → t ≤ o₂.length → o₁.take t = o₂.take t := by
  intro t
  induction t with
  | zero => intros; simp
  | succ t ih =>
    intro h1 h2
    have e := ih (by lia) (by lia)
    have g1 := List.getElem?_eq_getElem (show t < o₁.length by lia)
    have g2 := List.getElem?_eq_getElem (show t < o₂.length by lia)
    refine Classical.byContradiction fun hGG => ?_
    obtain ⟨a1, a2⟩ := h.step t _ g1
    obtain ⟨b1, b2⟩ := k.step t _ g2
    refine hGG ?_
    clear hGG
    rw [e] at a1 a2
    have := tot _ _ a1.1 a1.2.1 b1.1 b1.2.1 (b2 _ a1) (a2 _ b1)
    rw [List.take_add_one, List.take_add_one, e, g1, g2, this]
theorem Greedy.unique {nl : List (List Int)} {lt : Int → Int → Bool} {o₁ o₂ : List Int} (h : Greedy nl lt o₁) (k : Greedy nl lt o₂) (tot : ∀ a b, 0 ≤ a → a < (nl.length : Int) → 0 ≤ b → b < (nl.length : Int) → lt a b = false → lt b a = false → a = b)
    (hl : o₁.length = o₂.length) : o₁ = o₂ := by
  have := h.prefix k tot o₁.length (Nat.le_refl _) (by lia)
  rw [List.take_length, hl, List.take_length] at this
  exact this
theorem Greedy.snoc {nl : List (List Int)} {lt : Int → Int → Bool} {ord : List Int} {c : Int} (h : Greedy nl lt ord) (hF : Free nl ord c) (hm : ∀ c', Free nl ord c' → lt c' c = false) : Greedy nl lt (ord ++ [c]) := ⟨fun t x hx => by
  rcases Nat.lt_or_ge t ord.length with z | z
  · rw [List.getElem?_append_left z] at hx
    rw [List.take_append_of_le_length (by lia)]
    exact h.step t x hx
  · have ht : t = ord.length := by
      rcases Nat.lt_or_ge t (ord.length + 1) with y | y
      · lia
      · rw [List.getElem?_eq_none (by simp; lia)] at hx; cases hx
    subst ht
    simp at hx
    subst hx
    have e : (ord ++ [c]).take ord.length = ord := by simp
    rw [e]
    exact ⟨hF, hm⟩⟩
theorem len_le {l : List Int} : ∀ {l' : List Int}, l.Nodup → (∀ x ∈ l, x ∈ l') → l.length ≤ l'.length := by
  induction l with
  | nil => intros; simp
  | cons a r ih =>
    intro l' hn hs
    rw [List.nodup_cons] at hn
    obtain ⟨p, q, rfl⟩ := List.append_of_mem (hs a (.head _))
    have := ih (l' := p ++ q) hn.2 fun x hx => by
      have h1 := hs x (.tail _ hx)
      simp only [List.mem_append, List.mem_cons] at h1 ⊢
      rcases h1 with h | rfl | h
      · exact .inl h
      · exact absurd hx hn.1
      · exact .inr h
    simp at this ⊢
    lia
theorem free_exists {nl : List (List Int)} (o : NlOk nl) {ord : List Int} (hl : ord.length < nl.length) : ∃ p, Free nl ord p := by
  have key : ∀ k : Nat, k ≤ nl.length → (∀ p : Nat, p < k → (p : Int) ∈ ord) ∨ ∃ p, Free nl ord p := by
    intro k
    induction k with
    | zero => intro _; exact .inl fun p hp => absurd hp (by lia)
    | succ k ih =>
      intro hk
      rcases ih (by lia) with h | h
      · by_cases q : (k : Int) ∈ ord
        · refine .inl fun p hp => ?_
          rcases Nat.lt_or_ge p k with z | z
          · exact h p z
          · have : p = k := by lia
            rw [this]; exact q
        · refine .inr ⟨k, by lia, by lia, q, fun r hr => ?_⟩
          have := (o.needs (p := (k : Int)) (by lia) (by lia)).1 r hr
          have h2 := h r.toNat (by lia)
          rwa [Int.toNat_of_nonneg this.1] at h2
      · exact .inr h
  rcases key nl.length (Nat.le_refl _) with h | h
  · exfalso
    have := len_le (l := (List.range nl.length).map fun (n : Nat) => (n : Int)) (l' := ord) (by
      refine List.pairwise_map.mpr ((List.nodup_range (n := nl.length)).imp fun h q => h (by lia))) fun x hx => by
        obtain ⟨n, hn, rfl⟩ := List.mem_map.mp hx
        exact h n (List.mem_range.mp hn)
    simp at this
    lia
  · exact h
/-- the sorter's nodes when j works are added -/
structure NdsOk (nl : List (List Int)) (j : Nat) (nds : List Nd) : Prop where
  len : nds.length = j
  at' : ∀ (p : Nat) (n : Nd), nds[p]? = some n → n.i = (p : Int) ∧ n.np = ((needsOf nl (p : Int)).length : Int) ∧ n.sc.map (·.1) = ((List.range j).filter fun (q : Nat) => decide ((p : Int) ∈ needsOf nl (q : Int))).map fun (q : Nat) => (q : Int)
theorem addAll_map (v : Int × Tok) : ∀ (preds : List (Int × Tok)) (nds : List Nd), (preds.map (·.1)).Nodup → addAll nds preds v = nds.map fun n => if n.i ∈ preds.map (·.1) then { n with sc := n.sc ++ [v], ln := n.ln + 1 } else n
  | [], nds, _ => by simp [addAll]
  | p :: ps, nds, h => by
    rw [List.map_cons, List.nodup_cons] at h
    show addAll (addSucc nds p.1 v) ps v = _
    rw [addAll_map v ps _ h.2]
    unfold addSucc
    rw [List.map_map]
    refine List.map_congr_left fun n _ => ?_
    simp only [Function.comp_apply, List.map_cons, List.mem_cons]
    by_cases q : n.i = p.1
    · rw [if_pos q, if_neg (show ¬ n.i ∈ ps.map (·.1) by rw [q]; exact h.1), if_pos (.inl q)]
    · rw [if_neg q]
      by_cases z : n.i ∈ ps.map (·.1)
      · rw [if_pos z, if_pos (.inr z)]
      · rw [if_neg z, if_neg (fun y => y.elim q z)]
theorem NdsOk.zero (nl : List (List Int)) : NdsOk nl 0 [] := ⟨rfl, fun p n h => by simp at h⟩
theorem NdsOk.add {nl : List (List Int)} (o : NlOk nl) {j : Nat} {nds : List Nd} (h : NdsOk nl j nds) {preds : List (Int × Tok)} (hj : nl[j]? = some (preds.map (·.1))) {x d l : Addr} {t tn : Tok} :
    NdsOk nl (j + 1) (addAll nds preds ((j : Int), t) ++ [⟨x, d, l, (j : Int), t, (preds.length : Int), tn, [], 0⟩]) := by
  have hnd : (preds.map (·.1)).Nodup := o.nd _ (List.mem_of_getElem? hj)
  have hnj := needsOf_nat hj
  rw [addAll_map _ _ _ hnd]
  refine ⟨by simp [h.len], fun p n hp => ?_⟩
  rw [List.getElem?_append] at hp
  simp only [List.length_map] at hp
  split at hp
  · rename_i hlt
    simp only [List.getElem?_map, Option.map_eq_some_iff] at hp
    refine Classical.byContradiction fun hGG => ?_
    obtain ⟨n₀, hn₀, rfl⟩ := hp
    obtain ⟨a1, a2, a3⟩ := h.at' p n₀ hn₀
    refine hGG ?_
    clear hGG
    have er : (List.range (j + 1)).filter (fun (q : Nat) => decide ((p : Int) ∈ needsOf nl (q : Int))) = (List.range j).filter (fun (q : Nat) => decide ((p : Int) ∈ needsOf nl (q : Int))) ++ (if n₀.i ∈ preds.map (·.1) then [j] else []) := by
      rw [List.range_succ, List.filter_append]
      congr 1
      simp only [List.filter_cons, List.filter_nil, hnj, a1, decide_eq_true_eq]
    rw [er]
    split
    · rename_i hm
      exact ⟨a1, a2, by simp [a3]⟩
    · exact ⟨a1, a2, by simp [a3]⟩
  · rename_i hge
    rw [h.len] at hge hp
    have hpj : p = j := by
      rcases Nat.lt_or_ge p (j + 1) with z | z
      · lia
      · have : p - j ≠ 0 := by lia
        obtain ⟨k, hk⟩ : ∃ k, p - j = k + 1 := ⟨p - j - 1, by lia⟩
        rw [hk] at hp
        simp at hp
    subst hpj
    simp at hp
    subst hp
    refine ⟨rfl, by rw [hnj]; simp, ?_⟩
    symm
    simp only [List.map_nil, List.map_eq_nil_iff, List.filter_eq_nil_iff, decide_eq_true_eq]
    intro q hq hm
    have hq' := List.mem_range.mp hq
    have hjl : p < nl.length := by
      rcases Nat.lt_or_ge p nl.length with z | z
      · exact z
      · rw [List.getElem?_eq_none z] at hj; cases hj
    have := (o.needs (p := (q : Int)) (by lia) (by lia)).1 _ hm
    lia
theorem needs_len {nl : List (List Int)} (o : NlOk nl) {j : Nat} {l : List Int} (h : nl[j]? = some l) : l.length ≤ j := by
  have := len_le (l := l) (l' := (List.range j).map fun (n : Nat) => (n : Int)) (o.nd _ (List.mem_of_getElem? h)) fun x hx => by
    obtain ⟨h0, h1⟩ := o.lt j l h x hx
    exact List.mem_map.mpr ⟨x.toNat, List.mem_range.mpr (by lia), by lia⟩
  simpa using this
theorem NdsOk.new {nl : List (List Int)} {j : Nat} {nds : List Nd} (h : NdsOk nl j nds) : ∀ n ∈ nds, 0 ≤ n.i ∧ n.i < (j : Int) := fun n hn => by
  refine Classical.byContradiction fun hGG => ?_
  obtain ⟨k, hk, rfl⟩ := List.getElem_of_mem hn
  obtain ⟨a1, _, _⟩ := h.at' k _ (List.getElem?_eq_getElem hk)
  refine hGG ?_
  clear hGG
  rw [h.len] at hk
  rw [a1]; lia
theorem NdsOk.has {nl : List (List Int)} {j : Nat} {nds : List Nd} (h : NdsOk nl j nds) {p : Int} (h0 : 0 ≤ p) (h1 : p < (j : Int)) : ∃ n ∈ nds, n.i = p ∧ n.sc.map (·.1) = ((List.range j).filter fun (q : Nat) => decide (p ∈ needsOf nl (q : Int))).map fun (q : Nat) => (q : Int) := by
  have hk : p.toNat < nds.length := by rw [h.len]; lia
  refine Classical.byContradiction fun hGG => ?_
  obtain ⟨a1, _, a3⟩ := h.at' p.toNat _ (List.getElem?_eq_getElem hk)
  refine hGG ?_
  clear hGG
  have e : ((p.toNat : Nat) : Int) = p := by lia
  rw [e] at a1 a3
  exact ⟨_, List.getElem_mem hk, a1, a3⟩
theorem NdsOk.scLen {nl : List (List Int)} {j : Nat} {nds : List Nd} (h : NdsOk nl j nds) : ∀ n ∈ nds, n.sc.length ≤ j := fun n hn => by
  refine Classical.byContradiction fun hGG => ?_
  obtain ⟨k, hk, rfl⟩ := List.getElem_of_mem hn
  obtain ⟨_, _, a3⟩ := h.at' k _ (List.getElem?_eq_getElem hk)
  refine hGG ?_
  clear hGG
  have := congrArg List.length a3
  simp only [List.length_map] at this
  rw [this]
  refine Nat.le_trans (List.length_filter_le _ _) ?_
  simp
theorem NdsOk.up {nl : List (List Int)} (o : NlOk nl) {j : Nat} (hj : j ≤ nl.length) {nds : List Nd} (h : NdsOk nl j nds) : ∀ n ∈ nds, ∀ p ∈ n.sc, n.i < p.1 ∧ ∃ n' ∈ nds, n'.i = p.1 := fun n hn p hp => by
  refine Classical.byContradiction fun hGG => ?_
  obtain ⟨k, hk, rfl⟩ := List.getElem_of_mem hn
  obtain ⟨a1, _, a3⟩ := h.at' k _ (List.getElem?_eq_getElem hk)
  refine hGG ?_
  clear hGG
  have hm : p.1 ∈ (nds[k].sc).map (·.1) := List.mem_map_of_mem hp
  rw [a3] at hm
  refine Classical.byContradiction fun hGG => ?_
  obtain ⟨q, hq, e⟩ := List.mem_map.mp hm
  refine hGG ?_
  clear hGG
  rw [List.mem_filter, List.mem_range] at hq
  have hn2 : (k : Int) ∈ needsOf nl (q : Int) := by simpa using hq.2
  have := (o.needs (p := (q : Int)) (by lia) (by lia)).1 _ hn2
  refine ⟨by rw [a1, ← e]; lia, ?_⟩
  refine Classical.byContradiction fun hGG => ?_
  obtain ⟨n', hn', e', _⟩ := h.has (p := p.1) (by lia) (by lia)
  refine hGG ?_
  clear hGG
  exact ⟨n', hn', e'⟩
theorem outAll_np : ∀ (rl : List (Int × Tok)) (nds : List Nd) (f : Int → Int) (np : Int) (tn : Tok), NpIs nds f → NpIs (outAll nds rl np tn) (fun c => if c ∈ rl.map (·.1) then np else f c)
  | [], nds, f, np, tn, h => by
    intro n hn
    have := h n hn
    simpa using this
  | p :: r, nds, f, np, tn, h => by
    show NpIs (outAll (setNp nds p.1 np tn) r np tn) _
    have := outAll_np r _ _ np tn (npIs_set (j := p.1) (np := np) (tn := tn) h)
    intro n hn
    rw [this n hn]
    simp only [List.map_cons, List.mem_cons]
    by_cases q : n.i ∈ r.map (·.1)
    · simp [q]
    · by_cases z : n.i = p.1
      · simp [q, z]
      · simp [q, z]
theorem outAll_shape : ∀ (rl : List (Int × Tok)) (nds : List Nd) (np : Int) (tn : Tok), (outAll nds rl np tn).map Nd.shape = nds.map Nd.shape
  | [], _, _, _ => rfl
  | p :: r, nds, np, tn => by
    show (outAll (setNp nds p.1 np tn) r np tn).map Nd.shape = _
    rw [outAll_shape r, setNp_shape]
theorem decAll_spec : ∀ (l : List (Int × Tok)) (f : Int → Int) (rl : List (Int × Tok)), (l.map (·.1)).Nodup →
    (∀ x, (decAll (f, rl) l).1 x = if x ∈ l.map (·.1) then f x - 1 else f x) ∧ (decAll (f, rl) l).2.map (·.1) = rl.map (·.1) ++ (l.map (·.1)).filter fun x => decide (f x - 1 = 0)
  | [], f, rl, _ => by simp [decAll]
  | p :: r, f, rl, h => by
    rw [List.map_cons, List.nodup_cons] at h
    have e : decAll (f, rl) (p :: r) = decAll (decStep (f, rl) p) r := rfl
    rw [e]
    unfold decStep
    obtain ⟨i1, i2⟩ := decAll_spec r (fun c => if c = p.1 then f c - 1 else f c) (if f p.1 - 1 = 0 then rl ++ [p] else rl) h.2
    refine ⟨fun x => ?_, ?_⟩
    · rw [i1]
      simp only [List.map_cons, List.mem_cons]
      by_cases q : x = p.1
      · subst q
        simp [h.1]
      · by_cases z : x ∈ r.map (·.1)
        · simp [q, z]
        · simp [q, z]
    · rw [i2]
      have e2 : (r.map (·.1)).filter (fun x => decide ((if x = p.1 then f x - 1 else f x) - 1 = 0)) = (r.map (·.1)).filter fun x => decide (f x - 1 = 0) := by
        refine List.filter_congr fun x hx => ?_
        have : x ≠ p.1 := fun q => h.1 (q ▸ hx)
        simp [this]
      rw [e2, List.map_cons, List.filter_cons]
      by_cases q : f p.1 - 1 = 0
      · simp [q]
      · simp [q]
structure PInv (nl : List (List Int)) (ord hp rl : List Int) (f : Int → Int) : Prop where
  ordN : ord.Nodup
  ordC : ∀ p ∈ ord, 0 ≤ p ∧ p < (nl.length : Int) ∧ ∀ q ∈ needsOf nl p, q ∈ ord
  fh : ∀ p ∈ hp, f p = -1
  hpF : ∀ p ∈ hp, Free nl ord p
  hpN : hp.Nodup
  rest : ∀ p, 0 ≤ p → p < (nl.length : Int) → p ∉ ord → p ∉ hp → f p = (((needsOf nl p).filter fun q => decide (q ∉ ord)).length : Int)
  rlI : ∀ p, p ∈ rl ↔ (0 ≤ p ∧ p < (nl.length : Int) ∧ p ∉ ord ∧ p ∉ hp ∧ f p = 0)
  rlN : rl.Nodup
/-- when the ready ones are on the heap -/
structure PMid (nl : List (List Int)) (ord hp : List Int) (f : Int → Int) : Prop where
  ordN : ord.Nodup
  ordC : ∀ p ∈ ord, 0 ≤ p ∧ p < (nl.length : Int) ∧ ∀ q ∈ needsOf nl p, q ∈ ord
  fh : ∀ p ∈ hp, f p = -1
  hpI : ∀ p, p ∈ hp ↔ Free nl ord p
  hpN : hp.Nodup
  rest : ∀ p, 0 ≤ p → p < (nl.length : Int) → p ∉ ord → p ∉ hp → f p = (((needsOf nl p).filter fun q => decide (q ∉ ord)).length : Int) ∧ f p ≠ 0
theorem cnt_zero {l ord : List Int} : ((l.filter fun q => decide (q ∉ ord)).length : Int) = 0 ↔ ∀ q ∈ l, q ∈ ord := by
  constructor
  · intro h q hq
    have h0 : (l.filter fun q => decide (q ∉ ord)) = [] := List.eq_nil_of_length_eq_zero (by lia)
    rw [List.filter_eq_nil_iff] at h0
    have := h0 q hq
    simpa using this
  · intro h
    have h0 : (l.filter fun q => decide (q ∉ ord)) = [] := List.filter_eq_nil_iff.mpr fun q hq => by simpa using h q hq
    rw [h0]; rfl
theorem PInv.mid {nl : List (List Int)} {ord hp rl hp1 : List Int} {f : Int → Int} (h : PInv nl ord hp rl f) (hpm : hp1.Perm (hp ++ rl)) : PMid nl ord hp1 (fun c => if c ∈ rl then -1 else f c) := by
  have mem : ∀ p, p ∈ hp1 ↔ p ∈ hp ∨ p ∈ rl := fun p => by rw [hpm.mem_iff, List.mem_append]
  refine ⟨h.ordN, h.ordC, fun p hp' => ?_, fun p => ⟨fun hp' => ?_, fun hF => ?_⟩, ?_, fun p h0 h1 h2 h3 => ?_⟩
  · by_cases q : p ∈ rl
    · simp [q]
    · rcases (mem p).mp hp' with z | z
      · simp [q, h.fh p z]
      · exact absurd z q
  · rcases (mem p).mp hp' with z | z
    · exact h.hpF p z
    · refine Classical.byContradiction fun hGG => ?_
      obtain ⟨a1, a2, a3, a4, a5⟩ := (h.rlI p).mp z
      refine hGG ?_
      clear hGG
      rw [h.rest p a1 a2 a3 a4] at a5
      exact ⟨a1, a2, a3, cnt_zero.mp a5⟩
  · rw [mem]
    by_cases q : p ∈ hp
    · exact .inl q
    · right
      rw [h.rlI]
      refine Classical.byContradiction fun hGG => ?_
      obtain ⟨a1, a2, a3, a4⟩ := hF
      refine hGG ?_
      clear hGG
      exact ⟨a1, a2, a3, q, by rw [h.rest p a1 a2 a3 q]; exact cnt_zero.mpr a4⟩
  · rw [hpm.nodup_iff, List.nodup_append]
    exact ⟨h.hpN, h.rlN, fun a ha b hb q => ((h.rlI b).mp hb).2.2.2.1 (q ▸ ha)⟩
  · have n1 : p ∉ hp := fun q => h3 ((mem p).mpr (.inl q))
    have n2 : p ∉ rl := fun q => h3 ((mem p).mpr (.inr q))
    simp only [n2, if_false]
    refine ⟨h.rest p h0 h1 h2 n1, fun z => n2 ((h.rlI p).mpr ⟨h0, h1, h2, n1, z⟩)⟩
theorem cnt_step {l ord : List Int} {c : Int} (hn : l.Nodup) (hc : c ∉ ord) : (((l.filter fun q => decide (q ∉ ord ++ [c])).length : Int)) = ((l.filter fun q => decide (q ∉ ord)).length : Int) - (if c ∈ l then 1 else 0) := by
  induction l with
  | nil => simp
  | cons a r ih =>
    rw [List.nodup_cons] at hn
    have ih' := ih hn.2
    by_cases q : a = c
    · subst q
      have hr : ¬ a ∈ r := hn.1
      simp only [hr, if_false] at ih'
      simp only [List.filter_cons, List.mem_cons, true_or, if_true]
      have e1 : decide (a ∉ ord ++ [a]) = false := by simp
      have e2 : decide (a ∉ ord) = true := by simpa using hc
      rw [e1, e2]
      simp only [Bool.false_eq_true, if_false, if_true, List.length_cons]
      rw [ih']
      lia
    · have e1 : decide (a ∉ ord ++ [c]) = decide (a ∉ ord) := by simp [q]
      have e3 : (c ∈ a :: r) ↔ c ∈ r := by simp [Ne.symm q]
      simp only [List.filter_cons, e1, e3]
      by_cases z : decide (a ∉ ord) = true
      · simp only [z, if_true, List.length_cons]
        lia
      · simp only [z, if_false]
        exact ih'
theorem PMid.done {nl : List (List Int)} (o : NlOk nl) {ord hp hp2 : List Int} {f : Int → Int} {c : Int} (h : PMid nl ord hp f) (hpm : (c :: hp2).Perm hp) {sc : List (Int × Tok)} (hsc : sc.map (·.1) = ((List.range nl.length).filter fun (q : Nat) => decide (c ∈ needsOf nl (q : Int))).map fun (q : Nat) => (q : Int)) :
    PInv nl (ord ++ [c]) hp2 ((decAll (fun x => if x = c then -2 else f x, []) sc).2.map (·.1)) (decAll (fun x => if x = c then -2 else f x, []) sc).1 := by
  have hscN : (sc.map (·.1)).Nodup := by
    rw [hsc]
    exact List.pairwise_map.mpr (((List.nodup_range (n := nl.length)).filter _).imp fun h q => h (by lia))
  have hscM : ∀ p, p ∈ sc.map (·.1) ↔ (0 ≤ p ∧ p < (nl.length : Int) ∧ c ∈ needsOf nl p) := fun p => by
    rw [hsc, List.mem_map]
    constructor
    · rintro ⟨q, hq, rfl⟩
      rw [List.mem_filter, List.mem_range] at hq
      exact ⟨by lia, by lia, by simpa using hq.2⟩
    · intro hR8
      refine Classical.byContradiction fun hGG => ?_
      obtain ⟨h0, h1, h2⟩ := hR8
      refine hGG ?_
      clear hGG
      refine ⟨p.toNat, ?_, by lia⟩
      rw [List.mem_filter, List.mem_range]
      refine ⟨by lia, ?_⟩
      rw [show ((p.toNat : Nat) : Int) = p by lia]
      simpa using h2
  obtain ⟨d1, d2⟩ := decAll_spec sc (fun x => if x = c then -2 else f x) [] hscN
  have mem : ∀ p, p ∈ hp ↔ p = c ∨ p ∈ hp2 := fun p => by rw [← hpm.mem_iff, List.mem_cons]
  have hn := hpm.nodup_iff.mpr h.hpN
  rw [List.nodup_cons] at hn
  have hcF : Free nl ord c := (h.hpI c).mp ((mem c).mpr (.inl rfl))
  refine Classical.byContradiction fun hGG => ?_
  obtain ⟨c0, c1, c2, c3⟩ := hcF
  refine hGG ?_
  clear hGG
  have needC : ∀ p, 0 ≤ p → p < (nl.length : Int) → c ∈ needsOf nl p → p ∉ ord ∧ p ∉ hp ∧ p ≠ c := fun p p0 p1 hm => by
    refine ⟨fun q => c2 ((h.ordC p q).2.2 c hm), fun q => c2 (((h.hpI p).mp q).2.2.2 c hm), fun q => ?_⟩
    have := (o.needs p0 p1).1 c hm
    lia
  refine ⟨?_, ?_, ?_, ?_, hn.2, ?_, ?_, ?_⟩
  · rw [List.nodup_append]
    exact ⟨h.ordN, by simp, fun a ha b hb q => c2 (by rw [List.mem_singleton] at hb; rw [← hb, ← q]; exact ha)⟩
  · intro p hp'
    rcases List.mem_append.mp hp' with z | z
    · refine Classical.byContradiction fun hGG => ?_
      obtain ⟨a1, a2, a3⟩ := h.ordC p z
      refine hGG ?_
      clear hGG
      exact ⟨a1, a2, fun q hq => List.mem_append_left _ (a3 q hq)⟩
    · rw [List.mem_singleton] at z
      subst z
      exact ⟨c0, c1, fun q hq => List.mem_append_left _ (c3 q hq)⟩
  · intro p hp'
    have hph := (mem p).mpr (.inr hp')
    refine Classical.byContradiction fun hGG => ?_
    obtain ⟨b0, b1, b2, b3⟩ := (h.hpI p).mp hph
    refine hGG ?_
    clear hGG
    have pc : p ≠ c := fun q => hn.1 (q ▸ hp')
    have : ¬ p ∈ sc.map (·.1) := fun q => c2 (b3 c ((hscM p).mp q).2.2)
    rw [d1, if_neg this, if_neg pc]
    exact h.fh p hph
  · intro p hp'
    refine Classical.byContradiction fun hGG => ?_
    obtain ⟨b0, b1, b2, b3⟩ := (h.hpI p).mp ((mem p).mpr (.inr hp'))
    refine hGG ?_
    clear hGG
    have pc : p ≠ c := fun q => hn.1 (q ▸ hp')
    exact ⟨b0, b1, by simp [b2, pc], fun q hq => List.mem_append_left _ (b3 q hq)⟩
  · intro p p0 p1 p2 p3
    have pc : p ≠ c := fun q => p2 (by simp [q])
    have po : p ∉ ord := fun q => p2 (List.mem_append_left _ q)
    have ph : p ∉ hp := fun q => ((mem p).mp q).elim pc p3
    obtain ⟨r1, r2⟩ := h.rest p p0 p1 po ph
    rw [d1, if_neg pc, cnt_step (o.needs p0 p1).2 c2, ← r1]
    by_cases q : c ∈ needsOf nl p
    · rw [if_pos ((hscM p).mpr ⟨p0, p1, q⟩), if_pos q]
    · rw [if_neg (fun z => q ((hscM p).mp z).2.2), if_neg q]; lia
  · intro p
    rw [d2]
    simp only [List.map_nil, List.nil_append, List.mem_filter, decide_eq_true_eq]
    constructor
    · rintro ⟨hm, hz⟩
      refine Classical.byContradiction fun hGG => ?_
      obtain ⟨p0, p1, q⟩ := (hscM p).mp hm
      obtain ⟨n1, n2, n3⟩ := needC p p0 p1 q
      refine hGG ?_
      clear hGG
      rw [if_neg n3] at hz
      refine ⟨p0, p1, by simp [n1, n3], fun z => n2 ((mem p).mpr (.inr z)), ?_⟩
      rw [d1, if_pos hm, if_neg n3]
      exact hz
    · intro hR9
      refine Classical.byContradiction fun hGG => ?_
      obtain ⟨p0, p1, p2, p3, hz⟩ := hR9
      refine hGG ?_
      clear hGG
      have pc : p ≠ c := fun q => p2 (by simp [q])
      have po : p ∉ ord := fun q => p2 (List.mem_append_left _ q)
      have ph : p ∉ hp := fun q => ((mem p).mp q).elim pc p3
      obtain ⟨r1, r2⟩ := h.rest p p0 p1 po ph
      rw [d1, if_neg pc] at hz
      by_cases q : p ∈ sc.map (·.1)
      · rw [if_pos q] at hz
        refine ⟨q, ?_⟩
        rw [if_neg pc]; exact hz
      · rw [if_neg q] at hz
        exact absurd hz r2
  · rw [d2]
    simp only [List.map_nil, List.nil_append]
    exact hscN.filter _
theorem PInv.start {nl : List (List Int)} {nds : List Nd} (h : NdsOk nl nl.length nds) {f : Int → Int} (hf : NpIs nds f) :
    PInv nl [] [] (((nds.filter fun n => decide (n.np = 0)).map fun n => (n.i, n.t)).map (·.1)) f := by
  have node : ∀ p : Int, 0 ≤ p → p < (nl.length : Int) → ∃ n ∈ nds, n.i = p ∧ n.np = ((needsOf nl p).length : Int) := fun p p0 p1 => by
    have hk : p.toNat < nds.length := by rw [h.len]; lia
    refine Classical.byContradiction fun hGG => ?_
    obtain ⟨a1, a2, a3⟩ := h.at' p.toNat _ (List.getElem?_eq_getElem hk)
    refine hGG ?_
    clear hGG
    refine ⟨_, List.getElem_mem hk, by rw [a1]; lia, ?_⟩
    rw [a2, show ((p.toNat : Nat) : Int) = p by lia]
  have back : ∀ n ∈ nds, 0 ≤ n.i ∧ n.i < (nl.length : Int) := fun n hn => by
    refine Classical.byContradiction fun hGG => ?_
    obtain ⟨k, hk, rfl⟩ := List.getElem_of_mem hn
    obtain ⟨a1, _, _⟩ := h.at' k _ (List.getElem?_eq_getElem hk)
    refine hGG ?_
    clear hGG
    rw [h.len] at hk
    rw [a1]; lia
  have ids : (nds.map (·.i)).Nodup := by
    have e : nds.map (·.i) = (List.range nl.length).map fun (q : Nat) => (q : Int) := by
      apply List.ext_getElem
      · simp [h.len]
      · intro i h1 h2
        simp only [List.length_map] at h1
        refine Classical.byContradiction fun hGG => ?_
        obtain ⟨a1, _, _⟩ := h.at' i _ (List.getElem?_eq_getElem h1)
        refine hGG ?_
        clear hGG
        simp [a1]
    rw [e]
    exact List.pairwise_map.mpr ((List.nodup_range (n := nl.length)).imp fun h q => h (by lia))
  refine ⟨List.nodup_nil, fun _ h => by simp at h, fun _ h => by simp at h, fun _ h => by simp at h, List.nodup_nil, fun p p0 p1 _ _ => ?_, fun p => ?_, ?_⟩
  · refine Classical.byContradiction fun hGG => ?_
    obtain ⟨n, hn, e1, e2⟩ := node p p0 p1
    refine hGG ?_
    clear hGG
    have := hf n hn
    rw [e1] at this
    rw [← this, e2]
    have e3 : (needsOf nl p).filter (fun q => decide (q ∉ ([] : List Int))) = needsOf nl p := List.filter_eq_self.mpr fun q _ => by simp
    rw [e3]
  · constructor
    · intro hp
      simp only [List.map_map, List.mem_map, List.mem_filter, Function.comp_apply] at hp
      refine Classical.byContradiction fun hGG => ?_
      obtain ⟨n, ⟨hn, hz⟩, rfl⟩ := hp
      obtain ⟨b0, b1⟩ := back n hn
      refine hGG ?_
      clear hGG
      refine ⟨b0, b1, by simp, by simp, ?_⟩
      rw [← hf n hn]; simpa using hz
    · intro hR10
      refine Classical.byContradiction fun hGG => ?_
      obtain ⟨p0, p1, _, _, hz⟩ := hR10
      refine hGG ?_
      clear hGG
      refine Classical.byContradiction fun hGG => ?_
      obtain ⟨n, hn, e1, e2⟩ := node p p0 p1
      refine hGG ?_
      clear hGG
      simp only [List.map_map, List.mem_map, List.mem_filter, Function.comp_apply]
      refine ⟨n, ⟨hn, ?_⟩, e1⟩
      rw [← e1, ← hf n hn] at hz
      simpa using hz
  · rw [List.map_map]
    show ((nds.filter _).map (·.i)).Nodup
    exact List.Nodup.sublist ((List.filter_sublist (l := nds)).map _) ids
section
variable {M : Model} {A : Around} {E : Value → Shared → Prop} {s : Shared} {env : Env}
/-- o.name(.., *xs): the bound method is made -/
theorem methodCall_star {o : Expr} {name : Str} {apos pos : Pos} {args : List Expr} {Q : Value → Shared → Prop}
    (h : wpAny M A (eval o env) (fun ov s₁ => wpAny M A (getAttr ov name true) (fun f s₂ => wpAny M A (callWith pos f [] (backTo pos (starEach args env)) []) Q E s₂) E s₁) E s)
    (he : eval (.Call (.Attribute o name apos) args [] pos) env = (do
      let ov ← eval o env
      standAt apos.atName
      let (f, first) ← holding [ov] (do pure (← getAttr ov name true, []))
      callWith pos f first (backTo pos (starEach args env)) []) := by rfl) :
    wpAny M A (eval (.Call (.Attribute o name apos) args [] pos) env) Q E s := by
  rw [he]
  refine wpAny_bind (wpAny_mono h (fun ov s₁ h₁ => wpAny_bind (wpAny_standAt (wpAny_bind (wpAny_holding (wpAny_bind (wpAny_mono h₁ (fun fx s₂ h₂ => wpAny_pure ?_) fun _ _ x => x)))))) fun _ _ x => x)
  exact h₂
theorem callWith_MS {K : Frag} {pos : Pos} {first : List Value} {Q : Value → Shared → Prop} {h₀ : Heap} {L : Addr} {news : List (Addr × Obj)} {q g : Addr} {self : Value} {e : Expr} {rest : List Expr} (_X : K.In h₀) (_N : News h₀ L s.heap news) (_q : (q, methodObj (.ref g) self) ∈ news) (hf : fnIn K g = true)
    (h : wpAny M A (spliced (backTo pos (starEach (e :: rest) env))) (fun vs s₁ => MethP K q g self s₁.heap ∧ wpAny M A (call (.ref q) (first ++ vs)) Q E s₁) E s)
    (he : starEach (e :: rest) env = (false, eval e env) :: starEach rest env := by rfl) (hst : (backTo pos (starEach rest env)).any (·.1) = true := by rfl) :
    wpAny M A (callWith pos (.ref q) first (backTo pos (starEach (e :: rest) env)) []) Q E s := by
  rw [he] at h ⊢
  exact ks_call (by show (false || (backTo pos (starEach rest env)).any (·.1)) = true; rw [hst]; rfl) (keeps_M hf) (evalArgs_plain h)
end
section
variable {prog : Program} {w : World} {A : Around} {E : Value → Shared → Prop} {s : Shared} {h₀ : Heap} {L a : Addr} {m : Str → Option Value} {news : List (Addr × Obj)}
theorem star_ivals {l : List (Int × Tok)} {n : Nat} {Q : List Value → Shared → Prop} (F : Fr h₀ L s.heap m) (N : News h₀ L s.heap news) (ha : (a, listOf (ivals l).toArray n) ∈ news) (hz : l.length ≤ 1000)
    (h : ∀ h', Fr h₀ L h' m → News h₀ L h' news → (∀ b o, s.heap.get? b = some o → h'.get? b = some o) → Q (ivals l) { s with heap := h' }) : StarOf (model prog w) A E (.ref a) Q s := by
  have D := (N _ ha).1
  have hT' : s.TypeIs (.ref a) "list" := ⟨_, D, rfl⟩
  have z : wpAny (model prog w) A (collect (.ref a)) Q E s := by
    refine wpAny_collect_seq a (.inl rfl) D rfl rfl (fun h' hk => ?_) (by simp [ivals, sizeLine]; lia)
    rw [List.toList_toArray]
    obtain ⟨oL, es, ep, hL, r⟩ := F.ns
    exact h h' ⟨⟨oL, es, ep, hk _ _ hL, r⟩, fun b x q => hk _ _ (F.keep b x q), F.above⟩ (fun p hp => ⟨hk _ _ (N p hp).1, (N p hp).2⟩) hk
  unfold StarOf notIterableAtAll
  exact wpAny_bind (wpAny_specialOf hT' PySem.F.slot_list_iter.lookup (wpAny_pure ⟨rfl, z⟩))
theorem lst_item {value slice : PySem.Expr} {H : Addr} {vs : List Value} {v : Value} {n j : Nat} {u : Tok} {Q : Value → Shared → Prop} (N : News h₀ L s.heap news) (hm : (H, listOf vs.toArray n) ∈ news) (hx : vs[j]? = some v) (hz : vs.length ≤ 1000)
    (h : Q v s) (hs : subscripted slice false (.ref H) (.int (j : Int) u) = operate [.ref H, .int (j : Int) u] (getItem (.ref H) (.int (j : Int) u)) := by with_unfolding_all rfl) :
    wpAny (model prog w) A (subscriptTail value slice (.ref H) (.int (j : Int) u)) Q E s := by
  have hl : s.heap.IsList H vs.toArray := PySem.IsL.isList (n := n) (N _ hm).1
  have hj : j < vs.length := by
    rcases Nat.lt_or_ge j vs.length with z | z
    · exact z
    · rw [List.getElem?_eq_none z] at hx; cases hx
  refine tail_any hl.typeIs slot_list_getitem.lookup (wpAny_getItem_list hl (by lia) (by lia) ?_ h) hs
  simpa using hx
theorem pair_item1 {value slice : PySem.Expr} {a : Addr} {x y : Value} {n : Nat} {u : Tok} {Q : Value → Shared → Prop} (ha : s.heap.get? a = some (pairObj x y n)) (h : Q y s)
    (hs : subscripted slice false (.ref a) (.int 1 u) = operate [.ref a, .int 1 u] (getItem (.ref a) (.int 1 u)) := by with_unfolding_all rfl) :
    wpAny (model prog w) A (subscriptTail value slice (.ref a) (.int 1 u)) Q E s := by
  have ht : IsTup s.heap a #[x, y] := ⟨_, ha, rfl, n, rfl⟩
  exact tail_any ht.typeIs slot_tuple_getitem.lookup (getItem_tuple ht (by decide) (by decide) (j := 1) (by rfl) (x := y) (by rfl) h) hs
end
noncomputable def restLed (h g : Heap) (L : Addr) (led : List (Addr × Obj)) : List (Addr × Obj) :=
  (List.range h.objs.size).filterMap fun b => if b = L ∨ b ∈ led.map (·.1) ∨ (g.get? b).isSome then none else (h.get? b).map fun o => (b, o)
theorem restLed_mem {h g : Heap} {L : Addr} {led : List (Addr × Obj)} {p : Addr × Obj} : p ∈ restLed h g L led ↔ p.1 ≠ L ∧ p.1 ∉ led.map (·.1) ∧ g.get? p.1 = none ∧ h.get? p.1 = some p.2 := by
  unfold restLed
  rw [List.mem_filterMap]
  constructor
  · rintro ⟨b, hb, e⟩
    split at e
    · cases e
    · rename_i hn
      rw [not_or, not_or] at hn
      rw [Option.map_eq_some_iff] at e
      obtain ⟨o, ho, rfl⟩ := e
      refine ⟨hn.1, hn.2.1, ?_, ho⟩
      simpa using hn.2.2
  · rintro ⟨h1, h2, h3, h4⟩
    refine ⟨p.1, List.mem_range.mpr (Heap.lt_size h4), ?_⟩
    rw [if_neg (by rw [not_or, not_or]; exact ⟨h1, h2, by simp [h3]⟩), h4]
    rfl
/-- a ground for a segment; all else that lives is in an opaque tail -/
theorem rebase2 {g h : Heap} {L : Addr} {m : Str → Option Value} {led : List (Addr × Obj)} (F : Fr g L h m) (N : News g L h led) :
    Sm2 (fun g2 tl => Al6 (Fr g2 L h m) (News g2 L h (led ++ tl)) (g.StaysIn g2) ((∀ b o, b < L → (∀ p ∈ led, p.1 ≠ b) → h.get? b = some o → g2.get? b = some o)) ((∀ p ∈ led, TailNe p.1 tl)) (∀ b o, b ≠ L → (∀ p ∈ led, p.1 ≠ b) → h.get? b = some o → g2.get? b = some o ∨ (b, o) ∈ tl)) := by
  obtain ⟨g2, F2, N2, st, hold⟩ := rebase F N
  refine ⟨g2, restLed h g2 L led, F2, fun p hp => ?_, st, hold, fun p hp => ⟨fun q hq e => ?_⟩, fun b o hb hl e => ?_⟩
  · rcases List.mem_append.mp hp with hp | hp
    · exact N2 p hp
    · obtain ⟨h1, h2, h3, h4⟩ := restLed_mem.mp hp
      exact ⟨h4, h1, h3⟩
  · exact (restLed_mem.mp hq).2.1 (e ▸ List.mem_map_of_mem hp)
  · cases q : g2.get? b with
    | some o' =>
      have := F2.keep b o' q
      rw [e] at this
      exact .inl (by rw [Option.some.inj this])
    | none =>
      refine .inr (restLed_mem.mpr ⟨hb, fun z => ?_, q, e⟩)
      obtain ⟨p, hp, e'⟩ := List.mem_map.mp z
      exact hl p hp e'
theorem keep2 {g2 h h2 : Heap} {L : Addr} {m2 : Str → Option Value} {led led2 tl : List (Addr × Obj)} (F2 : Fr g2 L h2 m2) (N2 : News g2 L h2 led2)
    (all : ∀ b o, b ≠ L → (∀ p ∈ led, p.1 ≠ b) → h.get? b = some o → g2.get? b = some o ∨ (b, o) ∈ tl) (hs : ∀ q ∈ tl, q ∈ led2) :
    ∀ b o, b ≠ L → (∀ p ∈ led, p.1 ≠ b) → h.get? b = some o → h2.get? b = some o := fun b o hb hl e => by
  rcases all b o hb hl e with z | z
  · exact F2.keep b o z
  · exact (N2 _ (hs _ z)).1
theorem ord_eq : ∀ a b : List UInt8, Builtin.Bytes.order a b = .eq ↔ a = b
  | [], [] => by simp [Builtin.Bytes.order]
  | [], _ :: _ => by simp [Builtin.Bytes.order]
  | _ :: _, [] => by simp [Builtin.Bytes.order]
  | x :: xs, y :: ys => by
    have ih := ord_eq xs ys
    simp only [Builtin.Bytes.order]
    by_cases h1 : x < y
    · have : x ≠ y := fun q => UInt8.lt_irrefl _ (q ▸ h1)
      simp [h1, this]
    · by_cases h2 : x > y
      · have : x ≠ y := fun q => UInt8.lt_irrefl _ (q ▸ h2)
        simp [h1, h2, this]
      · have : x = y := UInt8.le_antisymm (UInt8.not_lt.mp h2) (UInt8.not_lt.mp h1)
        subst this
        simp only [h1, if_false, List.cons.injEq, true_and, gt_iff_lt]
        exact ih
theorem ord_lt : ∀ a b : List UInt8, Builtin.Bytes.order a b = .lt ↔ Builtin.Bytes.order b a = .gt
  | [], [] => by simp [Builtin.Bytes.order]
  | [], _ :: _ => by simp [Builtin.Bytes.order]
  | _ :: _, [] => by simp [Builtin.Bytes.order]
  | x :: xs, y :: ys => by
    have ih := ord_lt xs ys
    simp only [Builtin.Bytes.order]
    by_cases h1 : x < y
    · have h2 : ¬ y < x := fun q => UInt8.lt_irrefl _ (UInt8.lt_trans h1 q)
      simp [h1, h2]
    · by_cases h2 : y < x
      · simp [h1, h2]
      · simp only [h1, h2, if_false, gt_iff_lt]
        exact ih
theorem ord_trans : ∀ a b c : List UInt8, Builtin.Bytes.order a b = .lt → Builtin.Bytes.order b c = .lt → Builtin.Bytes.order a c = .lt
  | [], [], c, h, _ => by simp [Builtin.Bytes.order] at h
  | [], _ :: _, [], _, h => by simp [Builtin.Bytes.order] at h
  | [], _ :: _, _ :: _, _, _ => by simp [Builtin.Bytes.order]
  | _ :: _, [], c, h, _ => by simp [Builtin.Bytes.order] at h
  | _ :: _, _ :: _, [], _, h => by simp [Builtin.Bytes.order] at h
  | x :: xs, y :: ys, z :: zs, h, k => by
    have ih := ord_trans xs ys zs
    simp only [Builtin.Bytes.order] at h k ⊢
    by_cases h1 : x < y
    · by_cases k1 : y < z
      · simp [UInt8.lt_trans h1 k1]
      · by_cases k2 : y > z
        · simp [k1, k2] at k
        · have : y = z := UInt8.le_antisymm (UInt8.not_lt.mp k2) (UInt8.not_lt.mp k1)
          subst this
          simp [h1]
    · by_cases h2 : x > y
      · simp [h1, h2] at h
      · have : x = y := UInt8.le_antisymm (UInt8.not_lt.mp h2) (UInt8.not_lt.mp h1)
        subst this
        simp only [h1, h2, if_false] at h
        by_cases k1 : x < z
        · simp [k1]
        · by_cases k2 : x > z
          · simp [k1, k2] at k
          · simp only [k1, k2, if_false] at k ⊢
            exact ih h k
theorem ord_three (a b : List UInt8) : a = b ∨ Builtin.Bytes.order a b = .lt ∨ Builtin.Bytes.order b a = .lt := by
  cases h : Builtin.Bytes.order a b with
  | eq => exact .inl ((ord_eq a b).mp h)
  | lt => exact .inr (.inl rfl)
  | gt => exact .inr (.inr ((ord_lt b a).mpr h))
/-- what the order of entries says -/
theorem entLt (x y : Ent) : x.lt y = true ↔ (Builtin.Bytes.order x.k.toList y.k.toList = .lt ∨ (x.k.toList = y.k.toList ∧ x.p < y.p)) := by
  unfold Ent.lt
  by_cases h : x.k.toList = y.k.toList
  · have : Builtin.Bytes.order y.k.toList y.k.toList = .eq := (ord_eq _ _).mpr rfl
    simp [h, this]
  · simp [h]
theorem ord_irr (a : List UInt8) : Builtin.Bytes.order a a ≠ .lt := by rw [(ord_eq a a).mpr rfl]; simp
theorem ord_asym {a b : List UInt8} (h : Builtin.Bytes.order a b = .lt) : Builtin.Bytes.order b a ≠ .lt := fun k => ord_irr a (ord_trans a b a h k)
theorem entAsym (x y : Ent) (h : x.lt y = true) : y.lt x = false := by
  cases q : y.lt x with
  | false => rfl
  | true =>
    rw [entLt] at h q
    exfalso
    rcases h with h | ⟨h, h'⟩
    · rcases q with q | ⟨q, q'⟩
      · exact ord_asym h q
      · rw [q] at h; exact ord_irr _ h
    · rcases q with q | ⟨q, q'⟩
      · rw [h] at q; exact ord_irr _ q
      · lia
theorem entNot (x y : Ent) : x.lt y = false ↔ (Builtin.Bytes.order y.k.toList x.k.toList = .lt ∨ (x.k.toList = y.k.toList ∧ y.p ≤ x.p)) := by
  constructor
  · intro h
    have hn : ¬ (x.lt y = true) := by rw [h]; simp
    rw [entLt, not_or] at hn
    rcases ord_three x.k.toList y.k.toList with e | e | e
    · right
      refine ⟨e, ?_⟩
      have := hn.2
      rw [not_and] at this
      have := this e
      lia
    · exact absurd e hn.1
    · exact .inl e
  · intro h
    cases q : x.lt y with
    | false => rfl
    | true =>
      rw [entLt] at q
      exfalso
      rcases h with h | ⟨h, h'⟩
      · rcases q with q | ⟨q, q'⟩
        · exact ord_asym h q
        · rw [q] at h; exact ord_irr _ h
      · rcases q with q | ⟨q, q'⟩
        · rw [h] at q; exact ord_irr _ q
        · lia
theorem ltOk : LtOk := ⟨entAsym, fun x y z h k => by
  rw [entNot] at h k ⊢
  rcases h with h | ⟨h, h'⟩
  · rcases k with k | ⟨k, k'⟩
    · exact .inl (ord_trans _ _ _ h k)
    · rw [k]; exact .inl h
  · rcases k with k | ⟨k, k'⟩
    · rw [h] at k; exact .inl k
    · exact .inr ⟨k.trans h, by lia⟩⟩
theorem mode11 : True := by
  w_top off
  k_with_none
  trivial
structure Row where
  r : Addr
  l : List (Int × Tok)
  n : Nat
noncomputable def Row.obj (r : Row) : Obj := listOf (ivals r.l).toArray r.n
noncomputable def rowsObj (rows : List Row) (n : Nat) : Obj := listOf (rows.map fun r => Value.ref r.r).toArray n
noncomputable def keysObj (ks : List (Array UInt8 × Tok)) (n : Nat) : Obj := listOf (ks.map fun k => Value.bytes k.1 k.2).toArray n
noncomputable def rowLed (rows : List Row) : List (Addr × Obj) := rows.map fun r => (r.r, r.obj)
noncomputable def nlOf (rows : List Row) : List (List Int) := rows.map fun r => r.l.map (·.1)
noncomputable def inAddrs (A0 K0 : Addr) (rows : List Row) : List Addr := A0 :: K0 :: rows.map (·.r)
theorem get_above {g : Heap} {L b : Nat} (h : g.objs.size ≤ L) (hb : L ≤ b) : g.get? b = none := Heap.get?_none_of_le (by lia)
theorem rng_small {b : Int} (h0 : 0 ≤ b) (h1 : b ≤ 1000) : Builtin.Range.small 0 b 1 = true := by
  simp only [Builtin.Range.small, Builtin.Range.rangeFitsLong, Builtin.Range.rangeSize]
  split <;> (simp; lia)
theorem rng_size (n : Nat) : Builtin.Range.rangeSize 0 (n : Int) 1 = (n : Int) := by
  rw [rangeSize_nat]; lia
noncomputable def oMap (S A0 K0 : Addr) : Str → Option Value := fun y => if y = Str.ofString "sorter" then some (Value.ref S) else List.lookup y [(Str.ofString "needs", Value.ref A0), (Str.ofString "keys", Value.ref K0)].reverse
noncomputable def kLt (ks : List (Array UInt8 × Tok)) (p q : Int) : Bool := if (ks.getD p.toNat (#[], 0)).1.toList = (ks.getD q.toNat (#[], 0)).1.toList then decide (p < q) else Builtin.Bytes.order (ks.getD p.toNat (#[], 0)).1.toList (ks.getD q.toNat (#[], 0)).1.toList == .lt
noncomputable def qMap (S A0 K0 H O : Addr) : Str → Option Value := fun y => if y = Str.ofString "heap" then some (Value.ref H) else if y = Str.ofString "order" then some (Value.ref O) else if y = Str.ofString "sorter" then some (Value.ref S) else List.lookup y [(Str.ofString "needs", Value.ref A0), (Str.ofString "keys", Value.ref K0)].reverse
/-- the state of the second loop -/
structure OAt (prog : Program) (w : World) (ks : List (Array UInt8 × Tok)) (S dx D R H O : Addr) (nds0 : List Nd) (L I : Addr) (h : Heap) (nds : List Nd) (rl : List (Int × Tok)) (es : List Ent) (ord : List (Int × Tok)) (f : Int → Int) (po nf : Int) (rn hn on : Nat) : Prop where
  sA : SorterAt prog w h S dx D (.ref R) po nf nds
  hR : h.get? R = some (listOf (ivals rl).toArray rn)
  hH : h.get? H = some (entList es hn)
  hO : h.get? O = some (listOf (ivals ord).toArray on)
  hE : ∀ e ∈ es, h.get? e.a = some e.obj ∧ e.a ≠ L ∧ e.a ≠ I ∧ ks[e.p.toNat]? = some (e.k, e.kt)
  np : NpIs nds f
  sh : nds.map Nd.shape = nds0.map Nd.shape
theorem OAt.keep {prog : Program} {w : World} {ks : List (Array UInt8 × Tok)} {S dx D R H O : Addr} {nds0 : List Nd} {L I : Addr} {h h' : Heap} {nds : List Nd} {rl : List (Int × Tok)} {es : List Ent} {ord : List (Int × Tok)} {f : Int → Int} {po nf : Int} {rn hn on : Nat}
    (x : OAt prog w ks S dx D R H O nds0 L I h nds rl es ord f po nf rn hn on) (k : ∀ b o, b ∈ H :: O :: R :: sAddrs S dx D nds0 ∨ (∃ e ∈ es, b = e.a) → h.get? b = some o → h'.get? b = some o) : OAt prog w ks S dx D R H O nds0 L I h' nds rl es ord f po nf rn hn on :=
  ⟨x.sA.keep fun b hb o e => k b o (.inl (by rw [shape_addrs S dx D x.sh] at hb; simp [hb])) e, k _ _ (by first | exact mc0 | exact mc1 | exact mc2 | exact mc3 | exact mc4 | exact mc5 | exact mc6 | exact mc7 | simp) x.hR, k _ _ (by first | exact mc0 | exact mc1 | exact mc2 | exact mc3 | exact mc4 | exact mc5 | exact mc6 | exact mc7 | simp) x.hH, k _ _ (by first | exact mc0 | exact mc1 | exact mc2 | exact mc3 | exact mc4 | exact mc5 | exact mc6 | exact mc7 | simp) x.hO, fun e he => ⟨k _ _ (.inr ⟨e, he, rfl⟩) (x.hE e he).1, (x.hE e he).2⟩, x.np, x.sh⟩
theorem SorterAt.notPair {prog : Program} {w : World} {h : Heap} {S dx D : Addr} {rd : Value} {po nf : Int} {nds : List Nd} (s : SorterAt prog w h S dx D rd po nf nds) {b : Addr} (hb : b ∈ sAddrs S dx D nds) {x y : Value} {n : Nat} (e : h.get? b = some (pairObj x y n)) : False := by
  simp only [sAddrs, memC, List.mem_flatMap, List.not_mem_nil, or_false] at hb
  rcases hb with rfl | rfl | rfl | ⟨nd, hn, rfl | rfl | rfl⟩
  · rw [s.atS] at e; simp [pairObj] at e
  · refine Classical.byContradiction fun hGG => ?_
    obtain ⟨_, _, _, _, _, _, _, z⟩ := s.atX
    refine hGG ?_
    clear hGG
    rw [z] at e; simp [pairObj] at e
  · refine Classical.byContradiction fun hGG => ?_
    obtain ⟨oD, z, es, ep, hx, _⟩ := s.atD
    refine hGG ?_
    clear hGG
    rw [z] at e
    rw [Option.some.inj e] at hx
    exact absurd hx.1 (by simp [pairObj])
  · rw [(s.atN nd hn).x] at e; simp [Nd.obj, infoObj, pairObj] at e
  · rw [(s.atN nd hn).d] at e; simp [pairObj] at e
  · rw [(s.atN nd hn).l] at e; simp [Nd.lst, pairObj] at e
theorem OAt.entOff {prog : Program} {w : World} {ks : List (Array UInt8 × Tok)} {S dx D R H O : Addr} {nds0 : List Nd} {L I : Addr} {h : Heap} {nds : List Nd} {rl : List (Int × Tok)} {es : List Ent} {ord : List (Int × Tok)} {f : Int → Int} {po nf : Int} {rn hn on : Nat}
    (x : OAt prog w ks S dx D R H O nds0 L I h nds rl es ord f po nf rn hn on) : ∀ e ∈ es, e.a ≠ H ∧ e.a ≠ O ∧ e.a ∉ R :: sAddrs S dx D nds := fun e he => by
  have z := (x.hE e he).1
  refine ⟨fun q => ?_, fun q => ?_, fun q => ?_⟩
  · rw [q, x.hH] at z; simp [Ent.obj, pairObj] at z
  · rw [q, x.hO] at z; simp [Ent.obj, pairObj] at z
  · rcases List.mem_cons.mp q with q | q
    · rw [q, x.hR] at z; simp [Ent.obj, pairObj] at z
    · exact x.sA.notPair q z
theorem rl_len {n : Nat} {l : List Int} (hn : l.Nodup) (hm : ∀ p ∈ l, 0 ≤ p ∧ p < (n : Int)) : l.length ≤ n := by
  have := len_le (l := l) (l' := (List.range n).map fun (k : Nat) => (k : Int)) hn fun x hx => by
    obtain ⟨h0, h1⟩ := hm x hx
    exact List.mem_map.mpr ⟨x.toNat, List.mem_range.mpr (by lia), by lia⟩
  simpa using this
theorem ent_kLt {ks : List (Array UInt8 × Tok)} {x y : Ent} (hx : ks[x.p.toNat]? = some (x.k, x.kt)) (hy : ks[y.p.toNat]? = some (y.k, y.kt)) : kLt ks x.p y.p = x.lt y := by
  unfold kLt Ent.lt
  simp [hx, hy]
section
--SETATTR
--APART
--COMP
local macro_rules | `(tactic| walk_at "subscriptTail Name UnaryOp ref int") => `(tactic| (k_here; (with_reducible refine gd24 ?_); k_dflt (refine' lst_last ?k1 ?k2 ?k3 ?_ ?hs; (case k1 => k_asm); (case k2 => k_mem); (case k3 => first | assumption | lia); (case hs => exact rfl); k_whole)))
local macro_rules | `(tactic| walk_at "subscriptTail Call Name cons nil Constant ref int") => `(tactic| (k_here; k_dflt (refine' pair_item1 ?k1 ?_ ?hs; (case k1 => assumption); (case hs => exact rfl))))
local macro_rules | `(tactic| k_all) => `(tactic| exact TailNe.ne (by assumption))
local macro_rules | `(tactic| walk_at "eval Call Attribute") => `(tactic| (k_here; (with_reducible refine gd25 ?_); k_dflt (refine methodCall_star ?_)))
local macro_rules | `(tactic| walk_at "callWith ref") => `(tactic| (k_here; (with_reducible refine gd26 ?_); k_dflt (refine' callWith_MS ?k1 ?k2 ?k3 ?k4 ?_; (case k1 | k2 => k_asm); (case k3 => k_mem); (case k4 => k_is); k_whole)))
local macro_rules | `(tactic| walk_at "StarOf ref") => `(tactic| (k_here; k_dflt (refine' star_ivals ?k1 ?k2 ?m ?z ?_; (case k1 | k2 => k_asm); (case m => k_mem); (case z => lia); k_whole); intro h' F' N' hk'; (try k_sweep); try dsimp only [List.nil_append, List.cons_append]))
local macro_rules | `(tactic| walk_at "subscriptTail Name Name ref int") => `(tactic| (k_here; (with_reducible refine gd6 ?_); k_dflt (refine' lst_item ?k1 ?k2 ?k3 ?k4 ?_ ?hs; (case k1 => k_asm); (case k2 => k_mem); (case k3 | k4 => assumption); (case hs => exact rfl); k_whole)))
theorem order_spec {prog : Program} {w : World} {loose : List Str} {mean : ExcName → Option Value} {mg mb : Str → Option Value} 
  {dp un : Nat} {gd : Option (List Code)} {cn : Str} {cs : Scope} {a : Addr} {ccd : Value} {cl : List (Str × Addr)} {outer : List Env} {h₀ : Heap} {L : Addr} {m : Str → Option Value} {s : Shared} 
  {A0 K0 : Addr} {rows : List Row} {ks : List (Array UInt8 × Tok)} {n0 n1 : Nat}
    {Q E : Value → Shared → Prop}
    (FF : s.heap.FunFrames h₀ outer) (F : Fr h₀ L s.heap m) (X : (Mine.hd.heap_1 w.params).In h₀) (T : Top Mine.hd.view_1 loose mean mg mb h₀) (hk : cs.kind = .function) 
    (hA0 : s.heap.get? A0 = some (rowsObj rows n0)) (hK0 : s.heap.get? K0 = some (keysObj ks n1)) (hrow : ∀ r ∈ rows, s.heap.get? r.r = some r.obj)
    (hoff : ∀ b ∈ inAddrs A0 K0 rows, b ≠ L ∧ h₀.get? b = none) (hofr : ∀ b ∈ inAddrs A0 K0 rows, b ∉ frs outer)
    (hnl : NlOk (nlOf rows)) (hz : rows.length ≤ 50) (hkl : ks.length = rows.length)
    (hd : dp + 100 < recursionLimit) (hu : un + 800 < cLine)
    (ret : ∀ h' tk' O on ord, ModF (inAddrs A0 K0 rows) (L :: frs outer) s.heap h' → (∀ b ∈ inAddrs A0 K0 rows, ∀ o, s.heap.get? b = some o → h'.get? b = some o) → h'.get? O = some (listOf (ivals ord).toArray on) → (ord.length = rows.length) →
      Greedy (nlOf rows) (kLt ks) (ord.map (·.1)) → Q (.ref O) { s with heap := h', toks := tk' }) :
    wpAny (model prog w) (ktrTop dp un gd cn cs L a ccd cl outer) (call (.ref 193) [.ref A0, .ref K0]) Q E s := by
  have N : News h₀ L s.heap ((A0, rowsObj rows n0) :: (K0, keysObj ks n1) :: rowLed rows) := by
    intro q hq
    simp only [memC, rowLed, List.mem_map] at hq
    rcases hq with rfl | rfl | ⟨r, hr, rfl⟩
    · exact ⟨hA0, hoff _ (by first | exact mc0 | exact mc1 | exact mc2 | exact mc3 | exact mc4 | simp [inAddrs])⟩
    · exact ⟨hK0, hoff _ (by first | exact mc0 | exact mc1 | exact mc2 | exact mc3 | exact mc4 | simp [inAddrs])⟩
    · exact ⟨hrow r hr, hoff _ (by simp [inAddrs]; exact .inr (.inr ⟨r, hr, rfl⟩))⟩
  refine wpAny_call ?_
  k_dflt refine' enterF (binds := [(Str.ofString "needs", Value.ref A0), (Str.ofString "keys", Value.ref K0)]) ?k1 ?k2 ?k3 ?k4 ?k5 ?kA ?kF ?kK ?k6 ?k7 ?k8 ?k9 ?kB ?_ ?c2 ?c3 ?c4 ?c5
  k_dflt ((case kA | kF => exact rfl); (case kK => first | assumption | exact rfl); (case k1 | k2 | k3 | k4 | k5 => k_asm); (case k6 | k7 => k_is); (case k8 => ktr_room); (case k9 => exact BindsTo.of_eq rfl); (case c5 => decide); (case kB => exact locs rfl); (case c2 | c3 | c4 => exact rfl); k_whole)
  intro g' L' h' hHeld' hSize' hKeep' F' N' FF' hA' hLt' X' T'
  refine hide fun QA hQA => ?_
  have N1 : News g' L' h' [(A0, rowsObj rows n0)] := fun p hp => N' p (by
    rw [List.mem_singleton] at hp
    subst hp; exact .head _)
  refine Classical.byContradiction fun hGG => ?_
  obtain ⟨g1, F1, N1, st1, hold1⟩ := rebase F' N1
  refine hGG ?_
  clear hGG
  have X1 := X'.keeps st1
  have T1 := T'.keeps st1
  have frO : ∀ b ∈ frs (envX cn cs L a ccd cl :: outer), b ∉ inAddrs A0 K0 rows := fun b hb hb2 => by
    rcases kts_mem' hb with q | q
    · exact (hoff b hb2).1 q
    · exact hofr b hb2 q
  have B1 : Below (ktrTop dp un gd cn cs L a ccd cl outer) g' (envX cn cs L a ccd cl :: outer) g1 := belowF hA' st1 FF' hold1 hLt' (fun b hb p hp => by
    rw [List.mem_singleton] at hp
    subst hp
    exact fun q => frO b hb (by simp [inAddrs, ← q]))
  have Fk : Hold (Fr h₀ L s.heap m) := ⟨F⟩
  have lr : (rows.map fun r => Value.ref r.r).length ≤ 1000 := by simp; lia
  clear F N
  unfold rowsObj at N1
  k_with "exec For Name Call cons nil" => (refine forH g' rfl rfl ?_ (fun _ => rfl) (by passes_own))
  k_steps
  rename_i S dx _ lA lS _ _ _ _ _ _ _ D _ oD hlo _ _ hDi _ lD _ _ _ _ _ _ _ _ hP _ FP NP _ _ hs tks _ _ _ hrng lF lN hsub
  k_with_none
  have mD := lN _ (.head _)
  have mS := lN _ (.tail _ (.head _))
  have mX := lN _ (.tail _ (.tail _ (.head _)))
  have mA := lN _ (.tail _ (.tail _ (.tail _ (.head _))))
  dsimp only at mD mS mX mA
  have fresh1 : ∀ c : Addr, g1.get? c = none → c ≠ A0 → s.heap.get? c = none := fun c hc hcA => by
    cases q : s.heap.get? c with
    | none => rfl
    | some o =>
      have hlt : @LT.lt Nat _ c L' := by rw [← hSize']; exact Heap.lt_size q
      rw [hold1 c o hlt (fun p hp => by rw [List.mem_singleton] at hp; subst hp; exact Ne.symm hcA) (hKeep' c o q)] at hc
      cases hc
  have keptH0 : ∀ b o, s.heap.get? b = some o → hs.get? b = some o := fun b o e => by
    by_cases q : b = A0
    · rw [q, hA0] at e; cases e; rw [q]; exact mA.1
    · have hlt : @LT.lt Nat _ b L' := by rw [← hSize']; exact Heap.lt_size e
      exact lF.keep b o (hold1 b o hlt (fun p hp => by rw [List.mem_singleton] at hp; subst hp; exact Ne.symm q) (hKeep' b o e))
  have gsub : ∀ {b : Addr}, g1.get? b = none → g'.get? b = none := fun {b} e => by
    cases q : g'.get? b with
    | none => rfl
    | some o => rw [st1 _ _ q] at e; cases e
  have hSA0 : SorterAt prog w hs S dx D .none 0 0 [] := ⟨mS.1, ⟨_, _, _, _, _, _, _, mX.1⟩, ⟨oD, mD.1, hDi⟩, fun n hn => absurd hn List.not_mem_nil, (by first | exact mc0 | exact mc1 | exact mc2 | exact mc3 | exact mc4 | exact mc5 | exact mc6 | exact mc7 | exact mc8 | exact mc9 | exact mc10 | exact mc11 | simp), Nat.ne_of_lt lD.2.1, fun n hn => absurd hn List.not_mem_nil, hlo⟩
  have hlen : (nlOf rows).length = rows.length := by simp [nlOf]
  have lF2 := fr_sub lF st1 F'
  have frS : ∀ b ∈ frs (envX cn cs L a ccd cl :: outer), ∃ o, s.heap.get? b = some o ∧ ∀ vs, o.data ≠ .fields vs := fun b hb => by
    rcases kts_mem' hb with q | q
    · refine Classical.byContradiction fun hGG => ?_
      obtain ⟨oL, es, ep, hL, hLd, _⟩ := Fk.out.ns
      refine hGG ?_
      clear hGG
      rw [q]
      exact ⟨oL, hL, fun vs z => by rw [hLd] at z; cases z⟩
    · exact (frs_mem FF q).2
  have inOff : ∀ b ∈ inAddrs A0 K0 rows, b ≠ L' ∧ g'.get? b = none := fun b hb => by
    have hb2 : ∃ q ∈ (A0, rowsObj rows n0) :: (K0, keysObj ks n1) :: rowLed rows, q.1 = b := by
      simp only [inAddrs, memC, List.mem_map] at hb
      rcases hb with rfl | rfl | ⟨r, hr, rfl⟩
      · exact ⟨_, .head _, rfl⟩
      · exact ⟨_, .tail _ (.head _), rfl⟩
      · exact ⟨(r.r, r.obj), .tail _ (.tail _ (List.mem_map.mpr ⟨r, hr, rfl⟩)), rfl⟩
    obtain ⟨q, hq, rfl⟩ := hb2
    exact (N' q hq).2
  have ltH : ∀ b o, s.heap.get? b = some o → @LT.lt Nat _ b L' := fun b o e => by rw [← hSize']; exact Heap.lt_size e
  refine loop_rng rfl hrng (rng_small (by lia) (by lia)) (rng_size rows.length) lF2 (fun I j mm hh => Sm1 (fun nds => Al5 (NdsOk (nlOf rows) j nds) (SorterAt prog w hh S dx D .none 0 0 nds) ((∀ b ∈ sAddrs S dx D nds, b ≠ L' ∧ g'.get? b = none ∧ b ≠ I ∧ s.heap.get? b = none)) ((∀ b o, s.heap.get? b = some o → hh.get? b = some o)) (∀ z, z ≠ Str.ofString "place" → mm z = oMap S A0 K0 z))) ?h0 ?stab ⟨?turn⟩ ⟨?done⟩
  case h0 =>
    intro I h2 fI hM
    have nI : ∀ {b : Addr} {o : Obj}, hs.get? b = some o → b ≠ I := fun e q => ne_of_fresh fI e q.symm
    refine ⟨[], NdsOk.zero _, hSA0.mod hM (fun b hb => List.not_mem_nil), ?_, fun b o e => hM.keep b o List.not_mem_nil (keptH0 b o e), fun z hz => rfl⟩
    intro b hb
    have hb2 : b = S ∨ b = dx ∨ b = D := by simpa [sAddrs] using hb
    have aA : ∀ c : Addr, A0 < c → c ≠ A0 := fun c h => Nat.ne_of_gt h
    rcases hb2 with rfl | rfl | rfl
    · exact ⟨mS.2.1, gsub mS.2.2, nI mS.1, fresh1 _ mS.2.2 (aA _ (Nat.lt_trans lA lS))⟩
    · exact ⟨mX.2.1, gsub mX.2.2, nI mX.1, fresh1 _ mX.2.2 (aA _ lA)⟩
    · exact ⟨mD.2.1, gsub mD.2.2, nI mD.1, fresh1 _ mD.2.2 (aA _ lD.2.2)⟩
  case stab =>
    intro I j mm h2 h3 fI hR1 hM
    refine Classical.byContradiction fun hGG => ?_
    obtain ⟨nds, a1, a2, a3, a4, a5⟩ := hR1
    refine hGG ?_
    clear hGG
    refine ⟨nds, a1, a2.mod hM (fun b hb q => ?_), a3, fun b o e => hM.keep b o (fun q => ?_) (a4 b o e), a5⟩
    · rcases List.mem_cons.mp q with q | q
      · exact (a3 b hb).1 q
      · exact (a3 b hb).2.2.1 (List.mem_singleton.mp q)
    · rcases List.mem_cons.mp q with q | q
      · exact Nat.ne_of_lt (ltH b o e) q
      · exact ne_of_fresh fI (keptH0 b o e) (List.mem_singleton.mp q).symm
  case turn =>
    intro I oI j t mm hh tk2 fI fI0 hIL hI hj hR2 F3
    refine Classical.byContradiction fun hGG => ?_
    obtain ⟨nds, ndok, sA, off, keptH, hmm⟩ := hR2
    refine hGG ?_
    clear hGG
    replace F3 : Fr g' L' hh _ := F3
    refine hide fun QB hQB => ?_
    obtain ⟨rw1, hrw⟩ : ∃ r, rows[j]? = some r := ⟨_, List.getElem?_eq_getElem hj⟩
    have hrm := List.mem_of_getElem? hrw
    refine Classical.byContradiction fun hGG => ?_
    obtain ⟨t1, t2, t3, t4, tp, tf, nd, hX⟩ := sA.atX
    obtain ⟨oD1, hDD1, hDk1⟩ := sA.atD
    refine hGG ?_
    clear hGG
    have N3 : News g' L' hh ((A0, listOf (rows.map fun r => Value.ref r.r).toArray n0) :: (rw1.r, listOf (ivals rw1.l).toArray rw1.n) :: (I, oI) :: sLed S dx D (dictOf (sDict w t1 t2 t3 t4 D .none (.int 0 tp) (.int 0 tf)) nd) oD1 nds) := by
      refine newsCons ?_ (newsCons ?_ (newsCons ?_ ?_))
      · exact ⟨keptH _ _ hA0, inOff _ (by first | exact mc0 | exact mc1 | exact mc2 | exact mc3 | exact mc4 | simp [inAddrs])⟩
      · exact ⟨keptH _ _ (hrow _ hrm), inOff _ (by simp [inAddrs]; exact .inr (.inr ⟨rw1, hrm, rfl⟩))⟩
      · exact ⟨hI, hIL, fI0⟩
      · intro q hq
        exact sA.news hX hDD1 (fun b hb => ⟨(off b hb).1, (off b hb).2.1⟩) q hq
    simp only [sLed] at N3
    refine Classical.byContradiction fun hGG => ?_
    obtain ⟨g3, F4, N4, st3, hold3⟩ := rebase F3 N3
    refine hGG ?_
    clear hGG
    have X3 := X'.keeps st3
    have T3 := T'.keeps st3
    have ej : (0 : Int) + (j : Int) * 1 = (j : Int) := by lia
    rw [ej] at F4
    have F5 : Fr g3 L' hh (fun y => if y = Str.ofString "place" then some (Value.int (j : Int) t) else if y = Str.ofString "sorter" then some (Value.ref S) else List.lookup y [(Str.ofString "needs", Value.ref A0), (Str.ofString "keys", Value.ref K0)].reverse) := fr_eq F4 (fun z => by
      by_cases hz : z = Str.ofString "place"
      · simp [hz]
      · simp only [hz, if_false]; rw [hmm z hz]; rfl)
    have hrv : (rows.map fun r => Value.ref r.r)[j]? = some (.ref rw1.r) := by simp [hrw]
    have hnj : (nlOf rows)[j]? = some (rw1.l.map (·.1)) := by simp [nlOf, hrw]
    have hrl : rw1.l.length ≤ 100 := by
      have := needs_len hnl hnj
      simp at this
      lia
    have keepN : Hold (News g3 L' hh _) := ⟨N4⟩
    have keepF : Hold (Fr g' L' hh _) := ⟨F3⟩
    clear F3 F4 N3 lF lN FP NP lF2
    k_with "call ref" => (refine' call_meth ?N ?q (hold_of ?_); (case N => k_asm); (case q => k_mem))
    k_steps
    k_with_none
    (rename Fr g3 L' _ _ => lF); (rename News g3 L' _ _ => lN)
    rename_i q5 _ _ h5 hk5
    have kk := turn_keep keepN.out lF lN hold3 [] (fun q hq _ => .tail _ hq)
    have inLed : ∀ b ∈ sAddrs S dx D nds, ∃ q ∈ (A0, listOf (rows.map fun r => Value.ref r.r).toArray n0) :: (rw1.r, listOf (ivals rw1.l).toArray rw1.n) :: (I, oI) :: sLed S dx D (dictOf (sDict w t1 t2 t3 t4 D .none (.int 0 tp) (.int 0 tf)) nd) oD1 nds, q.1 = b := fun b hb => by
      rw [← sLed_addrs S dx D (dictOf (sDict w t1 t2 t3 t4 D .none (.int 0 tp) (.int 0 tf)) nd) oD1] at hb
      refine Classical.byContradiction fun hGG => ?_
      obtain ⟨q, hq, e⟩ := List.mem_map.mp hb
      refine hGG ?_
      clear hGG
      exact ⟨q, .tail _ (.tail _ (.tail _ hq)), e⟩
    have sA5 : SorterAt prog w h5 S dx D .none 0 0 nds := sA.keep (fun b hb o e => kk b o (.inr (inLed b hb)) List.not_mem_nil e)
    have off5 : ∀ b ∈ sAddrs S dx D nds, b ≠ L' ∧ g3.get? b = none := fun b hb => by
      obtain ⟨q, hq, rfl⟩ := inLed b hb
      exact (keepN.out q hq).2
    have kept5 : ∀ b o, s.heap.get? b = some o → h5.get? b = some o := fun b o e => kk b o (.inl (ltH b o e)) List.not_mem_nil (keptH b o e)
    have FF3 : hh.FunFrames g' (envX cn cs L a ccd cl :: outer) := funFrames_at FF' fun b hb => by
      refine Classical.byContradiction fun hGG => ?_
      obtain ⟨o, ho, hd⟩ := frS b hb
      refine hGG ?_
      clear hGG
      exact ⟨o, keptH b o ho, hd⟩
    have B3 := belowF hA' st3 FF3 hold3 hLt' (fun b hb p hp q => by
      refine Classical.byContradiction fun hGG => ?_
      obtain ⟨o, ho, _⟩ := frS b hb
      refine hGG ?_
      clear hGG
      simp only [memC] at hp
      rcases hp with rfl | rfl | rfl | hp
      · exact frO b hb (by simp [inAddrs, ← q])
      · exact frO b hb (by simp [inAddrs]; exact .inr (.inr ⟨rw1, hrm, q⟩))
      · exact ne_of_fresh fI (keptH0 b o ho) q
      · have hb2 : b ∈ sAddrs S dx D nds := by
          rw [← sLed_addrs S dx D (dictOf (sDict w t1 t2 t3 t4 D .none (.int 0 tp) (.int 0 tf)) nd) oD1]
          exact List.mem_map.mpr ⟨p, by simpa only [sLed, memC] using hp, q⟩
        rw [(off b hb2).2.2.2] at ho; cases ho)
    have hI5 : h5.get? I = some oI := kk I oI (.inr ⟨(I, oI), (by first | exact mc0 | exact mc1 | exact mc2 | exact mc3 | exact mc4 | exact mc5 | exact mc6 | exact mc7 | exact mc8 | exact mc9 | exact mc10 | exact mc11 | simp), rfl⟩) List.not_mem_nil hI
    refine ⟨?_⟩
    simp only [List.nil_append, List.cons_append, List.append_nil]
    have ndn := ndok.new
    k_dflt refine add_code B3 lF X3 T3 rfl sA5 off5 (fun n hn q => by have := ndn n hn; lia) (fun n hn => Nat.le_trans (ndok.scLen n hn) (by lia)) (fun q hq => by
      refine Classical.byContradiction fun hGG => ?_
      obtain ⟨y0, y1⟩ := hnl.lt j _ hnj q.1 (List.mem_map_of_mem hq)
      obtain ⟨n, hn, e, _⟩ := ndok.has y0 y1
      refine hGG ?_
      clear hGG
      exact ⟨n, hn, e⟩) (by rw [ndok.len]; lia) hrl (by first | exact roomB hd rfl | exact roomA hd rfl | ktr_room) (by first | exact roomB hu rfl | exact roomA hu rfl | ktr_units) ?_
    intro h6 tk6 x6 d6 l6 tn6 hM fx fd fl sA6
    refine wpAny_execs_nil ?_
    have F6 := hM.fr (fr_sub lF st3 keepF.out) (fun b hb => ⟨(off b hb).1, (off b hb).2.1⟩)
    have newOff : ∀ c : Addr, h5.get? c = none → c ≠ L' ∧ g'.get? c = none ∧ c ≠ I ∧ s.heap.get? c = none := fun c fc => by
      have z := fr_new (fr_sub lF st3 keepF.out) fc
      refine ⟨z.1, z.2, ne_of_fresh fc hI5, ?_⟩
      cases q : s.heap.get? c with
      | none => rfl
      | some o => rw [kept5 c o q] at fc; cases fc
    refine hQB _ _ ?_
    refine ⟨h6, _, _, rfl, F6, fun b hb o e => ?_, _, ndok.add hnl hnj, sA6, fun b hb => ?_, fun b o e => hM.keep b o (fun q => ?_) (kept5 b o e), fun z hz => ?_⟩
    · rw [List.mem_singleton] at hb
      rw [hb, hI] at e
      cases e
      rw [hb]
      exact hM.keep I oI (fun q => (off I q).2.2.1 rfl) hI5
    · rw [sAddrs_append, addAll_addrs] at hb
      rcases List.mem_append.mp hb with hb | hb
      · exact off b hb
      · have hb3 : b = x6 ∨ b = d6 ∨ b = l6 := by simpa using hb
        rcases hb3 with rfl | rfl | rfl
        · exact newOff _ fx
        · exact newOff _ fd
        · exact newOff _ fl
    · rw [(off b q).2.2.2] at e; cases e
    · simp only [oMap, if_neg hz]
  case done =>
    intro I mm hh tk2 fI hR3 F3
    refine Classical.byContradiction fun hGG => ?_
    obtain ⟨nds, ndok, sA, off, keptH, hmm⟩ := hR3
    refine hGG ?_
    clear hGG
    replace F3 : Fr g' L' hh _ := F3
    have F4 : Fr g' L' hh (fun y => if y = Str.ofString "place" then mm (Str.ofString "place") else if y = Str.ofString "sorter" then some (Value.ref S) else List.lookup y [(Str.ofString "needs", Value.ref A0), (Str.ofString "keys", Value.ref K0)].reverse) := fr_eq F3 (fun z => by
      by_cases hz : z = Str.ofString "place"
      · simp [hz]
      · simp only [hz, if_false]; rw [hmm z hz]; rfl)
    generalize mm (Str.ofString "place") = vp at F4
    refine Classical.byContradiction fun hGG => ?_
    obtain ⟨t1, t2, t3, t4, tp, tf, nd, hX⟩ := sA.atX
    refine hGG ?_
    clear hGG
    have N3 : News g' L' hh [(S, instObj 144 dx), (dx, dictOf (sDict w t1 t2 t3 t4 D .none (.int 0 tp) (.int 0 tf)) nd)] := by
      refine newsCons ?_ (newsCons ?_ newsNil)
      · exact ⟨sA.atS, (off S (by first | exact mc0 | exact mc1 | exact mc2 | exact mc3 | exact mc4 | simp [sAddrs])).1, (off S (by first | exact mc0 | exact mc1 | exact mc2 | exact mc3 | exact mc4 | simp [sAddrs])).2.1⟩
      · exact ⟨hX, (off dx (by first | exact mc0 | exact mc1 | exact mc2 | exact mc3 | exact mc4 | simp [sAddrs])).1, (off dx (by first | exact mc0 | exact mc1 | exact mc2 | exact mc3 | exact mc4 | simp [sAddrs])).2.1⟩
    have keepF : Hold (Fr g' L' hh _) := ⟨F4⟩
    clear F3 lF lN FP NP lF2 N' F'
    have X4 := X'
    have T4 := T'
    k_with "call ref" => (refine hold_of ?_)
    k_steps
    k_with_none
    have frN : ∀ b ∈ frs (envX cn cs L a ccd cl :: outer), b ∉ sAddrs S dx D nds := fun b hb q => by
      refine Classical.byContradiction fun hGG => ?_
      obtain ⟨o, ho, _⟩ := frS b hb
      refine hGG ?_
      clear hGG
      rw [(off b q).2.2.2] at ho; cases ho
    have FF3 : hh.FunFrames g' (envX cn cs L a ccd cl :: outer) := funFrames_at FF' fun b hb => by
      refine Classical.byContradiction fun hGG => ?_
      obtain ⟨o, ho, hd⟩ := frS b hb
      refine hGG ?_
      clear hGG
      exact ⟨o, keptH b o ho, hd⟩
    refine ⟨?_⟩
    k_dflt refine prepare_spec FF3 keepF.out X' T' rfl sA (fun b hb => ⟨(off b hb).1, (off b hb).2.1⟩) (fun b hb q => frN b q hb) (ndok.up hnl (by lia)) (by rw [ndok.len]; lia) (fun n hn => Nat.le_trans (ndok.scLen n hn) (by lia)) (by first | exact roomB hd rfl | exact roomA hd rfl | ktr_room) (by first | exact roomB hu rfl | exact roomA hu rfl | ktr_units) ?_
    intro h6 tk6 R rn hM6 fR hR6 sA6
    have gfr : ∀ b o, g'.get? b = some o → b ∉ sAddrs S dx D nds ∧ b ∉ L' :: frs (envX cn cs L a ccd cl :: outer) := fun b o e => by
      refine ⟨fun q => ?_, fun q => ?_⟩
      · rw [(off b q).2.1] at e; cases e
      · rcases List.mem_cons.mp q with q | q
        · rw [q, kts_self keepF.out] at e; cases e
        · rw [(frs_mem FF' q).1] at e; cases e
    have F6 := hM6.fr keepF.out (.head _) (fun q => (off L' q).1 rfl) gfr
    have nR := fr_new keepF.out fR
    have keptI : ∀ b ∈ inAddrs A0 K0 rows, ∀ o, s.heap.get? b = some o → h6.get? b = some o := fun b hb o e => hM6.keep b o (fun q => by rw [(off b q).2.2.2] at e; cases e) (fun q => by
      rcases List.mem_cons.mp q with q | q
      · exact (inOff b hb).1 q
      · exact frO b q hb) (keptH b o e)
    have slot6 : SlotF (frs (envX cn cs L a ccd cl :: outer)) s.heap h6 := SlotF.trans (SlotF.of_keep fun b o hb e => keptH b o e) (fun b o hb => hM6.slot b o (.tail _ hb))
    have sR : s.heap.get? R = none := by
      cases q : s.heap.get? R with
      | none => rfl
      | some o =>
        have := keptH R o q
        rw [show hh.get? R = none from fR] at this
        cases this
    refine Classical.byContradiction fun hGG => ?_
    obtain ⟨u1, u2, u3, u4, up, uf, und, hX6⟩ := sA6.atX
    obtain ⟨oD6, hDD6, hDk6⟩ := sA6.atD
    refine hGG ?_
    clear hGG
    have N6 : News g' L' h6 ((A0, listOf (rows.map fun r => Value.ref r.r).toArray n0) :: (R, listOf (ivals ((nds.filter fun n => decide (n.np = 0)).map fun n => (n.i, n.t))).toArray rn) :: sLed S dx D (dictOf (sDict w u1 u2 u3 u4 D (.ref R) (.int 0 up) (.int 0 uf)) und) oD6 nds) := by
      refine newsCons ?_ (newsCons ?_ ?_)
      · exact ⟨keptI _ (by first | exact mc0 | exact mc1 | exact mc2 | exact mc3 | exact mc4 | simp [inAddrs]) _ hA0, inOff _ (by first | exact mc0 | exact mc1 | exact mc2 | exact mc3 | exact mc4 | simp [inAddrs])⟩
      · exact ⟨hR6, nR⟩
      · intro q hq
        exact sA6.news hX6 hDD6 (fun b hb => ⟨(off b hb).1, (off b hb).2.1⟩) q hq
    simp only [sLed] at N6
    refine Classical.byContradiction fun hGG => ?_
    obtain ⟨g6, F7, N7, st6, hold6⟩ := rebase F6 N6
    refine hGG ?_
    clear hGG
    have X6 := X'.keeps st6
    have T6 := T'.keeps st6
    have keepN6 : Hold (News g6 L' h6 _) := ⟨N7⟩
    have keepF6 : Hold (Fr g' L' h6 _) := ⟨F6⟩
    clear N6 F6 N3 F4
    k_with "exec For Name Call cons nil" => (refine forH g' rfl rfl ?_ (fun _ => rfl) (by passes_own))
    k_steps
    rename_i H _ lH O _ lO D2 _ lD2 _ _ _ _ _ FP6 NP6 _ _ hB tkB _ _ _ hrng6 lF lN hsub6
    k_with_none
    have mO := lN _ (.tail _ (.head _))
    have mH := lN _ (.tail _ (.tail _ (.head _)))
    have mA := lN _ (.tail _ (.tail _ (.tail _ (.head _))))
    have mR := lN _ (.tail _ (.tail _ (.tail _ (.tail _ (.head _)))))
    dsimp only at mO mH mA mR
    have lFB := fr_sub lF st6 keepF6.out
    have kkB := turn_keep keepN6.out lF lN hold6 [] (fun q hq _ => .tail _ (.tail _ (.tail _ hq)))
    have inL6 : ∀ b ∈ sAddrs S dx D nds, ∃ q ∈ (A0, listOf (rows.map fun r => Value.ref r.r).toArray n0) :: (R, listOf (ivals ((nds.filter fun n => decide (n.np = 0)).map fun n => (n.i, n.t))).toArray rn) :: sLed S dx D (dictOf (sDict w u1 u2 u3 u4 D (.ref R) (.int 0 up) (.int 0 uf)) und) oD6 nds, q.1 = b := fun b hb => by
      rw [← sLed_addrs S dx D (dictOf (sDict w u1 u2 u3 u4 D (.ref R) (.int 0 up) (.int 0 uf)) und) oD6] at hb
      refine Classical.byContradiction fun hGG => ?_
      obtain ⟨q, hq, e⟩ := List.mem_map.mp hb
      refine hGG ?_
      clear hGG
      exact ⟨q, .tail _ (.tail _ hq), e⟩
    have sAB : SorterAt prog w hB S dx D (.ref R) 0 0 nds := sA6.keep (fun b hb o e => kkB b o (.inr (inL6 b hb)) List.not_mem_nil e)
    obtain ⟨fn, hfn⟩ : ∃ f : Int → Int, NpIs nds f := ⟨fun c => ((needsOf (nlOf rows) c).length : Int), fun n hn => by
      obtain ⟨k, hk, rfl⟩ := List.getElem_of_mem hn
      obtain ⟨a1, a2, _⟩ := ndok.at' k _ (List.getElem?_eq_getElem hk)
      rw [a2, a1]⟩
    have ndok' : NdsOk (nlOf rows) (nlOf rows).length nds := by rw [hlen]; exact ndok
    have pinv0 := PInv.start ndok' hfn
    have gsub6 : ∀ {b : Addr}, g6.get? b = none → g'.get? b = none := fun {b} e => by
      cases q : g'.get? b with
      | none => rfl
      | some o => rw [st6 _ _ q] at e; cases e
    have newS : ∀ c : Addr, g6.get? c = none → c ≠ A0 → c ≠ R → c ∉ sAddrs S dx D nds → ∀ b o, s.heap.get? b = some o → b ∈ frs (envX cn cs L a ccd cl :: outer) ∨ b ∈ inAddrs A0 K0 rows → c ≠ b := fun c hc hA hR hs b o e hb q => by
      have hbL := ltH b o e
      subst q
      have nl : ∀ p ∈ (A0, listOf (rows.map fun r => Value.ref r.r).toArray n0) :: (R, listOf (ivals ((nds.filter fun n => decide (n.np = 0)).map fun n => (n.i, n.t))).toArray rn) :: sLed S dx D (dictOf (sDict w u1 u2 u3 u4 D (.ref R) (.int 0 up) (.int 0 uf)) und) oD6 nds, p.1 ≠ c := fun p hp z => by
        simp only [memC] at hp
        rcases hp with rfl | rfl | hp
        · exact hA z.symm
        · exact hR z.symm
        · exact hs (by rw [← sLed_addrs S dx D (dictOf (sDict w u1 u2 u3 u4 D (.ref R) (.int 0 up) (.int 0 uf)) und) oD6]; exact List.mem_map.mpr ⟨p, hp, z⟩)
      have h6c : ∃ o', h6.get? c = some o' := by
        rcases hb with hb | hb
        · refine Classical.byContradiction fun hGG => ?_
          obtain ⟨o2, ho2, hd2⟩ := frS c hb
          obtain ⟨sl, z⟩ := slot6 c o2 hb ho2 hd2
          refine hGG ?_
          clear hGG
          exact ⟨_, z⟩
        · exact ⟨o, keptI c hb o e⟩
      obtain ⟨o', ho'⟩ := h6c
      rw [hold6 c o' hbL nl ho'] at hc
      cases hc
    have nodesLt : ∀ {c : Addr}, S < c → dx < c → D < c → AllLt c (List.flatMap (fun n => [(n.x, n.obj), (n.d, dictOf [] 0), (n.l, n.lst)]) nds) → ∀ b ∈ sAddrs S dx D nds, @LT.lt Nat _ b c := fun {c} h1 h2 h3 h4 b hb => by
      rw [← sLed_addrs S dx D (dictOf (sDict w u1 u2 u3 u4 D (.ref R) (.int 0 up) (.int 0 uf)) und) oD6] at hb
      obtain ⟨q, hq, rfl⟩ := List.mem_map.mp hb
      simp only [sLed, memC] at hq
      rcases hq with rfl | rfl | rfl | hq
      · exact h1
      · exact h2
      · exact h3
      · exact ktn_ltOf h4 q hq
    refine Classical.byContradiction fun hGG => ?_
    obtain ⟨lH1, lH2, lH3, lH4, lH5, lH6⟩ := lH
    obtain ⟨lO0, lO1, lO2, lO3, lO4, lO5, lO6⟩ := lO
    refine hGG ?_
    clear hGG
    have nHs := nodesLt lH3 lH4 lH5 lH6
    have nOs := nodesLt lO3 lO4 lO5 lO6
    have inLive : ∀ b ∈ inAddrs A0 K0 rows, ∃ o, s.heap.get? b = some o := fun b hb => by
      simp only [inAddrs, memC, List.mem_map] at hb
      rcases hb with rfl | rfl | ⟨r, hr, rfl⟩
      · exact ⟨_, hA0⟩
      · exact ⟨_, hK0⟩
      · exact ⟨_, hrow r hr⟩
    have zFI : ∀ b ∈ H :: O :: R :: sAddrs S dx D nds, b ∉ frs (envX cn cs L a ccd cl :: outer) ∧ b ∉ inAddrs A0 K0 rows := fun b hb => by
      have gen : (∀ c o, s.heap.get? c = some o → c ∈ frs (envX cn cs L a ccd cl :: outer) ∨ c ∈ inAddrs A0 K0 rows → b ≠ c) → b ∉ frs (envX cn cs L a ccd cl :: outer) ∧ b ∉ inAddrs A0 K0 rows := fun hgen => ⟨fun q => by
        refine Classical.byContradiction fun hGG => ?_
        obtain ⟨o, ho, _⟩ := frS b q
        refine hGG ?_
        clear hGG
        exact hgen b o ho (.inl q) rfl, fun q => by
        obtain ⟨o, ho⟩ := inLive b q
        exact hgen b o ho (.inr q) rfl⟩
      simp only [memC] at hb
      rcases hb with rfl | rfl | rfl | hb
      · exact gen (newS _ mH.2.2 (Nat.ne_of_gt lH1) (Nat.ne_of_gt lH2) (fun q => Nat.lt_irrefl _ (nHs _ q)))
      · exact gen (newS _ mO.2.2 (Nat.ne_of_gt lO1) (Nat.ne_of_gt lO2) (fun q => Nat.lt_irrefl _ (nOs _ q)))
      · exact gen (fun c o e _ q => by rw [← q, sR] at e; cases e)
      · exact gen (fun c o e _ q => by rw [← q, (off b hb).2.2.2] at e; cases e)
    have zL : ∀ b ∈ H :: O :: R :: sAddrs S dx D nds, b ≠ L' ∧ g'.get? b = none ∧ ∃ o, hB.get? b = some o := fun b hb => by
      simp only [memC] at hb
      rcases hb with rfl | rfl | rfl | hb
      · exact ⟨mH.2.1, gsub6 mH.2.2, _, mH.1⟩
      · exact ⟨mO.2.1, gsub6 mO.2.2, _, mO.1⟩
      · exact ⟨mR.2.1, gsub6 mR.2.2, _, mR.1⟩
      · obtain ⟨o, ho⟩ := sAB.live b hb
        exact ⟨(off b hb).1, (off b hb).2.1, o, ho⟩
    have keptIB : ∀ b ∈ inAddrs A0 K0 rows, ∀ o, s.heap.get? b = some o → hB.get? b = some o := fun b hb o e => kkB b o (.inl (ltH b o e)) List.not_mem_nil (keptI b hb o e)
    have slotB : SlotF (frs (envX cn cs L a ccd cl :: outer)) s.heap hB := slot6.trans (SlotF.of_keep fun b o hb e => kkB b o (.inl (hLt' b hb)) List.not_mem_nil e)
    have nRs : R ∉ sAddrs S dx D nds := fun q => by
      obtain ⟨o, ho⟩ := sA.live R q
      rw [show hh.get? R = none from fR] at ho; cases ho
    refine loop_rng rfl hrng6 (rng_small (by lia) (by lia)) (rng_size rows.length) lFB (fun I t mm hh => Sm10 (fun nd2 rl es ord f po nf rn hn on => Al7 (OAt prog w ks S dx D R H O nds L' I hh nd2 rl es ord f po nf rn hn on) (PInv (nlOf rows) (ord.map (·.1)) (es.map (·.p)) (rl.map (·.1)) f) (HeapOk es) (Greedy (nlOf rows) (kLt ks) (ord.map (·.1))) (ord.length = t) ((∀ b o, b ≠ L' → b ∉ H :: O :: R :: sAddrs S dx D nds → hB.get? b = some o → hh.get? b = some o)) (∀ z, z ≠ Str.ofString "turn" → z ≠ Str.ofString "place" → mm z = qMap S A0 K0 H O z))) ?h0b ?stabb ⟨?turnb⟩ ⟨?doneb⟩
    case h0b =>
      intro I2 h2 fI2 hM
      refine ⟨nds, _, [], [], fn, 0, 0, _, _, _, ⟨sAB.mod hM (fun b hb => List.not_mem_nil), hM.keep _ _ List.not_mem_nil mR.1, hM.keep _ _ List.not_mem_nil mH.1, hM.keep _ _ List.not_mem_nil mO.1, fun e he => absurd he List.not_mem_nil, hfn, rfl⟩, pinv0, fun i _ hi => absurd hi (by first | exact mc0 | exact mc1 | exact mc2 | exact mc3 | exact mc4 | exact mc5 | exact mc6 | exact mc7 | simp), ⟨fun t c h => by simp at h⟩, rfl, fun b o _ _ e => hM.keep b o List.not_mem_nil e, fun z h1 h2 => ?_⟩
      simp only [qMap, h2, if_false]
    case stabb =>
      intro I2 t mm h2 h3 fI2 hR4 hM
      refine Classical.byContradiction fun hGG => ?_
      obtain ⟨nd2, rl, es, ord, f, po, nf, rn2, hn2, on2, a1, a2, a3, a4, a5, a6, a7⟩ := hR4
      refine hGG ?_
      clear hGG
      have nI : ∀ b, b ≠ L' → b ≠ I2 → b ∉ [L', I2] := fun b h1 h2 q => by
        rcases List.mem_cons.mp q with q | q
        · exact h1 q
        · exact h2 (List.mem_singleton.mp q)
      refine ⟨nd2, rl, es, ord, f, po, nf, rn2, hn2, on2, a1.keep (fun b o hb e => hM.keep b o ?_ e), a2, a3, a4, a5, fun b o h1 h2 e => hM.keep b o (nI b h1 (fun q => ne_of_fresh fI2 e q.symm)) (a6 b o h1 h2 e), a7⟩
      rcases hb with hb | ⟨e2, he2, rfl⟩
      · refine Classical.byContradiction fun hGG => ?_
        obtain ⟨z1, _, o1, z2⟩ := zL b hb
        refine hGG ?_
        clear hGG
        exact nI b z1 (fun q => ne_of_fresh fI2 z2 q.symm)
      · exact nI _ (a1.hE e2 he2).2.1 (a1.hE e2 he2).2.2.1
    case doneb =>
      intro I2 mm h9 tk9 fI2 hR5 F9
      refine Classical.byContradiction fun hGG => ?_
      obtain ⟨nd2, rl, es, ord, f, po, nf, rn2, hn2, on2, a1, a2, a3, a4, a5, a6, a7⟩ := hR5
      refine hGG ?_
      clear hGG
      replace F9 : Fr g' L' h9 _ := F9
      have F10 : Fr g' L' h9 (fun y => if y = Str.ofString "turn" then mm (Str.ofString "turn") else if y = Str.ofString "place" then mm (Str.ofString "place") else if y = Str.ofString "heap" then some (Value.ref H) else if y = Str.ofString "order" then some (Value.ref O) else if y = Str.ofString "sorter" then some (Value.ref S) else List.lookup y [(Str.ofString "needs", Value.ref A0), (Str.ofString "keys", Value.ref K0)].reverse) := fr_eq F9 (fun z => by
        by_cases h1 : z = Str.ofString "turn"
        · simp [h1]
        · by_cases h2 : z = Str.ofString "place"
          · simp only [h1, if_false]; simp [h2]
          · simp only [h1, h2, if_false]; rw [a7 z h1 h2]; rfl)
      have keepF9 : Hold (Fr g' L' h9 _) := ⟨F10⟩
      have N9 : News g' L' h9 [] := fun _ h => absurd h List.not_mem_nil
      have X9 := X'
      have T9 := T'
      clear F9 lF lN FP6 NP6 lFB
      k_steps
      refine hQA _ _ ?_
      refine backF_ keepF9.out (slotB.trans (SlotF.of_keep fun b o hb e => a6 b o (Nat.ne_of_lt (hLt' b hb)) (fun q => (zFI b q).1 hb) e)) fun hM => ret _ _ O _ ord ?_ (fun b hb o e => a6 b o (inOff b hb).1 (fun q => (zFI b q).2 hb) (keptIB b hb o e)) a1.hO a5 a4
      have e9 : List.map (fun x => x.fst) ((A0, rowsObj rows n0) :: (K0, keysObj ks n1) :: rowLed rows) = inAddrs A0 K0 rows := by simp [rowLed, inAddrs]
      rw [e9] at hM
      exact hM
    case turnb =>
      intro I2 oI2 t tt mm hh2 tk9 fI2 fI20 hI2L hI2 ht hR6 F9
      refine Classical.byContradiction fun hGG => ?_
      obtain ⟨nd2, rl, es, ord, f, po, nf, rn2, hn2, on2, a1, a2, a3, a4, a5, a6, a7⟩ := hR6
      refine hGG ?_
      clear hGG
      replace F9 : Fr g' L' hh2 _ := F9
      refine hide fun QC hQC => ?_
      refine Classical.byContradiction fun hGG => ?_
      obtain ⟨v1, v2, v3, v4, vp3, vf3, vnd, hX9⟩ := a1.sA.atX
      obtain ⟨oD9, hDD9, hDk9⟩ := a1.sA.atD
      refine hGG ?_
      clear hGG
      have sad : sAddrs S dx D nd2 = sAddrs S dx D nds := shape_addrs S dx D a1.sh
      have F10 : Fr g' L' hh2 (fun y => if y = Str.ofString "turn" then some (Value.int (0 + (t : Int) * 1) tt) else if y = Str.ofString "place" then mm (Str.ofString "place") else if y = Str.ofString "heap" then some (Value.ref H) else if y = Str.ofString "order" then some (Value.ref O) else if y = Str.ofString "sorter" then some (Value.ref S) else List.lookup y [(Str.ofString "needs", Value.ref A0), (Str.ofString "keys", Value.ref K0)].reverse) := fr_eq F9 (fun z => by
        by_cases h1 : z = Str.ofString "turn"
        · simp [h1]
        · by_cases h2 : z = Str.ofString "place"
          · simp only [h1, if_false]; simp [h2]
          · simp only [h1, h2, if_false]; rw [a7 z h1 h2]; rfl)
      have offN : ∀ b ∈ R :: sAddrs S dx D nd2, b ≠ L' ∧ g'.get? b = none := fun b hb => by
        rw [sad] at hb
        have := zL b (by simp at hb ⊢; exact .inr (.inr hb))
        exact ⟨this.1, this.2.1⟩
      have N3 : News g' L' hh2 ((R, listOf (ivals rl).toArray rn2) :: sLed S dx D (dictOf (sDict w v1 v2 v3 v4 D (.ref R) (.int po vp3) (.int nf vf3)) vnd) oD9 nd2) := by
        intro q hq
        rcases memC.mp hq with rfl | hq
        · exact ⟨a1.hR, offN _ (.head _)⟩
        · exact a1.sA.news hX9 hDD9 (fun b hb => offN b (.tail _ hb)) q hq
      have ledA : ∀ b ∈ R :: sAddrs S dx D nd2, ∃ q ∈ (R, listOf (ivals rl).toArray rn2) :: sLed S dx D (dictOf (sDict w v1 v2 v3 v4 D (.ref R) (.int po vp3) (.int nf vf3)) vnd) oD9 nd2, q.1 = b := fun b hb => by
        rcases memC.mp hb with rfl | hb
        · exact ⟨_, .head _, rfl⟩
        · rw [← sLed_addrs S dx D (dictOf (sDict w v1 v2 v3 v4 D (.ref R) (.int po vp3) (.int nf vf3)) vnd) oD9] at hb
          refine Classical.byContradiction fun hGG => ?_
          obtain ⟨q, hq, e⟩ := List.mem_map.mp hb
          refine hGG ?_
          clear hGG
          exact ⟨q, .tail _ hq, e⟩
      have ledB : ∀ q ∈ (R, listOf (ivals rl).toArray rn2) :: sLed S dx D (dictOf (sDict w v1 v2 v3 v4 D (.ref R) (.int po vp3) (.int nf vf3)) vnd) oD9 nd2, q.1 ∈ R :: sAddrs S dx D nd2 := fun q hq => by
        rcases memC.mp hq with rfl | hq
        · exact .head _
        · refine .tail _ ?_
          rw [← sLed_addrs S dx D (dictOf (sDict w v1 v2 v3 v4 D (.ref R) (.int po vp3) (.int nf vf3)) vnd) oD9]
          exact List.mem_map_of_mem hq
      refine Classical.byContradiction fun hGG => ?_
      obtain ⟨g3, tl, F11, N11, st3, hold3, tne3, all3⟩ := rebase2 F10 N3
      refine hGG ?_
      clear hGG
      have keepN3 : Hold (News g3 L' hh2 _) := ⟨N11⟩
      have keepF9 : Hold (Fr g' L' hh2 _) := ⟨F10⟩
      simp only [sLed, List.cons_append] at N11
      have X3 := X'.keeps st3
      have T3 := T'.keeps st3
      have frB : ∀ b ∈ frs (envX cn cs L a ccd cl :: outer), ∃ o, hh2.get? b = some o ∧ ∀ vs, o.data ≠ .fields vs := fun b hb => by
        refine Classical.byContradiction fun hGG => ?_
        obtain ⟨o, ho, hd⟩ := frS b hb
        obtain ⟨sl, z⟩ := slotB b o hb ho hd
        refine hGG ?_
        clear hGG
        exact ⟨_, a6 b _ (Nat.ne_of_lt (hLt' b hb)) (fun q => (zFI b q).1 hb) z, hd⟩
      have FF9 : hh2.FunFrames g' (envX cn cs L a ccd cl :: outer) := funFrames_at FF' frB
      have B3 := belowF hA' st3 FF9 hold3 hLt' (fun b hb p hp q => by
        have := ledB p hp
        rw [q, sad] at this
        exact (zFI b (by simp at this ⊢; exact .inr (.inr this))).1 hb)
      clear F9 lF lN FP6 NP6 lFB N3 F10
      k_with "exec For Name Call cons nil" => (refine forH g' rfl rfl ?_ (fun _ => rfl) (by passes_own))
      k_with "call ref" => (refine hold_of ?_)
      k_steps
      k_with_none
      (rename Fr g3 L' _ _ => lF)
      have nd2i : ∀ p : Int, 0 ≤ p → p < ((nlOf rows).length : Int) → ∃ n ∈ nd2, n.i = p ∧ n.sc.map (·.1) = ((List.range (nlOf rows).length).filter fun (q : Nat) => decide (p ∈ needsOf (nlOf rows) (q : Int))).map fun (q : Nat) => (q : Int) := fun p p0 p1 => by
        refine Classical.byContradiction fun hGG => ?_
        obtain ⟨n, hn, e1, e2⟩ := ndok'.has p0 p1
        obtain ⟨n', hn', e⟩ := shape_mem a1.sh hn
        refine hGG ?_
        clear hGG
        simp only [Nd.shape, Prod.mk.injEq] at e
        exact ⟨n', hn', by rw [e.2.2.2.1, e1], by rw [e.2.2.2.2.2.1, e2]⟩
      have rlR : ∀ p ∈ rl.map (·.1), 0 ≤ p ∧ p < ((nlOf rows).length : Int) := fun p hp => ⟨((a2.rlI p).mp hp).1, ((a2.rlI p).mp hp).2.1⟩
      have rlL : rl.length ≤ 50 := by
        have := rl_len a2.rlN rlR
        simp at this
        lia
      have len2 : nd2.length = rows.length := by
        have := congrArg List.length a1.sh
        simp only [List.length_map] at this
        rw [this, ndok.len]
      have off3 : ∀ b ∈ R :: sAddrs S dx D nd2, b ≠ L' ∧ g3.get? b = none := fun b hb => by
        obtain ⟨q, hq, rfl⟩ := ledA b hb
        exact (keepN3.out q (List.mem_append_left _ hq)).2
      refine ⟨?_⟩
      k_dflt refine ready_spec B3 lF X3 T3 rfl a1.sA a1.hR (fun n hn q => nRs (by rw [← sad, ← q]; exact mem_sl hn)) off3 (fun q hq => by
        refine Classical.byContradiction fun hGG => ?_
        obtain ⟨q0, q1⟩ := rlR q.1 (List.mem_map_of_mem hq)
        obtain ⟨n, hn, e, _⟩ := nd2i q.1 q0 q1
        refine hGG ?_
        clear hGG
        exact ⟨n, hn, e⟩) (by lia) (by lia) (by first | exact roomB hd rfl | exact roomA hd rfl | ktr_room) (by first | exact roomB hu rfl | exact roomA hu rfl | ktr_units) ?_
      intro h4 tk4 U rn4 hM4 fU hU hR4 sA4
      have F4 := hM4.fr keepF9.out offN
      have nU := fr_new keepF9.out fU
      have zO : O ∉ R :: sAddrs S dx D nd2 := fun q => by
        rw [sad] at q
        rcases List.mem_cons.mp q with q | q
        · exact Nat.ne_of_gt lO2 q
        · exact Nat.lt_irrefl _ (nOs _ q)
      have zH : H ∉ R :: sAddrs S dx D nd2 := fun q => by
        rw [sad] at q
        rcases List.mem_cons.mp q with q | q
        · exact Nat.ne_of_gt lH2 q
        · exact Nat.lt_irrefl _ (nHs _ q)
      have hH4 := hM4.keep H _ zH a1.hH
      have hO4 := hM4.keep O _ zO a1.hO
      have hI24 : h4.get? I2 = some oI2 := hM4.keep I2 _ (fun q => by
        rw [sad] at q
        refine Classical.byContradiction fun hGG => ?_
        obtain ⟨_, _, o, ho⟩ := zL I2 (by simp at q ⊢; exact .inr (.inr q))
        refine hGG ?_
        clear hGG
        exact ne_of_fresh fI2 ho rfl) hI2
      have ent4 : ∀ e ∈ es, h4.get? e.a = some e.obj := fun e he => hM4.keep _ _ (a1.entOff e he).2.2 (a1.hE e he).1
      have in4 : ∀ b ∈ inAddrs A0 K0 rows, ∀ o, s.heap.get? b = some o → h4.get? b = some o ∧ b ≠ H ∧ b ≠ L' := fun b hb o e => by
        have nz : b ∉ H :: O :: R :: sAddrs S dx D nds := fun q => (zFI b q).2 hb
        refine ⟨hM4.keep b o (fun q => nz (by rw [sad] at q; simp at q ⊢; exact .inr (.inr q))) (a6 b o (inOff b hb).1 nz (keptIB b hb o e)), fun q => nz (by simp [q]), (inOff b hb).1⟩
      have fr4 : ∀ b ∈ frs (envX cn cs L a ccd cl :: outer), (∃ o, h4.get? b = some o ∧ ∀ vs, o.data ≠ .fields vs) ∧ b ≠ H ∧ b ≠ L' := fun b hb => by
        refine Classical.byContradiction fun hGG => ?_
        obtain ⟨o, ho, hd⟩ := frB b hb
        refine hGG ?_
        clear hGG
        have nz : b ∉ H :: O :: R :: sAddrs S dx D nds := fun q => (zFI b q).1 hb
        exact ⟨⟨o, hM4.keep b o (fun q => nz (by rw [sad] at q; simp at q ⊢; exact .inr (.inr q))) ho, hd⟩, fun q => nz (by simp [q]), Nat.ne_of_lt (hLt' b hb)⟩
      have hvp := mm (Str.ofString "place")
      refine loop_seq rfl (.inl rfl) hU rfl rfl F4 nU.1 (fun I3 i mm3 h => Sm2 (fun es3 hn3 => Al6 (h.get? H = some (entList es3 hn3)) ((∀ e ∈ es3, h.get? e.a = some e.obj ∧ e.a ≠ L' ∧ e.a ≠ I2 ∧ e.a ≠ I3 ∧ ks[e.p.toNat]? = some (e.k, e.kt))) (HeapOk es3) ((es3.map (·.p)).Perm (es.map (·.p) ++ (rl.take i).map (·.1))) ((∀ b o, b ≠ L' → b ≠ H → h4.get? b = some o → h.get? b = some o)) (∀ z, z ≠ Str.ofString "place" → mm3 z = (fun y => if y = Str.ofString "turn" then some (Value.int (0 + (t : Int) * 1) tt) else qMap S A0 K0 H O y) z))) ?h0c ?stabc ⟨?turnc⟩ ⟨?donec⟩
      case h0c =>
        intro I3 h5 fI3 hM5
        refine ⟨es, _, hM5.keep _ _ List.not_mem_nil hH4, fun e he => ⟨hM5.keep _ _ List.not_mem_nil (ent4 e he), (a1.hE e he).2.1, (a1.hE e he).2.2.1, fun q => ne_of_fresh fI3 (ent4 e he) q.symm, (a1.hE e he).2.2.2⟩, a3, (by first | exact mc0 | exact mc1 | exact mc2 | exact mc3 | exact mc4 | exact mc5 | exact mc6 | exact mc7 | exact mc8 | exact mc9 | exact mc10 | exact mc11 | simp), fun b o _ _ e => hM5.keep b o List.not_mem_nil e, fun z hz => ?_⟩
        by_cases h1 : z = Str.ofString "turn"
        · simp [h1]
        · simp only [h1, hz, if_false]; rfl
      case stabc =>
        intro I3 i mm3 h5 h6 fI3 hR7 hM5
        refine Classical.byContradiction fun hGG => ?_
        obtain ⟨es3, hn3, b1, b2, b3, b4, b5, b6⟩ := hR7
        refine hGG ?_
        clear hGG
        have nI : ∀ b, b ≠ L' → b ≠ I3 → b ∉ [L', I3] := fun b h1 h2 q => by
          rcases List.mem_cons.mp q with q | q
          · exact h1 q
          · exact h2 (List.mem_singleton.mp q)
        refine ⟨es3, hn3, hM5.keep _ _ (nI _ mH.2.1 (fun q => ne_of_fresh fI3 hH4 q.symm)) b1, fun e he => ⟨hM5.keep _ _ (nI _ (b2 e he).2.1 (b2 e he).2.2.2.1) (b2 e he).1, (b2 e he).2⟩, b3, b4, fun b o h1 h2 e => hM5.keep b o (nI b h1 (fun q => ne_of_fresh fI3 e q.symm)) (b5 b o h1 h2 e), b6⟩
      case turnc =>
        intro I3 oI3 i v mm3 h5 tk5 fI3 gI3 hI3L hI3U hI3 hU5 hv hR8 F5
        refine Classical.byContradiction fun hGG => ?_
        obtain ⟨es3, hn3, b1, b2, b3, b4, b5, b6⟩ := hR8
        refine hGG ?_
        clear hGG
        replace F5 : Fr g' L' h5 _ := F5
        refine hide fun QD hQD => ?_
        refine Classical.byContradiction fun hGG => ?_
        obtain ⟨x1, xt, hx, rfl⟩ : ∃ x1 xt, rl[i]? = some (x1, xt) ∧ v = .int x1 xt := by
          simp only [ivals, List.getElem?_toArray, List.getElem?_map, Option.map_eq_some_iff] at hv
          obtain ⟨x, hx, e⟩ := hv
          exact ⟨x.1, x.2, hx, e.symm⟩
        refine hGG ?_
        clear hGG
        have hxm : x1 ∈ rl.map (·.1) := List.mem_map.mpr ⟨_, List.mem_of_getElem? hx, rfl⟩
        obtain ⟨x0, x9⟩ := rlR x1 hxm
        obtain ⟨pn, rfl⟩ := Int.eq_ofNat_of_zero_le x0
        have hpn : pn < ks.length := by lia
        obtain ⟨ke, hke⟩ : ∃ ke, ks[pn]? = some ke := ⟨_, List.getElem?_eq_getElem hpn⟩
        have hkv : (ks.map fun k => Value.bytes k.1 k.2)[pn]? = some (Value.bytes ke.1 ke.2) := by simp [hke]
        have hkl2 : (ks.map fun k => Value.bytes k.1 k.2).length ≤ 1000 := by simp; lia
        have hK4 := in4 K0 (by first | exact mc0 | exact mc1 | exact mc2 | exact mc3 | exact mc4 | simp [inAddrs]) _ hK0
        have hK5 := b5 K0 _ hK4.2.2 hK4.2.1 hK4.1
        have F6 : Fr g' L' h5 (fun y => if y = Str.ofString "place" then some (Value.int (pn : Int) xt) else if y = Str.ofString "turn" then some (Value.int (0 + (t : Int) * 1) tt) else if y = Str.ofString "heap" then some (Value.ref H) else if y = Str.ofString "order" then some (Value.ref O) else if y = Str.ofString "sorter" then some (Value.ref S) else List.lookup y [(Str.ofString "needs", Value.ref A0), (Str.ofString "keys", Value.ref K0)].reverse) := fr_eq F5 (fun z => by
          by_cases h1 : z = Str.ofString "place"
          · simp [h1]
          · simp only [h1, if_false]; rw [b6 z h1]; rfl)
        have N5 : News g' L' h5 [(H, entList es3 hn3), (K0, listOf (ks.map fun k => Value.bytes k.1 k.2).toArray n1)] := by
          refine newsCons ?_ (newsCons ?_ newsNil)
          · exact ⟨b1, mH.2.1, gsub6 mH.2.2⟩
          · exact ⟨hK5, inOff _ (by first | exact mc0 | exact mc1 | exact mc2 | exact mc3 | exact mc4 | simp [inAddrs])⟩
        refine Classical.byContradiction fun hGG => ?_
        obtain ⟨g7, tl7, F7, N7, st7, hold7, tne7, all7⟩ := rebase2 F6 N5
        refine hGG ?_
        clear hGG
        have X7 := X'.keeps st7
        have T7 := T'.keeps st7
        have tnH : TailNe H tl7 := tne7 _ (.head _)
        have tnK : TailNe K0 tl7 := tne7 _ (.tail _ (.head _))
        have apHK : Apart H K0 := ⟨Ne.symm hK4.2.1⟩
        have FF7 : h5.FunFrames g' (envX cn cs L a ccd cl :: outer) := funFrames_at FF' fun b hb => by
          refine Classical.byContradiction fun hGG => ?_
          obtain ⟨⟨o, ho, hd⟩, n1, n2⟩ := fr4 b hb
          refine hGG ?_
          clear hGG
          exact ⟨o, b5 b o n2 n1 ho, hd⟩
        have B7 := belowF hA' st7 FF7 hold7 hLt' (fun b hb p hp q => by
          simp only [memC, List.not_mem_nil, or_false] at hp
          rcases hp with rfl | rfl
          · exact (fr4 b hb).2.1 q.symm
          · exact frO b hb (by simp [inAddrs, ← q]))
        have keepF5 : Hold (Fr g' L' h5 _) := ⟨F6⟩
        have keepN7 : Hold (News g7 L' h5 _) := ⟨N7⟩
        simp only [List.cons_append, List.nil_append] at N7
        clear F5 F6 N5 F4 lF
        k_with "call ref" => (refine hold_of ?_)
        k_steps
        k_with_none
        (rename Fr g7 L' _ _ => lF); (rename News g7 L' _ _ => lN)
        rename_i h7 hk7 nm7
        have zE := lN _ (.head _)
        dsimp only at zE
        have hes : ∀ x ∈ es3, h7.get? x.a = some x.obj := fun x hx => hk7 _ _ (b2 x hx).1
        have esL : es3.length ≤ 200 := by
          have h1 := b4.length_eq
          simp only [List.length_map, List.length_append, List.length_take] at h1
          have h2 := rl_len (n := rows.length) a2.hpN (fun p hp => by
            have := a2.hpF p hp
            rw [← hlen]
            exact ⟨this.1, this.2.1⟩)
          simp only [List.length_map] at h2
          lia
        have hI25 : h5.get? I2 = some oI2 := b5 I2 _ hI2L (fun q => ne_of_fresh fI2 mH.1 q) hI24
        have nE : ∀ {b : Addr} {o : Obj}, h5.get? b = some o → h5.objs.size ≠ b := fun e q => ne_of_fresh (fresh_size h5) e q
        have hpo := hpush_ok ltOk (⟨h5.objs.size, ke.1, ke.2, (pn : Int), xt, 0⟩ : Ent) b3
        refine ⟨?_⟩
        k_dflt refine heappush_spec (e := (⟨h5.objs.size, ke.1, ke.2, (pn : Int), xt, 0⟩ : Ent)) B7 lF X7 (fun p hp => lN p (by
          rw [List.mem_singleton] at hp
          subst hp
          exact .tail _ (.head _))) T7 rfl (by first | exact roomB hd rfl | exact roomA hd rfl | ktr_room) (by first | exact roomB hu rfl | exact roomA hu rfl | ktr_units) hes zE.1 (by lia) ?_
        intro h8 tk8 n8 hM8 hH8
        refine wpAny_execs_nil ?_
        have F8 := hM8.fr (fr_sub lF st7 keepF5.out) (fun b hb => by rw [List.mem_singleton.mp hb]; exact ⟨mH.2.1, gsub6 mH.2.2⟩)
        have kp8 : ∀ b o, b ≠ H → h5.get? b = some o → h8.get? b = some o := fun b o hb e => hM8.keep b o (fun q => hb (List.mem_singleton.mp q)) (hk7 b o e)
        refine hQD _ _ ?_
        refine ⟨h8, _, _, rfl, F8, fun b hb o e => ?_, hpush es3 ⟨h5.objs.size, ke.1, ke.2, (pn : Int), xt, 0⟩, n8, hH8, fun x hx2 => ?_, hpo.1, ?_, fun b o n1 n2 e => kp8 b o n2 (b5 b o n1 n2 e), fun z hz => ?_⟩
        · have hb2 : b = I3 ∨ b = U := by simpa using hb
          refine kp8 b o ?_ e
          rcases hb2 with rfl | rfl
          · exact fun q => ne_of_fresh fI3 hH4 q
          · exact fun q => ne_of_fresh fU a1.hH q
        · rcases List.mem_cons.mp (hpo.2.mem_iff.mp hx2) with rfl | hx3
          · refine ⟨?_, zE.2.1, nE hI25, nE hI3, by simp [hke]⟩
            exact hM8.keep _ _ (fun q => nE b1 (List.mem_singleton.mp q)) zE.1
          · have ho : x.a ≠ H := fun q => by
              have z := (b2 x hx3).1
              rw [q, b1] at z; simp [Ent.obj, pairObj] at z
            exact ⟨kp8 _ _ ho (b2 x hx3).1, (b2 x hx3).2⟩
        · have ht : rl.take (i + 1) = rl.take i ++ [((pn : Int), xt)] := by rw [List.take_add_one, hx]; rfl
          rw [ht]
          refine (hpo.2.map (·.p)).trans ?_
          simp only [List.map_cons, List.map_append, List.map_nil]
          refine (List.Perm.cons _ b4).trans ?_
          rw [← List.append_assoc]
          exact (List.perm_append_comm (l₁ := [(pn : Int)]))
        · simp only [hz, if_false, qMap]
      case donec =>
        intro I3 mm3 h5 tk5 fI3 hU5 hR9 F5
        refine Classical.byContradiction fun hGG => ?_
        obtain ⟨es3, hn3, b1, b2, b3, b4, b5, b6⟩ := hR9
        refine hGG ?_
        clear hGG
        replace F5 : Fr g' L' h5 _ := F5
        have htake : rl.take (ivals rl).toArray.size = rl := by simp [ivals]
        rw [htake] at b4
        have pm := a2.mid b4
        have np4 := outAll_np rl nd2 f (-1) 210 a1.np
        have ordL : (ord.map (·.1)).length < (nlOf rows).length := by simp; lia
        obtain ⟨pf, hpf⟩ := free_exists hnl ordL
        have hne : es3 ≠ [] := fun q => by
          have := (pm.hpI pf).mpr hpf
          rw [q] at this; simp at this
        refine Classical.byContradiction fun hGG => ?_
        obtain ⟨init, last, hil⟩ : ∃ init last, es3 = init ++ [last] := by
          rcases List.eq_nil_or_concat es3 with z | ⟨p, v, z⟩
          · exact absurd z hne
          · exact ⟨p, v, by rw [z, List.concat_eq_append]⟩
        refine hGG ?_
        clear hGG
        subst hil
        have hpo := hpop_ok ltOk b3
        have esL : init.length ≤ 900 := by
          have h1 := b4.length_eq
          simp only [List.length_map, List.length_append, List.length_cons, List.length_nil] at h1
          have h2 := rl_len (n := rows.length) a2.hpN (fun p hp => by
            have := a2.hpF p hp
            rw [← hlen]
            exact ⟨this.1, this.2.1⟩)
          simp only [List.length_map] at h2
          lia
        have ordL2 : (ivals ord).length ≤ 1000 := by rw [ivals_len]; lia
        have hO5 := b5 O _ mO.2.1 (Nat.ne_of_gt lO0) hO4
        have F6 : Fr g' L' h5 (fun y => if y = Str.ofString "place" then mm3 (Str.ofString "place") else if y = Str.ofString "turn" then some (Value.int (0 + (t : Int) * 1) tt) else if y = Str.ofString "heap" then some (Value.ref H) else if y = Str.ofString "order" then some (Value.ref O) else if y = Str.ofString "sorter" then some (Value.ref S) else List.lookup y [(Str.ofString "needs", Value.ref A0), (Str.ofString "keys", Value.ref K0)].reverse) := fr_eq F5 (fun z => by
          by_cases h1 : z = Str.ofString "place"
          · simp [h1]
          · simp only [h1, if_false]; rw [b6 z h1]; rfl)
        have N5 : News g' L' h5 [(H, entList (init ++ [last]) hn3), (O, listOf (ivals ord).toArray on2)] := by
          refine newsCons ?_ (newsCons ?_ newsNil)
          · exact ⟨b1, mH.2.1, gsub6 mH.2.2⟩
          · exact ⟨hO5, mO.2.1, gsub6 mO.2.2⟩
        refine Classical.byContradiction fun hGG => ?_
        obtain ⟨g7, tl7, F7, N7, st7, hold7, tne7, all7⟩ := rebase2 F6 N5
        refine hGG ?_
        clear hGG
        have X7 := X'.keeps st7
        have T7 := T'.keeps st7
        have FF7 : h5.FunFrames g' (envX cn cs L a ccd cl :: outer) := funFrames_at FF' fun b hb => by
          refine Classical.byContradiction fun hGG => ?_
          obtain ⟨⟨o, ho, hd⟩, n1, n2⟩ := fr4 b hb
          refine hGG ?_
          clear hGG
          exact ⟨o, b5 b o n2 n1 ho, hd⟩
        have B7 := belowF hA' st7 FF7 hold7 hLt' (fun b hb p hp q => by
          simp only [memC, List.not_mem_nil, or_false] at hp
          rcases hp with rfl | rfl
          · exact (fr4 b hb).2.1 q.symm
          · exact (zFI b (by rw [← q]; simp)).1 hb)
        have keepF5 : Hold (Fr g' L' h5 _) := ⟨F6⟩
        simp only [List.cons_append, List.nil_append] at N7
        clear F5 F6 N5 F4 lF
        k_with "call ref" => (refine hold_of ?_)
        k_steps
        k_with_none
        (rename Fr g7 L' _ _ => lF); (rename News g7 L' _ _ => lN)
        refine ⟨?_⟩
        k_dflt refine heappop_spec B7 lF X7 (fun p hp => lN p (by
          rw [List.mem_singleton] at hp
          subst hp
          exact .head _)) T7 rfl (by first | exact roomB hd rfl | exact roomA hd rfl | ktr_room) (by first | exact roomB hu rfl | exact roomA hu rfl | ktr_units) (fun x hx => (b2 x hx).1) esL ?_
        intro h8 tk8 n8 hM8 hH8
        have F8 := hM8.fr keepF5.out (fun b hb => by rw [List.mem_singleton.mp hb]; exact ⟨mH.2.1, gsub6 mH.2.2⟩)
        have kp8 : ∀ b o, b ≠ H → h5.get? b = some o → h8.get? b = some o := fun b o hb e => hM8.keep b o (fun q => hb (List.mem_singleton.mp q)) e
        have kp48 : ∀ b o, b ≠ L' → b ≠ H → h4.get? b = some o → h8.get? b = some o := fun b o n1 n2 e => kp8 b o n2 (b5 b o n1 n2 e)
        generalize hce : (hpop init last).fst = c at hpo ⊢
        generalize hre : (hpop init last).snd = esr at hpo hH8
        simp only [Ent.val]
        refine Classical.byContradiction fun hGG => ?_
        obtain ⟨hp1, hp2, hp3⟩ := hpo
        refine hGG ?_
        clear hGG
        have hcm : c ∈ init ++ [last] := hp2.mem_iff.mp (.head _)
        have hcH : ∀ x ∈ init ++ [last], x.a ≠ H := fun x hx q => by
          have z := (b2 x hx).1
          rw [q, b1] at z; simp [Ent.obj, pairObj] at z
        have hc8 : h8.get? c.a = some (pairObj (.bytes c.k c.kt) (.int c.p c.pt) c.n) := kp8 _ _ (hcH c hcm) (b2 c hcm).1
        have sad4 : sAddrs S dx D (outAll nd2 rl (-1) 210) = sAddrs S dx D nds := by rw [outAll_addrs, sad]
        have sh4 : (outAll nd2 rl (-1) 210).map Nd.shape = nds.map Nd.shape := by rw [outAll_shape, a1.sh]
        generalize hnd4 : outAll nd2 rl (-1) 210 = nd4 at sA4 np4 sad4 sh4
        have zH2 : ∀ b ∈ R :: sAddrs S dx D nds, b ≠ H := fun b hb q => zH (by rw [sad, ← q]; exact hb)
        have zLn : ∀ b ∈ R :: sAddrs S dx D nds, b ≠ L' ∧ g'.get? b = none := fun b hb => by
          have := zL b (by simp at hb ⊢; exact .inr (.inr hb))
          exact ⟨this.1, this.2.1⟩
        have sA8 : SorterAt prog w h8 S dx D (.ref R) (po + rl.length) nf nd4 := sA4.keep (fun b hb o e => by
          rw [sad4] at hb
          exact kp48 b o (zLn b (.tail _ hb)).1 (zH2 b (.tail _ hb)) e)
        have hR8 : h8.get? R = some (listOf #[] rn4) := kp48 R _ (zLn R (.head _)).1 (zH2 R (.head _)) hR4
        have hO8 : h8.get? O = some (listOf (ivals ord).toArray on2) := kp8 O _ (Nat.ne_of_gt lO0) hO5
        refine Classical.byContradiction fun hGG => ?_
        obtain ⟨w1, w2, w3, w4, wp3, wf3, wnd, hX8⟩ := sA8.atX
        obtain ⟨oD8, hDD8, hDk8⟩ := sA8.atD
        refine hGG ?_
        clear hGG
        have N8 : News g' L' h8 ((O, listOf (ivals ord).toArray on2) :: (R, listOf #[] rn4) :: sLed S dx D (dictOf (sDict w w1 w2 w3 w4 D (.ref R) (.int (po + rl.length) wp3) (.int nf wf3)) wnd) oD8 nd4) := by
          refine newsCons ?_ (newsCons ?_ ?_)
          · exact ⟨hO8, mO.2.1, gsub6 mO.2.2⟩
          · exact ⟨hR8, zLn R (.head _)⟩
          · intro q hq
            exact sA8.news hX8 hDD8 (fun b hb => zLn b (.tail _ (by rw [← sad4]; exact hb))) q hq
        have ledA8 : ∀ b ∈ R :: sAddrs S dx D nds, ∃ q ∈ (O, listOf (ivals ord).toArray on2) :: (R, listOf #[] rn4) :: sLed S dx D (dictOf (sDict w w1 w2 w3 w4 D (.ref R) (.int (po + rl.length) wp3) (.int nf wf3)) wnd) oD8 nd4, q.1 = b := fun b hb => by
          rcases memC.mp hb with rfl | hb
          · exact ⟨_, .tail _ (.head _), rfl⟩
          · rw [← sad4, ← sLed_addrs S dx D (dictOf (sDict w w1 w2 w3 w4 D (.ref R) (.int (po + rl.length) wp3) (.int nf wf3)) wnd) oD8] at hb
            refine Classical.byContradiction fun hGG => ?_
            obtain ⟨q, hq, e⟩ := List.mem_map.mp hb
            refine hGG ?_
            clear hGG
            exact ⟨q, .tail _ (.tail _ hq), e⟩
        have ledB8 : ∀ q ∈ (O, listOf (ivals ord).toArray on2) :: (R, listOf #[] rn4) :: sLed S dx D (dictOf (sDict w w1 w2 w3 w4 D (.ref R) (.int (po + rl.length) wp3) (.int nf wf3)) wnd) oD8 nd4, q.1 = O ∨ q.1 ∈ R :: sAddrs S dx D nds := fun q hq => by
          simp only [memC] at hq
          rcases hq with rfl | rfl | hq
          · exact .inl rfl
          · exact .inr (.head _)
          · refine .inr (.tail _ ?_)
            rw [← sad4, ← sLed_addrs S dx D (dictOf (sDict w w1 w2 w3 w4 D (.ref R) (.int (po + rl.length) wp3) (.int nf wf3)) wnd) oD8]
            exact List.mem_map_of_mem hq
        refine Classical.byContradiction fun hGG => ?_
        obtain ⟨g9, tl9, F9, N9, st9, hold9, tne9, all9⟩ := rebase2 F8 N8
        refine hGG ?_
        clear hGG
        have keepN9 : Hold (News g9 L' h8 _) := ⟨N9⟩
        have keepF8 : Hold (Fr g' L' h8 _) := ⟨F8⟩
        have X9 := X'.keeps st9
        have T9 := T'.keeps st9
        have FF9' : h8.FunFrames g' (envX cn cs L a ccd cl :: outer) := funFrames_at FF' fun b hb => by
          refine Classical.byContradiction fun hGG => ?_
          obtain ⟨⟨o, ho, hd⟩, n1, n2⟩ := fr4 b hb
          refine hGG ?_
          clear hGG
          exact ⟨o, kp48 b o n2 n1 ho, hd⟩
        have B9 := belowF hA' st9 FF9' hold9 hLt' (fun b hb p hp q => by
          rcases ledB8 p hp with z | z
          · exact (zFI b (by rw [← q, z]; simp)).1 hb
          · exact (zFI b (by rw [← q]; simp at z ⊢; exact .inr (.inr z))).1 hb)
        have aO1 : Apart O R := ⟨Nat.ne_of_gt lO2⟩
        have aO2 : Apart O S := ⟨Nat.ne_of_gt lO3⟩
        have aO3 : Apart O dx := ⟨Nat.ne_of_gt lO4⟩
        have aO4 : Apart O D := ⟨Nat.ne_of_gt lO5⟩
        have tnO : TailNe O (List.flatMap (fun n => [(n.x, n.obj), (n.d, dictOf [] 0), (n.l, n.lst)]) nd4 ++ tl9) := ⟨fun q hq e => by
          rcases List.mem_append.mp hq with hq | hq
          · have : q.1 ∈ sAddrs S dx D nds := by
              rw [← sad4, ← sLed_addrs S dx D (dictOf (sDict w w1 w2 w3 w4 D (.ref R) (.int (po + rl.length) wp3) (.int nf wf3)) wnd) oD8]
              exact List.mem_map_of_mem (.tail _ (.tail _ (.tail _ hq)))
            rw [e] at this
            exact Nat.lt_irrefl _ (nOs _ this)
          · exact (tne9 _ (.head _)).ne q hq e⟩
        simp only [sLed, List.cons_append] at N9
        clear F8 N8 lF lN
        k_with "call ref" => (refine hold_of ?_)
        k_steps
        k_with_none
        (rename Fr g9 L' _ _ => lF); (rename News g9 L' _ _ => lN)
        rename_i h10
        have kt10 := keep2 lF lN all9 (fun q hq => .tail _ (.tail _ (.tail _ (.tail _ (.tail _ (List.mem_append_right _ hq))))))
        have kp10 : ∀ b o, b ≠ L' → b ≠ O → h8.get? b = some o → h10.get? b = some o := fun b o n1 n2 e => by
          by_cases q : ∃ p ∈ (O, listOf (ivals ord).toArray on2) :: (R, listOf #[] rn4) :: sLed S dx D (dictOf (sDict w w1 w2 w3 w4 D (.ref R) (.int (po + rl.length) wp3) (.int nf wf3)) wnd) oD8 nd4, p.1 = b
          · obtain ⟨p, hp, rfl⟩ := q
            have h8p := (keepN9.out p (List.mem_append_left _ hp)).1
            rw [e] at h8p
            cases h8p
            refine (lN p ?_).1
            rcases memC.mp hp with rfl | hp
            · exact absurd rfl n2
            · rcases memC.mp hp with rfl | hp
              · exact .tail _ (.head _)
              · simp only [sLed, memC] at hp
                rcases hp with rfl | rfl | rfl | hp
                · exact .tail _ (.tail _ (.head _))
                · exact .tail _ (.tail _ (.tail _ (.head _)))
                · exact .tail _ (.tail _ (.tail _ (.tail _ (.head _))))
                · exact .tail _ (.tail _ (.tail _ (.tail _ (.tail _ (List.mem_append_left _ hp)))))
          · exact kt10 b o n1 (fun p hp z => q ⟨p, hp, z⟩) e
        have nOz : ∀ b ∈ R :: sAddrs S dx D nds, b ≠ O := fun b hb q => zO (by rw [sad, ← q]; exact hb)
        have sA10 : SorterAt prog w h10 S dx D (.ref R) (po + rl.length) nf nd4 := sA8.keep (fun b hb o e => by
          rw [sad4] at hb
          exact kp10 b o (zLn b (.tail _ hb)).1 (nOz b (.tail _ hb)) e)
        have hR10 : h10.get? R = some (listOf (ivals []).toArray rn4) := kp10 R _ (zLn R (.head _)).1 (nOz R (.head _)) hR8
        have off10 : ∀ b ∈ R :: sAddrs S dx D nd4, b ≠ L' ∧ g9.get? b = none := fun b hb => by
          rw [sad4] at hb
          obtain ⟨q, hq, rfl⟩ := ledA8 b hb
          exact (keepN9.out q (List.mem_append_left _ hq)).2
        have hcp : c.p ∈ (init ++ [last]).map (·.p) := List.mem_map_of_mem hcm
        have cF := (pm.hpI c.p).mp hcp
        have nd4i : ∀ p : Int, 0 ≤ p → p < ((nlOf rows).length : Int) → ∃ n ∈ nd4, n.i = p ∧ n.sc.map (·.1) = ((List.range (nlOf rows).length).filter fun (q : Nat) => decide (p ∈ needsOf (nlOf rows) (q : Int))).map fun (q : Nat) => (q : Int) := fun p p0 p1 => by
          refine Classical.byContradiction fun hGG => ?_
          obtain ⟨n, hn, e1, e2⟩ := ndok'.has p0 p1
          obtain ⟨n', hn', e⟩ := shape_mem sh4 hn
          refine hGG ?_
          clear hGG
          simp only [Nd.shape, Prod.mk.injEq] at e
          exact ⟨n', hn', by rw [e.2.2.2.1, e1], by rw [e.2.2.2.2.2.1, e2]⟩
        refine Classical.byContradiction fun hGG => ?_
        obtain ⟨nj, hnj, hji, hjs⟩ := nd4i c.p cF.1 cF.2.1
        refine hGG ?_
        clear hGG
        have hscI : ∀ p ∈ nj.sc, 0 ≤ p.1 ∧ p.1 < ((nlOf rows).length : Int) := fun p hp => by
          have hm : p.1 ∈ nj.sc.map (·.1) := List.mem_map_of_mem hp
          rw [hjs] at hm
          refine Classical.byContradiction fun hGG => ?_
          obtain ⟨q, hq, e⟩ := List.mem_map.mp hm
          refine hGG ?_
          clear hGG
          rw [List.mem_filter, List.mem_range] at hq
          lia
        have len4 : nd4.length = rows.length := by
          have := congrArg List.length sh4
          simp only [List.length_map] at this
          rw [this, ndok.len]
        have hjL : nj.sc.length ≤ 100 := by
          have := congrArg List.length hjs
          simp only [List.length_map] at this
          rw [this]
          refine Nat.le_trans (List.length_filter_le _ _) ?_
          simp; lia
        refine ⟨?_⟩
        k_dflt refine done_spec (rl := []) B9 lF X9 T9 rfl sA10 hR10 (fun n hn q => nRs (by rw [← sad4, ← q]; exact mem_sl hn)) off10 np4 hnj hji (pm.fh c.p hcp) (fun p hp => by
          refine Classical.byContradiction fun hGG => ?_
          obtain ⟨n, hn, e, _⟩ := nd4i p.1 (hscI p hp).1 (hscI p hp).2
          refine hGG ?_
          clear hGG
          exact ⟨n, hn, e⟩) (by lia) (by first | exact mc0 | exact mc1 | exact mc2 | exact mc3 | exact mc4 | exact mc5 | exact mc6 | exact mc7 | simp) hjL (by first | exact roomB hd rfl | exact roomA hd rfl | ktr_room) (by first | exact roomB hu rfl | exact roomA hu rfl | ktr_units) ?_
        intro h11 tk11 rn11 nd11 hM11 sh11 np11 hR11 sA11
        refine wpAny_execs_nil ?_
        have F11 := hM11.fr (fr_sub lF st9 keepF8.out) (fun b hb => by rw [sad4] at hb; exact zLn b hb)
        have kp11 : ∀ b o, b ≠ L' → b ≠ O → b ∉ R :: sAddrs S dx D nds → h8.get? b = some o → h11.get? b = some o := fun b o n1 n2 n3 e => hM11.keep b o (by rw [sad4]; exact n3) (kp10 b o n1 n2 e)
        have zHs : H ∉ R :: sAddrs S dx D nds := fun q => zH2 H q rfl
        have zOs : O ∉ R :: sAddrs S dx D nds := fun q => nOz O q rfl
        have entA : ∀ x ∈ init ++ [last], x.a ≠ O ∧ x.a ∉ R :: sAddrs S dx D nds ∧ x.a ≠ L' := fun x hx => by
          have z := (b2 x hx).1
          have z8 := kp8 _ _ (hcH x hx) z
          refine ⟨fun q => ?_, fun q => ?_, (b2 x hx).2.1⟩
          · rw [q, hO8] at z8; simp [Ent.obj, pairObj] at z8
          · rcases List.mem_cons.mp q with q | q
            · rw [q, hR8] at z8; simp [Ent.obj, pairObj] at z8
            · rw [← sad4] at q
              exact sA8.notPair q z8
        have zO10 := (lN _ (.head _)).1
        have zOe : listOf (ivals ord ++ [Value.int c.p c.pt]).toArray (on2 + 1) = listOf (ivals (ord ++ [(c.p, c.pt)])).toArray (on2 + 1) := by simp [ivals]
        refine hQC _ _ ?_
        refine ⟨h11, _, _, rfl, F11, fun b hb o e => ?_, nd11, _, esr, ord ++ [(c.p, c.pt)], _, _, _, rn11, n8, on2 + 1, ⟨sA11, hR11, kp11 H _ mH.2.1 (Nat.ne_of_lt lO0) zHs hH8, ?_, fun x hx => ?_, np11, by rw [sh11, sh4]⟩, ?_, hp1, ?_, by simp [a5], fun b o n1 n2 e => ?_, fun z hz1 hz2 => ?_⟩
        · rw [List.mem_singleton] at hb
          rw [hb, hI2] at e
          cases e
          rw [hb]
          have nI2 : I2 ∉ H :: O :: R :: sAddrs S dx D nds := fun q => by
            refine Classical.byContradiction fun hGG => ?_
            obtain ⟨_, _, o, ho⟩ := zL I2 q
            refine hGG ?_
            clear hGG
            exact ne_of_fresh fI2 ho rfl
          simp only [List.mem_cons, not_or] at nI2
          exact kp11 I2 _ hI2L nI2.2.1 (by simp only [List.mem_cons, not_or]; exact nI2.2.2) (kp48 I2 _ hI2L nI2.1 hI24)
        · rw [← zOe]
          exact hM11.keep O _ (by rw [sad4]; exact zOs) zO10
        · have hxm : x ∈ init ++ [last] := hp2.mem_iff.mp (.tail _ hx)
          refine Classical.byContradiction fun hGG => ?_
          obtain ⟨y1, y2, y3⟩ := entA x hxm
          refine hGG ?_
          clear hGG
          exact ⟨kp11 _ _ y3 y1 y2 (kp8 _ _ (hcH x hxm) (b2 x hxm).1), (b2 x hxm).2.1, (b2 x hxm).2.2.1, (b2 x hxm).2.2.2.2⟩
        · rw [List.map_append]
          have hp2' : (c.p :: esr.map (·.p)).Perm ((init ++ [last]).map (·.p)) := hp2.map (fun e : Ent => e.p)
          exact pm.done hnl hp2' hjs
        · rw [List.map_append]
          refine a4.snoc cF (fun c' hF' => ?_)
          refine Classical.byContradiction fun hGG => ?_
          obtain ⟨x, hx, e⟩ := List.mem_map.mp ((pm.hpI c').mpr hF')
          refine hGG ?_
          clear hGG
          rw [← e, ent_kLt (b2 x hx).2.2.2.2 (b2 c hcm).2.2.2.2]
          exact hp3 x hx
        · simp only [List.mem_cons, not_or] at n2
          have n3 : b ∉ R :: sAddrs S dx D nds := by simp only [List.mem_cons, not_or]; exact n2.2.2
          have e2 := a6 b o n1 (by simp only [List.mem_cons, not_or]; exact n2) e
          exact kp11 b o n1 n2.2.1 n3 (kp48 b o n1 n2.1 (hM4.keep b o (by rw [sad]; exact n3) e2))
        · simp only [hz1, hz2, if_false, qMap]
end
theorem NoDec.enter {Γ : Ctx} (h : NoDec Γ) {c : Code} (hc : notDec c = true) (hd : Option Value) (p : Pos) : NoDec (Γ.enter c hd p) := ⟨hc, fun x hx => by
  rcases List.mem_cons.mp hx with rfl | hx
  · exact h.1
  · exact h.2 x hx⟩
theorem NoDec.goto {Γ : Ctx} (h : NoDec Γ) {c : Code} (hc : notDec c = true) : NoDec (Γ.goto c) := ⟨hc, h.2⟩
section
variable {α β : Type} {M : Model} {A : Around} {E : Value → Shared → Prop} {s : Shared}
theorem wpS_pure {a : α} {Q : α → Shared → Prop} (h : Q a s) : wpS M A (pure a) Q E s := fun _ _ _ _ => h
theorem codeS_any {c : Code} {R : Result → Shared → Prop} (h : codeAny M A c R s) : codeS M A c R s := fun Γ p hc hΓ _ => h Γ p hc hΓ
theorem wpS_runValue {c : Code} {Q : Value → Shared → Prop} (hc : codeS M A c (fun r s' => match r with | .ok (.ret v) => Q v s' | .ok _ => False | .error e => E e s') s) (hd : notDec c = true) :
    wpS M A (runValue c) Q E s := fun Γ p hΓ hn => by rw [Sem.wp_runValue]; exact hc _ p rfl (hΓ.enter c none p (by intro x; cases x)) (hn.enter hd none p)
theorem wpS_call {f : Value} {pos : List Value} {kw : List (Str × Value)} {Q : Value → Shared → Prop}
    (hc : codeS M A (.call f ⟨pos, kw⟩) (fun r s' => match r with | .ok (.ret v) => Q v s' | .ok _ => False | .error e => E e s') s) : wpS M A (call f pos kw) Q E s := wpS_runValue hc rfl
theorem codeS_of_tree {c : Code} {R : Result → Shared → Prop}
    (h : wpS M (A.under c) (M.den c) (fun fin s' => match fin with | .done f => R (.ok f) s' | .again c' => c'.quiet = true ∧ notDec c' = true ∧ codeS M A c' R s') (fun e s' => R (.error e) s') s) : codeS M A c R s := fun Γ p hc hΓ hn => by
  rw [wpCode_iff_wp, hc]
  refine Sem.wp_mono M Γ _ (fun fin p' s' h' => ?_) (fun _ _ _ h' => h') p s (h Γ p (hc ▸ hΓ.in) hn)
  cases fin with
  | done f => exact h'
  | again c' => exact ⟨h'.1, h'.2.2 (Γ.goto c') p' rfl (hΓ.goto c') (hn.goto h'.2.1)⟩
theorem codeS_mono {c : Code} {R R' : Result → Shared → Prop} (h : codeS M A c R s) (hR : ∀ r s', R r s' → R' r s') : codeS M A c R' s := fun Γ p hc hΓ hn => by
  have := h Γ p hc hΓ hn
  rw [wpCode_iff_wp] at this ⊢
  exact Sem.wp_mono M Γ _ (fun fin p' s' h' => finPost_mono hR h') (fun _ _ _ h' => hR _ _ h') p s this
theorem wpS_execs_cons {st : Stmt} {rest : List Stmt} {env : Env} {Q : Flow → Shared → Prop}
    (h : wpS M A (exec st env) (fun f s' => match f with | .next => wpS M A (execs rest env) Q E s' | f => Q f s') E s) : wpS M A (execs (st :: rest) env) Q E s := fun Γ p hΓ hn => by
  rw [execs_cons, Sem.wp_bind']
  refine Sem.wp_mono M Γ _ (fun f p' s' h' => ?_) (fun _ _ _ h' => h') _ _ (h Γ p hΓ hn)
  cases f <;> first | exact h' Γ p' hΓ hn | exact h'
theorem wpS_holding {vs : List Value} {m : Sem α} {Q : α → Shared → Prop} (h : wpS M A m Q E s) : wpS M A (holding vs m) Q E s := fun Γ p hΓ hn => by rw [Sem.wp_holding]; exact h Γ p hΓ hn
theorem wpS_onRaise {m : Sem α} {k : Value → Sem Unit} {Q : α → Shared → Prop} (h : wpS M A m Q (fun e s' => wpAny M A (k e) (fun _ s'' => E e s'') E s') s) : wpS M A (m.onRaise k) Q E s := fun Γ p hΓ hn => by
  rw [Sem.wp_onRaise]
  exact Sem.wp_mono M Γ m (fun _ _ _ h' => h') (fun e p' s' h' => h' Γ p' hΓ) p s (h Γ p hΓ hn)
/-- a plain step, then what follows -/
theorem wpS_then {t : Sem α} {k : α → Sem β} {Q : β → Shared → Prop} (h : wpAny M A t (fun a s' => wpS M A (k a) Q E s') E s) : wpS M A (t >>= k) Q E s := wpS_bind (wpS_any h)
end
section
variable {prog : Program} {w : World} {A : Around} {s : Shared} {R : Result → Shared → Prop}
theorem codeS_func {body : List Stmt} {env : Env}
    (h : wpS (model prog w) (A.deeper env) (execs body env) (fun f s' => R (.ok (.ret (match f with | .ret v => v | _ => .none))) s')
      (fun e s' => wpAny (model prog w) (A.deeper env) (leaving env e) (fun _ s'' => R (.error e) s'') (fun e' s'' => R (.error e') s'') s') s) :
    codeS (model prog w) A (.func body env) R s := by
  refine codeS_of_tree ?_
  show wpS _ (A.deeper env) (do point; match ← (execs body env).onRaise (leaving env) with | .ret v => ret v | _ => ret .none) _ _ s
  refine wpS_then (wpAny_point (wpS_bind (wpS_onRaise (wpS_mono h (fun f s' h' => ?_) fun _ _ h' => h'))))
  cases f <;> exact wpS_pure h'
theorem codeS_call_function {a : Addr} {args : Args} {o : Obj} {fd : FuncData} {body : List Stmt} (hroom : A.depth < recursionLimit) (ho : s.heap.get? a = some o)
    (hd' : o.data = .func fd) (hco : fd.scope.isCoroutine = false) (hgen : fd.scope.isGenerator = false) (hbody : fd.body = .stmts body) (hcd : s.heap.CodeRec fd.code fd.qualname)
    (h : wpAny (model prog w) A.in1 (bindArgs fd args) (fun binds s₁ =>
      wpAny (model prog w) A.in1 (newFunctionEnv fd.scope fd.globals fd.closure binds (fd.qualname ++ ".<locals>.") (some a) fd.code none fd.builtins)
        (fun env s₂ => s₂.heap.NoLimit ∧ codeS (model prog w) A (.func body env) R s₂) (fun e s' => R (.error e) s') s₁) (fun e s' => R (.error e) s') s) :
    codeS (model prog w) A (.call (.ref a) args) R s := by
  refine codeS_of_tree ?_
  show wpS _ A.in1 (callAny (.ref a) args) _ _ s
  refine wpS_any ?_
  simp only [callAny]
  refine wpAny_bind (wpAny_load ho ?_)
  refine Classical.byContradiction fun hGG => ?_
  obtain ⟨c, oc, vs, tq, hc, hoc, hdc, hq⟩ := hcd
  refine hGG ?_
  clear hGG
  simp only [hd', callFunction, hco, hgen, hbody, hc]
  rw [hc] at h
  refine wpAny_bind (m := field (.ref c) 1) (wpAny_field hoc hdc hq (wpAny_bind (wpAny_pure ?_)))
  exact wpAny_bind (wpAny_mono h (fun binds s₁ h₁ => wpAny_bind (wpAny_mono h₁ (fun env s₂ h₂ => wpAny_bind (wpAny_enterFrame h₂.1 hroom (wpAny_pure ⟨rfl, rfl, h₂.2⟩))) fun _ _ h' => h')) fun _ _ h' => h')
end
section
variable {M : Model} {A : Around} {E : Value → Shared → Prop} {s : Shared} {env : Env}
theorem wpS_Assign_Name {x pos' value pos} {Q : Flow → Shared → Prop}
    (h : wpS M A (eval value env) (fun v s₁ => wpAny M A (storeName env x v) (fun _ => Q .next) E s₁) E s)
    (hs : swapsWith value (some (.Name x pos')) pos.line env = pure false := by rfl) :
    wpS M A (exec (.Assign [.Name x pos'] value pos) env) Q E s := fun Γ p hΓ hn => by
  simp only [exec_Assign_Name env x pos' value pos hs, Sem.wp_bind', Sem.wp_cmd_standAt, Sem.wp_bindName, Sem.wp_pure']
  exact Sem.wp_mono M Γ _ (fun v _ s₁ h₁ => h₁ Γ _ hΓ) (fun _ _ _ h' => h') _ _ (h Γ _ hΓ hn)
theorem wpS_If {test body orelse pos} {Q : Flow → Shared → Prop}
    (h : wpS M A (isTrue test env (eval test env))
      (fun b s₂ => if b then wpS M A (execs body env) Q E s₂ else wpS M A (execs orelse env) Q E s₂) E s) :
    wpS M A (exec (.If test body orelse pos) env) Q E s := fun Γ p hΓ hn => by
  simp only [exec_If, Sem.wp_bind', Sem.wp_cmd_standAt]
  refine Sem.wp_mono M Γ _ (fun b p₂ s₂ h₂ => ?_) (fun _ _ _ h' => h') _ _ (h Γ _ hΓ hn)
  cases b <;> exact h₂ Γ p₂ hΓ hn
theorem wpS_isTrue_Compare1 {l op r pos whole} {Q : Bool → Shared → Prop}
    (h : wpS M A (eval l env) (fun a s₁ => wpAny M A (eval r env) (fun b s₂ => wpAny M A (compareOp op a b)
      (fun c s₃ => wpAny M A (truthy c) Q E s₃) E s₂) E s₁) E s)
    (hm : behindInMarks op r = false := by with_unfolding_all rfl) : wpS M A (isTrue (.Compare l [op] [r] pos) env whole) Q E s := fun Γ p hΓ hn => by
  simp only [isTrue_Compare1, markedBehindIn_of_false hm, Sem.wp_bind', Sem.wp_holding, Sem.wp_cmd_standAt, Sem.wp_operate]
  exact Sem.wp_mono M Γ _ (fun a p₁ s₁ h₁ => Sem.wp_mono M Γ _ (fun b _ s₂ h₂ => Sem.wp_mono M Γ _ (fun c p₃ s₃ h₃ => h₃ Γ p₃ hΓ)
    (fun _ _ _ h' => h') _ _ (h₂ Γ _ hΓ)) (fun _ _ _ h' => h') _ _ (h₁ Γ p₁ hΓ)) (fun _ _ _ h' => h') _ _ (h Γ p hΓ hn)
theorem wpS_Call {func : Expr} {args : List Expr} {pos : Pos} {Q : Value → Shared → Prop}
    (h : wpAny M A (eval func env) (fun f s₁ => wpS M A (callWith pos f [] (backTo pos (starEach args env)) []) Q E s₁) E s)
    (he : eval (.Call func args [] pos) env = (do callWith pos (← eval func env) [] (backTo pos (starEach args env)) (backToKw pos (keywordEach [] env))) := by rfl) :
    wpS M A (eval (.Call func args [] pos) env) Q E s := by
  rw [he]; exact wpS_then h
theorem wpS_spliced_cons {x : Sem Value} {rest : List (Bool × Sem Value)} {Q : List Value → Shared → Prop}
    (h : wpS M A x (fun v s₁ => wpS M A (spliced rest) (fun vs s₂ => Q (v :: vs) s₂) E s₁) E s) : wpS M A (spliced ((false, x) :: rest)) Q E s := by
  rw [spliced]
  refine wpS_bind (wpS_mono h (fun v s₁ h₁ => ?_) fun _ _ x => x)
  simp only [Bool.false_eq_true, if_false]
  exact wpS_bind (wpS_pure (wpS_bind (wpS_holding (wpS_mono h₁ (fun vs s₂ h₂ => wpS_pure h₂) fun _ _ x => x))))
theorem wpS_args_cons {e : Expr} {rest : List Expr} {pos : Pos} {Q : List Value → Shared → Prop}
    (h : wpS M A (eval e env) (fun v s₁ => wpS M A (spliced (backTo pos (starEach rest env))) (fun vs s₂ => Q (v :: vs) s₂) E s₁) E s)
    (he : starEach (e :: rest) env = (false, eval e env) :: starEach rest env := by rfl) : wpS M A (spliced (backTo pos (starEach (e :: rest) env))) Q E s := by
  rw [he]; exact wpS_spliced_cons h
theorem wpS_evalArgs {f : Value} {x : Sem Value} {rest : List (Bool × Sem Value)} {Q : Args → Shared → Prop}
    (h : wpS M A (spliced ((false, x) :: rest)) (fun vs s' => Q ⟨vs, []⟩ s') E s) : wpS M A (evalArgs f true ((false, x) :: rest) []) Q E s := by
  unfold evalArgs
  show wpS M A (spliced ((false, x) :: rest) >>= _) Q E s
  refine wpS_bind (wpS_mono h (fun vs s' h' => ?_) fun _ _ x => x)
  refine wpS_holding ?_
  exact wpS_bind (wpS_pure (wpS_bind (wpS_pure (wpS_pure h'))))
theorem wpS_callWith_type {pos : Pos} {T : String} {e : Expr} {rest : List Expr} {Q : Value → Shared → Prop}
    (h : wpS M A (spliced (backTo pos (starEach (e :: rest) env))) (fun vs s₁ => wpS M A (call (.type T) vs) Q E s₁) E s)
    (he : starEach (e :: rest) env = (false, eval e env) :: starEach rest env := by rfl)
    (hplain : (backTo pos (starEach rest env)).any (·.1) = false := by rfl) :
    wpS M A (callWith pos (.type T) [] (backTo pos (starEach (e :: rest) env)) []) Q E s := by
  rw [he] at h ⊢
  have hp : (backTo pos ((false, eval e env) :: starEach rest env)).any (·.1) = false := by show (false || (backTo pos (starEach rest env)).any (·.1)) = false; rw [hplain]; rfl
  have h' : wpS M A (evalArgs (.type T) true (backTo pos ((false, eval e env) :: starEach rest env)) []) (fun a s₁ => wpS M A (call (.type T) ([] ++ a.pos) a.kw) Q E s₁) E s := wpS_evalArgs h
  unfold callWith
  refine wpS_bind (wpS_holding (wpS_mono h' (fun a s₁ h₁ => wpS_then (wpAny_standAt ?_)) fun _ _ x => x))
  simp only [hp, List.any_nil, Bool.or_false]
  refine wpS_bind (wpS_pure ?_)
  exact wpS_bind (wpS_mono h₁ (fun r s₂ hr => wpS_any (wpAny_bind (wpAny_holding (wpAny_point (wpAny_pure hr))))) fun _ _ x => x)
theorem wpS_keep {α : Type} {vs : List Value} {m : Sem α} {Q : α → Shared → Prop} (h : wpS M A m Q E s) : wpS M A (m.keep vs) Q E s :=
  fun Γ p hΓ hn => by rw [Sem.wp_keep]; exact h Γ p hΓ hn
theorem wpS_callWith_K {K : Frag} {f : Value} {pos : Pos} {first : List Value} {Q : Value → Shared → Prop} {e : Expr} {rest : List Expr} (hk : keepIn K f = true)
    (h : wpS M A (spliced (backTo pos (starEach (e :: rest) env))) (fun vs s₁ => K.In s₁.heap ∧ wpS M A (call f (first ++ vs)) Q E s₁) E s)
    (he : starEach (e :: rest) env = (false, eval e env) :: starEach rest env := by rfl) (hplain : (backTo pos (starEach rest env)).any (·.1) = false := by rfl) :
    wpS M A (callWith pos f first (backTo pos (starEach (e :: rest) env)) []) Q E s := by
  rw [he] at h ⊢
  have hp : ((backTo pos ((false, eval e env) :: starEach rest env)).any (·.1) || ([] : List (Option Str × Sem Value)).any (·.1.isNone)) = false := by
    show ((false || (backTo pos (starEach rest env)).any (·.1)) || false) = false
    rw [hplain]; rfl
  have h' : wpS M A (evalArgs f true (backTo pos ((false, eval e env) :: starEach rest env)) []) (fun a s₁ => K.In s₁.heap ∧ wpS M A (call f (first ++ a.pos) a.kw) Q E s₁) E s := wpS_evalArgs h
  unfold callWith
  refine wpS_bind (wpS_holding (wpS_mono h' (fun a s₁ h₁ => wpS_then (wpAny_standAt ?_)) fun _ _ x => x))
  obtain ⟨k, hk', L⟩ := keeps_K (M := M) hk _ h₁.1
  simp only [hp]
  refine wpS_then (L.here ?_)
  have tail : ∀ {t : Sem Value}, wpS M A t Q E s₁ → wpS M A (t >>= fun r => holding [r] point >>= fun _ => pure r) Q E s₁ :=
    fun ht => wpS_bind (wpS_mono ht (fun r s₂ hr => wpS_any (wpAny_bind (wpAny_holding (wpAny_point (wpAny_pure hr))))) fun _ _ x => x)
  have marked (mk : Value) : wpS M A (callMarked mk f (first ++ a.pos) a.kw) Q E s₁ := by unfold callMarked; exact wpS_keep h₁.2
  rcases hk' with rfl | rfl | rfl <;> dsimp only <;> first | exact tail h₁.2 | (split <;> first | exact tail h₁.2 | exact tail (marked _))
end
section
variable {prog : Program} {w : World} {A A₀ : Around} {s : Shared} {K : Frag} {L : Addr} {h₀ base : Heap} {m mg mb : Str → Option Value} {news : List (Addr × Obj)} {p : Program} {loose : List Str} {mean : ExcName → Option Value}
/-- entry of a def, under S -/
theorem enterS {env : Env} {outer : List Env} {R : Result → Shared → Prop} {name qual : Str} {params : Arguments} {body : List Stmt} {scope : Scope} {dV kV doc pm cdv ct oc : Value} {an od : Option Addr} {osl : Array (Option Value)} {f : Addr} {args : Args} {binds : List (Str × Value)}
    (B : Below A₀ base outer h₀) (F : Fr h₀ L s.heap m) (X₀ : K.In h₀) (N : News h₀ L s.heap news) (T : Top p loose mean mg mb h₀) (hA : A.frames = some (env :: outer)) (hf : env.frame = some L) (hke : env.scope.kind = .function)
    (ho : K.lookup f = some ⟨oc, od, .func (fnOf name qual params body scope dV kV doc pm an cdv ct), osl⟩) (hcd : codeIn K cdv qual = true) (hroom : A.depth < recursionLimit)
    (hbind : BindsTo s (fnOf name qual params body scope dV kV doc pm an cdv ct) args binds) (hloc : ∀ y ∈ binds, scope.names.lookup y.1 = some .local)
    (h : ∀ g L' h₁, Held news s.heap g → s.heap.objs.size = L' → (∀ b o, s.heap.get? b = some o → h₁.get? b = some o) → Fr g L' h₁ (fun y => binds.reverse.lookup y) → News g L' h₁ news → Below A base (env :: outer) g → K.In g → Top p loose mean mg mb g →
      wpS (model prog w) (A.deeper (envOf qual scope L' f cdv)) (execs body (envOf qual scope L' f cdv))
        (fun fl s' => BackM g s.heap (news.map (·.1)) R (match fl with | .ret v => v | _ => .none) s')
        (fun e s' => wpAny (model prog w) (A.deeper (envOf qual scope L' f cdv)) (leaving (envOf qual scope L' f cdv) e) (fun _ s'' => R (.error e) s'') (fun e' s'' => R (.error e') s'') s')
        { s with heap := h₁, toks := s.toks + binds.length })
    (hco : scope.isCoroutine = false) (hgen : scope.isGenerator = false) (hk : scope.kind = .function)
    (hcell : ∀ x ∈ scope.names, x.2 ≠ .cell) : codeS (model prog w) A (.call (.ref f) args) R s := by
  obtain ⟨FG, BG, st, lv⟩ := groundX (R := R) B F N hA hf hke
  refine codeS_call_function (fd := fnOf name qual params body scope dV kV doc pm an cdv ct) (body := body) hroom ((X₀.keeps F.keep) _ _ ho) rfl hco hgen rfl (codeRec_of (X₀.keeps F.keep) hcd) (hbind _ _ _ _ ?_)
  refine wpAny_newFunctionEnv hcell hloc (fun h₁ hns hsb => ⟨(T.nolimit.keeps F.keep).fresh _ hsb, codeS_func ?_⟩) hk
  have hk₁ : ∀ b o, s.heap.get? b = some o → h₁.get? b = some o := fun b o e => hsb.extBut b o (Nat.ne_of_lt (Heap.lt_size e)) (Heap.get?_push_of_some _ e)
  have F' : Fr (hideAll s.heap (news.map (·.1))) s.heap.objs.size h₁ (fun y => binds.reverse.lookup y) := ⟨hns, fun b o e => hk₁ b o (of_hideAll _ e), Nat.le_of_eq (hideAll_size _ _)⟩
  have HD : Held news s.heap (hideAll s.heap (news.map (·.1))) := fun b o hb e => hideAll_get _ e fun q => by
    obtain ⟨p, hp, e'⟩ := List.mem_map.mp q
    exact hb p hp e'
  refine wpS_mono (h _ s.heap.objs.size h₁ HD rfl hk₁ F'
    (fun p hp => ⟨hk₁ _ _ (N p hp).1, Nat.ne_of_lt (Heap.lt_size (N p hp).1), hideAll_none _ (List.mem_map_of_mem hp)⟩) BG (X₀.keeps st) (T.keeps st)) (fun fl s' hl => ?_) fun _ _ y => y
  obtain ⟨L', m', F₂, k⟩ := hl
  exact k ⟨fun b o hb e => F₂.keep b o (HD b o (fun p hp q => hb (List.mem_map.mpr ⟨p, hp, q⟩)) e)⟩
end
noncomputable def baObj (b : Array UInt8) : Obj := { cls := .type "bytearray", data := .bytearray b }
theorem ba_mro : mroOf (.type "bytearray") = pure [.type "bytearray", .type "object"] := by rw [mroOf_type]; kernel_rfl
theorem ba_lookup_new : typeLookup (.type "bytearray") "__new__" = pure (some (.builtin "bytearray.__new__")) := by rw [typeLookup_type, builtinLookup_eq_fast]; kernel_rfl
theorem ba_slot_init : Slot "bytearray" "__init__" "bytearray.__init__" :=
  .of (owner := "bytearray") (n := "__init__") (by rw [typeLookup_type, builtinLookup_eq_fast]; kernel_rfl) (by decide +kernel) (by decide +kernel) (by decide +kernel)
    (by first | exact .inl (by decide +kernel) | exact .inr (by decide +kernel)) (by rw [isSubtype_type]; kernel_rfl)
theorem ba_slot_set : Slot "bytearray" "__setitem__" "bytearray.__setitem__" :=
  .of (owner := "bytearray") (n := "__setitem__") (by rw [typeLookup_type, builtinLookup_eq_fast]; kernel_rfl) (by decide +kernel) (by decide +kernel) (by decide +kernel)
    (by first | exact .inl (by decide +kernel) | exact .inr (by decide +kernel)) (by rw [isSubtype_type]; kernel_rfl)
theorem ba_called : TypeCalled "bytearray" "bytearray.__new__" "bytearray.__init__" :=
  ⟨by decide +kernel, by decide +kernel, ⟨_, _, ba_mro⟩, madeBy_type ba_mro ba_lookup_new (by decide +kernel), by decide +kernel, by rw [isSubtype_type]; kernel_rfl, ba_slot_init⟩
theorem ba_typeCall (a : Value) : checkTypeCall "bytearray" ⟨[a], []⟩ = pure () := by kernel_rfl
theorem ba_newCall (a : Value) : checkBuiltinCall "bytearray.__new__" ⟨[.type "bytearray", a], []⟩ = pure () := by kernel_rfl
theorem ba_entry_new : entryFor table "bytearray.__new__" = some Builtin.«list.__new__» := entryFor_alias (id' := "list.__new__") (by rw [fastTable_eq_tree]; kernel_rfl) (by decide +kernel) (by decide +kernel) (by rw [fastTable_eq_tree]; kernel_rfl)
theorem ba_osig : Manifest.owners.lookup (String.ofList ['y', 'a', 'r', 'r', 'a', 'e', 't', 'y', 'b'].reverse) = some Manifest.sig_bytearray := by kernel_rfl
theorem ba_entry_init : entryFor table "bytearray.__init__" = some Builtin.«bytearray.__init__» := by first | exact entryFor_of_tree (by kernel_rfl) | exact entryFor_of_fast (by kernel_rfl)
theorem ba_entry_set : entryFor table "bytearray.__setitem__" = some Builtin.«bytearray.__setitem__» := by first | exact entryFor_of_tree (by kernel_rfl) | exact entryFor_of_fast (by kernel_rfl)
theorem ba_plain_new : plainId "bytearray.__new__" = true := by decide +kernel
theorem ba_owner : ("bytearray.__new__".splitOn ".__new__").headD "" = "bytearray" := by simp +decide [String.splitOn, String.splitOnAux]
theorem ba_sub : isSubtype (.type "bytearray") (.type "bytearray") = pure true := by rw [isSubtype_type]; kernel_rfl
theorem ba_args_init (a b : Value) : argsOk "bytearray.__init__" ⟨[a, b], []⟩ := by
  unfold argsOk; rw [signature?_of (id := "bytearray.__init__") (n := ['_', '_', 't', 'i', 'n', 'i', '_', '_']) (o := ['y', 'a', 'r', 'r', 'a', 'e', 't', 'y', 'b']) (by kernel_rfl) ba_osig]; kernel_rfl
theorem ba_args_set (a b c : Value) : argsOk "bytearray.__setitem__" ⟨[a, b, c], []⟩ := by
  unfold argsOk; rw [signature?_of (id := "bytearray.__setitem__") (n := ['_', '_', 'm', 'e', 't', 'i', 't', 'e', 's', '_', '_']) (o := ['y', 'a', 'r', 'r', 'a', 'e', 't', 'y', 'b']) (by kernel_rfl) ba_osig]; kernel_rfl
section
variable {prog : Program} {w : World} {A : Around} {E : Value → Shared → Prop} {s : Shared}
theorem code_ba_new (a : Value) {Q₁ : Value → Shared → Prop}
    (h : Q₁ (.ref s.heap.objs.size) { s with heap := s.heap.push (baObj #[]) }) :
    codeAny (model prog w) A (.call (.builtin "bytearray.__new__") ⟨[.type "bytearray", a], []⟩) (wants Q₁ E) s := by
  refine codeAny_of_tree ?_
  show wpAny _ A.in1 (do checkBuiltinCall "bytearray.__new__" ⟨[.type "bytearray", a], []⟩; again (.builtin "bytearray.__new__" ⟨[.type "bytearray", a], []⟩)) _ _ s
  refine wpAny_bind (wpAny_of_eq (ba_newCall a) (wpAny_pure ⟨plainId_quiet ba_plain_new _, codeAny_builtin_stack ba_entry_new rfl fun p st => ?_⟩))
  rw [Around.under_plainId ba_plain_new _]
  have hsub := ba_sub
  have hown := ba_owner
  obtain ⟨hp, g, d, tk, os⟩ := s
  simp only [hown]
  wp_walk
  exact h
end
section
variable {prog : Program} {w : World} {A : Around} {E : Value → Shared → Prop} {s : Shared} {R : Result → Shared → Prop}
theorem codeS_builtin {id : String} {args : Args} {b : Builtin} (hb : entryFor table id = some b)
    (h : wpS (model prog w) (A.under (.builtin id args)) (b args)
      (fun fin s' => match fin with | .done f => R (.ok f) s' | .again c' => c'.quiet = true ∧ notDec c' = true ∧ codeS (model prog w) A c' R s') (fun e s' => R (.error e) s') s) :
    codeS (model prog w) A (.builtin id args) R s := by
  refine codeS_of_tree ?_
  show wpS _ _ (match entryFor table id with | some b => b args | none => unsupported ((withoutEnding? id "#data").getD id)) _ _ s
  rw [hb]; exact h
theorem codeS_slot {T id : String} {name : Str} {B : Builtin} {obj : Value} {rest : List Value} (sl : Slot T name id) (hn : notDec (.builtin id ⟨obj :: rest, []⟩) = true) (entry : entryFor table id = some B) (hT : s.TypeIs obj T) (hok : argsOk id ⟨obj :: rest, []⟩)
    (h : wpS (model prog w) A.in1 (B ⟨obj :: rest, []⟩)
      (fun fin s' => match fin with | .done f => R (.ok f) s' | .again c' => c'.quiet = true ∧ notDec c' = true ∧ codeS (model prog w) A c' R s') (fun e s' => R (.error e) s') s) :
    codeS (model prog w) A (.call (.builtin id) ⟨obj :: rest, []⟩) R s := by
  refine codeS_of_tree ?_
  show wpS _ A.in1 (do checkBuiltinCall id ⟨obj :: rest, []⟩; again (.builtin id ⟨obj :: rest, []⟩)) _ _ s
  refine wpS_then (sl.check _ _ _ _ _ _ _ _ hT hok (wpS_pure ⟨plainId_quiet sl.plain _, hn, codeS_builtin entry ?_⟩))
  rw [Around.under_plainId sl.plain _]
  exact h
theorem callSpecialS {T id : String} {name : Str} {obj : Value} {args : List Value} {Q : Option Value → Shared → Prop} (sl : Slot T name id) (hT : s.TypeIs obj T)
    (h : wpS (model prog w) A (call (.builtin id) (obj :: args)) (fun v s' => Q (some v) s') E s) : wpS (model prog w) A (callSpecial? obj name args []) Q E s := by
  unfold callSpecial?
  refine wpS_then (wpAny_specialOf hT sl.lookup ?_)
  dsimp only
  refine wpS_holding ?_
  rw [sl.bind]
  refine wpS_bind (wpS_pure ?_)
  refine wpS_bind (wpS_mono h (fun v s' hv => wpS_pure hv) fun _ _ e => e)
noncomputable def expF (self : Value) : Code × Pos → Bool := fun
    | (.builtin "bytearray.__contains__" ⟨v :: _, _⟩, _) | (.builtin "bytearray.__mod__" ⟨v :: _, _⟩, _)
    | (.builtin "bytearray.__rmod__" ⟨_ :: v :: _, _⟩, _) | (.builtin "_struct.pack_into.held" ⟨v :: _, _⟩, _) => Builtin.Bytes.sameRef v self
    | (.builtin "bytearray.find.held" ⟨_ :: _ :: held, _⟩, _) => held.any (Builtin.Bytes.sameRef self)
    | (.builtin id ⟨v :: _, _⟩, _) => Builtin.Bytes.sameRef v self && Builtin.Bytes.decodersThatHold.contains id
    | _ => false
theorem exp_eq (self : Value) : Builtin.Bytes.exported self = (stack >>= fun st => pure (st.any (expF self))) := rfl
theorem expF_false (self : Value) (c : Code) (p : Pos) (h1 : c.isGuard = false) (h2 : notDec c = true) : expF self (c, p) = false := by
  cases c with
  | builtin id args =>
    obtain ⟨pos, kw⟩ := args
    have h0 : guardIds.contains id = false := h1
    clear h1
    have n1 : ¬ id = "bytearray.__contains__" := fun q => absurd (q ▸ h0) (by decide +kernel)
    have n2 : ¬ id = "bytearray.__mod__" := fun q => absurd (q ▸ h0) (by decide +kernel)
    have n3 : ¬ id = "bytearray.__rmod__" := fun q => absurd (q ▸ h0) (by decide +kernel)
    have n4 : ¬ id = "_struct.pack_into.held" := fun q => absurd (q ▸ h0) (by decide +kernel)
    have n5 : ¬ id = "bytearray.find.held" := fun q => absurd (q ▸ h0) (by decide +kernel)
    have h3 : Builtin.Bytes.decodersThatHold.contains id = false := by
      simp only [notDec, Bool.not_eq_true'] at h2
      exact h2
    first | delta expF expF.match_1 expF._sparseCasesOn_1 expF._sparseCasesOn_2 | delta expF expF.match_1 notDec._sparseCasesOn_1 expF._sparseCasesOn_1
    dsimp only
    rw [dif_neg n1, dif_neg n2, dif_neg n3, dif_neg n4, dif_neg n5]
    cases pos with
    | nil => rfl
    | cons v r => show (_ && _) = false; rw [h3, Bool.and_false]
  | _ => rfl
theorem wpS_exported {M : Model} {a : Value} {Q : Bool → Shared → Prop} (hg : A.guards = some []) (h : Q false s) : wpS M A (Builtin.Bytes.exported a) Q E s := fun Γ p hΓ hn => by
  rw [exp_eq, Sem.wp_bind']
  show Q (((Γ.code, p) :: Γ.below).any (expF a)) s
  have gs : guardsOf ((Γ.code, p) :: Γ.below) = [] := by rw [guardsOf_cons]; exact hΓ.2.2.2.1 [] hg
  have hz : ((Γ.code, p) :: Γ.below).any (expF a) = false := by
    rw [List.any_eq_false]
    intro x hx
    have ng : x.1.isGuard = false := by
      cases q : x.1.isGuard with
      | false => rfl
      | true =>
        have : x.1 ∈ guardsOf ((Γ.code, p) :: Γ.below) := List.mem_filter.mpr ⟨List.mem_map_of_mem hx, q⟩
        rw [gs] at this; cases this
    have nd : notDec x.1 = true := by
      rcases List.mem_cons.mp hx with rfl | hx
      · exact hn.1
      · exact hn.2 x hx
    have := expF_false a x.1 x.2 ng nd
    simpa using this
  rw [hz]; exact h
theorem ba_rel_lookup : typeLookup (.type "bytearray") "__release_buffer__" = pure (some (.builtin "bytearray.__release_buffer__")) := by rw [typeLookup_type, builtinLookup_eq_fast]; kernel_rfl
theorem ba_bind (v : Value) : Builtin.Bytes.bindOptional "bytearray.__init__" "bytearray" ["source", "encoding", "errors"] [v] [] = pure [some v, none, none] := by kernel_rfl
theorem ba_int_index : typeLookup (.type "int") "__index__" = pure (some (.builtin "int.__index__")) := by rw [typeLookup_type, builtinLookup_eq_fast]; kernel_rfl
theorem ba_typeIs {a : Addr} {b : Array UInt8} (h : s.heap.get? a = some (baObj b)) : s.TypeIs (.ref a) "bytearray" := ⟨_, h, rfl⟩
theorem ba_ownRelease {M : Model} {a : Addr} {Q : Bool → Shared → Prop} (hT : s.TypeIs (.ref a) "bytearray") (h : Q false s) : wpAny M A (Builtin.Bytes.ownRelease (.ref a)) Q E s := by
  unfold Builtin.Bytes.ownRelease Builtin.Bytes.slotIsOwn
  refine wpAny_bind (wpAny_bind (wpAny_specialOf hT ba_rel_lookup ?_))
  dsimp only
  refine bm_if_false (by decide +kernel) ?_
  refine wpAny_isInstance (T := "bytearray") (b := true) hT ?_ (wpAny_pure h)
  first | exact ba_sub | (rw [isSubtype_type]; kernel_rfl)
theorem ba_write {M : Model} {a : Addr} {b : Array UInt8} {f : Array UInt8 → Array UInt8} {Q : Unit → Shared → Prop} (ha : s.heap.get? a = some (baObj b)) (hz : (f b).size ≤ 1000)
    (h : ∀ h', Heap.SameBut a s.heap h' → h'.get? a = some (baObj (f b)) → Q () { s with heap := h' }) : wpAny M A (Builtin.Bytes.write (.ref a) f) Q E s := by
  show wpAny _ _ (updateBytearray a f) _ _ _
  unfold updateBytearray
  refine wpAny_bind (wpAny_load ha ?_)
  show wpAny _ _ (update a (Obj.mapBytearray f) >>= fun _ => lookBehind a) _ _ _
  refine wpAny_bind (wpAny_update ha ?_)
  have h2 : (s.heap.update a (Obj.mapBytearray f)).get? a = some (baObj (f b)) := Heap.get?_update_self (Obj.mapBytearray f) ha rfl
  refine wpAny_lookBehind h2 ?_ (h _ (Heap.SameBut.update ..) h2)
  show (if (f b).size > sizeLine then some "bytearray:memory" else none) = none
  rw [if_neg]
  rw [sizeLine_eq]
  lia
theorem asStr_int (n : Int) (t : Tok) : asStr? (Value.int n t) = pure none := by first | rfl | (unfold asStr?; rfl)
theorem asIndex_int (n : Int) (t : Tok) : asIndex (Value.int n t) = pure n := rfl
theorem attempt_pure {α : Type} (x : α) : (pure x : Sem α).attempt = pure (.ok x) := by first | rfl | (unfold Sem.attempt; rfl)
theorem so_int (n : Int) (t : Tok) : specialOf (Value.int n t) (Str.ofString "__index__") = pure (some (.builtin "int.__index__")) := by
  unfold specialOf
  show (pure (Value.type "int") >>= fun ty => typeLookup ty _) = _
  first | exact ba_int_index | (rw [show (pure (Value.type "int") >>= fun ty => typeLookup ty (Str.ofString "__index__")) = typeLookup (.type "int") (Str.ofString "__index__") from rfl]; exact ba_int_index)
theorem ba_ifS {α : Type} {c : Prop} [Decidable c] {M : Model} {x y : Sem α} {Q : α → Shared → Prop} (hc : ¬ c) (h : wpS M A y Q E s) : wpS M A (if c then x else y) Q E s := by rw [if_neg hc]; exact h
theorem ba_if {α : Type} {c : Prop} [Decidable c] {M : Model} {x y : Sem α} {Q : α → Shared → Prop} (hc : ¬ c) (h : wpAny M A y Q E s) : wpAny M A (if c then x else y) Q E s := by rw [if_neg hc]; exact h
theorem ba_ifT {α : Type} {c : Prop} [Decidable c] {M : Model} {x y : Sem α} {Q : α → Shared → Prop} (hc : c) (h : wpAny M A x Q E s) : wpAny M A (if c then x else y) Q E s := by rw [if_pos hc]; exact h
theorem ba_att (n : Int) (t : Tok) : (asIndex (Value.int n t)).attempt = pure (.ok n) := attempt_pure n
theorem ba_init {a : Addr} {n : Nat} {t : Tok} {Q : Fin → Shared → Prop} (hg : A.guards = some []) (ha : s.heap.get? a = some (baObj #[])) (hn : n ≤ 1000)
    (h : ∀ h', Heap.SameBut a s.heap h' → h'.get? a = some (baObj (Array.replicate n 0)) → Q (.done (.ret .none)) { s with heap := h' }) :
    wpS (model prog w) A (Builtin.«bytearray.__init__» ⟨[.ref a, .int n t], []⟩) Q E s := by
  have hT := ba_typeIs ha
  have c1 : Builtin.Bytes.fitsIndex (n : Int) = true := by
    unfold Builtin.Bytes.fitsIndex
    simp only [Bool.and_eq_true, decide_eq_true_eq]
    lia
  have c2 : ¬ ((n : Int) < 0) := by lia
  have c3 : ((n : Int) == 2 ^ 63 - 1) = false := by rw [beq_eq_false_iff_ne]; lia
  have c4 : Builtin.Bytes.tooLong (n : Int).toNat = false := by
    unfold Builtin.Bytes.tooLong
    rw [decide_eq_false_iff_not, sizeLine_eq]
    lia
  have c1' : ¬ ((!Builtin.Bytes.fitsIndex (n : Int)) = true) := by rw [c1]; decide
  have c3' : ¬ (((n : Int) == 2 ^ 63 - 1) = true) := by rw [c3]; decide
  have c4' : ¬ (Builtin.Bytes.tooLong (n : Int).toNat = true) := by rw [c4]; decide
  unfold Builtin.«bytearray.__init__»
  dsimp only
  refine wpS_then (ba_ownRelease hT ?_)
  refine ba_ifS (by decide) ?_
  refine wpS_then (wpAny_of_eq (ba_bind _) ?_)
  refine wpS_then (wpAny_of_eq (a := ()) rfl ?_)
  refine wpS_then (wpAny_of_eq (a := ()) rfl ?_)
  refine wpS_bind (wpS_bind (wpS_exported hg ?_))
  refine wpS_any ?_
  show wpAny _ _ (Builtin.Bytes.exportsOf (.ref a) >>= fun n => pure (decide (n > 0))) _ _ _
  unfold Builtin.Bytes.exportsOf
  refine wpAny_bind (wpAny_bind (wpAny_load ha (wpAny_pure (wpAny_pure ?_))))
  refine wpS_any ?_
  refine bm_if_false (by decide) ?_
  refine wpAny_bind (ba_write ha (by simp) fun h1 hs1 ha1 => ?_)
  refine wpAny_bind ?_
  rw [asStr_int]
  refine wpAny_pure ?_
  rw [if_neg (by decide)]
  refine wpAny_bind ?_
  rw [if_neg (by decide)]
  rw [if_neg (by decide)]
  refine wpAny_pure ?_
  refine wpAny_bind ?_
  rw [so_int]
  refine wpAny_pure ?_
  rw [if_pos (by decide)]
  refine wpAny_bind ?_
  rw [ba_att]
  refine wpAny_pure ?_
  dsimp only
  rw [if_neg c1', if_neg c2, if_neg c3', if_neg c4']
  refine wpAny_bind ?_
  refine wpAny_rule ?_
  by_cases hp : (n : Int) > 0
  · rw [if_pos hp]
    refine wpAny_bind (ba_write ha1 (by simp; lia) fun h2 hs2 ha2 => ?_)
    refine wpAny_pure (h h2 (hs1.trans hs2) ?_)
    rw [ha2]; simp
  · rw [if_neg hp]
    refine wpAny_pure (h h1 hs1 ?_)
    have : n = 0 := by lia
    subst this
    rw [ha1]; rfl
end
section
variable {prog : Program} {w : World} {A : Around} {E : Value → Shared → Prop} {s : Shared} {R : Result → Shared → Prop}
theorem ifS_false {α : Type} {M : Model} {c : Bool} {a b : Sem α} {Q : α → Shared → Prop} (hc : c = false) (h : wpS M A b Q E s) : wpS M A (if c = true then a else b) Q E s := by
  subst hc
  exact h
theorem ba_callS {n : Nat} {t : Tok} {Q : Value → Shared → Prop} (hg : A.guards = some []) (hn : n ≤ 1000)
    (h : ∀ a h', s.heap.get? a = none → (∀ b o, s.heap.get? b = some o → h'.get? b = some o) → h'.get? a = some (baObj (Array.replicate n 0)) → Q (.ref a) { s with heap := h' }) :
    wpS (model prog w) A (call (.type "bytearray") [.int n t]) Q E s := by
  have ft := ba_called
  obtain ⟨c, tl, hmro⟩ := ft.mro
  have hmade := ft.made
  have hsub := ft.sub
  refine wpS_call (codeS_of_tree ?_)
  show wpS _ _ (callAny (.type "bytearray") _) _ _ _
  refine wpS_pure ⟨Code.quiet_builtin _ (by decide +kernel), (by show (!(Builtin.Bytes.decodersThatHold.contains "type.__call__")) = true; decide +kernel), codeS_builtin F.entry_type_call ?_⟩
  rw [Around.under_plain (weight_type_call_type "bytearray" [.int n t] []) rfl]
  unfold Builtin.«type.__call__»
  dsimp only
  refine ifS_false ft.notType ?_
  refine ifS_false ft.canCreate ?_
  refine wpS_then (wpAny_of_eq (ba_typeCall _) ?_)
  refine wpS_then (wpAny_of_eq hmro ?_)
  refine ifS_false rfl ?_
  refine wpS_then (wpAny_of_eq hmade ?_)
  dsimp only
  refine wpS_bind (wpS_pure ?_)
  refine wpS_then ?_
  refine wpAny_holding ?_
  have hfr := fresh_size s.heap
  have ha : (s.heap.push (baObj #[])).get? s.heap.objs.size = some (baObj #[]) := Heap.get?_push_size _ rfl
  refine wpAny_call (codeAny_mono (code_ba_new (E := E) (Q₁ := fun v s' => v = .ref s.heap.objs.size ∧ s' = { s with heap := s.heap.push (baObj #[]) }) _ ⟨rfl, rfl⟩) fun r s₁ hr => ?_)
  cases r with
  | error e => exact hr
  | ok fl =>
    cases fl with
    | ret v =>
      obtain ⟨rfl, rfl⟩ := hr
      have hT : ({ s with heap := s.heap.push (baObj #[]) } : Shared).TypeIs (.ref s.heap.objs.size) "bytearray" := ba_typeIs (s := { s with heap := s.heap.push (baObj #[]) }) ha
      refine wpS_then (wpAny_isInstance hT ba_sub ?_)
      refine ifS_false rfl ?_
      refine wpS_bind (wpS_holding (callSpecialS ba_slot_init hT ?_))
      refine wpS_call (codeS_slot ba_slot_init (by show (!(Builtin.Bytes.decodersThatHold.contains "bytearray.__init__")) = true; decide +kernel) ba_entry_init hT (ba_args_init _ _) ?_)
      refine ba_init (s := { s with heap := s.heap.push (baObj #[]) }) hg ha hn fun h' hs ha' => ?_
      dsimp only
      refine ifS_false rfl ?_
      refine wpS_pure (h _ h' hfr (fun b o e => ?_) ha')
      exact (hs.2 b (Nat.ne_of_lt (Heap.lt_size e))).trans (Heap.get?_push_of_some _ e)
    | _ => exact hr.elim
end
section
variable {prog : Program} {w : World} {A : Around} {E : Value → Shared → Prop} {s : Shared} {R : Result → Shared → Prop}
theorem ba_payload {M : Model} {a : Addr} {b : Array UInt8} {Q : Array UInt8 → Shared → Prop} (ha : s.heap.get? a = some (baObj b)) (h : Q b s) : wpAny M A (Builtin.Bytes.payload (.ref a)) Q E s := by
  unfold Builtin.Bytes.payload Builtin.Bytes.payload?
  exact wpAny_bind (wpAny_bind (wpAny_load ha (wpAny_pure (wpAny_pure h))))
theorem ba_set {a : Addr} {b : Array UInt8} {i x : Nat} {u t : Tok} {Q : Unit → Shared → Prop} (ha : s.heap.get? a = some (baObj b)) (hi : i < b.size) (hz : b.size ≤ 1000) (hx : x < 256)
    (h : ∀ h', Heap.SameBut a s.heap h' → h'.get? a = some (baObj (b.setIfInBounds i x.toUInt8)) → Q () { s with heap := h' }) :
    wpAny (model prog w) A (setItem (.ref a) (.int i u) (.int x t)) Q E s := by
  have hT := ba_typeIs ha
  unfold setItem
  refine wpAny_holding ?_
  refine wpAny_bind (wpAny_sequenceKey hT (by decide) ?_)
  refine wpAny_bind (wpAny_callSpecial?_slot (name := Str.ofString "__setitem__") hT ba_slot_set (wpAny_call_entry ba_slot_set hT ba_entry_set ?_ (ba_args_set _ _ _)))
  show wpAny _ _ (Builtin.Bytes.subscript? (.int (i : Int) u) >>= _) _ _ _
  have hsub : Builtin.Bytes.subscript? (.int (i : Int) u) = pure (some (i : Int)) := by
    unfold Builtin.Bytes.subscript?
    rw [so_int, asIndex_int]
    have c1 : Builtin.Bytes.fitsIndex (i : Int) = true := by
      unfold Builtin.Bytes.fitsIndex
      simp only [Bool.and_eq_true, decide_eq_true_eq]
      lia
    simp [c1]
    try rfl
  refine wpAny_bind ?_
  rw [hsub]
  refine wpAny_pure ?_
  dsimp only
  have hbv : Builtin.Bytes.byteValue (.int (x : Int) t) = pure (x : Int).toNat.toUInt8 := by
    unfold Builtin.Bytes.byteValue
    rw [asIndex_int]
    have c : (decide ((x : Int) < 0) || decide ((x : Int) ≥ 256)) = false := by
      rw [Bool.or_eq_false_iff, decide_eq_false_iff_not, decide_eq_false_iff_not]
      lia
    simp
    intro hc
    exfalso
    lia
  refine wpAny_bind ?_
  rw [hbv]
  refine wpAny_pure ?_
  refine wpAny_bind ?_
  refine ba_payload ha ?_
  have hsi : seqIndex? (i : Int) b.size = some i := seqIndex_of (by lia) (by lia)
  rw [hsi]
  dsimp only
  refine wpAny_bind ?_
  refine ba_write ha (by simp; lia) fun h' hs ha' => ?_
  refine wpAny_pure ?_
  refine ⟨_, rfl, ?_⟩
  exact wpAny_pure (h h' hs (by simpa using ha'))
end
theorem ba_no_bytes : typeLookup (.type "bytearray") "__bytes__" = pure none := by rw [typeLookup_type, builtinLookup_eq_fast]; kernel_rfl
theorem ba_no_index : typeLookup (.type "bytearray") "__index__" = pure none := by rw [typeLookup_type, builtinLookup_eq_fast]; kernel_rfl
theorem ba_buf : typeLookup (.type "bytearray") "__buffer__" = pure (some (.builtin "bytearray.__buffer__")) := by rw [typeLookup_type, builtinLookup_eq_fast]; kernel_rfl
section
variable {prog : Program} {w : World} {A : Around} {E : Value → Shared → Prop} {s : Shared} {R : Result → Shared → Prop}
theorem ba_bytes_new {a : Addr} {b : Array UInt8} {Q : Value → Shared → Prop} (ha : s.heap.get? a = some (baObj b)) (hz : b.size ≤ 1000)
    (hQ : ∀ t k, Q (.bytes b t) { s with toks := k }) : codeAny (model prog w) A (.call (.builtin "bytes.__new__") ⟨[.type "bytes", .ref a], []⟩) (wants Q E) s := by
  have hT := ba_typeIs ha
  refine codeAny_of_tree ?_
  show wpAny _ A.in1 (do checkBuiltinCall "bytes.__new__" ⟨[.type "bytes", .ref a], []⟩; again (.builtin "bytes.__new__" ⟨[.type "bytes", .ref a], []⟩)) _ _ s
  refine wpAny_bind (wpAny_of_eq (F.bm_newCall _) (wpAny_pure ⟨plainId_quiet F.bm_plain _, codeAny_builtin F.bm_entry ?_⟩))
  rw [Around.under_plainId F.bm_plain _]
  unfold Builtin.«bytes.__new__»
  refine wpAny_bind (wpAny_of_eq (a := true) rfl ?_)
  refine bm_if_false rfl ?_
  refine wpAny_bind (wpAny_of_eq F.bm_sub ?_)
  refine bm_if_false rfl ?_
  refine wpAny_bind (wpAny_of_eq (F.bm_bind _) ?_)
  refine wpAny_bind (wpAny_of_eq (a := ()) rfl ?_)
  refine wpAny_bind (wpAny_of_eq (a := ()) rfl ?_)
  refine bm_if_false rfl ?_
  refine wpAny_bind (wpAny_specialOf hT ba_no_bytes ?_)
  refine wpAny_bind (wpAny_bind ?_)
  show wpAny _ _ (load a >>= _) _ _ _
  refine wpAny_bind (wpAny_load ha ?_)
  refine wpAny_pure ?_
  refine wpAny_pure ?_
  refine bm_if_false rfl ?_
  refine wpAny_bind (wpAny_specialOf hT ba_no_index ?_)
  refine bm_if_true rfl ?_
  first
    | show wpAny _ _ (Builtin.Bytes.buffer? "bytes.__new__" (.ref a) true >>= _) _ _ _
    | (refine wpAny_bind ?_; show wpAny _ _ (Builtin.Bytes.buffer? "bytes.__new__" (.ref a) true >>= _) _ _ _)
  refine wpAny_bind ?_
  unfold Builtin.Bytes.buffer?
  refine wpAny_bind (wpAny_specialOf hT ba_buf ?_)
  try dsimp only
  have hown : wpAny (model prog w) A.in1 (Builtin.Bytes.slotIsOwn (.ref a) "__buffer__") (fun x s' => x = true ∧ s' = s) (fun e s' => wants Q E (.error e) s') s := by
    unfold Builtin.Bytes.slotIsOwn
    refine wpAny_bind (wpAny_specialOf hT ba_buf ?_)
    dsimp only
    refine bm_if_false (by decide +kernel) ?_
    refine wpAny_isInstance (T := "bytearray") (b := true) hT ?_ ⟨rfl, rfl⟩
    first | exact ba_sub | (rw [isSubtype_type]; kernel_rfl)
  refine wpAny_bind (wpAny_mono hown (fun x s' hx => ?_) fun _ _ e => e)
  obtain ⟨rfl, rfl⟩ := hx
  refine bm_if_false rfl ?_
  refine wpAny_bind (wpAny_specialOf hT ba_buf ?_)
  try dsimp only
  refine wpAny_bind (ba_ownRelease hT ?_)
  refine bm_if_false rfl ?_
  refine wpAny_bind (ba_payload ha ?_)
  refine wpAny_pure ?_
  try dsimp only
  refine wpAny_bind ?_
  refine wpAny_rule ?_
  refine wpAny_bind (wpAny_mkBytes ?_ (by rw [sizeLine_eq]; lia))
  show wpAny _ _ (if (Value.type "bytes" == Value.type "bytes") = true then _ else _) _ _ _
  refine bm_if_true (by decide) ?_
  first
    | exact wpAny_pure (hQ _ _)
    | exact wpAny_bind (wpAny_pure (wpAny_pure (hQ _ _)))
theorem bytes_of_ba {a : Addr} {b : Array UInt8} {Q : Value → Shared → Prop} (ha : s.heap.get? a = some (baObj b)) (hz : b.size ≤ 1000) (hQ : ∀ t k, Q (.bytes b t) { s with toks := k }) : wpAny (model prog w) A (call (.type "bytes") [.ref a]) Q E s := by
  refine callType_codes (Q₁ := fun obj s₁ => s₁.TypeIs obj "bytes" ∧ Q obj s₁) F.bm_called (F.bm_typeCall _) F.entry_object_init
    (ba_bytes_new ha hz fun t k => ⟨PySem.W.typeIs_bytes _ _ _, hQ t k⟩) fun obj s₁ h₁ => ?_
  exact ⟨h₁.1, F.args_object_init_2 obj _, object_init_meets F.bm_called.init.lookup F.bm_called.made (by decide) prog w A.in1 _ s₁ ⟨h₁.1, rfl, h₁.2⟩⟩
end
noncomputable def SwP (b : Array UInt8) (wd i k : Nat) (r : Array UInt8) : Prop := r.size = b.size ∧ ∀ i' j, (i' < i ∨ (i' = i ∧ j < k)) → j < wd → r[i' * wd + (wd - 1 - j)]? = b[i' * wd + j]?
noncomputable def Sw (b : Array UInt8) (wd n : Nat) (r : Array UInt8) : Prop := r.size = b.size ∧ ∀ i j, i < n → j < wd → r[i * wd + (wd - 1 - j)]? = b[i * wd + j]?
theorem SwP.start (b : Array UInt8) (wd : Nat) : SwP b wd 0 0 (Array.replicate b.size 0) := ⟨by simp, fun i' j h _ => by lia⟩
theorem SwP.row {b r : Array UInt8} {wd i : Nat} (h : SwP b wd i wd r) : SwP b wd (i + 1) 0 r := ⟨h.1, fun i' j hi hj => h.2 i' j (by lia) hj⟩
theorem SwP.done {b r : Array UInt8} {wd n : Nat} (h : SwP b wd n 0 r) : Sw b wd n r := ⟨h.1, fun i j hi hj => h.2 i j (.inl hi) hj⟩
theorem pos_inj {wd i i' r r' : Nat} (hr : r < wd) (hr' : r' < wd) (h : i * wd + r = i' * wd + r') : i = i' ∧ r = r' := by
  have h1 : (i * wd + r) / wd = i := by rw [Nat.mul_comm, Nat.mul_add_div (by lia), Nat.div_eq_of_lt hr]; lia
  have h2 : (i' * wd + r') / wd = i' := by rw [Nat.mul_comm, Nat.mul_add_div (by lia), Nat.div_eq_of_lt hr']; lia
  have e : i = i' := by rw [← h1, h, h2]
  subst e
  exact ⟨rfl, by lia⟩
theorem pos_lt {wd i n r : Nat} (hi : i < n) (hr : r < wd) : i * wd + r < n * wd := by
  have : (i + 1) * wd ≤ n * wd := Nat.mul_le_mul_right _ hi
  rw [Nat.add_mul, Nat.one_mul] at this
  lia
theorem SwP.step {b r : Array UInt8} {wd i k n : Nat} (h : SwP b wd i k r) (hk : k < wd) (hi : i < n) (hb : b.size = n * wd) :
    SwP b wd i (k + 1) (r.setIfInBounds (i * wd + (wd - 1 - k)) (b.toList.getD (i * wd + k) 0).toNat.toUInt8) := by
  refine ⟨by simp [h.1], fun i' j hc hj => ?_⟩
  have hlt : i * wd + (wd - 1 - k) < r.size := by rw [h.1, hb]; exact pos_lt hi (by lia)
  by_cases q : i' * wd + (wd - 1 - j) = i * wd + (wd - 1 - k)
  · obtain ⟨rfl, e2⟩ := pos_inj (by lia) (by lia) q
    have : j = k := by lia
    subst this
    rw [Array.getElem?_setIfInBounds_self_of_lt hlt]
    have hl2 : i' * wd + j < b.size := by rw [hb]; exact pos_lt hi hj
    rw [Array.getElem?_eq_getElem hl2]
    simp [List.getD, hl2]
  · rw [Array.getElem?_setIfInBounds_ne (fun e => q e.symm)]
    refine h.2 i' j ?_ hj
    rcases hc with hc | ⟨rfl, hc⟩
    · exact .inl hc
    · refine .inr ⟨rfl, ?_⟩
      rcases Nat.lt_or_ge j k with z | z
      · exact z
      · exact absurd (by rw [show j = k by lia]) q
theorem mode12 : True := by
  w_top off
  k_with_none
  trivial
theorem by_len {prog : Program} {w : World} {A : Around} {E : Value → Shared → Prop} {s : Shared} {b : Array UInt8} {t : Tok} {Q : Value → Shared → Prop} (hz : b.size ≤ 1000)
    (h : ∀ t' tk, Q (.int (b.size : Int) t') ⟨s.heap, s.gens, s.drawn, tk, s.os⟩) : wpAny (model prog w) A (call (.builtin "len") [.bytes b t]) Q E s := by
  refine PySem.W.KBw.len_K rfl (by rw [PySem.W.KBw.ints_length]; lia) ?_
  rw [PySem.W.KBw.ints_length]
  exact h _ _
theorem by_item {prog : Program} {w : World} {A : Around} {E : Value → Shared → Prop} {s : Shared} {b : Array UInt8} {t ui : Tok} {i : Int} {value slice : Expr} {Q : Value → Shared → Prop} (hz : b.size ≤ 1000) (h0 : 0 ≤ i) (h1 : i < (b.size : Int))
    (h : ∀ t' tk, Q (.int ((b.toList.getD i.toNat 0).toNat : Int) t') ⟨s.heap, s.gens, s.drawn, tk, s.os⟩)
    (hs : subscripted slice false (.bytes b t) (.int i ui) = operate [.bytes b t, .int i ui] (getItem (.bytes b t) (.int i ui)) := by with_unfolding_all rfl)
    (ht : ∀ r, letTemporaryGo value (.bytes b t) r = pure () := by intro _; with_unfolding_all rfl) : wpAny (model prog w) A (subscriptTail value slice (.bytes b t) (.int i ui)) Q E s := by
  obtain ⟨x⟩ := b
  exact PySem.W.KBy.item_N (by simp at hz; lia) h0 (by simpa using h1) (h _ _) hs ht
theorem ba_setK {prog : Program} {w : World} {A : Around} {E : Value → Shared → Prop} {s : Shared} {h₀ : Heap} {L : Addr} {m : Str → Option Value} {news news' : List (Addr × Obj)} {a : Addr} {b : Array UInt8} {i : Int} {x : Nat} {u t : Tok} {Q : Unit → Shared → Prop}
    (F : Fr h₀ L s.heap m) (N : News h₀ L s.heap news) (U : Upd a (baObj b) (baObj (b.setIfInBounds i.toNat x.toUInt8)) news news') (h0 : 0 ≤ i) (hi : i < (b.size : Int)) (hz : b.size ≤ 1000) (hx : x < 256)
    (h : ∀ h', Fr h₀ L h' m → News h₀ L h' news' → Q () { s with heap := h' }) : wpAny (model prog w) A (setItem (.ref a) (.int i u) (.int (x : Int) t)) Q E s := by
  refine Classical.byContradiction fun hGG => ?_
  obtain ⟨k, rfl⟩ : ∃ k : Nat, i = (k : Int) := ⟨i.toNat, by lia⟩
  obtain ⟨pre, post, rfl, rfl, c, d⟩ := U.split
  refine hGG ?_
  clear hGG
  have D := N (a, baObj b) (List.mem_append_right _ (.head _))
  refine ba_set D.1 (by lia) hz hx fun h' hs ha => h h' (F.change hs D.2.1 D.2.2) ?_
  have M : Mod [a] s.heap h' := ⟨fun b o hb e => (hs.2 b (fun q => hb (by simp [q]))).trans e⟩
  exact M.newsUpd N ha U
theorem ba_bytesK {prog : Program} {w : World} {A : Around} {E : Value → Shared → Prop} {s : Shared} {h₀ : Heap} {L : Addr} {news : List (Addr × Obj)} {a : Addr} {b : Array UInt8} {Q : Value → Shared → Prop} (N : News h₀ L s.heap news) (hm : (a, baObj b) ∈ news) (hz : b.size ≤ 1000)
    (h : ∀ t tk, Q (.bytes b t) ⟨s.heap, s.gens, s.drawn, tk, s.os⟩) : wpAny (model prog w) A (call (.type "bytes") [.ref a]) Q E s := bytes_of_ba (N _ hm).1 hz fun t k => h t k
noncomputable def bMap (c : Addr) (b : Array UInt8) (t : Tok) (wd : Nat) (u : Tok) : Str → Option Value := fun y => if y = Str.ofString "swapped_data" then some (Value.ref c) else List.lookup y [(Str.ofString "data", Value.bytes b t), (Str.ofString "width", Value.int (wd : Int) u)].reverse
theorem rngw_size {n wd : Nat} (hw : 1 ≤ wd) : Builtin.Range.rangeSize 0 ((n * wd : Nat) : Int) (wd : Int) = (n : Int) := by
  unfold Builtin.Range.rangeSize
  rw [if_pos (by lia)]
  by_cases h : n = 0
  · subst h; simp
  · have hp : 0 < n * wd := Nat.mul_pos (by lia) (by lia)
    rw [if_pos (by lia)]
    have e : (((n * wd : Nat) : Int) - 0 - 1) = ((wd - 1 : Nat) : Int) + ((n - 1 : Nat) : Int) * (wd : Int) := by
      obtain ⟨k, rfl⟩ : ∃ k, n = k + 1 := ⟨n - 1, by lia⟩
      obtain ⟨v, rfl⟩ : ∃ v, wd = v + 1 := ⟨wd - 1, by lia⟩
      simp only [Nat.add_sub_cancel]
      push_cast
      simp only [Int.add_mul, Int.mul_add, Int.one_mul, Int.mul_one]
      lia
    rw [e, Int.add_mul_ediv_right _ _ (by lia), Int.ediv_eq_zero_of_lt (by lia) (by lia)]
    lia
theorem rngw_small {n wd : Nat} (hn : n ≤ 100) (hw : 1 ≤ wd ∧ wd ≤ 100) : Builtin.Range.small 0 ((n * wd : Nat) : Int) (wd : Int) = true := by
  have h1 : n * wd ≤ 100 * 100 := Nat.mul_le_mul hn hw.2
  have h2 := rngw_size (n := n) hw.1
  generalize n * wd = q at h1 h2
  simp only [Builtin.Range.small, Builtin.Range.rangeFitsLong, h2, Bool.and_eq_true, decide_eq_true_eq]
  refine ⟨by lia, ?_⟩
  rw [if_pos (by lia)]
  simp only [Bool.or_eq_true, Bool.and_eq_true, decide_eq_true_eq]
  exact .inr (by lia)
theorem rng_small1 {b : Int} (h0 : 0 ≤ b) (h1 : b ≤ 1000) : Builtin.Range.small 0 b 1 = true := by
  simp only [Builtin.Range.small, Builtin.Range.rangeFitsLong, Builtin.Range.rangeSize]
  split <;> (simp; lia)
theorem rng_size1 (n : Nat) : Builtin.Range.rangeSize 0 (n : Int) 1 = (n : Int) := by
  rw [rangeSize_nat]; lia
theorem fr_map {g h : Heap} {L : Addr} {m m' : Str → Option Value} (F : Fr g L h m) (e : ∀ y, m y = m' y) : Fr g L h m' := by rw [← (funext e : m = m')]; exact F
local macro_rules | `(tactic| walk_at "call builtin:len") => `(tactic| (k_here; (with_reducible refine gd8 ?_); (refine' by_len ?k1 ?_; (case k1 => lia); k_whole); intro t' tk'))
local macro_rules | `(tactic| walk_at "subscriptTail") => `(tactic| (k_here; (with_reducible refine gd9 ?_); (refine' by_item ?k1 ?k2 ?k3 ?_ ?k4 ?k5; (case k1 | k2 | k3 => lia); (case k4 => with_unfolding_all rfl); (case k5 => (intro _; with_unfolding_all rfl)); k_whole); intro t' tk'))
section
--SETATTR
--APART
--COMP
local macro_rules | `(tactic| walk_at "setItem ref int") => `(tactic| (k_here; (with_reducible refine gd10 ?_); k_dflt (refine' ba_setK ?k1 ?k2 ?k3 ?k4 ?k5 ?k6 ?k7 ?_; (case k1 | k2 => k_asm); (case k3 => k_upd); (case k4 | k5 | k6 => lia); (case k7 => exact UInt8.toNat_lt _); k_whole); intro h' F' N'))
local macro_rules | `(tactic| walk_at "call type:bytes") => `(tactic| (k_here; (with_reducible refine gd11 ?_); (refine' ba_bytesK ?k1 ?k2 ?k3 ?_; (case k1 => k_asm); (case k2 => k_mem); (case k3 => lia); k_whole); intro t' tk'))
theorem byteswap_spec {prog : Program} {w : World} {loose : List Str} {mean : ExcName → Option Value} {mg mb : Str → Option Value} 
  {dp un : Nat} {cn : Str} {cs : Scope} {a : Addr} {ccd : Value} {cl : List (Str × Addr)} {outer : List Env} {A₀ : Around} {base h₀ : Heap} {L : Addr} {m : Str → Option Value} {s : Shared} 
  {b : Array UInt8} {n wd : Nat} {t u : Tok}
    {Q E : Value → Shared → Prop}
    (B : Below A₀ base outer h₀) (F : Fr h₀ L s.heap m) (X : (Mine.hd.heap_1 w.params).In h₀) (T : Top Mine.hd.view_1 loose mean mg mb h₀) (hk : cs.kind = .function) 
    (hd : dp + 20 < recursionLimit) (hu : un + 160 < cLine) (hb : b.size = n * wd) (hn : n ≤ 10) (hw : 1 ≤ wd ∧ wd ≤ 4)
    (ret : ∀ h' tk' t' r, Mod [] s.heap h' → Sw b wd n r → Q (.bytes r t') { s with heap := h', toks := tk' }) :
    wpS (model prog w) (ktrTop dp un (some []) cn cs L a ccd cl outer) (call (.ref 28) [.bytes b t, .int wd u]) Q E s := by
  have N : News h₀ L s.heap [] := fun p hp => nomatch hp
  have hbz : b.size ≤ 40 := by
    have : n * wd ≤ 10 * 4 := Nat.mul_le_mul hn hw.2
    lia
  refine wpS_call ?_
  k_dflt refine' enterS (binds := [(Str.ofString "data", Value.bytes b t), (Str.ofString "width", Value.int wd u)]) ?k1 ?k2 ?k3 ?k4 ?k5 ?kA ?kF ?kK ?k6 ?k7 ?k8 ?k9 ?kB ?_ ?c2 ?c3 ?c4 ?c5
  k_dflt ((case kA | kF => exact rfl); (case kK => first | assumption | exact rfl); (case k1 | k2 | k3 | k4 | k5 => k_asm); (case k6 | k7 => k_is); (case k8 => ktr_room); (case k9 => exact BindsTo.of_eq rfl); (case c5 => decide); (case kB => exact locs rfl); (case c2 | c3 | c4 => exact rfl); k_whole)
  intro g' L' h' hHeld' hSize' hKeep' F' N' B' X' T'
  refine hideS fun QA hQA => ?_
  refine wpS_execs_cons (wpS_Assign_Name (wpS_Call ?_) rfl)
  clear N F
  k_steps
  refine wpS_callWith_type (wpS_args_cons (wpS_any ?_) rfl) rfl rfl
  k_steps
  refine wpS_any (args_nil ?_)
  (rename Fr g' L' _ _ => lF); (rename News g' L' _ _ => lN)
  refine ba_callS rfl (by lia) fun c h1 fc hk1 hc => ?_
  have nc := fr_new lF fc
  have F1 : Fr g' L' h1 _ := ⟨lF.ns.keeps hk1, fun b o e => hk1 b o (lF.keep b o e), lF.above⟩
  have N1 : News g' L' h1 [(c, baObj (Array.replicate b.size 0))] := fun p hp => by
    rw [List.mem_singleton] at hp
    subst hp
    exact ⟨hc, nc⟩
  clear lF lN
  k_steps
  refine wpS_any ?_
  k_with "exec For Name Call cons nil" => (refine forH g' rfl rfl ?_ (fun _ => rfl) (by passes_own))
  k_steps
  k_with_none
  rename_i hrng lF lN hsub
  have mC := lN _ (.head _)
  dsimp only at mC
  rw [hb] at hrng
  refine loop_rng rfl hrng (rngw_small (by lia) (by lia)) (rngw_size hw.1) lF (fun I i mm hh => Sm1 (fun arr => Al4 (hh.get? c = some (baObj arr)) (SwP b wd i 0 arr) (c ≠ I) (∀ z, z ≠ Str.ofString "i" → z ≠ Str.ofString "j" → mm z = bMap c b t wd u z))) ?h0 ?stab ⟨?turn⟩ ⟨?done⟩
  case h0 =>
    intro I h2 fI hM
    exact ⟨_, hM.keep _ _ List.not_mem_nil mC.1, SwP.start b wd, (fun q => ne_of_fresh fI mC.1 q.symm), fun z _ _ => rfl⟩
  case stab =>
    intro I i mm h2 h3 fI hR1 hM
    refine Classical.byContradiction fun hGG => ?_
    obtain ⟨arr, ha, hs, hne, hmm⟩ := hR1
    refine hGG ?_
    clear hGG
    exact ⟨arr, hM.keep _ _ (fun z => by
      rcases List.mem_cons.mp z with z | z
      · exact nc.1 z
      · exact hne (List.mem_singleton.mp z)) ha, hs, hne, hmm⟩
  case done =>
    intro I mm h2 tk2 fI hR2 F2
    refine Classical.byContradiction fun hGG => ?_
    obtain ⟨arr, ha, hs, hne, hmm⟩ := hR2
    refine hGG ?_
    clear hGG
    have F3 := fr_map (m' := fun y => if y = Str.ofString "i" then mm y else if y = Str.ofString "j" then mm y else bMap c b t wd u y) F2 (fun y => by
      split
      · rfl
      · split
        · rfl
        · exact hmm y (by assumption) (by assumption))
    have N3 : News g' L' h2 [(c, baObj arr)] := fun p hp => by
      rw [List.mem_singleton] at hp
      subst hp
      exact ⟨ha, nc⟩
    have haz : arr.size ≤ 1000 := by rw [hs.1]; lia
    clear F2 lF lN
    unfold bMap at F3
    k_steps
    (rename Fr g' L' _ _ => lF); (rename News g' L' _ _ => lN)
    refine hQA _ _ ?_
    exact backM_ lF fun hM' => ret _ _ _ _ hM' hs.done
  case turn =>
    intro I oI i ti mm h2 tk2 fI fI0 hIL hI hi hR3 F2
    refine Classical.byContradiction fun hGG => ?_
    obtain ⟨arr, ha, hs, hne, hmm⟩ := hR3
    refine hGG ?_
    clear hGG
    have F3 := fr_map (m' := fun y => if y = Str.ofString "i" then some (Value.int (0 + (i : Int) * (wd : Int)) ti) else if y = Str.ofString "j" then mm y else bMap c b t wd u y) F2 (fun y => by
      split
      · rfl
      · split
        · rfl
        · exact hmm y (by assumption) (by assumption))
    have N3 : News g' L' h2 [(c, baObj arr), (I, oI)] := fun p hp => by
      simp only [memC, List.not_mem_nil, or_false] at hp
      rcases hp with rfl | rfl
      · exact ⟨ha, nc⟩
      · exact ⟨hI, hIL, fI0⟩
    clear F2 lF lN
    unfold bMap at F3
    k_with "exec For Name Call cons nil" => (refine forH g' rfl rfl ?_ (fun _ => rfl) (by passes_own))
    refine hide fun QB hQB => ?_
    k_steps
    k_with_none
    rename_i hrng2 lF lN hsub2
    have mC2 := lN _ (.head _)
    have mI2 := lN _ (.tail _ (.head _))
    dsimp only at mC2 mI2
    refine loop_rng rfl hrng2 (rng_small1 (by lia) (by lia)) (rng_size1 wd) lF (fun J k mm hh => Sm1 (fun arr => Al6 (hh.get? c = some (baObj arr)) (SwP b wd i k arr) (c ≠ J) (hh.get? I = some oI) (I ≠ J) (∀ z, z ≠ Str.ofString "j" → mm z = if z = Str.ofString "i" then some (Value.int (0 + (i : Int) * (wd : Int)) ti) else bMap c b t wd u z))) ?h0 ?stab ⟨?turn⟩ ⟨?done⟩
    case h0 =>
      intro J h3 fJ hM
      exact ⟨_, hM.keep _ _ List.not_mem_nil mC2.1, hs, (fun q => ne_of_fresh fJ mC2.1 q.symm), hM.keep _ _ List.not_mem_nil mI2.1, (fun q => ne_of_fresh fJ mI2.1 q.symm), fun z hz => by
        rw [if_neg hz]; rfl⟩
    case stab =>
      intro J k mm3 h3 h4 fJ hR4 hM
      refine Classical.byContradiction fun hGG => ?_
      obtain ⟨arr3, ha3, hs3, hne3, hI3, hIJ3, hmm3⟩ := hR4
      refine hGG ?_
      clear hGG
      refine ⟨arr3, hM.keep _ _ (fun z => ?_) ha3, hs3, hne3, hM.keep _ _ (fun z => ?_) hI3, hIJ3, hmm3⟩
      · rcases List.mem_cons.mp z with z | z
        · exact nc.1 z
        · exact hne3 (List.mem_singleton.mp z)
      · rcases List.mem_cons.mp z with z | z
        · exact hIL z
        · exact hIJ3 (List.mem_singleton.mp z)
    case done =>
      intro J mm3 h3 tk3 fJ hR5 F4
      refine Classical.byContradiction fun hGG => ?_
      obtain ⟨arr3, ha3, hs3, hne3, hI3, hIJ3, hmm3⟩ := hR5
      refine hGG ?_
      clear hGG
      k_steps
      refine hQB _ _ ?_
      refine ⟨_, _, _, rfl, F4, fun b hb o e => ?_, arr3, ha3, hs3.row, hne, fun z hz1 hz2 => by rw [hmm3 z hz2, if_neg hz1]⟩
      rw [List.mem_singleton] at hb
      rw [hb, hI] at e
      cases e
      rw [hb]; exact hI3
    case turn =>
      intro J oJ k tj mm3 h3 tk3 fJ fJ0 hJL hJ hk3 hR6 F4
      refine Classical.byContradiction fun hGG => ?_
      obtain ⟨arr3, ha3, hs3, hne3, hI3, hIJ3, hmm3⟩ := hR6
      refine hGG ?_
      clear hGG
      have F5 := fr_map (m' := fun y => if y = Str.ofString "j" then some (Value.int (0 + (k : Int) * 1) tj) else if y = Str.ofString "i" then some (Value.int (0 + (i : Int) * (wd : Int)) ti) else bMap c b t wd u y) F4 (fun y => by
        split
        · rfl
        · exact hmm3 y (by assumption))
      have N5 : News g' L' h3 [(c, baObj arr3), (I, oI), (J, oJ)] := fun p hp => by
        simp only [memC, List.not_mem_nil, or_false] at hp
        rcases hp with rfl | rfl | rfl
        · exact ⟨ha3, nc⟩
        · exact ⟨hI3, hIL, fI0⟩
        · exact ⟨hJ, hJL, fJ0⟩
      have hcI : @Ne Nat c I := hne
      have hcJ : @Ne Nat c J := hne3
      have hIJ : @Ne Nat I J := hIJ3
      have hp1 : i * wd + k < n * wd := pos_lt hi hk3
      have hp2 : i * wd + (wd - 1 - k) < n * wd := pos_lt hi (by lia)
      have hp0 : (i : Int) * (wd : Int) = ((i * wd : Nat) : Int) := by push_cast; rfl
      have haz : arr3.size = b.size := hs3.1
      rw [hp0] at F5
      clear F4 lF lN
      unfold bMap at F5
      refine hide fun QC hQC => ?_
      k_steps
      (rename Fr g' L' _ _ => lF); (rename News g' L' _ _ => lN)
      have ei : (0 + ((i * wd : Nat) : Int) + (wd : Int) - 1 - (0 + (k : Int) * 1)).toNat = i * wd + (wd - 1 - k) := by omega
      have ej : (0 + ((i * wd : Nat) : Int) + (0 + (k : Int) * 1)).toNat = i * wd + k := by omega
      rw [ei, ej] at lN
      refine hQC _ _ ?_
      refine ⟨_, _, _, rfl, lF, fun b2 hb2 o e => ?_, _, (lN _ (.head _)).1, hs3.step hk3 hi hb, hne3, (lN _ (.tail _ (.head _))).1, hIJ3, fun z hz => ?_⟩
      · rw [List.mem_singleton] at hb2
        rw [hb2, hJ] at e
        cases e
        rw [hb2]; exact (lN _ (.tail _ (.tail _ (.head _)))).1
      · rw [hp0]; exact if_neg hz
end
/-- marks the ground for comprehensions -/
structure CBase (g : Heap) : Prop where
  out : True
section
variable {prog : Program} {w : World} {A : Around} {E : Value → Shared → Prop} {env : Env} {s : Shared} {elt iter : Expr} {x : Str} {px : Pos} {ifs : List Expr} {scope : Scope} {cl : List (Str × Addr)} {pos : Pos} {g : Heap}
theorem listCompB {Q : Value → Shared → Prop} (b : CBase g) (hclos : closureFor scope env = pure cl) (hcell : ∀ y ∈ scope.names, y.2 ≠ .cell) (hkind : scope.kind = .function)
    (hnames : ∀ y ∈ scope.names, y.2 = .local → scope.names.lookup y.1 = some .local) (hx : scope.names.lookup x = some .local)
    (h : wpAny (model prog w) A (eval iter env) (fun xv s₁ => wpAny (model prog w) A (pyIter xv) (fun it s₂ => CompG prog w A g env scope cl x ifs elt E none Q it s₂) E s₁) E s)
    (hs : ∀ x, foldedSetIterable iter env x = pure x) :
    wpAny (model prog w) A (eval (.ListComp elt [⟨.Name x px, iter, ifs, 0⟩] scope pos) env) Q E s := listCompG hclos hcell hkind hnames hx h hs
theorem assignCompB {Q : Flow → Shared → Prop} {y : Str} {py spos : Pos} (b : CBase g) (hclos : closureFor scope env = pure cl) (hcell : ∀ y ∈ scope.names, y.2 ≠ .cell) (hkind : scope.kind = .function)
    (hnames : ∀ y ∈ scope.names, y.2 = .local → scope.names.lookup y.1 = some .local) (hx : scope.names.lookup x = some .local)
    (hsw : swapsWith (.ListComp elt [⟨.Name x px, iter, ifs, 0⟩] scope pos) (some (.Name y py)) spos.line env = pure true)
    (h : wpAny (model prog w) A (eval iter env) (fun xv s₁ => wpAny (model prog w) A (pyIter xv) (fun it s₂ => CompG prog w A g env scope cl x ifs elt E (some (assign (.Name y py) env)) (fun _ s' => Q .next s') it s₂) E s₁) E s)
    (hs : ∀ x, foldedSetIterable iter env x = pure x) :
    wpAny (model prog w) A (exec (.Assign [.Name y py] (.ListComp elt [⟨.Name x px, iter, ifs, 0⟩] scope pos) spos) env) Q E s := assignCompG hclos hcell hkind hnames hx hsw h hs
theorem turn_nil {cenv : Env} {s₂ : Shared} {h : Heap} {tk : Nat} {E' : Value → Shared → Prop} {Yes : Value → Heap → Prop} {No : Heap → Prop} (k0 : KeptC cenv.locals h h)
    (k : wpAny (model prog w) A (eval elt cenv) (fun y s₄ => Hold (Sm2 (fun h₄ tk₄ => Al3 (s₄ = ⟨h₄, s₂.gens, s₂.drawn, tk₄, s₂.os⟩) (KeptC cenv.locals h h₄) (Yes y h₄)))) E' ⟨h, s₂.gens, s₂.drawn, tk, s₂.os⟩) : TurnG prog w A cenv [] elt s₂ h tk E' Yes No :=
  testsOf_nil ⟨_, _, rfl, k0, by rw [if_pos rfl]; exact k⟩
theorem turn_one {cenv : Env} {c : Expr} {s₂ : Shared} {h : Heap} {tk : Nat} {E' : Value → Shared → Prop} {Yes : Value → Heap → Prop} {No : Heap → Prop}
    (k : wpAny (model prog w) A (isTrue c cenv (eval c cenv)) (fun ok s₃ => Hold (Sm2 (fun h₃ tk₃ => Al3 (s₃ = ⟨h₃, s₂.gens, s₂.drawn, tk₃, s₂.os⟩) (KeptC cenv.locals h h₃) (if ok = true then wpAny (model prog w) A (eval elt cenv) (fun y s₄ => Hold (Sm2 (fun h₄ tk₄ => Al3 (s₄ = ⟨h₄, s₂.gens, s₂.drawn, tk₄, s₂.os⟩) (KeptC cenv.locals h h₄) (Yes y h₄)))) E' s₃
      else No h₃)))) E' ⟨h, s₂.gens, s₂.drawn, tk, s₂.os⟩) : TurnG prog w A cenv [c] elt s₂ h tk E' Yes No := testsOf_one k
end
theorem keptC_of {g2 h h2 : Heap} {L : Addr} {m2 : Str → Option Value} {led led2 tl : List (Addr × Obj)} (F2 : Fr g2 L h2 m2) (N2 : News g2 L h2 led2) (N : ∀ p ∈ led, h.get? p.1 = some p.2)
    (all : ∀ b o, b ≠ L → (∀ p ∈ led, p.1 ≠ b) → h.get? b = some o → g2.get? b = some o ∨ (b, o) ∈ tl) (hs : ∀ q ∈ tl, q ∈ led2) (hl : ∀ q ∈ led, q ∈ led2) : KeptC L h h2 := ⟨fun b o hb e => by
  by_cases q : ∃ p ∈ led, p.1 = b
  · obtain ⟨p, hp, rfl⟩ := q
    have e1 := N p hp
    rw [e] at e1
    cases e1
    exact (N2 p (hl p hp)).1
  · exact keep2 F2 N2 all hs b o hb (fun p hp z => q ⟨p, hp, z⟩) e, m2, F2.ns⟩
theorem news_comp {g hs h2 : Heap} {L C : Addr} {led : List (Addr × Obj)} (lN : News g L hs led) (k : Kept hs h2) (fC : hs.get? C = none) : News g C h2 led := fun p hp =>
  ⟨k _ _ (lN p hp).1, (fun q => ne_of_fresh fC (lN p hp).1 q.symm), (lN p hp).2.2⟩
theorem fr_after {g hs h2 h3 : Heap} {L C : Addr} {m : Str → Option Value} (lF : Fr g L hs m) (k : Kept hs h2) (fC : hs.get? C = none) (hs3 : Heap.SameBut C h2 h3) : Fr g L h3 m :=
  ⟨(lF.ns.keeps k).sameBut hs3 (fun q => (fr_new lF fC).1 q.symm), fun b o e => hs3.extBut b o (fun q => by rw [q, (fr_new lF fC).2] at e; cases e) (k b o (lF.keep b o e)), lF.above⟩
theorem news_after {g hs h2 h3 : Heap} {L C : Addr} {led : List (Addr × Obj)} (lN : News g L hs led) (k : Kept hs h2) (fC : hs.get? C = none) (hs3 : Heap.SameBut C h2 h3) : News g L h3 led := fun p hp =>
  ⟨hs3.extBut _ _ (fun q => ne_of_fresh fC (lN p hp).1 q.symm) (k _ _ (lN p hp).1), (lN p hp).2⟩
theorem by_slice {prog : Program} {w : World} {A : Around} {E : Value → Shared → Prop} {s : Shared} {value slice : PySem.Expr} {b : Array UInt8} {t : Tok} {h₀ : Heap} {L : Addr} {m : PySem.Str → Option Value} {news : List (Addr × Obj)} {l u : Value} {lo hi : Option Int} {Q : Value → Shared → Prop}
    (hF : Fr h₀ L s.heap m) (hN : News h₀ L s.heap news) (hl : IsPart l lo) (hu : IsPart u hi) (hz : b.size ≤ 1000)
    (h : ∀ h' t' k, Fr h₀ L h' m → News h₀ L h' news → Q (.bytes (PySem.W.KBy.picked b lo hi) t') { s with heap := h', toks := k })
    (hs : subscripted slice false (.bytes b t) (.ref s.heap.objs.size) = operate [.ref s.heap.objs.size, .bytes b t] (getItem (.bytes b t) (.ref s.heap.objs.size)) := by with_unfolding_all rfl)
    (ht : ∀ r, letTemporaryGo value (.bytes b t) r = pure () := by intro _; with_unfolding_all rfl) :
    wpAny (model prog w) A (subscriptTail value slice (.bytes b t) (.ref s.heap.objs.size)) Q E { s with heap := s.heap.push { cls := .type "slice", data := .fields #[l, u, .none] } } :=
  PySem.W.KBc.slice_K hF hN rfl hl hu (by rw [PySem.W.KBw.ints_length]; omega) (fun h' t' k F N _ => h h' t' k F N) hs ht
/-- a loop over enumerate(list), the second target a cell -/
noncomputable def LoopE (prog : Program) (w : World) (A : Around) (h₀ : Heap) (env : Env) (xi : Str) (c : Addr) (body : List Stmt) (Q : Flow → Shared → Prop) (E : Value → Shared → Prop) (it : Value) (s₂ : Shared) : Prop :=
  Sm7 (fun (I J l : Addr) (items : Array Value) (m : Str → Option Value) (v₀ : Option Value) (Inv : Nat → (Str → Option Value) → Heap → Prop) => Al19 (it = .ref I) (IsEnum s₂.heap I J 0 .none) (s₂.heap.IsListIter J l 0) (s₂.heap.IsList l items) (I ≠ J) (l ≠ I) (l ≠ J) (env.locals ∉ [I, J, l]) (c ∉ [I, J, l]) (c ≠ env.locals) (h₀.get? I = none) (h₀.get? J = none) (h₀.get? c = none) (Fr h₀ env.locals s₂.heap m) (s₂.heap.IsCell c v₀) (Inv 0 m s₂.heap) ((∀ i m h h', Inv i m h → Mod [env.locals, c, I, J] h h' → Inv i m h')) ((∀ i x t m h tk oI oJ oC, items[i]? = some x → Inv i m h → h.get? I = some oI → h.get? J = some oJ → h.IsList l items → h.get? c = some oC → oC.data = .cell (some x) → Fr h₀ env.locals h (fun y => if y = xi then some (.int i t) else m y) →
      wpAny (model prog w) A (execs body env) (PostH h₀ env.locals [I, J, l, c] h s₂ (Inv (i + 1)) Q) E { s₂ with heap := h, toks := tk })) ((∀ m h tk, Inv items.size m h → Fr h₀ env.locals h m → Q .next { s₂ with heap := h, toks := tk })))
section
variable {prog : Program} {w : World} {A : Around} {s : Shared} {env : Env}
theorem forE {E : Value → Shared → Prop} {Q : Flow → Shared → Prop} {xi xc : Str} {pi pc pt pos : Pos} {k : Nat} {iter : Expr} {body : List Stmt} {c : Addr} (h₀ : Heap) (hh : A.handled = none) (hxi : env.kindOf xi = some .local) (hxc : env.kindOf xc = some .cell) (hcc : env.cells.lookup xc = some c)
    (hk : env.scope.kind = .function) (hp : (env.scope.kind == .class || (env.scope.kind == .module && env.locals != env.globals)) = false)
    (h : wpAny (model prog w) A (eval iter env) (fun xv s₁ => wpAny (model prog w) A (pyIter xv) (fun it s₂ => LoopE prog w A h₀ env xi c body Q E it s₂) E s₁) E s)
    (hs : ∀ x, foldedSetIterable iter env x = pure x) (hE : PassesOwn (model prog w) A env E) :
    wpAny (model prog w) A (exec (.For (.Tuple [.Name xi pi, .Name xc pc] k pt) iter body [] pos) env) Q E s := by
  refine wpAny_For (wpAny_mono h (fun xv s₁ h₁ => wpAny_mono h₁ (fun it s₂ h₂ => ?_) fun _ _ e => e) fun _ _ e => e) hs
  refine Classical.byContradiction fun hGG => ?_
  obtain ⟨I, J, l, items, m, v₀, Inv, rfl, hIe, hJe, hle, hIJ, hlI, hlJ, hLf, hcf, hcL, hI0, hJ0, hc0, F, hC, h0, stab, turn, done⟩ := h₂
  refine hGG ?_
  clear hGG
  have W := WalksT.enumerate (prog := prog) (w := w) (A := A) hh I J l hIJ hlI hlJ items
  have hLw : env.locals ∉ [I, J] := fun h => hLf (W.sub _ h)
  have hcw : c ∉ [I, J] := fun h => hcf (W.sub _ h)
  have old : ∀ b o, h₀.get? b = some o → b ∉ [I, J] := fun b o e hb => by
    rcases List.mem_cons.mp hb with rfl | hb
    · rw [hI0] at e; cases e
    · rw [List.mem_singleton.mp hb, hJ0] at e; cases e
  refine codeAny_forLoop_any (R := fun r s' => match r with | .ok f => Q f s' | .error e => cameBackBy (model prog w) A env E e s')
    (fun k s' => Sm5 (fun h' tk m' v' (i : Nat) => Al7 (s' = { s₂ with heap := h', toks := tk }) (((∃ old, IsEnum h' I J i old) ∧ h'.IsListIter J l i ∧ h'.IsList l items)) (Fr h₀ env.locals h' m') (h'.IsCell c v') (Inv i m' h') (i ≤ items.size) (k = items.size + 1 - i))) ?_ (items.size + 1)
    ⟨s₂.heap, s₂.toks, m, v₀, 0, rfl, ⟨⟨_, hIe⟩, hJe, hle⟩, F, hC, h0, Nat.zero_le _, rfl⟩
  rintro k s' ⟨H, tk, m', v', i, rfl, hst', F', hC', hJ, hi, rfl⟩
  have next : ∀ h₁ : Heap, (∀ b o, b ∉ [I, J] → H.get? b = some o → h₁.get? b = some o) → Fr h₀ env.locals h₁ m' ∧ Inv i m' h₁ ∧ h₁.IsCell c v' := fun h₁ hk₁ =>
    ⟨⟨F'.ns.at' fun o e => hk₁ _ o hLw e, fun b o e => hk₁ b o (old b o e) (F'.keep b o e), F'.above⟩, stab _ _ _ _ hJ ⟨fun b o hb e => hk₁ b o (fun z => hb (.tail _ (.tail _ z))) e⟩, by
      refine Classical.byContradiction fun hGG => ?_
      obtain ⟨o, ho, hd⟩ := hC'
      refine hGG ?_
      clear hGG
      exact ⟨o, hk₁ c o hcw ho, hd⟩⟩
  by_cases hlt : i < items.size
  · refine W.item i _ _ _ hlt hst' fun T vals h₁ tk₁ hPt _ hT hMid hk₁ => ?_
    refine Classical.byContradiction fun hGG => ?_
    obtain ⟨t, v1, hv1, rfl⟩ := hPt
    refine hGG ?_
    clear hGG
    refine W.go _ _ _ i T _ _ _ hMid fun h₂ hst₂ hk₂ => ?_
    have ht₂ : h₂.IsTuple T #[.int i t, v1] := hT.at fun o e => hk₂ T o (W.apart i T h₁ hMid) e
    refine wpAny_assign_Tuple hh ht₂ rfl rfl fun h₃ hx₃ => ?_
    replace hx₃ : Heap.ExtBut h₂.objs.size h₂ h₃ := hx₃
    have up₃ : ∀ b o, h₂.get? b = some o → h₃.get? b = some o := fun b o x => hx₃ b o (Nat.ne_of_lt (Heap.lt_size x)) x
    refine Classical.byContradiction fun hGG => ?_
    obtain ⟨F₃, J₃, C₃⟩ := next h₃ fun b o hb x => up₃ b o (hk₂ b o hb (hk₁ b o hb x))
    refine hGG ?_
    clear hGG
    show wpAny _ A (do holding [v1] (assign (.Name xi pi) env (.int i t)); do holding [] (assign (.Name xc pc) env v1); pure ()) _ _ _
    refine wpAny_bind (wpAny_holding (wpAny_assign_Name (wpAny_storeName_local hxi F₃.ns (fun h₄ hn₄ hs₄ => ?_) hp)))
    replace hs₄ : Heap.SameBut env.locals h₃ h₄ := hs₄
    have F₄ := F₃.set hn₄ hs₄
    have C₄ : h₄.IsCell c v' := C₃.sameBut hs₄ hcL
    refine wpAny_bind (wpAny_holding (wpAny_assign_Name (wpAny_storeName_cell hk hxc hcc C₄ fun h₅ C₅ hs₅ => wpAny_pure ?_)))
    replace hs₅ : Heap.SameBut c h₄ h₅ := hs₅
    have F₅ : Fr h₀ env.locals h₅ (fun y => if y = xi then some (.int i t) else m' y) := ⟨F₄.ns.sameBut hs₅ (Ne.symm hcL), fun b o e => hs₅.extBut b o (fun q => by rw [q, hc0] at e; cases e) (F₄.keep b o e), F₄.above⟩
    have hst₅ := W.frame _ _ _ hst₂ fun b hb o e => hs₅.extBut b o (fun q => hcf (q ▸ hb)) (hs₄.extBut b o (fun q => hLf (q ▸ hb)) (up₃ b o e))
    have J₅ : Inv i m' h₅ := stab _ _ _ _ J₃ ⟨fun b o hb e => hs₅.extBut b o (fun q => hb (by simp [q])) (hs₄.extBut b o (fun q => hb (by simp [q])) e)⟩
    refine Classical.byContradiction fun hGG => ?_
    obtain ⟨oC, hoC, hdC⟩ := C₅
    obtain ⟨⟨old₅, e5⟩, ⟨oJ, hoJ, r5⟩, l5⟩ := hst₅
    refine hGG ?_
    clear hGG
    refine wpAny_passesOwn hE (wpAny_mono (turn i v1 t m' h₅ _ _ _ _ hv1 J₅ e5 hoJ l5 hoC hdC F₅) (fun f s₃ h₃ => ?_) fun _ _ e => e)
    have post : (Sm3 (fun h' tk m₂ => Al4 (s₃ = { s₂ with heap := h', toks := tk }) (Fr h₀ env.locals h' m₂) ((∀ b ∈ [I, J, l, c], ∀ o, h₅.get? b = some o → h'.get? b = some o)) (Inv (i + 1) m₂ h'))) →
        ∃ m₁, m₁ < items.size + 1 - i ∧ Sm5 (fun h' tk m' v' (i : Nat) => Al7 (s₃ = { s₂ with heap := h', toks := tk }) (((∃ old, IsEnum h' I J i old) ∧ h'.IsListIter J l i ∧ h'.IsList l items)) (Fr h₀ env.locals h' m') (h'.IsCell c v') (Inv i m' h') (i ≤ items.size) (m₁ = items.size + 1 - i)) := by
      rintro ⟨h₆, tk₆, m₂, rfl, F₆, hk₆, hJ₆⟩
      exact ⟨items.size + 1 - (i + 1), by omega, h₆, tk₆, m₂, some v1, i + 1, rfl, W.frame (i + 1) _ _ ⟨⟨old₅, e5⟩, ⟨oJ, hoJ, r5⟩, l5⟩ fun b hb o e => hk₆ b (by
        simp only [List.mem_cons, List.not_mem_nil, or_false] at hb ⊢
        rcases hb with h | h | h <;> simp [h]) o e, F₆, ⟨oC, hk₆ c (by simp) oC hoC, hdC⟩, hJ₆, hlt, rfl⟩
    cases f with
    | ret v => exact h₃
    | brk => exact h₃
    | cont => exact post h₃
    | next => exact post h₃
  · have hin : i = items.size := by omega
    subst hin
    refine W.done _ _ _ hst' fun h₁ tk₁ hk₁ => wpAny_execs_nil ?_
    refine Classical.byContradiction fun hGG => ?_
    obtain ⟨F₁, J₁, _⟩ := next h₁ hk₁
    refine hGG ?_
    clear hGG
    exact done m' h₁ tk₁ J₁ F₁
/-- enumerate(list) is called, then iterated -/
theorem loop_enum {E : Value → Shared → Prop} {Q : Flow → Shared → Prop} {xi : Str} {c : Addr} {body : List Stmt} {m : Str → Option Value} {l : Addr} {ol oC : Obj} {items : Array Value} {nn : Nat} {v₀ : Option Value} {h₀ : Heap}
    (hl : s.heap.get? l = some ol) (hoc : ol.cls = .type "list") (hod : ol.data = .seq items nn) (hlL : l ≠ env.locals) (hcl : c ≠ l) (hcL : c ≠ env.locals) (hC : s.heap.get? c = some oC) (hCd : oC.data = .cell v₀) (hc0 : h₀.get? c = none) (F : Fr h₀ env.locals s.heap m)
    (Inv : Addr → Addr → Nat → (Str → Option Value) → Heap → Prop)
    (h0 : ∀ I J h, s.heap.get? I = none → s.heap.get? J = none → Mod [] s.heap h → Inv I J 0 m h)
    (stab : ∀ I J i m h h', s.heap.get? I = none → s.heap.get? J = none → Inv I J i m h → Mod [env.locals, c, I, J] h h' → Inv I J i m h')
    (turn : Hold (∀ I J oI oJ oC i x t m h tk, s.heap.get? I = none → s.heap.get? J = none → h₀.get? I = none → h₀.get? J = none → I ≠ J → I ≠ env.locals → J ≠ env.locals → items[i]? = some x → Inv I J i m h → h.get? I = some oI → h.get? J = some oJ → h.get? c = some oC → oC.data = .cell (some x) → Fr h₀ env.locals h (fun y => if y = xi then some (.int i t) else m y) →
      wpAny (model prog w) A (execs body env) (PostH h₀ env.locals [I, J, l, c] h ⟨s.heap, s.gens, s.drawn, s.toks, s.os⟩ (Inv I J (i + 1)) Q) E ⟨h, s.gens, s.drawn, tk, s.os⟩))
    (done : Hold (∀ I J m h tk, s.heap.get? I = none → s.heap.get? J = none → Inv I J items.size m h → Fr h₀ env.locals h m → Q .next ⟨h, s.gens, s.drawn, tk, s.os⟩)) :
    wpAny (model prog w) A (call (.type "enumerate") [.ref l]) (fun xv s₁ => wpAny (model prog w) A (pyIter xv) (fun it s₂ => LoopE prog w A h₀ env xi c body Q E it s₂) E s₁) E s := by
  have hL : s.heap.IsList l items := ⟨ol, hl, hoc, nn, hod⟩
  refine call_enumerate_list hL fun h' he hj hz hk => wpAny_pyIter_enum he ?_
  have fJ : s.heap.get? s.heap.objs.size = none := fresh_size s.heap
  have fI : s.heap.get? (s.heap.objs.size + 1) = none := get_above' (Nat.le_succ _)
  have hIJ : s.heap.objs.size + 1 ≠ s.heap.objs.size := Nat.succ_ne_self _
  have nI : ∀ {b : Addr} {o : Obj}, s.heap.get? b = some o → b ≠ s.heap.objs.size + 1 := fun e q => by rw [q, fI] at e; cases e
  have nJ : ∀ {b : Addr} {o : Obj}, s.heap.get? b = some o → b ≠ s.heap.objs.size := fun e q => by rw [q, fJ] at e; cases e
  refine Classical.byContradiction fun hGG => ?_
  obtain ⟨oL, _, _, hoL, _⟩ := id F.ns
  refine hGG ?_
  clear hGG
  have g0 : ∀ {b : Addr}, s.heap.get? b = none → h₀.get? b = none := fun {b} e => by
    cases q : h₀.get? b with
    | none => rfl
    | some o => rw [F.keep _ _ q] at e; cases e
  have F' : Fr h₀ env.locals h' m := ⟨F.ns.keeps hk, fun b o e => hk b o (F.keep b o e), F.above⟩
  refine ⟨_, _, l, items, m, v₀, Inv _ _, rfl, he, hj, hL.at fun o e => hk l o e, hIJ, nI hl, nJ hl, ?_, ?_, hcL, g0 fI, g0 fJ, hc0, F', ⟨oC, hk c oC hC, hCd⟩, h0 _ _ _ fI fJ ⟨fun b o _ e => hk b o e⟩, fun i m h h' hi hM => stab _ _ i m h h' fI fJ hi hM, ?_, fun m h tk hi F => done.out _ _ m h tk fI fJ hi F⟩
  · simp only [List.mem_cons, List.not_mem_nil, or_false, not_or]
    exact ⟨nI hoL, nJ hoL, Ne.symm hlL⟩
  · simp only [List.mem_cons, List.not_mem_nil, or_false, not_or]
    exact ⟨nI hC, nJ hC, hcl⟩
  · intro i x t m₁ h tk oI oJ oC' hx hi hI hJ _ hc' hd' Fh
    refine wpAny_mono (turn.out _ _ oI oJ oC' i x t m₁ h tk fI fJ (g0 fI) (g0 fJ) hIJ (Ne.symm (nI hoL)) (Ne.symm (nJ hoL)) hx hi hI hJ hc' hd' Fh) (fun f s₃ h₃ => ?_) fun _ _ e => e
    cases f <;> exact h₃
end
theorem mode13 : True := by
  w_top off
  k_with_none
  trivial
structure EBase (g : Heap) : Prop where
  out : True
theorem forEB {prog : Program} {w : World} {A : Around} {s : Shared} {env : Env} {E : Value → Shared → Prop} {Q : Flow → Shared → Prop} {xi xc : Str} {pi pc pt pos : Pos} {k : Nat} {iter : Expr} {body : List Stmt} {c : Addr} {h₀ : Heap} (b : EBase h₀) (hh : A.handled = none) (hxi : env.kindOf xi = some .local) (hxc : env.kindOf xc = some .cell) (hcc : env.cells.lookup xc = some c)
    (hk : env.scope.kind = .function) (hp : (env.scope.kind == .class || (env.scope.kind == .module && env.locals != env.globals)) = false)
    (h : wpAny (model prog w) A (eval iter env) (fun xv s₁ => wpAny (model prog w) A (pyIter xv) (fun it s₂ => LoopE prog w A h₀ env xi c body Q E it s₂) E s₁) E s)
    (hs : ∀ x, foldedSetIterable iter env x = pure x) (hE : PassesOwn (model prog w) A env E) :
    wpAny (model prog w) A (exec (.For (.Tuple [.Name xi pi, .Name xc pc] k pt) iter body [] pos) env) Q E s := forE h₀ hh hxi hxc hcc hk hp h hs hE
noncomputable def nMap (nd NB : Addr) : Str → Option Value := fun y => if y = Str.ofString "needs" then some (Value.ref nd) else if y = Str.ofString "numbers" then some (Value.ref NB) else none
theorem nlOk_snoc {rows : List Row} {r : Row} (o : NlOk (nlOf rows)) (h1 : ∀ q ∈ r.l.map (·.1), 0 ≤ q ∧ q < (rows.length : Int)) (h2 : (r.l.map (·.1)).Nodup) : NlOk (nlOf (rows ++ [r])) := by
  have e : nlOf (rows ++ [r]) = nlOf rows ++ [r.l.map (·.1)] := by simp [nlOf]
  have hl : (nlOf rows).length = rows.length := by simp [nlOf]
  rw [e]
  refine ⟨fun p l hp q hq => ?_, fun l hl' => ?_⟩
  · rw [List.getElem?_append] at hp
    split at hp
    · exact o.lt p l hp q hq
    · rename_i hge
      rcases Nat.lt_or_ge p (rows.length + 1) with z | z
      · have : p = rows.length := by lia
        subst this
        rw [hl, Nat.sub_self] at hp
        simp at hp
        subst hp
        exact h1 q hq
      · rw [List.getElem?_eq_none (by simp; lia)] at hp; cases hp
  · rcases List.mem_append.mp hl' with h | h
    · exact o.nd l h
    · rw [List.mem_singleton.mp h]; exact h2
noncomputable def CRel (k : Nat) (ys : List Value) : Prop := ∃ o : List (Int × Tok), ys = ivals o ∧ (o.map Prod.fst).Nodup ∧ ∀ q ∈ o.map Prod.fst, 0 ≤ q ∧ q < (k : Int)
theorem CRel.add {k : Nat} {o : List (Int × Tok)} (hnd : (o.map Prod.fst).Nodup) (hlt : ∀ q ∈ o.map Prod.fst, 0 ≤ q ∧ q < (k : Int)) {v : Int} {t : Tok} (e : v = (k : Int)) : CRel (k + 1) (ivals o ++ [Value.int v t]) := by
  subst e
  refine ⟨o ++ [((k : Int), t)], by simp [ivals], ?_, fun q hq => ?_⟩
  · rw [List.map_append, List.nodup_append]
    refine ⟨hnd, by simp, fun a ha b hb => ?_⟩
    simp at hb
    subst hb
    have := (hlt a ha).2
    lia
  · rw [List.map_append] at hq
    rcases List.mem_append.mp hq with h | h
    · have := hlt q h; lia
    · simp at h; lia
theorem CRel.skip {k : Nat} {o : List (Int × Tok)} (hnd : (o.map Prod.fst).Nodup) (hlt : ∀ q ∈ o.map Prod.fst, 0 ≤ q ∧ q < (k : Int)) : CRel (k + 1) (ivals o) := ⟨o, rfl, hnd, fun q hq => by have := hlt q hq; lia⟩
local macro_rules | `(tactic| walk_at "eval ListComp") => `(tactic| (k_here; k_dflt (refine listCompB (by assumption) (by with_unfolding_all rfl) (by decide) rfl (by decide) rfl ?_ (fun _ => rfl))))
local macro_rules | `(tactic| walk_at "exec Assign cons ListComp") => `(tactic| (k_here; k_dflt (refine assignCompB (by assumption) (by with_unfolding_all rfl) (by decide) rfl (by decide) rfl (by with_unfolding_all rfl) ?_ (fun _ => rfl))))
local macro_rules | `(tactic| walk_at "subscriptTail") => `(tactic| (k_here; (with_reducible refine gd15 ?_); (with_reducible rename Fr _ _ _ _ => F'); (with_reducible rename News _ _ _ _ => N'); (refine by_slice (s := ⟨_, _, _, _, _⟩) F' N' (by constructor) (by constructor) (by lia) ?_); intro h' t' k' F' N'))
section
--SETATTR
--APART
--COMP
--COMPG
local macro_rules | `(tactic| walk_at "exec For Tuple Call cons nil") => `(tactic| (k_here; k_dflt (refine forEB (by assumption) rfl rfl rfl rfl rfl rfl ?_ (fun _ => rfl) (by passes_own))))
local macro_rules | `(tactic| k_all) => `(tactic| exact TailNe.ne (by assumption))
theorem needs_spec {prog : Program} {w : World} {loose : List Str} {mean : ExcName → Option Value} {mg mb : Str → Option Value} 
  {dp un : Nat} {gd : Option (List Code)} {cn : Str} {cs : Scope} {a : Addr} {ccd : Value} {cl : List (Str × Addr)} {outer : List Env} {A₀ : Around} {base h₀ : Heap} {L : Addr} {m : Str → Option Value} {s : Shared} 
  {NB : Addr} {l : List (Int × Tok)} {nn : Nat}
    {Q E : Value → Shared → Prop}
    (B : Below A₀ base outer h₀) (F : Fr h₀ L s.heap m) (X : (Mine.hd.heap_1 w.params).In h₀) (T : Top Mine.hd.view_1 loose mean mg mb h₀) (hk : cs.kind = .function) 
    (hd : dp + 20 < recursionLimit) (hu : un + 160 < cLine) (hNB : s.heap.get? NB = some (listOf (ivals l).toArray nn)) (hoff : NB ≠ L ∧ h₀.get? NB = none) (hl : l.length ≤ 10)
    (ret : ∀ h' tk' R n1 rows, Mod [] s.heap h' → s.heap.get? R = none → h'.get? R = some (rowsObj rows n1) → (∀ r ∈ rows, s.heap.get? r.r = none ∧ h'.get? r.r = some r.obj) → NlOk (nlOf rows) → rows.length = l.length → Q (.ref R) { s with heap := h', toks := tk' }) :
    wpAny (model prog w) (ktrTop dp un gd cn cs L a ccd cl outer) (call (.ref 181) [.ref NB]) Q E s := by
  have N : News h₀ L s.heap [(NB, listOf (ivals l).toArray nn)] := fun p hp => by
    rw [List.mem_singleton] at hp
    subst hp
    exact ⟨hNB, hoff⟩
  refine wpAny_call ?_
  k_dflt refine' enterC (binds := [(Str.ofString "numbers", Value.ref NB)]) ?k1 ?k2 ?k3 ?k4 ?k5 ?kA ?kF ?kK ?k6 ?k7 ?k8 ?k9 ?kB ?kD ?_ ?c2 ?c3 ?c4
  k_dflt ((case kA | kF => exact rfl); (case kK => first | assumption | exact rfl); (case k1 | k2 | k3 | k4 | k5 => k_asm); (case k6 | k7 => k_is); (case k8 => ktr_room); (case k9 => exact BindsTo.of_eq rfl); (case kB => exact rfl); (case kD => decide +kernel); (case c2 | c3 | c4 => exact rfl); k_whole)
  intro g' L' h' tk' cells' hHeld' hSize' hKeep' F' N' Y' B' X' T' hfc
  refine hide fun QA hQA => ?_
  k_with "call type:enumerate" => (refine hold_of ?_)
  k_cells Y'
  try simp only [List.cons_append, List.nil_append] at N'
  clear N F
  have cb : CBase g' := ⟨trivial⟩
  (rename _ = Data.cell _ => dC)
  have eb : EBase g' := ⟨trivial⟩
  k_steps
  rename_i nd _ lnd hs tks lF lN
  refine ⟨?_⟩
  have mD := lN _ (.head _)
  have mC := lN _ (.tail _ (.head _))
  have mB := lN _ (.tail _ (.tail _ (.head _)))
  dsimp only at mD mC mB
  have fC1 := hfc _ (.head _)
  dsimp only at fC1
  have lF2 : Fr g' L' hs (nMap nd NB) := fr_eq lF (fun z => rfl)
  have fD1 : s.heap.get? nd = none := by
    cases q : s.heap.get? nd with
    | none => rfl
    | some o =>
      by_cases z : nd = NB
      · exact absurd z (Nat.ne_of_gt lnd.2)
      · have := hHeld' nd o (fun p hp => by rw [List.mem_singleton] at hp; subst hp; exact Ne.symm z) q
        rw [mD.2.2] at this; cases this
  have keptH : ∀ b o, s.heap.get? b = some o → hs.get? b = some o := fun b o e => by
    by_cases q : b = NB
    · rw [q, hNB] at e; cases e; rw [q]; exact mB.1
    · exact lF.keep b o (hHeld' b o (fun p hp => by rw [List.mem_singleton] at hp; subst hp; exact Ne.symm q) e)
  have ltH : ∀ b o, s.heap.get? b = some o → @LT.lt Nat _ b L' := fun b o e => by rw [← hSize']; exact Heap.lt_size e
  refine loop_enum (c := L' + 1) mB.1 rfl rfl mB.2.1 (Nat.ne_of_gt (Nat.lt_succ_of_lt (ltH _ _ hNB))) mC.2.1 mC.1 dC mC.2.2 lF2 (fun I J i mm hh => Sm2 (fun rows nr => Al8 (rows.length = i) (hh.get? nd = some (rowsObj rows nr)) (nd ≠ I) (nd ≠ J) ((∀ r ∈ rows, hh.get? r.r = some r.obj ∧ s.heap.get? r.r = none ∧ r.r ≠ L' ∧ r.r ≠ L' + 1 ∧ r.r ≠ I ∧ r.r ≠ J ∧ r.r ≠ nd ∧ g'.get? r.r = none)) (NlOk (nlOf rows)) ((∀ b o, s.heap.get? b = some o → hh.get? b = some o ∧ b ≠ I ∧ b ≠ J)) (∀ z, z ≠ Str.ofString "place" → mm z = nMap nd NB z))) ?h0 ?stab ⟨?turn⟩ ⟨?done⟩
  case h0 =>
    intro I J h2 fI fJ hM
    refine ⟨[], _, rfl, hM.keep _ _ List.not_mem_nil mD.1, fun q => ne_of_fresh fI mD.1 q.symm, fun q => ne_of_fresh fJ mD.1 q.symm, fun r hr => absurd hr List.not_mem_nil, ⟨fun p l h => by simp [nlOf] at h, fun l h => by simp [nlOf] at h⟩, fun b o e => ?_, fun z _ => rfl⟩
    have e2 := keptH b o e
    exact ⟨hM.keep _ _ List.not_mem_nil e2, fun q => ne_of_fresh fI e2 q.symm, fun q => ne_of_fresh fJ e2 q.symm⟩
  case stab =>
    intro I J i mm h2 h3 fI fJ hR1 hM
    refine Classical.byContradiction fun hGG => ?_
    obtain ⟨rows, nr, a1, a2, a3, a4, a5, a6, a7, a8⟩ := hR1
    refine hGG ?_
    clear hGG
    have nm : ∀ b : Addr, b ≠ L' → b ≠ L' + 1 → b ≠ I → b ≠ J → b ∉ [L', L' + 1, I, J] := fun b h1 h2 h3 h4 q => by
      simp only [List.mem_cons, List.not_mem_nil, or_false] at q
      rcases q with q | q | q | q
      · exact h1 q
      · exact h2 q
      · exact h3 q
      · exact h4 q
    refine ⟨rows, nr, a1, hM.keep _ _ (nm _ mD.2.1 (Nat.ne_of_gt lnd.1) a3 a4) a2, a3, a4, fun r hr => ?_, a6, fun b o e => ?_, a8⟩
    · refine Classical.byContradiction fun hGG => ?_
      obtain ⟨b1, b2, b3, b4, b5, b6, b7⟩ := a5 r hr
      refine hGG ?_
      clear hGG
      exact ⟨hM.keep _ _ (nm _ b3 b4 b5 b6) b1, b2, b3, b4, b5, b6, b7⟩
    · refine Classical.byContradiction fun hGG => ?_
      obtain ⟨b1, b2, b3⟩ := a7 b o e
      refine hGG ?_
      clear hGG
      have hb := ltH b o e
      exact ⟨hM.keep _ _ (nm _ (Nat.ne_of_lt hb) (Nat.ne_of_lt (Nat.lt_succ_of_lt hb)) b2 b3) b1, b2, b3⟩
  case done =>
    intro I J mm h9 tk9 fI fJ hR2 F9
    refine Classical.byContradiction fun hGG => ?_
    obtain ⟨rows, nr, a1, a2, a3, a4, a5, a6, a7, a8⟩ := hR2
    refine hGG ?_
    clear hGG
    replace F9 : Fr g' L' h9 _ := F9
    have F10 : Fr g' L' h9 (fun y => if y = Str.ofString "place" then mm (Str.ofString "place") else if y = Str.ofString "needs" then some (Value.ref nd) else if y = Str.ofString "numbers" then some (Value.ref NB) else none) := fr_eq F9 (fun z => by
      by_cases h1 : z = Str.ofString "place"
      · simp [h1]
      · simp only [h1, if_false]; rw [a8 z h1]; rfl)
    have N9 : News g' L' h9 [] := fun _ h => absurd h List.not_mem_nil
    have keepF9 : Hold (Fr g' L' h9 _) := ⟨F10⟩
    clear F9 lF lN lF2
    k_steps
    refine hQA _ _ ?_
    exact backM_ keepF9.out fun _ => ret _ _ nd nr rows ⟨fun b o _ e => (a7 b o e).1⟩ fD1 a2 (fun r hr => ⟨(a5 r hr).2.1, (a5 r hr).1⟩) a6 (by simpa [ivals] using a1)
  case turn =>
    intro I J oI oJ oC i v t mm hh tk9 fI fJ gI gJ hIJ hIL hJL hv hR3 hI hJ hC hCd F9
    refine Classical.byContradiction fun hGG => ?_
    obtain ⟨rows, nr, a1, a2, a3, a4, a5, a6, a7, a8⟩ := hR3
    refine hGG ?_
    clear hGG
    replace F9 : Fr g' L' hh _ := F9
    refine hide fun QB hQB => ?_
    have F10 : Fr g' L' hh (fun y => if y = Str.ofString "place" then some (Value.int (i : Int) t) else if y = Str.ofString "needs" then some (Value.ref nd) else if y = Str.ofString "numbers" then some (Value.ref NB) else none) := fr_eq F9 (fun z => by
      by_cases h1 : z = Str.ofString "place"
      · simp [h1]
      · simp only [h1, if_false]; rw [a8 z h1]; rfl)
    obtain ⟨xv, rfl⟩ : ∃ q : Int × Tok, v = .int q.1 q.2 := by
      simp [ivals] at hv
      obtain ⟨a, b, _, rfl⟩ := hv
      exact ⟨(a, b), rfl⟩
    have hil : i < l.length := by
      rcases Nat.lt_or_ge i l.length with z | z
      · exact z
      · rw [Array.getElem?_eq_none (by simpa [ivals] using z)] at hv; cases hv
    unfold rowsObj at a2
    have N3 : News g' L' hh [(nd, listOf (rows.map fun r => Value.ref r.r).toArray nr), (L' + 1, oC)] := by
      refine newsCons ?_ (newsCons ?_ newsNil)
      · exact ⟨a2, mD.2⟩
      · exact ⟨hC, mC.2⟩
    refine Classical.byContradiction fun hGG => ?_
    obtain ⟨g9, tl, F11, N11, st9, hold9, tn9, all9⟩ := rebase2 F10 N3
    refine hGG ?_
    clear hGG
    have X9 := X'.keeps st9
    have T9 := T'.keeps st9
    have keepN3 : Hold (News g9 L' hh _) := ⟨N11⟩
    have keepF9 : Hold (Fr g' L' hh _) := ⟨F10⟩
    have tn1 := tn9 _ (.head _)
    have tn2 := tn9 _ (.tail _ (.head _))
    dsimp only at tn1 tn2
    clear F9 F10 lF lN lF2 N3 cb eb
    have cb : CBase g9 := ⟨trivial⟩
    simp only [List.cons_append, List.nil_append] at N11
    k_steps
    rename_i hB tkB _ _ _ hrng lF lN hsub
    replace hsub : Kept hh hB := hsub
    refine comp_rngG rfl hrng (rng_small (by lia) (by lia)) (rng_size i) (by lia) lF.keep (Nat.le_trans lF.above (Nat.le_of_lt lF.ns.lt)) (fun _ _ _ k ys _ => CRel k ys) (fun _ _ _ _ _ _ _ => ⟨[], rfl, by simp, by simp⟩) (fun _ _ _ _ _ _ _ _ _ _ h _ => h) ⟨?turn2⟩ ⟨?done2⟩
    case done2 =>
      rintro C R K ys h2 tk2 mm2 fC fR fK hCR hKC hKR hns ⟨o, rfl, hnd, hlt⟩ ⟨nn2, hR⟩ hkept
      dsimp only at fC fR fK hkept
      refine post_plain hns fun h3 hs3 => ?_
      have F3 := fr_after lF hkept fC hs3
      have N3 := news_after lN hkept fC hs3
      have hRC : R ≠ C := Ne.symm hCR
      have hR3 := hs3.extBut R _ hRC hR
      have fRhh : hh.get? R = none := by
        cases q : hh.get? R with
        | none => rfl
        | some o => rw [hsub R o q] at fR; cases fR
      have keptB : ∀ b o, hh.get? b = some o → h3.get? b = some o := fun b o e => by
        have e2 := hkept b o (hsub b o e)
        exact hs3.extBut b o (fun q => by rw [q] at e; rw [hsub _ _ e] at fC; cases fC) e2
      have live : ∀ {b : Addr} {o : Obj}, hh.get? b = some o → R ≠ b := fun {b} {o} e q => by rw [q, e] at fRhh; cases fRhh
      have hRL : R ≠ L' := by
        refine Classical.byContradiction fun hGG => ?_
        obtain ⟨oL, _, _, hoL, _⟩ := keepF9.out.ns
        refine hGG ?_
        clear hGG
        exact live hoL
      have hg9R : g9.get? R = none := by
        cases q : g9.get? R with
        | none => rfl
        | some o => rw [lF.keep _ _ q] at fR; cases fR
      have hRnd : @Ne Nat R nd := live a2
      have N4 : News g9 L' h3 ((R, listOf (ivals o).toArray nn2) :: (nd, listOf (rows.map fun r => Value.ref r.r).toArray nr) :: (L' + 1, oC) :: tl) := fun q hq => by
        rcases memC.mp hq with rfl | hq
        · exact ⟨hR3, hRL, hg9R⟩
        · exact N3 q hq
      clear lF lN N3
      k_steps
      (rename Fr g9 L' _ _ => lF4); (rename News g9 L' _ _ => lN4)
      have kk := keep2 lF4 lN4 all9 (fun q hq => .tail _ (.tail _ (.tail _ hq)))
      have offL : ∀ b : Addr, nd ≠ b → L' + 1 ≠ b → ∀ p ∈ [(nd, listOf (rows.map fun r => Value.ref r.r).toArray nr), (L' + 1, oC)], p.1 ≠ b := fun b h1 h2 p hp => by
        simp only [memC, List.not_mem_nil, or_false] at hp
        rcases hp with rfl | rfl
        · exact h1
        · exact h2
      have nIJ : ∀ b : Addr, hs.get? b = none → L' + 1 ≠ b := fun b e q => ne_of_fresh e mC.1 q.symm
      have bigL : ∀ b o, s.heap.get? b = some o → b ≠ L' ∧ L' + 1 ≠ b ∧ nd ≠ b := fun b o e => ⟨Nat.ne_of_lt (ltH b o e), Nat.ne_of_gt (Nat.lt_succ_of_lt (ltH b o e)), fun q => by rw [← q, fD1] at e; cases e⟩
      refine hQB _ _ ?_
      refine ⟨_, _, _, rfl, fr_sub lF4 st9 keepF9.out, fun b hb o e => ?_, ⟨rows ++ [⟨R, o, nn2⟩], nr + 1, (by simp [a1] : (rows ++ [(⟨R, o, nn2⟩ : Row)]).length = i + 1), ?_, a3, a4, fun r hr => ?_, nlOk_snoc a6 (by rw [a1]; exact hlt) hnd, fun b o e => ?_, fun z hz => by simp only [hz, if_false]; rfl⟩⟩
      · simp only [memC, List.not_mem_nil, or_false] at hb
        rcases hb with rfl | rfl | rfl | rfl
        · exact kk _ o hIL (offL _ a3 (nIJ _ fI)) e
        · exact kk _ o hJL (offL _ a4 (nIJ _ fJ)) e
        · exact kk _ o (bigL _ _ hNB).1 (offL _ (bigL _ _ hNB).2.2 (bigL _ _ hNB).2.1) e
        · rw [hC] at e; cases e
          exact (lN4 _ (.tail _ (.tail _ (.head _)))).1
      · have e := (lN4 _ (.tail _ (.head _))).1
        have e2 : ((rows ++ [(⟨R, o, nn2⟩ : Row)]).map fun r => Value.ref r.r) = (rows.map fun r => Value.ref r.r) ++ [Value.ref R] := by simp
        unfold rowsObj
        rw [e2]
        exact e
      · rcases List.mem_append.mp hr with hr | hr
        · refine Classical.byContradiction fun hGG => ?_
          obtain ⟨b1, b2, b3, b4, b5, b6, b7, b8⟩ := a5 r hr
          refine hGG ?_
          clear hGG
          exact ⟨kk _ _ b3 (offL _ (Ne.symm b7) (Ne.symm b4)) b1, b2, b3, b4, b5, b6, b7, b8⟩
        · rw [List.mem_singleton.mp hr]
          refine ⟨(lN4 _ (.head _)).1, ?_, hRL, live hC, live hI, live hJ, hRnd, ?_⟩
          · cases q : s.heap.get? R with
            | none => rfl
            | some o => exact absurd rfl (live (a7 _ _ q).1)
          · cases q : g'.get? R with
            | none => rfl
            | some o => exact absurd rfl (live (keepF9.out.keep _ _ q))
      · refine Classical.byContradiction fun hGG => ?_
        obtain ⟨b1, b2, b3⟩ := a7 b o e
        refine hGG ?_
        clear hGG
        exact ⟨kk _ _ (bigL _ _ e).1 (offL _ (bigL _ _ e).2.2 (bigL _ _ e).2.1) b1, b2, b3⟩
    case turn2 =>
      rintro C R K oK k tt ys mm2 h2 tk2 E2 fC fR fK gK hCR hKC hKR hk hyl ⟨o, rfl, hnd, hlt⟩ hkept hoK hpl F2
      have N2 := news_comp lN hkept fC
      have keepF2 : Hold (Fr g9 C h2 _) := ⟨F2⟩
      refine turn_one ?_
      dsimp only
      clear lF lN
      refine hide fun QC hQC => ?_
      k_steps
      refine hQC _ _ ?_
      refine ⟨_, _, rfl, KeptC.same F2, ?_⟩
      dsimp only
      split
      · k_steps
        exact ⟨_, _, rfl, KeptC.same F2, CRel.add hnd hlt (by lia)⟩
      · exact CRel.skip hnd hlt
end
structure PEn where
  a : Addr
  r : Int
  rt : Tok
  p : Int
  pt : Tok
  n : Nat
noncomputable def PEn.obj (e : PEn) : Obj := pairObj (.int e.r e.rt) (.int e.p e.pt) e.n
noncomputable def PEn.lt (x y : PEn) : Bool := if x.r == y.r then decide (x.p < y.p) else decide (x.r < y.r)
noncomputable def pbest (b : PEn) : List PEn → PEn
  | [] => b
  | x :: xs => pbest (if x.lt b then x else b) xs
theorem PEn.lt_iff (x y : PEn) : x.lt y = true ↔ (x.r < y.r ∨ (x.r = y.r ∧ x.p < y.p)) := by
  unfold PEn.lt
  by_cases h : x.r = y.r
  · simp [h]
  · simp [h]
theorem PEn.lt_iff' (x y : PEn) : x.lt y = false ↔ (y.r < x.r ∨ (x.r = y.r ∧ y.p ≤ x.p)) := by
  have := PEn.lt_iff x y
  cases q : x.lt y with
  | false =>
    rw [q] at this
    simp only [Bool.false_eq_true, false_iff, not_or, not_and] at this
    simp only [true_iff]
    rcases Int.lt_trichotomy x.r y.r with h | h | h
    · exact absurd h this.1
    · exact .inr ⟨h, Int.not_lt.mp (this.2 h)⟩
    · exact .inl h
  | true =>
    rw [q] at this
    simp only [true_iff] at this
    simp only [Bool.true_eq_false, false_iff, not_or, not_and]
    omega
theorem pbest_spec : ∀ (xs : List PEn) (b : PEn), pbest b xs ∈ b :: xs ∧ ∀ x ∈ b :: xs, x.lt (pbest b xs) = false
  | [], b => ⟨.head _, fun x hx => by rw [List.mem_singleton.mp hx, PEn.lt_iff']; exact .inr ⟨rfl, Int.le_refl _⟩⟩
  | x :: xs, b => by
    obtain ⟨i1, i2⟩ := pbest_spec xs (if x.lt b then x else b)
    have tr : ∀ c : PEn, (if x.lt b then x else b).lt c = false → x.lt c = false ∧ b.lt c = false := fun c hc => by
      by_cases q : x.lt b = true
      · rw [if_pos q] at hc
        refine ⟨hc, ?_⟩
        rw [PEn.lt_iff'] at hc ⊢
        rw [PEn.lt_iff] at q
        omega
      · rw [if_neg q] at hc
        have q' : x.lt b = false := by simpa using q
        refine ⟨?_, hc⟩
        rw [PEn.lt_iff'] at hc q' ⊢
        omega
    show pbest (if x.lt b then x else b) xs ∈ b :: x :: xs ∧ ∀ y ∈ b :: x :: xs, y.lt (pbest (if x.lt b then x else b) xs) = false
    refine ⟨?_, fun y hy => ?_⟩
    · rcases List.mem_cons.mp i1 with h | h
      · rw [h]
        by_cases q : x.lt b = true
        · rw [if_pos q]; exact .tail _ (.head _)
        · rw [if_neg q]; exact .head _
      · exact .tail _ (.tail _ h)
    · have t := tr _ (i2 _ (.head _))
      rcases List.mem_cons.mp hy with rfl | hy
      · exact t.2
      · rcases List.mem_cons.mp hy with rfl | hy
        · exact t.1
        · exact (i2 y (.tail _ hy) : y.lt _ = false)
section
variable {prog : Program} {w : World} {A : Around} {R : Result → Shared → Prop} {I T S : Addr}
theorem pr_lt {A : Around} {E : Value → Shared → Prop} {s : Shared} {x y : PEn} {Q : Value → Shared → Prop} (hx : s.heap.get? x.a = some x.obj) (hy : s.heap.get? y.a = some y.obj) (hu : A.units < cLine) (h : Q (.bool (x.lt y)) s) :
    wpAny (model prog w) A (richCompare .Lt (.ref x.a) (.ref y.a)) Q E s := by
  have := lt_pair (Q := Q) (E := E) (A := A) hx hy (Ord2.int prog w x.r y.r x.rt y.rt) (Ord2.int prog w x.p y.p x.pt y.pt) (fun e => by rw [beq_iff_eq] at e; simp [e]) hu h
  exact this
theorem min_loopP {es : List PEn} (hh : A.handled = none) (hu : A.in1.units < cLine) (hTI : T ≠ I) (hSI : S ≠ I) (hST : S ≠ T) :
    ∀ (k j : Nat) (s : Shared) (b : PEn) (c : Nat), es.length - j = k → j ≤ es.length → s.heap.IsListIter I T j → s.heap.IsList T (es.map fun e => Value.ref e.a).toArray → (∀ e ∈ b :: es, s.heap.get? e.a = some e.obj ∧ e.a ≠ I ∧ e.a ≠ S) →
    s.heap.get? S = some { cls := .type "list", dict := none, data := .seq #[.ref b.a, .ref b.a] c, slots := #[] } →
    (∀ h' tk, (∀ b o, b ≠ I → b ≠ S → s.heap.get? b = some o → h'.get? b = some o) → R (.ok (.ret (.ref (pbest b (es.drop j)).a))) { s with heap := h', toks := tk }) →
    codeAny (model prog w) A (.builtin "min.loop" ⟨[.ref I, .none, .ref S], []⟩) R s := by
  have W := Walks.list (prog := prog) (w := w) (A := A.in1) hh I T hTI (es.map fun e => Value.ref e.a).toArray
  have hname : (toString "min" ++ toString ".loop" : String) = "min.loop" := by decide
  have hn : (es.map fun e => Value.ref e.a).toArray.size = es.length := by simp
  rw [hn] at W
  intro k
  induction k with
  | zero =>
    intro j s b c hk hj hI hT hes hS hR
    have hin : j = es.length := by omega
    subst hin
    refine codeAny_builtin F.entry_min_loop ?_
    rw [Around.under_plainId F.plain_min_loop _]
    show wpAny _ A.in1 (seqItems? (.ref S) >>= _) _ _ s
    refine wpAny_bind (wpAny_seqItems hS rfl ?_)
    show wpAny _ A.in1 (tryCatch (pyNext (.ref I)) _ >>= _) _ _ s
    refine wpAny_bind (wpAny_tryCatch (W.done s _ _ ⟨hI, hT⟩ fun h' tk hk' => ?_))
    have hS' := hk' S _ (fun q => hSI (List.mem_singleton.mp q)) hS
    show wpAny _ A.in1 (updateSeq S (fun _ => #[]) >>= _) _ _ _
    refine wpAny_bind ?_
    refine wpAny_updateSeq hS' rfl (wpAny_bind (wpAny_letGo (wpAny_pure ?_)))
    have := hR ((h'.update S (Obj.mapSeq fun _ => #[]))) tk fun b o hbI hbS e => (Heap.get?_update_other _ _ (Ne.symm hbS)).trans (hk' b o (fun q => hbI (List.mem_singleton.mp q)) e)
    rw [List.drop_length] at this
    exact this
  | succ k ih =>
    intro j s b c hk hj hI hT hes hS hR
    have hlt : j < es.length := by omega
    refine codeAny_builtin F.entry_min_loop ?_
    rw [Around.under_plainId F.plain_min_loop _]
    show wpAny _ A.in1 (seqItems? (.ref S) >>= _) _ _ s
    refine wpAny_bind (wpAny_seqItems hS rfl ?_)
    show wpAny _ A.in1 (tryCatch (pyNext (.ref I)) _ >>= _) _ _ s
    refine wpAny_bind (wpAny_tryCatch (W.item j s _ _ hlt ⟨hI, hT⟩ fun v h' tk hP hst' hk' => ?_))
    obtain ⟨x, hx⟩ : ∃ x, es[j]? = some x := ⟨_, List.getElem?_eq_getElem hlt⟩
    have hv : v = .ref x.a := by
      have : (es.map fun e => Value.ref e.a).toArray[j]? = some (.ref x.a) := by simp [hx]
      rw [this] at hP
      exact (Option.some.inj hP).symm
    subst hv
    have hdrop : es.drop j = x :: es.drop (j + 1) := by
      rw [List.drop_eq_getElem_cons hlt]
      congr 1
      rw [List.getElem?_eq_getElem hlt] at hx
      exact Option.some.inj hx
    have hk2 : ∀ b o, b ≠ I → s.heap.get? b = some o → h'.get? b = some o := fun b o q e => hk' b o (fun z => q (List.mem_singleton.mp z)) e
    have hS' := hk2 S _ hSI hS
    have hxm : x ∈ b :: es := .tail _ (List.mem_of_getElem? hx)
    show wpAny _ A.in1 (tryCatch (holding [.ref x.a, .ref x.a] (richCompare .Lt (.ref x.a) (.ref b.a) >>= _)) _ >>= _) _ _ _
    refine wpAny_bind (wpAny_tryCatch (wpAny_holding (wpAny_bind (pr_lt (hk2 _ _ (hes x hxm).2.1 (hes x hxm).1) (hk2 _ _ (hes b (.head _)).2.1 (hes b (.head _)).1) hu ?_))))
    refine wpAny_bind (wpAny_holding (wpAny_truthy_bool ?_))
    refine wpAny_bind (wpAny_letGo (wpAny_pure ?_))
    have hR' : ∀ h₁ : Heap, (∀ b o, b ≠ I → b ≠ S → s.heap.get? b = some o → h₁.get? b = some o) → ∀ h₂ tk₂, (∀ b o, b ≠ I → b ≠ S → h₁.get? b = some o → h₂.get? b = some o) →
        R (.ok (.ret (.ref (pbest (if x.lt b then x else b) (es.drop (j + 1))).a))) { s with heap := h₂, toks := tk₂ } := fun h₁ k1 h₂ tk₂ k2 => by
      have := hR h₂ tk₂ fun b o q1 q2 e => k2 b o q1 q2 (k1 b o q1 q2 e)
      rw [hdrop] at this
      exact this
    cases hb : x.lt b with
    | true =>
      simp only [if_true]
      refine wpAny_bind ?_
      refine wpAny_updateSeq hS' rfl (wpAny_bind (wpAny_letGo ?_))
      rw [hname]
      have up : ∀ b o, b ≠ S → h'.get? b = some o → (h'.update S (Obj.mapSeq fun _ => #[Value.ref x.a, Value.ref x.a])).get? b = some o := fun b o q e => (Heap.get?_update_other _ _ (Ne.symm q)).trans e
      refine Classical.byContradiction fun hGG => ?_
      obtain ⟨⟨oI, hoI, rI⟩, ⟨oT, hoT, rT⟩⟩ := hst'
      refine hGG ?_
      clear hGG
      refine wpAny_pure ⟨plainId_quiet F.plain_min_loop _, ih (j + 1) _ x _ (by omega) hlt ⟨oI, up _ _ (Ne.symm hSI) hoI, rI⟩ ⟨oT, up _ _ (Ne.symm hST) hoT, rT⟩ (fun e he => ?_) (Heap.get?_update_self _ hS' rfl) (fun h₂ tk₂ k2 => ?_)⟩
      · have he' : e ∈ b :: es := by
          rcases List.mem_cons.mp he with rfl | he
          · exact hxm
          · exact .tail _ he
        exact ⟨up _ _ (hes e he').2.2 (hk2 _ _ (hes e he').2.1 (hes e he').1), (hes e he').2⟩
      · have := hR' (h'.update S (Obj.mapSeq fun _ => #[Value.ref x.a, Value.ref x.a])) (fun b o q1 q2 e => up b o q2 (hk2 b o q1 e)) h₂ tk₂ k2
        rw [if_pos hb] at this
        exact this
    | false =>
      simp only [Bool.false_eq_true, if_false]
      refine wpAny_bind (wpAny_letGo ?_)
      rw [hname]
      refine wpAny_pure ⟨plainId_quiet F.plain_min_loop _, ih (j + 1) _ b c (by omega) hlt hst'.1 hst'.2 (fun e he => ⟨hk2 _ _ (hes e he).2.1 (hes e he).1, (hes e he).2⟩) hS' (fun h₂ tk₂ k2 => ?_)⟩
      have := hR' h' (fun b o q1 _ e => hk2 b o q1 e) h₂ tk₂ k2
      rw [if_neg (by rw [hb]; exact Bool.false_ne_true)] at this
      exact this
theorem min_pairs {E : Value → Shared → Prop} {s : Shared} {Q : Value → Shared → Prop} {b : PEn} {es : List PEn} {n : Nat} (hh : A.handled = none) (hu : A.in1.units < cLine)
    (hT : s.heap.get? T = some { cls := .type "list", dict := none, data := .seq ((b :: es).map fun e => Value.ref e.a).toArray n, slots := #[] }) (hes : ∀ e ∈ b :: es, s.heap.get? e.a = some e.obj)
    (h : ∀ h' tk, (∀ b o, s.heap.get? b = some o → h'.get? b = some o) → Q (.ref (pbest b es).a) { s with heap := h', toks := tk }) :
    wpAny (model prog w) A (call (.builtin "min") [.ref T]) Q E s := by
  have hname : (toString "min" ++ toString ".loop" : String) = "min.loop" := by decide
  have hL : s.heap.IsList T ((b :: es).map fun e => Value.ref e.a).toArray := ⟨_, hT, rfl, n, rfl⟩
  refine call_function_tree F.kind_min F.plain_min F.entry_min (F.args_min1 _) ?_
  show wpAny _ A.in1 (Builtin.Builtins.bindParams "min" ["key", "default"] 0 ⟨[], []⟩ >>= _) _ _ s
  refine wpAny_bind (wpAny_of_eq (show Builtin.Builtins.bindParams "min" ["key", "default"] 0 ⟨[], []⟩ = pure [none, none] from rfl) ?_)
  refine wpAny_bind (wpAny_pure ?_)
  refine wpAny_bind (wpAny_pyIter_list hL ?_)
  refine wpAny_bind (wpAny_newObj_type ?_)
  rw [hname]
  have W := Walks.list (prog := prog) (w := w) (A := A.in1) hh s.heap.objs.size T (Nat.ne_of_lt (Heap.lt_size hT)) ((b :: es).map fun e => Value.ref e.a).toArray
  have f0 : s.heap.get? s.heap.objs.size = none := fresh_size s.heap
  generalize hP1 : s.heap.push { cls := .type "list_iterator", data := .fields #[.ref T, .int 0 0] } = P1
  have hP1s : P1.objs.size = s.heap.objs.size + 1 := by rw [← hP1, Heap.size_push]
  generalize hP2 : P1.push { cls := .type "list", dict := none, data := .seq ([] : List Value).toArray } = P2
  have k1 : ∀ b o, s.heap.get? b = some o → P2.get? b = some o := fun b o e => by rw [← hP2, ← hP1]; exact Heap.get?_push_of_some _ (Heap.get?_push_of_some _ e)
  have f1 : s.heap.get? P1.objs.size = none := Heap.get?_none_of_le (by rw [hP1s]; exact Nat.le_succ _)
  have hI : P2.IsListIter s.heap.objs.size T 0 := ⟨_, by rw [← hP2]; exact Heap.get?_push_of_some _ (by rw [← hP1]; exact Heap.get?_push_size _ rfl), rfl, rfl⟩
  have hSI : P1.objs.size ≠ s.heap.objs.size := by rw [hP1s]; exact Nat.succ_ne_self _
  have hS : P2.get? P1.objs.size = some { cls := .type "list", dict := none, data := .seq ([] : List Value).toArray } := by rw [← hP2]; exact Heap.get?_push_size _ rfl
  have nI : ∀ {a : Addr} {o : Obj}, s.heap.get? a = some o → a ≠ s.heap.objs.size := fun e q => by rw [q, f0] at e; cases e
  have nS : ∀ {a : Addr} {o : Obj}, s.heap.get? a = some o → a ≠ P1.objs.size := fun e q => by rw [q, f1] at e; cases e
  refine wpAny_pure ⟨plainId_quiet F.plain_min_loop _, ?_⟩
  refine codeAny_builtin F.entry_min_loop ?_
  rw [Around.under_plainId F.plain_min_loop _]
  show wpAny _ A.in1 (seqItems? (.ref P1.objs.size) >>= _) _ _ _
  refine wpAny_bind (wpAny_seqItems hS rfl ?_)
  show wpAny _ A.in1 (tryCatch (pyNext (.ref s.heap.objs.size)) _ >>= _) _ _ _
  refine wpAny_bind (wpAny_tryCatch (W.item 0 _ _ _ (by simp) ⟨hI, hL.at fun o e => k1 _ o e⟩ fun v h' tk hP hst' hk' => ?_))
  have hv : v = .ref b.a := by
    have : ((b :: es).map fun e => Value.ref e.a).toArray[0]? = some (.ref b.a) := by simp
    rw [this] at hP
    exact (Option.some.inj hP).symm
  subst hv
  have hk2 : ∀ b o, b ≠ s.heap.objs.size → P2.get? b = some o → h'.get? b = some o := fun b o q e => hk' b o (fun z => q (List.mem_singleton.mp z)) e
  have hS' := hk2 _ _ hSI hS
  show wpAny _ A.in1 (updateSeq P1.objs.size (fun _ => #[.ref b.a, .ref b.a]) >>= _) _ _ _
  refine wpAny_bind ?_
  refine wpAny_updateSeq hS' rfl ?_
  have up : ∀ c o, c ≠ P1.objs.size → h'.get? c = some o → (h'.update P1.objs.size (Obj.mapSeq fun _ => #[Value.ref b.a, Value.ref b.a])).get? c = some o := fun c o q e => (Heap.get?_update_other _ _ (Ne.symm q)).trans e
  refine Classical.byContradiction fun hGG => ?_
  obtain ⟨⟨oI, hoI, rI⟩, ⟨oT, hoT, rT⟩⟩ := hst'
  refine hGG ?_
  clear hGG
  rw [hname]
  refine wpAny_pure ⟨plainId_quiet F.plain_min_loop _, min_loopP (es := b :: es) (b := b) hh hu (nI hT) hSI (Ne.symm (nS hT)) _ 1 _ _ rfl (by simp) ⟨oI, up _ _ (Ne.symm hSI) hoI, rI⟩ ⟨oT, up _ _ (nS hT) hoT, rT⟩ (fun e he => ?_) (Heap.get?_update_self _ hS' rfl) (fun h₂ tk₂ k2 => ?_)⟩
  · have he' : e ∈ b :: es := by
      rcases List.mem_cons.mp he with rfl | he
      · exact .head _
      · exact he
    have z := hes e he'
    exact ⟨up _ _ (nS z) (hk2 _ _ (nI z) (k1 _ _ z)), nI z, nS z⟩
  · exact h h₂ tk₂ fun c o e => k2 c o (nI e) (nS e) (up c o (nS e) (hk2 c o (nI e) (k1 c o e)))
end
noncomputable def leftOf (n : Nat) (ord : List Int) : List Int := ((List.range n).map fun (k : Nat) => (k : Int)).filter fun p => decide (p ∉ ord)
noncomputable def blocked (nl : List (List Int)) (left : List Int) (p : Int) : List Int := (needsOf nl p).filter fun q => decide (q ∈ left)
noncomputable def freeOf (nl : List (List Int)) (left : List Int) : List Int := left.filter fun p => decide (blocked nl left p = [])
theorem mem_leftOf {n : Nat} {ord : List Int} {p : Int} : p ∈ leftOf n ord ↔ 0 ≤ p ∧ p < (n : Int) ∧ p ∉ ord := by
  unfold leftOf
  rw [List.mem_filter]
  constructor
  · rintro ⟨h, h2⟩
    obtain ⟨k, hk, rfl⟩ := List.mem_map.mp h
    have := List.mem_range.mp hk
    exact ⟨by lia, by lia, by simpa using h2⟩
  · rintro ⟨h0, h1, h2⟩
    exact ⟨List.mem_map.mpr ⟨p.toNat, List.mem_range.mpr (by lia), by lia⟩, by simpa using h2⟩
theorem leftOf_succ (n : Nat) (ord : List Int) : leftOf (n + 1) ord = leftOf n ord ++ if (n : Int) ∈ ord then [] else [(n : Int)] := by
  unfold leftOf
  rw [List.range_succ, List.map_append, List.filter_append]
  congr 1
  by_cases h : (n : Int) ∈ ord <;> simp [h]
theorem mem_freeOf {nl : List (List Int)} (o : NlOk nl) {ord : List Int} {p : Int} : p ∈ freeOf nl (leftOf nl.length ord) ↔ Free nl ord p := by
  unfold freeOf Free
  rw [List.mem_filter, mem_leftOf]
  constructor
  · rintro ⟨⟨h0, h1, h2⟩, h3⟩
    refine ⟨h0, h1, h2, fun q hq => ?_⟩
    have := (o.needs h0 h1).1 q hq
    rw [decide_eq_true_eq] at h3
    apply Classical.byContradiction
    intro hn
    have hm : q ∈ blocked nl (leftOf nl.length ord) p := by
      unfold blocked
      exact List.mem_filter.mpr ⟨hq, by simpa using mem_leftOf.mpr ⟨this.1, by lia, hn⟩⟩
    rw [h3] at hm
    cases hm
  · rintro ⟨h0, h1, h2, h3⟩
    refine ⟨⟨h0, h1, h2⟩, ?_⟩
    rw [decide_eq_true_eq]
    unfold blocked
    rw [List.filter_eq_nil_iff]
    intro q hq hm
    have := mem_leftOf.mp (of_decide_eq_true hm)
    exact this.2.2 (h3 q hq)
noncomputable def rLt (rk : List (Int × Tok)) (p q : Int) : Bool := if (rk.getD p.toNat (0, 0)).1 == (rk.getD q.toNat (0, 0)).1 then decide (p < q) else decide ((rk.getD p.toNat (0, 0)).1 < (rk.getD q.toNat (0, 0)).1)
theorem pen_rLt {rk : List (Int × Tok)} {x y : PEn} (hx : rk[x.p.toNat]? = some (x.r, x.rt)) (hy : rk[y.p.toNat]? = some (y.r, y.rt)) : rLt rk x.p y.p = x.lt y := by
  unfold rLt PEn.lt
  simp [hx, hy]
theorem rLt_tot {rk : List (Int × Tok)} {a b : Int} (h : rLt rk a b = false) (k : rLt rk b a = false) : a = b := by
  unfold rLt at h k
  generalize (rk.getD a.toNat (0, 0)).1 = x at h k
  generalize (rk.getD b.toNat (0, 0)).1 = y at h k
  by_cases e : x = y
  · subst e
    simp at h k
    lia
  · have e' : y ≠ x := fun q => e q.symm
    simp [e, e'] at h k
    lia
/-- the step of the due order -/
theorem due_step {nl : List (List Int)} (o : NlOk nl) {rk : List (Int × Tok)} {ord : List Int} (g : Greedy nl (rLt rk) ord) {b : PEn} {es : List PEn} (hp : (b :: es).map (·.p) = freeOf nl (leftOf nl.length ord))
    (hr : ∀ e ∈ b :: es, rk[e.p.toNat]? = some (e.r, e.rt)) : Greedy nl (rLt rk) (ord ++ [(pbest b es).p]) := by
  obtain ⟨hm, hl⟩ := pbest_spec es b
  refine g.snoc ((mem_freeOf o).mp ?_) fun c hc => ?_
  · rw [← hp]; exact List.mem_map_of_mem hm
  · have := (mem_freeOf o).mpr hc
    rw [← hp] at this
    obtain ⟨e, he, rfl⟩ := List.mem_map.mp this
    rw [pen_rLt (hr e he) (hr _ hm)]
    exact hl e he
theorem free_ne {nl : List (List Int)} (o : NlOk nl) {ord : List Int} (hl : ord.length < nl.length) : freeOf nl (leftOf nl.length ord) ≠ [] := fun e => by
  obtain ⟨p, hp⟩ := free_exists o hl
  have := (mem_freeOf o).mpr hp
  rw [e] at this
  cases this
theorem mode14 : True := by
  w_top off
  k_with_none
  trivial
structure DAt (s0 : Heap) (rows : List Row) (rk : List (Int × Tok)) (L' nd : Addr) (oO oc2 oc1 : Obj) (I : Addr) (hh : Heap) (t : Nat) (ord : List (Int × Tok)) (on : Nat) (oLf : Obj) (v : Option Value) : Prop where
  len : ord.length = t
  hO : hh.get? nd = some (listOf (ivals ord).toArray on)
  gr : Greedy (nlOf rows) (rLt rk) (ord.map (·.1))
  h4 : hh.get? (L' + 1 + 1 + 1 + 1) = some oLf
  d4 : oLf.data = .cell v
  h3 : hh.get? (L' + 1 + 1 + 1) = some oO
  h2 : hh.get? (L' + 1 + 1) = some oc2
  h1 : hh.get? (L' + 1) = some oc1
  off : ∀ c ∈ [nd, L' + 1 + 1 + 1 + 1, L' + 1 + 1 + 1, L' + 1 + 1, L' + 1], c ≠ I
  kept : ∀ b o, s0.get? b = some o → hh.get? b = some o ∧ b ≠ I
theorem DAt.keep {s0 : Heap} {rows : List Row} {rk : List (Int × Tok)} {L' nd : Addr} {oO oc2 oc1 : Obj} {I : Addr} {hh h' : Heap} {t : Nat} {ord : List (Int × Tok)} {on : Nat} {oLf : Obj} {v : Option Value} (x : DAt s0 rows rk L' nd oO oc2 oc1 I hh t ord on oLf v)
    (k : ∀ b o, b ∈ [nd, L' + 1 + 1 + 1 + 1, L' + 1 + 1 + 1, L' + 1 + 1, L' + 1] ∨ (∃ o, s0.get? b = some o) → hh.get? b = some o → h'.get? b = some o) : DAt s0 rows rk L' nd oO oc2 oc1 I h' t ord on oLf v :=
  ⟨x.len, k _ _ (.inl (by first | exact mc0 | exact mc1 | exact mc2 | exact mc3 | exact mc4 | exact mc5 | exact mc6 | exact mc7 | simp)) x.hO, x.gr, k _ _ (.inl (by first | exact mc0 | exact mc1 | exact mc2 | exact mc3 | exact mc4 | exact mc5 | exact mc6 | exact mc7 | simp)) x.h4, x.d4, k _ _ (.inl (by first | exact mc0 | exact mc1 | exact mc2 | exact mc3 | exact mc4 | exact mc5 | exact mc6 | exact mc7 | simp)) x.h3, k _ _ (.inl (by first | exact mc0 | exact mc1 | exact mc2 | exact mc3 | exact mc4 | exact mc5 | exact mc6 | exact mc7 | simp)) x.h2, k _ _ (.inl (by first | exact mc0 | exact mc1 | exact mc2 | exact mc3 | exact mc4 | exact mc5 | exact mc6 | exact mc7 | simp)) x.h1, x.off, fun b o e => ⟨k _ _ (.inr ⟨o, e⟩) (x.kept b o e).1, (x.kept b o e).2⟩⟩
noncomputable def LRel (f : Nat → List Int) (k : Nat) (ys : List Value) : Prop := ∃ o : List (Int × Tok), ys = ivals o ∧ o.map Prod.fst = f k
theorem LRel.add {f : Nat → List Int} {k : Nat} {o : List (Int × Tok)} (ho : o.map Prod.fst = f k) {v : Int} {t : Tok} (e : f (k + 1) = f k ++ [v]) : LRel f (k + 1) (ivals o ++ [Value.int v t]) := ⟨o ++ [(v, t)], by simp [ivals], by rw [List.map_append, ho, e]; rfl⟩
theorem LRel.skip {f : Nat → List Int} {k : Nat} {o : List (Int × Tok)} (ho : o.map Prod.fst = f k) (e : f (k + 1) = f k) : LRel f (k + 1) (ivals o) := ⟨o, rfl, by rw [ho, e]⟩
theorem ints_iv : ∀ o : List (Int × Tok), IntsAre (ivals o) (o.map Prod.fst)
  | [] => .nil
  | p :: o => .cons p.1 p.2 (ints_iv o)
section
variable {prog : Program} {w : World} {A : Around} {E : Value → Shared → Prop} {s : Shared} {h₀ : Heap} {L : Addr} {news : List (Addr × Obj)}
theorem any_mem (ns : List Int) (k : Int) : ns.any (· == k) = decide (k ∈ ns) := by
  induction ns with
  | nil => simp
  | cons a r ih =>
    simp only [List.any_cons, ih, List.mem_cons]
    by_cases h : a = k
    · simp [h]
    · have : ¬ k = a := fun q => h q.symm
      simp [h, this]
theorem notin_iv {l : Addr} {o : List (Int × Tok)} {n : Nat} {k : Int} {t : Tok} {Q : Value → Shared → Prop} (N : News h₀ L s.heap news) (hm : (l, listOf (ivals o).toArray n) ∈ news) (h : Q (.bool (decide (k ∉ o.map Prod.fst))) s) :
    wpAny (model prog w) A (compareOp .NotIn (.int k t) (.ref l)) Q E s := by
  refine notin_list_ints (PySem.IsL.isList (n := n) (N _ hm).1) (ints_iv o) ?_
  rw [any_mem, ← decide_not]; exact h
theorem in_iv {l : Addr} {o : List (Int × Tok)} {n : Nat} {k : Int} {t : Tok} {Q : Value → Shared → Prop} (N : News h₀ L s.heap news) (hm : (l, listOf (ivals o).toArray n) ∈ news) (h : Q (.bool (decide (k ∈ o.map Prod.fst))) s) :
    wpAny (model prog w) A (compareOp .In (.int k t) (.ref l)) Q E s := by
  refine in_list_ints (PySem.IsL.isList (n := n) (N _ hm).1) (ints_iv o) ?_
  rw [any_mem]; exact h
theorem eq_nil_iv {a b : Addr} {o : List (Int × Tok)} {n n' : Nat} {Q : Value → Shared → Prop} (N : News h₀ L s.heap news) (ha : (a, listOf (ivals o).toArray n) ∈ news) (hb : (b, listOf #[] n') ∈ news) (hu : A.units + 64 < cLine) (h : Q (.bool (decide (o.map Prod.fst = []))) s) :
    wpAny (model prog w) A (compareOp .Eq (.ref a) (.ref b)) Q E s :=
  ke_eq_ints (PySem.IsL.isList (n := n) (N _ ha).1) (PySem.IsL.isList (n := n') (N _ hb).1) (ints_iv o) .nil hu h
end
theorem mod_ns {h h' : Heap} {foot : List Addr} {a : Addr} {m : Str → Option Value} (x : Mod foot h h') (ha : a ∉ foot) (n : h.Ns a m) : h'.Ns a m := n.at' fun o e => x.keep _ _ ha e
theorem fr_afterM {g hs h2 h3 : Heap} {L C c : Addr} {m : Str → Option Value} (lF : Fr g L hs m) (k : Kept hs h2) (fC : hs.get? C = none) (hc : g.get? c = none) (hcL : L ≠ c) (hM : Mod [C, c] h2 h3) : Fr g L h3 m := by
  have hC := fr_new lF fC
  refine ⟨mod_ns hM (fun q => ?_) (lF.ns.keeps k), fun b o e => hM.keep b o (fun q => ?_) (k b o (lF.keep b o e)), lF.above⟩
  · simp only [List.mem_cons, List.not_mem_nil, or_false] at q
    rcases q with q | q
    · exact hC.1 q.symm
    · exact hcL q
  · simp only [List.mem_cons, List.not_mem_nil, or_false] at q
    rcases q with q | q
    · rw [q, hC.2] at e; cases e
    · rw [q, hc] at e; cases e
theorem fr_stored {g hs h2 h3 : Heap} {L C : Addr} {m m' : Str → Option Value} (lF : Fr g L hs m) (k : Kept hs h2) (fC : hs.get? C = none) (hM : Mod [C, L] h2 h3) (hn : h3.Ns L m') : Fr g L h3 m' :=
  ⟨hn, fun b o e => hM.keep b o (fun q => by
    simp only [List.mem_cons, List.not_mem_nil, or_false] at q
    rcases q with q | q
    · rw [q, (fr_new lF fC).2] at e; cases e
    · rw [q, kts_self lF] at e; cases e) (k b o (lF.keep b o e)), lF.above⟩
theorem news_stored {g hs h2 h3 : Heap} {L C : Addr} {led : List (Addr × Obj)} (lN : News g L hs led) (k : Kept hs h2) (fC : hs.get? C = none) (hM : Mod [C, L] h2 h3) : News g L h3 led := fun p hp =>
  ⟨hM.keep _ _ (fun q => by
    simp only [List.mem_cons, List.not_mem_nil, or_false] at q
    rcases q with q | q
    · exact ne_of_fresh fC (lN p hp).1 q.symm
    · exact (lN p hp).2.1 q) (k _ _ (lN p hp).1), (lN p hp).2⟩
theorem post_local' {prog : Program} {w : World} {A : Around} {E : Value → Shared → Prop} {env : Env} {Q : Shared → Prop} {y : Str} {py : Pos} {C D : Addr} {m m₀ : Str → Option Value} {s₂ : Shared} {h : Heap} {tk : Nat} (hn : h.Ns C m) (hL : h.Ns env.locals m₀) (hLC : env.locals ≠ C) (hy : env.kindOf y = some .local)
    (hp : (env.scope.kind == .class || (env.scope.kind == .module && env.locals != env.globals)) = false)
    (k : ∀ h' tk', Mod [C, env.locals] h h' → h'.Ns env.locals (fun z => if z = y then some (.ref D) else m₀ z) → Q { s₂ with heap := h', toks := tk' }) :
    compPost (model prog w) A E (some (assign (.Name y py) env)) (fun _ s' => Q s') (.ref D) C (.ok .next) { s₂ with heap := h, toks := tk } := post_local (Q := fun _ s' => Q s') hn hL hLC hy hp k
noncomputable def ERel (rk : List (Int × Tok)) (fr : List Int) (C R I : Addr) (k : Nat) (ys : List Value) (h : Heap) : Prop :=
  Sm1 (fun (es : List PEn) => Al4 (ys = es.map (fun e => Value.ref e.a)) ((∀ e ∈ es, h.get? e.a = some e.obj ∧ e.a ≠ C ∧ e.a ≠ R ∧ e.a ≠ I)) (es.map (·.p) = fr.take k) (∀ e ∈ es, rk[e.p.toNat]? = some (e.r, e.rt)))
section
--SETATTR
--APART
--COMP
--COMPG
local macro_rules | `(tactic| k_all) => `(tactic| exact TailNe.ne (by assumption))
local macro_rules | `(tactic| walk_at "subscriptTail Name Name ref int") => `(tactic| (k_here; (with_reducible refine gd6 ?_); k_dflt (refine' lst_item ?k1 ?k2 ?k3 ?k4 ?_ ?hs; (case k1 => k_asm); (case k2 => k_mem); (case k3 | k4 => assumption); (case hs => exact rfl); k_whole)))
local macro_rules | `(tactic| walk_at "compareOp NotIn int ref") => `(tactic| (k_here; k_dflt (refine' notin_iv ?k1 ?k2 ?_; (case k1 => k_asm); (case k2 => k_mem); k_whole)))
local macro_rules | `(tactic| walk_at "compareOp In int ref") => `(tactic| (k_here; k_dflt (refine' in_iv ?k1 ?k2 ?_; (case k1 => k_asm); (case k2 => k_mem); k_whole)))
local macro_rules | `(tactic| walk_at "compareOp Eq ref ref") => `(tactic| (k_here; (with_reducible refine gd16 ?_); k_dflt (refine' eq_nil_iv ?k1 ?k2 ?k3 ?k4 ?_; (case k1 => k_asm); (case k2 | k3 => k_mem); (case k4 => ktr_units); k_whole)))
local macro_rules | `(tactic| walk_at "call builtin:min") => `(tactic| (k_here; (refine hold_of ?_)))
local macro_rules | `(tactic| walk_at "subscriptTail Call Name cons nil Constant ref int") => `(tactic| (k_here; k_dflt (refine' pair_item1 ?k1 ?_ ?hs; (case k1 => assumption); (case hs => exact rfl))))
theorem due_spec {prog : Program} {w : World} {loose : List Str} {mean : ExcName → Option Value} {mg mb : Str → Option Value} 
  {dp un : Nat} {gd : Option (List Code)} {cn : Str} {cs : Scope} {a : Addr} {ccd : Value} {cl : List (Str × Addr)} {outer : List Env} {A₀ : Around} {base h₀ : Heap} {L : Addr} {m : Str → Option Value} {s : Shared} 
  {A0 K0 : Addr} {rows : List Row} {rk : List (Int × Tok)} {n0 n1 : Nat}
    {Q E : Value → Shared → Prop}
    (B : Below A₀ base outer h₀) (F : Fr h₀ L s.heap m) (X : (Mine.hd.heap_1 w.params).In h₀) (T : Top Mine.hd.view_1 loose mean mg mb h₀) (hk : cs.kind = .function) 
    (hd : dp + 20 < recursionLimit) (hu : un + 160 < cLine) (hA0 : s.heap.get? A0 = some (rowsObj rows n0)) (hK0 : s.heap.get? K0 = some (listOf (ivals rk).toArray n1)) (hrow : ∀ r ∈ rows, s.heap.get? r.r = some r.obj)
    (hoff : ∀ b ∈ [A0, K0], b ≠ L ∧ h₀.get? b = none) (hAK : A0 ≠ K0) (hnl : NlOk (nlOf rows)) (hz : rows.length ≤ 10) (hkl : rk.length = rows.length)
    (ret : ∀ h' tk' O on ord, Mod [] s.heap h' → s.heap.get? O = none → h'.get? O = some (listOf (ivals ord).toArray on) → ord.length = rows.length → Greedy (nlOf rows) (rLt rk) (ord.map (·.1)) → Q (.ref O) { s with heap := h', toks := tk' }) :
    wpAny (model prog w) (ktrTop dp un gd cn cs L a ccd cl outer) (call (.ref 198) [.ref A0, .ref K0]) Q E s := by
  have N : News h₀ L s.heap [(A0, rowsObj rows n0), (K0, listOf (ivals rk).toArray n1)] := fun p hp => by
    simp only [memC, List.not_mem_nil, or_false] at hp
    rcases hp with rfl | rfl
    · exact ⟨hA0, hoff _ (by first | exact mc0 | exact mc1 | exact mc2 | exact mc3 | exact mc4 | exact mc5 | exact mc6 | exact mc7 | simp)⟩
    · exact ⟨hK0, hoff _ (by first | exact mc0 | exact mc1 | exact mc2 | exact mc3 | exact mc4 | exact mc5 | exact mc6 | exact mc7 | simp)⟩
  refine wpAny_call ?_
  k_dflt refine' enterC (binds := [(Str.ofString "needs", Value.ref A0), (Str.ofString "ranks", Value.ref K0)]) ?k1 ?k2 ?k3 ?k4 ?k5 ?kA ?kF ?kK ?k6 ?k7 ?k8 ?k9 ?kB ?kD ?_ ?c2 ?c3 ?c4
  k_dflt ((case kA | kF => exact rfl); (case kK => first | assumption | exact rfl); (case k1 | k2 | k3 | k4 | k5 => k_asm); (case k6 | k7 => k_is); (case k8 => ktr_room); (case k9 => exact BindsTo.of_eq rfl); (case kB => exact rfl); (case kD => decide +kernel); (case c2 | c3 | c4 => exact rfl); k_whole)
  intro g' L' h' tk' cells' hHeld' hSize' hKeep' F' N' Y' B' X' T' hfc
  refine hide fun QA hQA => ?_
  k_cells Y'
  rename_i oc4 oc3 oc2 oc1 dc4 dc3 dc2 dc1
  try simp only [List.cons_append, List.nil_append] at N'
  clear N F
  unfold rowsObj at N'
  have ltH : ∀ b o, s.heap.get? b = some o → @LT.lt Nat _ b L' := fun b o e => by rw [← hSize']; exact Heap.lt_size e
  have lA : @LT.lt Nat _ A0 L' := ltH _ _ hA0
  have lK : @LT.lt Nat _ K0 L' := ltH _ _ hK0
  have nAK : @Ne Nat A0 K0 := hAK
  have lr : (rows.map fun r => Value.ref r.r).length ≤ 1000 := by simp; lia
  k_with "exec For Name Call cons nil" => (refine forH g' rfl rfl ?_ (fun _ => rfl) (by passes_own))
  k_steps
  k_with_none
  rename_i nd _ lnd hs0 oO FP NP dO _ tkC hB tkB _ _ _ hrng lF lN hsub
  have mD := lN _ (.head _)
  have mC4 := lN _ (.tail _ (.head _))
  have mC3 := lN _ (.tail _ (.tail _ (.head _)))
  have mC2 := lN _ (.tail _ (.tail _ (.tail _ (.head _))))
  have mC1 := lN _ (.tail _ (.tail _ (.tail _ (.tail _ (.head _)))))
  have mA := lN _ (.tail _ (.tail _ (.tail _ (.tail _ (.tail _ (.head _))))))
  have mK := lN _ (.tail _ (.tail _ (.tail _ (.tail _ (.tail _ (.tail _ (.head _)))))))
  dsimp only at mD mC4 mC3 mC2 mC1 mA mK
  have keptH : ∀ b o, s.heap.get? b = some o → hB.get? b = some o := fun b o e => by
    by_cases q : b = A0
    · rw [q, hA0] at e; cases e; rw [q]; exact mA.1
    · by_cases q2 : b = K0
      · rw [q2, hK0] at e; cases e; rw [q2]; exact mK.1
      · refine lF.keep b o (hHeld' b o (fun p hp => ?_) e)
        simp only [memC, List.not_mem_nil, or_false] at hp
        rcases hp with rfl | rfl
        · exact Ne.symm q
        · exact Ne.symm q2
  have fD1 : s.heap.get? nd = none := by
    cases q : s.heap.get? nd with
    | none => rfl
    | some o =>
      have := ltH _ _ q
      obtain ⟨l1, _⟩ := lnd
      have l1 : @LT.lt Nat _ (L' + 1 + 1 + 1 + 1) nd := l1
      have this : @LT.lt Nat _ nd L' := this
      lia
  have cellLt : ∀ b o, s.heap.get? b = some o → b ∉ [nd, L' + 1 + 1 + 1 + 1, L' + 1 + 1 + 1, L' + 1 + 1, L' + 1] := fun b o e q => by
    have hb : @LT.lt Nat _ b L' := ltH b o e
    simp only [List.mem_cons, List.not_mem_nil, or_false] at q
    rcases q with q | q | q | q | q
    · rw [q, fD1] at e; cases e
    · have q : @Eq Nat b (L' + 1 + 1 + 1 + 1) := q
      lia
    · have q : @Eq Nat b (L' + 1 + 1 + 1) := q
      lia
    · have q : @Eq Nat b (L' + 1 + 1) := q
      lia
    · have q : @Eq Nat b (L' + 1) := q
      lia
  have cellL : ∀ b, b ∈ [nd, L' + 1 + 1 + 1 + 1, L' + 1 + 1 + 1, L' + 1 + 1, L' + 1] ∨ (∃ o, s.heap.get? b = some o) → b ≠ L' := fun b hb => by
    rcases hb with hb | ⟨o, e⟩
    · simp only [memC, List.not_mem_nil, or_false] at hb
      rcases hb with rfl | rfl | rfl | rfl | rfl
      · exact mD.2.1
      · exact mC4.2.1
      · exact mC3.2.1
      · exact mC2.2.1
      · exact mC1.2.1
    · exact Nat.ne_of_lt (ltH b o e)
  refine loop_rng rfl hrng (rng_small (by lia) (by lia)) (rng_size rows.length) lF (fun I t mm hh => Sm4 (fun ord on oLf v => DAt s.heap rows rk L' nd oO oc2 oc1 I hh t ord on oLf v)) ?h0 ?stab ⟨?turn⟩ ⟨?done⟩
  case h0 =>
    intro I h2 fI hM
    have nI : ∀ {b : Addr} {o : Obj}, hB.get? b = some o → b ≠ I := fun e q => ne_of_fresh fI e q.symm
    have k : ∀ {b : Addr} {o : Obj}, hB.get? b = some o → h2.get? b = some o := fun e => hM.keep _ _ List.not_mem_nil e
    refine ⟨[], _, oc4, _, ⟨rfl, k mD.1, ⟨fun t c h => by simp at h⟩, k mC4.1, dc4, k mC3.1, k mC2.1, k mC1.1, fun c hc => ?_, fun b o e => ⟨k (keptH b o e), nI (keptH b o e)⟩⟩⟩
    simp only [memC, List.not_mem_nil, or_false] at hc
    rcases hc with rfl | rfl | rfl | rfl | rfl
    · exact nI mD.1
    · exact nI mC4.1
    · exact nI mC3.1
    · exact nI mC2.1
    · exact nI mC1.1
  case stab =>
    intro I t mm h2 h3 fI hR1 hM
    refine Classical.byContradiction fun hGG => ?_
    obtain ⟨ord, on, oLf, v, A⟩ := hR1
    refine hGG ?_
    clear hGG
    refine ⟨ord, on, oLf, v, A.keep fun b o hb e => hM.keep b o (fun q => ?_) e⟩
    rcases List.mem_cons.mp q with q | q
    · exact cellL b hb q
    · rcases hb with hb | ⟨o, e⟩
      · exact A.off b hb (List.mem_singleton.mp q)
      · exact (A.kept b o e).2 (List.mem_singleton.mp q)
  case done =>
    intro I mm h9 tk9 fI hR2 F9
    refine Classical.byContradiction fun hGG => ?_
    obtain ⟨ord, on, oLf, v, A⟩ := hR2
    refine hGG ?_
    clear hGG
    replace F9 : Fr g' L' h9 _ := F9
    have N9 : News g' L' h9 [(L' + 1 + 1 + 1, oO)] := fun p hp => by
      rw [List.mem_singleton.mp hp]
      exact ⟨A.h3, mC3.2⟩
    have keepF9 : Hold (Fr g' L' h9 _) := ⟨F9⟩
    clear lF lN FP NP
    k_steps
    refine hQA _ _ ?_
    exact backM_ keepF9.out fun _ => ret _ _ nd on ord ⟨fun b o _ e => (A.kept b o e).1⟩ fD1 A.hO A.len A.gr
  case turn =>
    intro I oI t tt mm hh tk2 fI gI hIL hI ht hR3 F9
    refine Classical.byContradiction fun hGG => ?_
    obtain ⟨ord, on, oLf, v, A⟩ := hR3
    refine hGG ?_
    clear hGG
    replace F9 : Fr g' L' hh _ := F9
    refine hide fun QB hQB => ?_
    have N3 : News g' L' hh [(nd, listOf (ivals ord).toArray on), (L' + 1 + 1 + 1 + 1, oLf), (L' + 1 + 1 + 1, oO), (L' + 1 + 1, oc2), (L' + 1, oc1), (A0, listOf (rows.map fun r => Value.ref r.r).toArray n0), (K0, listOf (ivals rk).toArray n1)] := by
      refine newsCons ?_ (newsCons ?_ (newsCons ?_ (newsCons ?_ (newsCons ?_ (newsCons ?_ (newsCons ?_ newsNil))))))
      · exact ⟨A.hO, mD.2⟩
      · exact ⟨A.h4, mC4.2⟩
      · exact ⟨A.h3, mC3.2⟩
      · exact ⟨A.h2, mC2.2⟩
      · exact ⟨A.h1, mC1.2⟩
      · exact ⟨(A.kept _ _ hA0).1, mA.2⟩
      · exact ⟨(A.kept _ _ hK0).1, mK.2⟩
    refine Classical.byContradiction fun hGG => ?_
    obtain ⟨g9, tl, F11, N11, st9, hold9, tn9, all9⟩ := rebase2 F9 N3
    refine hGG ?_
    clear hGG
    have X9 := X'.keeps st9
    have T9 := T'.keeps st9
    have keepN3 : Hold (News g9 L' hh _) := ⟨N11⟩
    have keepF9 : Hold (Fr g' L' hh _) := ⟨F9⟩
    have tn1 := tn9 _ (.head _)
    have tn2 := tn9 _ (.tail _ (.head _))
    dsimp only at tn1 tn2
    have d4 := A.d4
    clear F9 lF lN FP NP N3
    have cb : CBase g9 := ⟨trivial⟩
    simp only [List.cons_append, List.nil_append] at N11
    k_steps
    rename_i tkC2 hB2 tkB2 _ _ _ hrng2 lF lN hsub2
    replace hsub2 : Kept hh hB2 := hsub2
    refine comp_rngG rfl hrng2 (rng_small (by lia) (by lia)) (rng_size rows.length) (by lia) lF.keep (Nat.le_trans lF.above (Nat.le_of_lt lF.ns.lt)) (fun _ _ _ k ys _ => LRel (fun k => leftOf k (ord.map Prod.fst)) k ys) (fun _ _ _ _ _ _ _ => ⟨[], rfl, rfl⟩) (fun _ _ _ _ _ _ _ _ _ _ h _ => h) ⟨?turn1⟩ ⟨?done1⟩
    case turn1 =>
      rintro C R K oK k tt1 ys mm2 h2 tk3 E2 fC fR fK gK hCR hKC hKR hk hyl ⟨o, rfl, ho⟩ hkept hoK hpl F2
      dsimp only at fC fR fK hkept
      have N2 := news_comp lN hkept fC
      have keepF2 : Hold (Fr g9 C h2 _) := ⟨F2⟩
      refine turn_one ?_
      dsimp only
      clear lF lN
      refine hide fun QC hQC => ?_
      k_steps
      refine hQC _ _ ?_
      refine ⟨_, _, rfl, KeptC.same F2, ?_⟩
      (try dsimp only)
      split
      · rename_i hin
        k_steps
        refine ⟨_, _, rfl, KeptC.same F2, LRel.add (f := fun k => leftOf k (ord.map Prod.fst)) ho ?_⟩
        have hin' := of_decide_eq_true hin
        have e0 : (0 + (k : Int) * 1) = (k : Int) := by lia
        rw [e0] at hin' ⊢
        rw [leftOf_succ, if_neg hin']
      · rename_i hin
        refine LRel.skip ho ?_
        have hin' : ¬ ((0 + (k : Int) * 1) ∉ ord.map Prod.fst) := fun q => hin (decide_eq_true q)
        have e0 : (0 + (k : Int) * 1) = (k : Int) := by lia
        rw [e0] at hin'
        rw [leftOf_succ, if_pos (Classical.not_not.mp hin'), List.append_nil]
    case done1 =>
      rintro C R K ys h2 tk3 mm2 fC fR fK hCR hKC hKR hns ⟨o, rfl, ho⟩ ⟨nn2, hR⟩ hkept
      dsimp only at fC fR fK hkept
      have keepB : ∀ b o, hh.get? b = some o → h2.get? b = some o := fun b o e => hkept b o (hsub2 b o e)
      have e4 := keepB _ _ A.h4
      have liveR : ∀ {b : Addr} {o : Obj}, hh.get? b = some o → R ≠ b ∧ C ≠ b := fun {b} {o} e => ⟨(fun q => by rw [q, hsub2 _ _ e] at fR; cases fR), (fun q => by rw [q, hsub2 _ _ e] at fC; cases fC)⟩
      refine post_plain hns fun h3 hs3 => ?_
      have F3 := fr_after lF hkept fC hs3
      have N3 := news_after lN hkept fC hs3
      have hRC : R ≠ C := Ne.symm hCR
      have hR3 := hs3.extBut R _ hRC hR
      have hRL : R ≠ L' := by
        refine Classical.byContradiction fun hGG => ?_
        obtain ⟨oL, _, _, hoL, _⟩ := keepF9.out.ns
        refine hGG ?_
        clear hGG
        exact (liveR hoL).1
      have hg9R : g9.get? R = none := by
        cases q : g9.get? R with
        | none => rfl
        | some o => rw [lF.keep _ _ q] at fR; cases fR
      have nR : ∀ {b : Addr} {o : Obj}, hh.get? b = some o → Apart R b := fun e => ⟨(liveR e).1⟩
      have nRd := nR A.hO
      have nR4 := nR A.h4
      have nR3 := nR A.h3
      have nR2 := nR A.h2
      have nR1 := nR A.h1
      have nRA := nR (A.kept _ _ hA0).1
      have nRK := nR (A.kept _ _ hK0).1
      have tnR : TailNe R tl := ⟨fun q hq e => (liveR (keepN3.out q (List.mem_append_right _ hq)).1).1 e.symm⟩
      have N4 : News g9 L' h3 ((R, listOf (ivals o).toArray nn2) :: _) := fun q hq => by
        rcases memC.mp hq with rfl | hq
        · exact ⟨hR3, hRL, hg9R⟩
        · exact N3 q hq
      clear lF lN N3
      k_steps
      rename_i hE oLf2 lF lN d4b
      have rowAt : ∀ p ∈ o.map Prod.fst, ∃ (j : Nat) (rw : Row), p = (j : Int) ∧ rows[j]? = some rw := fun p hp => by
        rw [ho] at hp
        refine Classical.byContradiction fun hGG => ?_
        obtain ⟨p0, p1, _⟩ := mem_leftOf.mp hp
        refine hGG ?_
        clear hGG
        exact ⟨p.toNat, rows[p.toNat]'(by lia), by lia, List.getElem?_eq_getElem _⟩
      have hoz : o.length ≤ rows.length := by
        have := congrArg List.length ho
        rw [List.length_map] at this
        rw [this]
        unfold leftOf
        refine Nat.le_trans (List.length_filter_le _ _) ?_
        simp
      have mLA := (lN _ (.tail _ (.tail _ (.tail _ (.tail _ (.tail _ (.tail _ (.head _)))))))).1
      have mLK := (lN _ (.tail _ (.tail _ (.tail _ (.tail _ (.tail _ (.tail _ (.tail _ (.head _))))))))).1
      dsimp only at mLA mLK
      have offS : ∀ b o, s.heap.get? b = some o → b ≠ A0 → b ≠ K0 → ∀ p ∈ [(nd, listOf (ivals ord).toArray on), (L' + 1 + 1 + 1 + 1, oLf), (L' + 1 + 1 + 1, oO), (L' + 1 + 1, oc2), (L' + 1, oc1), (A0, listOf (rows.map fun r => Value.ref r.r).toArray n0), (K0, listOf (ivals rk).toArray n1)], p.1 ≠ b := fun b o e hA hK p hp q => by
        have hc := cellLt b o e
        simp only [List.mem_cons, List.not_mem_nil, or_false, not_or] at hp hc
        rcases hp with rfl | rfl | rfl | rfl | rfl | rfl | rfl
        · exact hc.1 q.symm
        · exact hc.2.1 q.symm
        · exact hc.2.2.1 q.symm
        · exact hc.2.2.2.1 q.symm
        · exact hc.2.2.2.2 q.symm
        · exact hA q.symm
        · exact hK q.symm
      have keptE : ∀ b o, s.heap.get? b = some o → hE.get? b = some o := fun b o e => by
        by_cases qA : b = A0
        · rw [qA, hA0] at e; cases e; rw [qA]; exact mLA
        · by_cases qK : b = K0
          · rw [qK, hK0] at e; cases e; rw [qK]; exact mLK
          · exact keep2 lF lN all9 (fun q hq => .tail _ (.tail _ (.tail _ (.tail _ (.tail _ (.tail _ (.tail _ (.tail _ hq)))))))) b o (Nat.ne_of_lt (ltH b o e)) (offS b o e qA qK) (A.kept b o e).1
      have rowG : ∀ r ∈ rows, hE.get? r.r = some r.obj := fun r hr => keptE _ _ (hrow r hr)
      refine comp_seqG rfl (lN _ (.head _)).1 rfl rfl (by simp [ivals]; lia) lF.keep (Nat.le_trans lF.above (Nat.le_of_lt lF.ns.lt)) (fun _ _ _ k ys _ => LRel (fun k => ((o.map Prod.fst).take k).filter fun p => decide (blocked (nlOf rows) (o.map Prod.fst) p = [])) k ys) (fun _ _ _ _ _ _ _ => ⟨[], rfl, rfl⟩) (fun _ _ _ _ _ _ _ _ _ _ h _ => h) ⟨?turn2⟩ ⟨?done2⟩
      case turn2 =>
        rintro C R2 K oK i pv ys mm2 h4 tk5 E2 fC fR2 fK gK hCR hKC hKR hv hyl ⟨o2, rfl, ho2⟩ hkept2 hoK hpl F2
        dsimp only at fC fR2 fK hkept2
        refine Classical.byContradiction fun hGG => ?_
        obtain ⟨pq, hpq, rfl⟩ : ∃ q : Int × Tok, o[i]? = some q ∧ pv = .int q.1 q.2 := by
          simp [ivals] at hv
          obtain ⟨a, b, h, rfl⟩ := hv
          exact ⟨(a, b), h, rfl⟩
        obtain ⟨pz, pt⟩ := pq
        obtain ⟨j, rw1, rfl, hj⟩ := rowAt pz (List.mem_map_of_mem (List.mem_of_getElem? hpq))
        refine hGG ?_
        clear hGG
        have hjv : (rows.map fun r => Value.ref r.r)[j]? = some (Value.ref rw1.r) := by simp [hj]
        have N2 := news_comp lN hkept2 fC
        refine Classical.byContradiction fun hGG => ?_
        obtain ⟨g10, tl10, F10, N10, st10, hold10, tn10, all10⟩ := rebase2 F2 N2
        refine hGG ?_
        clear hGG
        have X10 := X9.keeps st10
        have T10 := T9.keeps st10
        have keepN10 : Hold (News g9 C h4 _) := ⟨N2⟩
        refine turn_one ?_
        dsimp only
        clear lF lN F2 N2 cb
        have cb : CBase g10 := ⟨trivial⟩
        simp only [List.cons_append] at N10
        dsimp only at F10
        refine hide fun QD hQD => ?_
        k_steps
        have rwz : rw1.l.length ≤ 1000 := by
          have e : (nlOf rows)[j]? = some (rw1.l.map (·.1)) := by simp [nlOf, hj]
          have := needs_len hnl e
          have hjl : j < rows.length := by
            rcases Nat.lt_or_ge j rows.length with z | z
            · exact z
            · rw [List.getElem?_eq_none z] at hj; cases hj
          rw [List.length_map] at this
          lia
        have hT5 : h4.get? rw1.r = some rw1.obj := hkept2 _ _ (rowG rw1 (List.mem_of_getElem? hj))
        refine comp_seqG rfl hT5 rfl rfl (by simp [ivals]; lia) F10.keep (Nat.le_trans F10.above (Nat.le_of_lt F10.ns.lt)) (fun _ _ _ k ys _ => LRel (fun k => ((rw1.l.map Prod.fst).take k).filter fun q => decide (q ∈ o.map Prod.fst)) k ys) (fun _ _ _ _ _ _ _ => ⟨[], rfl, rfl⟩) (fun _ _ _ _ _ _ _ _ _ _ h _ => h) ⟨?turn3⟩ ⟨?done3⟩
        case turn3 =>
          rintro C5 R5 K5 oK5 i5 pv5 ys5 mm5 h5 tk7 E5 fC5 fR5 fK5 gK5 hCR5 hKC5 hKR5 hv5 hyl5 ⟨o5, rfl, ho5⟩ hkept5 hoK5 hpl5 F5
          dsimp only at fC5 fR5 fK5 hkept5
          obtain ⟨pq5, hpq5, rfl⟩ : ∃ q : Int × Tok, rw1.l[i5]? = some q ∧ pv5 = .int q.1 q.2 := by
            simp [ivals] at hv5
            obtain ⟨a, b, h, rfl⟩ := hv5
            exact ⟨(a, b), h, rfl⟩
          have N5 := news_comp N10 hkept5 fC5
          have keepF5 : Hold (Fr g10 C5 h5 _) := ⟨F5⟩
          have stepE : ∀ f : List Int → List Int, ((rw1.l.map Prod.fst).take (i5 + 1)) = ((rw1.l.map Prod.fst).take i5) ++ [pq5.1] := fun _ => by
            rw [List.take_add_one, List.getElem?_map, hpq5]; rfl
          refine turn_one ?_
          dsimp only
          clear F10 N10
          (try dsimp only at F5)
          refine hide fun QG hQG => ?_
          k_steps
          refine hQG _ _ ?_
          refine ⟨_, _, rfl, KeptC.same F5, ?_⟩
          (try dsimp only)
          split
          · rename_i hin
            k_steps
            refine ⟨_, _, rfl, KeptC.same F5, LRel.add (f := fun k => ((rw1.l.map Prod.fst).take k).filter fun q => decide (q ∈ o.map Prod.fst)) ho5 ?_⟩
            rw [stepE id, List.filter_append, List.filter_cons, if_pos hin, List.filter_nil]
          · rename_i hin
            refine LRel.skip ho5 ?_
            rw [stepE id, List.filter_append, List.filter_cons, if_neg hin, List.filter_nil, List.append_nil]
        case done3 =>
          rintro C5 R5 K5 ys5 h5 tk7 mm5 fC5 fR5 fK5 hCR5 hKC5 hKR5 hns5 ⟨o5, rfl, ho5⟩ ⟨nn5, hR5⟩ hkept5
          dsimp only at fC5 fR5 fK5 hkept5
          refine post_plain hns5 fun h6 hs6 => ?_
          have F6 := fr_after F10 hkept5 fC5 hs6
          have N6 := news_after N10 hkept5 fC5 hs6
          have hR6 := hs6.extBut R5 _ (Ne.symm hCR5) hR5
          have n5 := fr_new F10 fR5
          have N7 : News g10 C h6 ((R5, listOf (ivals o5).toArray nn5) :: _) := fun q hq => by
            rcases memC.mp hq with rfl | hq
            · exact ⟨hR6, n5⟩
            · exact N6 q hq
          clear F10 N10 N6
          k_steps
          (rename Fr g10 C _ _ => lF); (rename News g10 C _ _ => lN)
          have kC := keptC_of lF lN (fun p hp => (keepN10.out p hp).1) all10 (fun q hq => List.mem_append_right [_, _, _, _, _, _, _, _, _, _] (List.mem_append_right tl hq)) (fun q hq => List.mem_append_right [_, _] (List.mem_append_left tl10 hq))
          have hneed : needsOf (nlOf rows) (j : Int) = rw1.l.map Prod.fst := needsOf_nat (by simp [nlOf, hj])
          have blk : o5.map Prod.fst = blocked (nlOf rows) (o.map Prod.fst) (j : Int) := by
            rw [ho5]
            unfold blocked
            rw [hneed]
            dsimp only
            rw [List.take_of_length_le (by simp [ivals])]
          have stepO : ((o.map Prod.fst).take (i + 1)) = ((o.map Prod.fst).take i) ++ [(j : Int)] := by
            rw [List.take_add_one, List.getElem?_map, hpq]; rfl
          refine hQD _ _ ?_
          refine ⟨_, _, rfl, kC, ?_⟩
          (try dsimp only)
          rw [blk]
          split
          · rename_i hin
            k_steps
            refine ⟨_, _, rfl, kC, LRel.add (f := fun k => ((o.map Prod.fst).take k).filter fun p => decide (blocked (nlOf rows) (o.map Prod.fst) p = [])) ho2 ?_⟩
            rw [stepO, List.filter_append, List.filter_cons, if_pos hin, List.filter_nil]
          · rename_i hin
            refine LRel.skip ho2 ?_
            rw [stepO, List.filter_append, List.filter_cons, if_neg hin, List.filter_nil, List.append_nil]
      case done2 =>
        rintro C R2 K ys h4 tk5 mm2 fC fR2 fK hCR hKC hKR hns ⟨o2, rfl, ho2⟩ ⟨nn4, hR2⟩ hkept2
        dsimp only at fC fR2 fK hkept2
        have nfC := fr_new lF fC
        have nfR := fr_new lF fR2
        k_dflt refine' post_local' hns ?pL ?pC ?pa ?pb ?pk
        case pL => exact lF.ns.keeps hkept2
        case pC => exact Ne.symm nfC.1
        case pa => exact rfl
        case pb => exact rfl
        intro h5 tk6 hM5 hn5
        have F5 := fr_stored lF hkept2 fC hM5 hn5
        have N5 := news_stored lN hkept2 fC hM5
        have hR5 := hM5.keep _ _ (fun q => by
          simp only [List.mem_cons, List.not_mem_nil, or_false] at q
          rcases q with q | q
          · exact hCR q.symm
          · exact nfR.1 q) hR2
        have liveE : ∀ {b : Addr} {o : Obj}, hE.get? b = some o → Apart R2 b := fun {b} {o} e => ⟨fun q => by rw [show R2 = b from q, e] at fR2; cases fR2⟩
        have mR := lN _ (.head _)
        have mD2 := (lN _ (.tail _ (.head _))).1
        have mE4 := (lN _ (.tail _ (.tail _ (.head _)))).1
        have mE3 := (lN _ (.tail _ (.tail _ (.tail _ (.head _))))).1
        have mE2 := (lN _ (.tail _ (.tail _ (.tail _ (.tail _ (.head _)))))).1
        have mE1 := (lN _ (.tail _ (.tail _ (.tail _ (.tail _ (.tail _ (.head _))))))).1
        dsimp only at mR mD2 mE4 mE3 mE2 mE1
        have l2R := liveE mR.1
        have l2d := liveE mD2
        have l24 := liveE mE4
        have l23 := liveE mE3
        have l22 := liveE mE2
        have l21 := liveE mE1
        have l2A := liveE mLA
        have l2K := liveE mLK
        have tnR2 : TailNe R2 tl := ⟨fun q hq e => (liveE (lN q (.tail _ (.tail _ (.tail _ (.tail _ (.tail _ (.tail _ (.tail _ (.tail _ hq))))))))).1).ne e.symm⟩
        have N6 : News g9 L' h5 ((R2, listOf (ivals o2).toArray nn4) :: _) := fun q hq => by
          rcases memC.mp hq with rfl | hq
          · exact ⟨hR5, nfR⟩
          · exact N5 q hq
        have keepNE : Hold (News g9 L' hE _) := ⟨lN⟩
        clear lF lN N5
        k_steps
        have frE : o2.map Prod.fst = freeOf (nlOf rows) (leftOf (nlOf rows).length (ord.map Prod.fst)) := by
          rw [ho2]
          dsimp only
          have e1 : (o.map Prod.fst).take (ivals o).toArray.size = o.map Prod.fst := List.take_of_length_le (by simp [ivals])
          rw [e1, ho]
          have e2 : (nlOf rows).length = rows.length := by simp [nlOf]
          rw [e2]
          rfl
        have rowAt2 : ∀ p ∈ o2.map Prod.fst, ∃ (j : Nat) (rj : Int × Tok), p = (j : Int) ∧ rk[j]? = some rj := fun p hp => by
          rw [frE] at hp
          refine Classical.byContradiction fun hGG => ?_
          obtain ⟨p0, p1, _⟩ := (mem_freeOf hnl).mp hp
          refine hGG ?_
          clear hGG
          have e2 : (nlOf rows).length = rows.length := by simp [nlOf]
          rw [e2] at p1
          exact ⟨p.toNat, rk[p.toNat]'(by lia), by lia, List.getElem?_eq_getElem _⟩
        have o2z : o2.length ≤ o.length := by
          have := congrArg List.length ho2
          rw [List.length_map] at this
          rw [this]
          refine Nat.le_trans (List.length_filter_le _ _) ?_
          simp [ivals]
        have rkz : (ivals rk).length ≤ 1000 := by simp [ivals]; lia
        refine comp_seqG rfl hR5 rfl rfl (by simp [ivals]; lia) F5.keep (Nat.le_trans F5.above (Nat.le_of_lt F5.ns.lt)) (fun C R I k ys h => ERel rk (o2.map Prod.fst) C R I k ys h) ?h04 ?stab4 ⟨?turn4⟩ ⟨?done4⟩
        case h04 =>
          intro C R I h _ _ _
          exact ⟨[], rfl, fun e he => absurd he List.not_mem_nil, rfl, fun e he => absurd he List.not_mem_nil⟩
        case stab4 =>
          intro C R I k ys h h' fC fR fI hR4 hM
          refine Classical.byContradiction fun hGG => ?_
          obtain ⟨es, a1, a2, a3, a4⟩ := hR4
          refine hGG ?_
          clear hGG
          refine ⟨es, a1, fun e he => ?_, a3, a4⟩
          refine Classical.byContradiction fun hGG => ?_
          obtain ⟨b1, b2, b3, b4⟩ := a2 e he
          refine hGG ?_
          clear hGG
          refine ⟨hM.keep _ _ (fun q => ?_) b1, b2, b3, b4⟩
          simp only [List.mem_cons, List.not_mem_nil, or_false] at q
          rcases q with q | q | q
          · exact b2 q
          · exact b3 q
          · exact b4 q
        case turn4 =>
          rintro C R7 K7 oK i pv ys mm7 h7 tk9 E7 fC7 fR7 fK7 gK7 hCR7 hKC7 hKR7 hv7 hyl7 ⟨es, rfl, es1, es2, es3⟩ hkept7 hoK7 hpl7 F7
          refine Classical.byContradiction fun hGG => ?_
          obtain ⟨pq, hpq, rfl⟩ : ∃ q : Int × Tok, o2[i]? = some q ∧ pv = .int q.1 q.2 := by
            simp [ivals] at hv7
            obtain ⟨a, b, h, rfl⟩ := hv7
            exact ⟨(a, b), h, rfl⟩
          obtain ⟨pz, pt⟩ := pq
          obtain ⟨j, rj, rfl, hj⟩ := rowAt2 pz (List.mem_map_of_mem (List.mem_of_getElem? hpq))
          refine hGG ?_
          clear hGG
          have hjv : (ivals rk)[j]? = some (Value.int rj.1 rj.2) := by simp [ivals, hj]
          have N7 := news_comp N6 hkept7 fC7
          refine Classical.byContradiction fun hGG => ?_
          obtain ⟨g10, tl10, F10, N10, st10, hold10, tn10, all10⟩ := rebase2 F7 N7
          refine hGG ?_
          clear hGG
          have X10 := X9.keeps st10
          have T10 := T9.keeps st10
          have keepN10 : Hold (News g9 C h7 _) := ⟨N7⟩
          have keepF10 : Hold (Fr g10 C h7 _) := ⟨F10⟩
          refine turn_nil (KeptC.same F10) ?_
          dsimp only
          clear F7 N7 F5 N6 cb
          simp only [List.cons_append] at N10
          (try dsimp only at F10)
          refine hide fun QH hQH => ?_
          k_steps
          rename_i D8 h8 lF lN lD8
          have kC := keptC_of lF lN (fun p hp => (keepN10.out p hp).1) all10 (fun q hq => List.mem_append_right [_, _, _, _, _, _, _, _, _, _] (List.mem_append_right tl hq)) (fun q hq => List.mem_append_right [_] (List.mem_append_left tl10 hq))
          have mT := lN _ (.head _)
          dsimp only at mT
          have noD : ∀ b (ob : Obj), h7.get? b = some ob → b ≠ D8 := fun b ob e q => by
            rw [q] at e
            refine Classical.byContradiction fun hGG => ?_
            obtain ⟨l1, l2, l3, l4, l5, l6, l7, l8, l9, l10⟩ := lD8
            refine hGG ?_
            clear hGG
            by_cases hp : ∃ p ∈ (R2, listOf (ivals o2).toArray nn4) :: (R, listOf (ivals o).toArray nn2) :: (nd, listOf (ivals ord).toArray on) :: (L' + 1 + 1 + 1 + 1, oLf2) :: (L' + 1 + 1 + 1, oO) :: (L' + 1 + 1, oc2) :: (L' + 1, oc1) :: (A0, listOf (rows.map fun r => Value.ref r.r).toArray n0) :: (K0, listOf (ivals rk).toArray n1) :: tl, p.1 = D8
            · refine Classical.byContradiction fun hGG => ?_
              obtain ⟨p, hp, e'⟩ := hp
              refine hGG ?_
              clear hGG
              simp only [memC] at hp
              rcases hp with rfl | rfl | rfl | rfl | rfl | rfl | rfl | rfl | rfl | hp
              · exact absurd e' (Nat.ne_of_lt l1)
              · exact absurd e' (Nat.ne_of_lt l2)
              · exact absurd e' (Nat.ne_of_lt l3)
              · exact absurd e' (Nat.ne_of_lt l4)
              · exact absurd e' (Nat.ne_of_lt l5)
              · exact absurd e' (Nat.ne_of_lt l6)
              · exact absurd e' (Nat.ne_of_lt l7)
              · exact absurd e' (Nat.ne_of_lt l8)
              · exact absurd e' (Nat.ne_of_lt l9)
              · exact absurd e' (Nat.ne_of_lt (ktn_ltOf l10 p (List.mem_append_left _ hp)))
            · rcases all10 D8 ob mT.2.1 (fun p hp' q' => hp ⟨p, hp', q'⟩) e with z | z
              · rw [mT.2.2] at z; cases z
              · exact absurd rfl (Nat.ne_of_lt (ktn_ltOf l10 _ (List.mem_append_right _ z)))
          obtain ⟨nn7, hR7⟩ := hpl7
          refine hQH _ _ ?_
          refine ⟨_, _, rfl, kC, ⟨es ++ [⟨D8, rj.1, rj.2, (j : Int), pt, 0⟩], by simp, fun e he => ?_, ?_, fun e he => ?_⟩⟩
          · rcases List.mem_append.mp he with he | he
            · refine Classical.byContradiction fun hGG => ?_
              obtain ⟨b1, b2, b3, b4⟩ := es1 e he
              refine hGG ?_
              clear hGG
              exact ⟨kC.keep _ _ b2 b1, b2, b3, b4⟩
            · rw [List.mem_singleton.mp he]
              exact ⟨mT.1, mT.2.1, fun q => noD _ _ hR7 q.symm, fun q => noD _ _ hoK7 q.symm⟩
          · rw [List.map_append, es2, List.take_add_one, List.getElem?_map, hpq]
            rfl
          · rcases List.mem_append.mp he with he | he
            · exact es3 e he
            · rw [List.mem_singleton.mp he]
              simpa using hj
        case done4 =>
          rintro C R7 K7 ys h7 tk9 mm7 fC7 fR7 fK7 hCR7 hKC7 hKR7 hns7 ⟨es, rfl, es1, es2, es3⟩ ⟨nn7, hR7⟩ hkept7
          dsimp only at fC7 fR7 fK7 hkept7
          refine post_plain hns7 fun h8 hs8 => ?_
          have F8 := fr_after F5 hkept7 fC7 hs8
          have N8 := news_after N6 hkept7 fC7 hs8
          have hR8 := hs8.extBut R7 _ (Ne.symm hCR7) hR7
          have hes8 : ∀ e ∈ es, h8.get? e.a = some e.obj := fun e he => hs8.extBut _ _ (es1 e he).2.1 (es1 e he).1
          have es2' : es.map (·.p) = freeOf (nlOf rows) (leftOf (nlOf rows).length (ord.map Prod.fst)) := by
            rw [es2, ← frE]
            exact List.take_of_length_le (by simp [ivals])
          obtain ⟨b0, es0, rfl⟩ : ∃ b e, es = b :: e := by
            cases es with
            | cons b e => exact ⟨b, e, rfl⟩
            | nil =>
              have := free_ne hnl (ord := ord.map Prod.fst) (by simp [nlOf, A.len]; lia)
              exact absurd es2'.symm this
          clear F5 N6
          k_steps
          refine ⟨?_⟩
          refine min_pairs rfl (by first | exact roomB hu rfl | exact roomA hu rfl | ktr_units) hR8 hes8 fun h9 tk10 hk9 => ?_
          have F9 : Fr g9 L' h9 _ := ⟨F8.ns.keeps hk9, fun b o e => hk9 b o (F8.keep b o e), F8.above⟩
          have N9 : News g9 L' h9 _ := fun p hp => ⟨hk9 _ _ (N8 p hp).1, (N8 p hp).2⟩
          obtain ⟨bm, bl⟩ := pbest_spec es0 b0
          have dst := due_step hnl A.gr es2' es3
          generalize pbest b0 es0 = bb at bm bl dst
          have hpb : h9.get? bb.a = some (pairObj (.int bb.r bb.rt) (.int bb.p bb.pt) bb.n) := hk9 _ _ (hes8 bb bm)
          have ordz : ord.length ≤ 10 := by rw [A.len]; lia
          clear F8 N8
          k_steps
          (rename Fr g9 L' _ _ => lF); (rename News g9 L' _ _ => lN)
          have nO := (lN _ (.tail _ (.tail _ (.head _)))).1
          have n4 := (lN _ (.tail _ (.tail _ (.tail _ (.head _))))).1
          have n3 := (lN _ (.tail _ (.tail _ (.tail _ (.tail _ (.head _)))))).1
          have n2 := (lN _ (.tail _ (.tail _ (.tail _ (.tail _ (.tail _ (.head _))))))).1
          have n1' := (lN _ (.tail _ (.tail _ (.tail _ (.tail _ (.tail _ (.tail _ (.head _)))))))).1
          have nA := (lN _ (.tail _ (.tail _ (.tail _ (.tail _ (.tail _ (.tail _ (.tail _ (.head _))))))))).1
          have nK := (lN _ (.tail _ (.tail _ (.tail _ (.tail _ (.tail _ (.tail _ (.tail _ (.tail _ (.head _)))))))))).1
          dsimp only at nO n4 n3 n2 n1' nA nK
          have kk := keep2 lF lN all9 (fun q hq => .tail _ (.tail _ (.tail _ (.tail _ (.tail _ (.tail _ (.tail _ (.tail _ (.tail _ hq)))))))))
          refine hQB _ _ ?_
          refine ⟨_, _, _, rfl, fr_sub lF st9 keepF9.out, fun b hb ob e => ?_, ⟨ord ++ [(bb.p, bb.pt)], on + 1, oLf2, some (Value.ref R), ⟨(by simp [A.len] : (ord ++ [(bb.p, bb.pt)]).length = t + 1), ?_, ?_, n4, d4b, n3, n2, n1', A.off, fun b ob e => ⟨?_, (A.kept b ob e).2⟩⟩⟩⟩
          · rw [List.mem_singleton.mp hb] at e ⊢
            refine kk I ob hIL (fun p hp q => ?_) e
            have ho' := A.off
            simp only [memC, List.not_mem_nil, or_false] at hp
            rcases hp with rfl | rfl | rfl | rfl | rfl | rfl | rfl
            · exact ho' _ (by first | exact mc0 | exact mc1 | exact mc2 | exact mc3 | exact mc4 | exact mc5 | exact mc6 | exact mc7 | simp) q
            · exact ho' _ (by first | exact mc0 | exact mc1 | exact mc2 | exact mc3 | exact mc4 | exact mc5 | exact mc6 | exact mc7 | simp) q
            · exact ho' _ (by first | exact mc0 | exact mc1 | exact mc2 | exact mc3 | exact mc4 | exact mc5 | exact mc6 | exact mc7 | simp) q
            · exact ho' _ (by first | exact mc0 | exact mc1 | exact mc2 | exact mc3 | exact mc4 | exact mc5 | exact mc6 | exact mc7 | simp) q
            · exact ho' _ (by first | exact mc0 | exact mc1 | exact mc2 | exact mc3 | exact mc4 | exact mc5 | exact mc6 | exact mc7 | simp) q
            · exact (A.kept _ _ hA0).2 q
            · exact (A.kept _ _ hK0).2 q
          · have e2 : ivals (ord ++ [(bb.p, bb.pt)]) = ivals ord ++ [Value.int bb.p bb.pt] := by simp [ivals]
            rw [e2]
            exact nO
          · have e2 : (ord ++ [(bb.p, bb.pt)]).map (fun x => x.fst) = ord.map (fun x => x.fst) ++ [bb.p] := by simp
            rw [e2]
            exact dst
          · by_cases qA : b = A0
            · rw [qA, hA0] at e; cases e; rw [qA]; exact nA
            · by_cases qK : b = K0
              · rw [qK, hK0] at e; cases e; rw [qK]; exact nK
              · exact kk b ob (Nat.ne_of_lt (ltH b ob e)) (offS b ob e qA qK) (A.kept b ob e).1
end
theorem mode15 : True := by
  w_top off
  k_with_none
  trivial
noncomputable def chunk (b : Array UInt8) (wd i : Nat) : Array UInt8 := ((b.toList.drop (i * wd)).take wd).toArray
theorem chunk_picked {b : Array UInt8} {wd i n : Nat} (hb : b.size = n * wd) (hi : i < n) {lo hi' : Int} (h1 : lo = ((i * wd : Nat) : Int)) (h2 : hi' = ((i * wd + wd : Nat) : Int)) : PySem.W.KBy.picked b (some lo) (some hi') = chunk b wd i := by
  have hle : i * wd + wd ≤ n * wd := by
    have : (i + 1) * wd ≤ n * wd := Nat.mul_le_mul_right _ hi
    rw [Nat.add_mul, Nat.one_mul] at this
    exact this
  subst h1 h2
  rw [PySem.W.KBc.picked_eq]
  simp only [Option.elim, clipAt_nat]
  rw [Nat.min_eq_left (by omega), Nat.min_eq_left (by omega)]
  unfold chunk
  congr 2
  omega
section
--SETATTR
--APART
--COMP
--COMPG
theorem samples_spec {prog : Program} {w : World} {loose : List Str} {mean : ExcName → Option Value} {mg mb : Str → Option Value} 
  {dp un : Nat} {gd : Option (List Code)} {cn : Str} {cs : Scope} {a : Addr} {ccd : Value} {cl : List (Str × Addr)} {outer : List Env} {A₀ : Around} {base h₀ : Heap} {L : Addr} {m : Str → Option Value} {s : Shared} 
  {b : Array UInt8} {n wd : Nat} {t u : Tok}
    {Q E : Value → Shared → Prop}
    (B : Below A₀ base outer h₀) (F : Fr h₀ L s.heap m) (X : (Mine.hd.heap_1 w.params).In h₀) (T : Top Mine.hd.view_1 loose mean mg mb h₀) (hk : cs.kind = .function) 
    (hd : dp + 20 < recursionLimit) (hu : un + 160 < cLine) (hb : b.size = n * wd) (hn : n ≤ 10) (hw : 1 ≤ wd ∧ wd ≤ 4)
    (ret : ∀ h' tk' R n1 ks, Mod [] s.heap h' → s.heap.get? R = none → h'.get? R = some (keysObj ks n1) → ks.map (·.1) = (List.range n).map (chunk b wd) → Q (.ref R) { s with heap := h', toks := tk' }) :
    wpAny (model prog w) (ktrTop dp un gd cn cs L a ccd cl outer) (call (.ref 186) [.bytes b t, .int wd u]) Q E s := by
  have N : News h₀ L s.heap [] := fun p hp => nomatch hp
  have hbz : b.size ≤ 40 := by
    have : n * wd ≤ 10 * 4 := Nat.mul_le_mul hn hw.2
    omega
  refine wpAny_call ?_
  k_dflt refine' enterC (binds := [(Str.ofString "row", Value.bytes b t), (Str.ofString "width", Value.int wd u)]) ?k1 ?k2 ?k3 ?k4 ?k5 ?kA ?kF ?kK ?k6 ?k7 ?k8 ?k9 ?kB ?kD ?_ ?c2 ?c3 ?c4
  k_dflt ((case kA | kF => exact rfl); (case kK => first | assumption | exact rfl); (case k1 | k2 | k3 | k4 | k5 => k_asm); (case k6 | k7 => k_is); (case k8 => ktr_room); (case k9 => exact BindsTo.of_eq rfl); (case kB => exact rfl); (case kD => decide +kernel); (case c2 | c3 | c4 => exact rfl); k_whole)
  intro g' L' h' tk' cells' hHeld' hSize' hKeep' F' N' Y' B' X' T' hfc
  refine hide fun QA hQA => ?_
  k_cells Y'
  try simp only [List.cons_append, List.nil_append] at N'
  clear N F
  have cb : CBase g' := ⟨trivial⟩
  k_steps
  rename_i hrng lF lN hsub
  have fC1 := hfc _ (.head _)
  have fC2 := hfc _ (.tail _ (.head _))
  dsimp only at fC1 fC2
  rw [hb] at hrng
  have keptH : Kept s.heap _ := fun b o e => hsub b o (hKeep' b o e)
  refine comp_rngG rfl hrng (rngw_small (by omega) (by omega)) (rngw_size hw.1) (by omega) lF.keep (Nat.le_trans lF.above (Nat.le_of_lt lF.ns.lt)) (fun C R I i ys h => ∃ ks : List (Array UInt8 × Tok), ys = ks.map (fun k => Value.bytes k.1 k.2) ∧ ks.map (·.1) = (List.range i).map (chunk b wd)) (fun _ _ _ _ _ _ _ => ⟨[], rfl, rfl⟩) (fun _ _ _ _ _ _ _ _ _ _ h _ => h) ⟨?turn⟩ ⟨?done⟩
  case done =>
    rintro C R I ys h2 tk2 mm fC fR fI hCR hIC hIR hns ⟨ks, rfl, hks⟩ ⟨nn, hR⟩ hkept
    refine post_plain hns fun h3 hs3 => ?_
    have hRC : R ≠ C := Ne.symm hCR
    have F3 := fr_after lF hkept fC hs3
    k_steps
    refine hQA _ _ ?_
    refine backM_ F3 fun hM => ret _ _ R nn ks hM ?_ (hs3.extBut R _ hRC hR) hks
    cases q : s.heap.get? R with
    | none => rfl
    | some o => rw [keptH R o q] at fR; cases fR
  case turn =>
    rintro C R I oI i tt ys mm h2 tk2 E2 fC fR fI gI hCR hIC hIR hi hyl ⟨ks, rfl, hks⟩ hkept hI hpl F2
    have N2 := news_comp lN hkept fC
    refine Classical.byContradiction fun hGG => ?_
    obtain ⟨g9, tl, F9, N9, st9, hold9, tn9, all9⟩ := rebase2 F2 N2
    refine hGG ?_
    clear hGG
    have X9 := X'.keeps st9
    have T9 := T'.keeps st9
    have hN2 : Hold (News g' C h2 _) := ⟨N2⟩
    refine turn_nil (KeptC.same F2) ?_
    clear lF lN F2 N2
    simp only [List.cons_append, List.nil_append] at N9
    refine hide fun QB hQB => ?_
    k_steps
    (rename Fr g9 C _ _ => lF); (rename News g9 C _ _ => lN)
    rename_i hN tN kN
    refine hQB _ _ ?_
    refine ⟨_, _, rfl, keptC_of lF lN (fun p hp => (hN2.out p hp).1) all9 (fun q hq => List.mem_append_right [_, _] hq) (fun q hq => List.mem_append_left tl hq), ⟨ks ++ [(chunk b wd i, tN)], ?_, ?_⟩⟩
    · rw [chunk_picked (wd := wd) (i := i) hb hi (by push_cast; omega) (by push_cast; omega)]
      simp
    · rw [List.map_append, hks, List.range_succ, List.map_append]; rfl
end
/-- entry of the law itself, under S, with cells -/
theorem enterTopS {prog : Program} {w : World} {s : Shared} {R : Result → Shared → Prop} {name : Str} {params : Arguments} {body : List Stmt} {scope : Scope} {doc pm cdv ct dV kV : Value} {an : Option Addr} {fo : Obj} {fa : Addr} {args : Args} {binds : List (Str × Value)}
    (hlim : s.heap.NoLimit) (ho : s.heap.get? fa = some fo) (hd : fo.data = .func (fnX name name params body scope [] dV kV doc pm an cdv ct)) (hcd : s.heap.CodeRec cdv name)
    (hbind : BindsTo s (fnX name name params body scope [] dV kV doc pm an cdv ct) args binds) (hkind : (binds.all fun y => scope.names.lookup y.1 == some .local || scope.names.lookup y.1 == some .cell) = true)
    (hnd : ((cellsFrom 0 scope.names []).map (·.1)).Nodup)
    (h : ∀ L' h₁ tk cells, s.heap.objs.size = L' → Fr s.heap L' h₁ (bindL (envOfC name scope L' fa cdv).kindOf binds fun _ => none) → News s.heap L' h₁ cells → CellsAre (bindC (envOfC name scope L' fa cdv).kindOf binds fun _ => none) (cellsFrom (L' + 1) scope.names []) cells →
      wpS (model prog w) (callerA.deeper (envOfC name scope L' fa cdv)) (execs body (envOfC name scope L' fa cdv))
        (fun fl s' => R (.ok (.ret (match fl with | .ret v => v | _ => .none))) s')
        (fun e s' => wpAny (model prog w) (callerA.deeper (envOfC name scope L' fa cdv)) (leaving (envOfC name scope L' fa cdv) e) (fun _ s'' => R (.error e) s'') (fun e' s'' => R (.error e') s'') s')
        { s with heap := h₁, toks := tk })
    (hco : scope.isCoroutine = false) (hgen : scope.isGenerator = false) (hk : scope.kind = .function) : codeS (model prog w) callerA (.call (.ref fa) args) R s := by
  refine codeS_call_function (body := body) (by decide +kernel) ho hd hco hgen rfl hcd (hbind _ _ _ _ ?_)
  refine wpAny_newFunctionEnv_cells hk (kindsX hkind _) fun env' he s' x => ?_
  subst he
  refine ⟨hlim.keeps x.toInCall.keep, codeS_func ?_⟩
  obtain ⟨h₁, tk, rfl, _⟩ := x.done
  have hk₁ := x.toInCall.keep
  obtain ⟨cells, NC, Y⟩ := Cl.news (h₀ := s.heap) (Nat.le_refl _) fun n c hm => ⟨x.cell n c (lookup_of_mem_nodup (cellsFrom_names scope.names 0 (s.heap.objs.size + 1) [] [] rfl ▸ hnd) hm), x.above n c hm⟩
  exact h s.heap.objs.size h₁ tk cells rfl ⟨x.toInCall.ns, hk₁, Nat.le_refl _⟩ NC Y
theorem enterKS {prog : Program} {w : World} {s : Shared} {K : Frag} {p : Program} {loose : List Str} {mean : ExcName → Option Value} {mg mb : Str → Option Value} {R : Result → Shared → Prop} {name : Str} {params : Arguments} {body : List Stmt} {scope : Scope} {doc pm cdv ct dV kV oc : Value} {an od : Option Addr} {osl : Array (Option Value)} {f : Addr} {args : Args} {binds : List (Str × Value)}
    (X : K.In s.heap) (T : Top p loose mean mg mb s.heap)
    (ho : K.lookup f = some ⟨oc, od, .func (fnOf name name params body scope dV kV doc pm an cdv ct), osl⟩) (hcd : codeIn K cdv name = true)
    (hbind : BindsTo s (fnOf name name params body scope dV kV doc pm an cdv ct) args binds) (hkind : (binds.all fun y => scope.names.lookup y.1 == some .local || scope.names.lookup y.1 == some .cell) = true)
    (hnd : ((cellsFrom 0 scope.names []).map (·.1)).Nodup)
    (h : ∀ L' h₁ tk cells, s.heap.objs.size = L' → Fr s.heap L' h₁ (bindL (envOfC name scope L' f cdv).kindOf binds fun _ => none) → News s.heap L' h₁ cells → CellsAre (bindC (envOfC name scope L' f cdv).kindOf binds fun _ => none) (cellsFrom (L' + 1) scope.names []) cells → Below callerA s.heap [] s.heap →
      wpS (model prog w) (callerA.deeper (envOfC name scope L' f cdv)) (execs body (envOfC name scope L' f cdv))
        (fun fl s' => R (.ok (.ret (match fl with | .ret v => v | _ => .none))) s')
        (fun e s' => wpAny (model prog w) (callerA.deeper (envOfC name scope L' f cdv)) (leaving (envOfC name scope L' f cdv) e) (fun _ s'' => R (.error e) s'') (fun e' s'' => R (.error e') s'') s')
        { s with heap := h₁, toks := tk })
    (hco : scope.isCoroutine = false) (hgen : scope.isGenerator = false) (hk : scope.kind = .function) : codeS (model prog w) callerA (.call (.ref f) args) R s :=
  enterTopS (name := name) (params := params) (body := body) (scope := scope) (doc := doc) (pm := pm) (cdv := cdv) (ct := ct) (dV := dV) (kV := kV) (an := an) T.nolimit (X _ _ ho) rfl (codeRec_of X hcd) hbind hkind hnd (fun L' h₁ tk cells e F N Y => h L' h₁ tk cells e F N Y (below_caller _)) hco hgen hk
theorem turn2_out (elt t1 iter t2 iter2 : Expr) (scope : Scope) (pos : Pos) (it acc : Value) (env : Env) :
    compTurn (.ListComp elt [⟨t1, iter, [], 0⟩, ⟨t2, iter2, [], 0⟩] scope pos) 0 it acc env = (do
      standAt iter.pos
      match ← pyNext it with
      | none => pure (.done .next)
      | some v =>
        letOwnedTupleGo t1 it v
        assign t1 env v
        let x ← eval iter2 env
        standAt iter2.pos
        let x ← foldedSetIterable iter2 env x
        let _ ← runOwn (.compStart (.ListComp elt [⟨t1, iter, [], 0⟩, ⟨t2, iter2, [], 0⟩] scope pos) 1 (← holding [x] (pyIter x)) acc env) env
        again (.compLoop (.ListComp elt [⟨t1, iter, [], 0⟩, ⟨t2, iter2, [], 0⟩] scope pos) 0 it acc env)) := by rfl
theorem turn2_in (elt t1 iter t2 iter2 : Expr) (scope : Scope) (pos : Pos) (it acc : Value) (env : Env) :
    compTurn (.ListComp elt [⟨t1, iter, [], 0⟩, ⟨t2, iter2, [], 0⟩] scope pos) 1 it acc env = (do
      standAt iter2.pos
      match ← pyNext it with
      | none => pure (.done .next)
      | some v =>
        letOwnedTupleGo t2 it v
        assign t2 env v
        (do let _ ← call (.builtin "list.append") [acc, ← eval elt env])
        again (.compLoop (.ListComp elt [⟨t1, iter, [], 0⟩, ⟨t2, iter2, [], 0⟩] scope pos) 1 it acc env)) := by rfl
section
variable {prog : Program} {w : World} {A : Around} {R : Result → Shared → Prop} {s : Shared}
theorem start2_in {elt t1 iter t2 iter2 : Expr} {scope : Scope} {pos : Pos} {it acc : Value} {env : Env}
    (h0 : codeAny (model prog w) A (.compLoop (.ListComp elt [⟨t1, iter, [], 0⟩, ⟨t2, iter2, [], 0⟩] scope pos) 1 it acc env) R s)
    (h : wpAny (model prog w) A (pyIter it) (fun it' s' => codeAny (model prog w) A (.compLoop (.ListComp elt [⟨t1, iter, [], 0⟩, ⟨t2, iter2, [], 0⟩] scope pos) 1 it' acc env) R s')
      (notedBy (model prog w) A env fun x s' => R (.error x) s') s) :
    codeAny (model prog w) A (.compStart (.ListComp elt [⟨t1, iter, [], 0⟩, ⟨t2, iter2, [], 0⟩] scope pos) 1 it acc env) R s := by
  refine codeAny_of_tree ?_
  show wpAny _ _ ((compStart (.ListComp elt [⟨t1, iter, [], 0⟩, ⟨t2, iter2, [], 0⟩] scope pos) 1 it acc env).onRaise (fun x => do noteFrame x env; standAt theWindowsPlace)) _ _ s
  refine wpAny_notedAt ?_
  unfold compStart
  show wpAny _ _ (ask >>= _) _ _ s
  refine wpAny_bind (wpAny_askSetting (wpAny_ite ?_))
  split
  · first
      | exact wpAny_bind (wpAny_pure (wpAny_pure (And.intro rfl h0)))
      | exact wpAny_pure (And.intro rfl h0)
  · first
      | exact wpAny_bind (wpAny_rule (wpAny_bind (wpAny_standAt (wpAny_bind (wpAny_mono h (fun it' s' h' => wpAny_pure (And.intro rfl h')) fun _ _ x => x)))))
      | (refine wpAny_bind (wpAny_rule ?_); show wpAny _ _ (standAt iter2.pos >>= _) _ _ s; exact wpAny_bind (wpAny_standAt (wpAny_bind (wpAny_mono h (fun it' s' h' => wpAny_pure (And.intro rfl h')) fun _ _ x => x))))
theorem loop2_out {elt t1 iter t2 iter2 : Expr} {scope : Scope} {pos : Pos} {it acc : Value} {env : Env} (I : Nat → Shared → Prop)
    (turn : ∀ n s, I n s → wpAny (model prog w) A (pyNext it) (fun r s₁ => match r with
      | none => R (.ok .next) s₁
      | some v => wpAny (model prog w) A (assign t1 env v) (fun _ s₂ =>
          wpAny (model prog w) A (eval iter2 env) (fun x s₃ => wpAny (model prog w) A (pyIter x) (fun it2 s₄ =>
            codeAny (model prog w) A (.compStart (.ListComp elt [⟨t1, iter, [], 0⟩, ⟨t2, iter2, [], 0⟩] scope pos) 1 it2 acc env) (fun r s' => match r with | .ok _ => ∃ m, m < n ∧ I m s' | .error _ => False) s₄)
              (fun _ _ => False) s₃) (fun _ _ => False) s₂) (fun _ _ => False) s₁) (fun _ _ => False) s)
    (n : Nat) (h : I n s) (hs : ∀ x, foldedSetIterable iter2 env x = pure x) (ht : ∀ v, letOwnedTupleGo t1 it v = pure () := by intro _; rfl) :
    codeAny (model prog w) A (.compLoop (.ListComp elt [⟨t1, iter, [], 0⟩, ⟨t2, iter2, [], 0⟩] scope pos) 0 it acc env) R s := by
  refine codeAny_loop rfl I (fun n s hI => ?_) n h
  show wpAny _ A ((compTurn (.ListComp elt [⟨t1, iter, [], 0⟩, ⟨t2, iter2, [], 0⟩] scope pos) 0 it acc env).onRaise (fun x => do noteFrame x env; theTreesLotGoes x)) _ _ s
  refine wpAny_noted (wpAny_noRaise ?_)
  rw [turn2_out]
  refine wpAny_bind (wpAny_standAt (wpAny_bind (wpAny_mono (turn n s hI) (fun r s₁ h₁ => ?_) fun _ _ h' => h')))
  cases r with
  | none => exact wpAny_pure h₁
  | some v =>
    refine wpAny_bind (wpAny_of_eq (ht v) ?_)
    refine wpAny_bind (wpAny_mono h₁ (fun _ s₂ h₂ => wpAny_bind (wpAny_mono h₂ (fun x s₃ h₃ => wpAny_bind (wpAny_standAt (wpAny_bind (wpAny_of_eq (hs x) (wpAny_bind (wpAny_holding (wpAny_mono h₃ (fun it2 s₄ h₄ => ?_) fun _ _ h' => h'))))))) fun _ _ h' => h')) fun _ _ h' => h')
    refine wpAny_bind (wpAny_runOwn (codeAny_mono h₄ fun r s' hr => ?_))
    cases r with
    | ok f => exact wpAny_pure ⟨rfl, hr⟩
    | error x => exact hr.elim
theorem loop2_in {elt t1 iter t2 iter2 : Expr} {scope : Scope} {pos : Pos} {it acc : Value} {env : Env} (I : Nat → Shared → Prop)
    (turn : ∀ n s, I n s → wpAny (model prog w) A (pyNext it) (fun r s₁ => match r with
      | none => R (.ok .next) s₁
      | some v => wpAny (model prog w) A (assign t2 env v) (fun _ s₂ => wpAny (model prog w) A (eval elt env) (fun x s₄ =>
              wpAny (model prog w) A (call (.builtin "list.append") [acc, x]) (fun _ s₅ => ∃ m, m < n ∧ I m s₅) (fun _ _ => False) s₄) (fun _ _ => False) s₂) (fun _ _ => False) s₁) (fun _ _ => False) s)
    (n : Nat) (h : I n s) (ht : ∀ v, letOwnedTupleGo t2 it v = pure () := by intro _; rfl) :
    codeAny (model prog w) A (.compLoop (.ListComp elt [⟨t1, iter, [], 0⟩, ⟨t2, iter2, [], 0⟩] scope pos) 1 it acc env) R s := by
  refine codeAny_loop rfl I (fun n s hI => ?_) n h
  show wpAny _ A ((compTurn (.ListComp elt [⟨t1, iter, [], 0⟩, ⟨t2, iter2, [], 0⟩] scope pos) 1 it acc env).onRaise (fun x => do noteFrame x env; theTreesLotGoes x)) _ _ s
  refine wpAny_noted (wpAny_noRaise ?_)
  rw [turn2_in]
  refine wpAny_bind (wpAny_standAt (wpAny_bind (wpAny_mono (turn n s hI) (fun r s₁ h₁ => ?_) fun _ _ h' => h')))
  cases r with
  | none => exact wpAny_pure h₁
  | some v =>
    refine wpAny_bind (wpAny_of_eq (ht v) ?_)
    refine wpAny_bind (wpAny_mono h₁ (fun _ s₂ h₂ => wpAny_bind (wpAny_bind (wpAny_mono h₂ (fun x s₄ h₄ => wpAny_bind (wpAny_mono h₄ (fun _ s₅ h₅ => wpAny_pure (wpAny_pure ⟨rfl, h₅⟩)) fun _ _ h' => h')) fun _ _ h' => h'))) fun _ _ h' => h')
end
section
variable {prog : Program} {w : World} {A : Around} {E : Value → Shared → Prop} {env : Env} {s : Shared} {elt iter iter2 : Expr} {x k : Str} {px pk : Pos} {scope : Scope} {cl : List (Str × Addr)} {pos : Pos} {g : Heap}
/-- what one turn of the outer loop must do -/
noncomputable def Row2 (prog : Program) (w : World) (A : Around) (g : Heap) (cenv : Env) (x k : Str) (iter2 elt : Expr) (s₂ : Shared) (n2 : Nat) (Rel : Nat → Nat → List Value → Prop) (i : Nat) (v : Value) (h : Heap) (tk : Nat) (E' : Value → Shared → Prop) : Prop :=
  wpAny (model prog w) A (eval iter2 cenv) (fun xv s₃ => wpAny (model prog w) A (pyIter xv) (fun it2 s₄ => Sm7 (fun I2 fp2 wr2 P2 St2 h₄ tk₄ => Al7 (it2 = .ref I2) (s₄ = ⟨h₄, s₂.gens, s₂.drawn, tk₄, s₂.os⟩) (Kept h h₄) (Walks prog w A I2 fp2 wr2 n2 P2 St2) (St2 0 h₄) ((∀ b ∈ fp2, h.get? b = none)) ((∀ j u (m' : Str → Option Value) h' tk' (E'' : Value → Shared → Prop), j < n2 → P2 j u → Fr g cenv.locals h' (fun y => if y = k then some u else if y = x then some v else m' y) →
         wpAny (model prog w) A (eval elt cenv) (fun y s₅ => Hold (∃ tk₅, s₅ = ⟨h', s₂.gens, s₂.drawn, tk₅, s₂.os⟩ ∧ ∀ ys, Rel i j ys → Rel i (j + 1) (ys ++ [y]))) E'' ⟨h', s₂.gens, s₂.drawn, tk', s₂.os⟩)))) E' s₃) E' ⟨h, s₂.gens, s₂.drawn, tk, s₂.os⟩
theorem compLoop2 {C R I : Addr} {fp wr : List Addr} {n n2 : Nat} {P : Nat → Value → Prop} {St : Nat → Heap → Prop} {Rel : Nat → Nat → List Value → Prop} {Rr : Result → Shared → Prop} {s₂ : Shared} {h₁ : Heap} {tk₁ : Nat} {m₁ : Str → Option Value}
    (W : Walks prog w A I fp wr n P St) (live : ∀ i h, St i h → ∀ b ∈ fp, ∃ o, h.get? b = some o) (hkind : scope.kind = .function) (hx : scope.names.lookup x = some .local) (hk2 : scope.names.lookup k = some .local) (hxk : x ≠ k)
    (hCR : C ≠ R) (hCf : C ∉ fp) (hRf : R ∉ fp) (fC : s₂.heap.get? C = none) (fR : s₂.heap.get? R = none) (hwr : ∀ b ∈ wr, g.get? b = none) (hg : Kept g s₂.heap) (hgs : g.objs.size ≤ C)
    (hlen : ∀ i j ys, i ≤ n → j ≤ n2 → Rel i j ys → ys.length ≤ 500)
    (row : ∀ i v (m : Str → Option Value) h tk (E' : Value → Shared → Prop), i < n → P i v → Fr g C h (fun y => if y = x then some v else m y) → Mod wr s₂.heap h → Row2 prog w A g (compEnvC scope cl C env) x k iter2 elt s₂ n2 Rel i v h tk E')
    (hrow : ∀ i ys, i < n → Rel i n2 ys → Rel (i + 1) 0 ys)
    (done : ∀ ys h tk m, h.Ns C m → Rel n 0 ys → h.PlainList R ys.toArray → Mod wr s₂.heap h → Rr (.ok .next) { s₂ with heap := h, toks := tk })
    (old : Kept s₂.heap h₁) (hst₁ : St 0 h₁) (hacc : h₁.PlainList R #[]) (hns₁ : h₁.Ns C m₁) (h0 : Rel 0 0 [])
    (hs : ∀ x, foldedSetIterable iter2 (compEnvC scope cl C env) x = pure x) :
    codeAny (model prog w) A (.compLoop (.ListComp elt [⟨.Name x px, iter, [], 0⟩, ⟨.Name k pk, iter2, [], 0⟩] scope pos) 0 (.ref I) (.ref R) (compEnvC scope cl C env)) Rr { s₂ with heap := h₁, toks := tk₁ } := by
  have hCw : C ∉ wr := fun h => hCf (W.sub _ h)
  have hRw : R ∉ wr := fun h => hRf (W.sub _ h)
  have nC : ∀ b o, s₂.heap.get? b = some o → b ≠ C := fun b o e q => by rw [q, fC] at e; cases e
  have nR : ∀ b o, s₂.heap.get? b = some o → b ≠ R := fun b o e q => by rw [q, fR] at e; cases e
  refine loop2_out
    (fun q s' => Sm5 (fun h' tk m' (i : Nat) (ys : List Value) => Al8 (s' = { s₂ with heap := h', toks := tk }) (St i h') (h'.PlainList R ys.toArray) (h'.Ns C m') (Rel i 0 ys) (i ≤ n) (q = n + 1 - i) (Mod wr s₂.heap h'))) ?_ (n + 1)
    ⟨h₁, _, _, 0, [], rfl, hst₁, hacc, hns₁, h0, Nat.zero_le _, rfl, ⟨fun b o _ e => old b o e⟩⟩ hs
  rintro q s' ⟨H, tk, m', i, ys, rfl, hst', hacc', hn', hrel, hi, rfl, hk⟩
  by_cases hlt : i < n
  · refine W.item i _ _ _ hlt hst' fun v h₂ tk₂ hPv hst₂ hk₂ => ?_
    refine wpAny_assign_Name (wpAny_storeName_local (lookup_relabel_local hx) (hn'.at' fun o e => hk₂ _ o hCw e) (fun h₃ hn₃ hs₃ => ?_) (by simp [compEnvC, relabel, hkind]))
    have up : ∀ b o, b ≠ C → b ∉ wr → H.get? b = some o → h₃.get? b = some o := fun b o hbC hbf e => hs₃.extBut b o hbC (hk₂ b o hbf e)
    have hst₃ : St (i + 1) h₃ := W.frame _ _ _ hst₂ fun b hb o e => hs₃.extBut b o (show b ≠ C from fun q => hCf (q ▸ hb)) e
    have hacc₃ : h₃.PlainList R ys.toArray := hacc'.at fun o e => up _ o (Ne.symm hCR) hRw e
    have hk₃ : Mod wr s₂.heap h₃ := ⟨fun b o hb e => up b o (nC b o e) hb (hk.keep b o hb e)⟩
    have F₃ : Fr g C h₃ (fun y => if y = x then some v else m' y) := ⟨hn₃, fun b o e => hk₃.keep b o (fun q => by rw [hwr b q] at e; cases e) (hg b o e), hgs⟩
    refine wpAny_mono (row i v m' h₃ _ _ hlt hPv F₃ hk₃) (fun xv s₃ h3 => wpAny_mono h3 (fun it2 s₄ h4 => ?_) fun _ _ e => e) fun _ _ e => e
    refine Classical.byContradiction fun hGG => ?_
    obtain ⟨I2, fp2, wr2, P2, St2, h₄, tk₄, rfl, rfl, kp₄, W2, hst4, fr2, elt2⟩ := h4
    obtain ⟨oC, _, _, hoC, _⟩ := id hn₃
    obtain ⟨nR3, hoR⟩ := id hacc₃
    refine hGG ?_
    clear hGG
    have nf2 : ∀ {b : Addr} {o : Obj}, h₃.get? b = some o → b ∉ fp2 := fun e q => by rw [fr2 _ q] at e; cases e
    have hC2 : C ∉ fp2 := nf2 hoC
    have hR2 : R ∉ fp2 := nf2 hoR
    have hC2w : C ∉ wr2 := fun q => hC2 (W2.sub _ q)
    have hR2w : R ∉ wr2 := fun q => hR2 (W2.sub _ q)
    have loop : codeAny (model prog w) A (.compLoop (.ListComp elt [⟨.Name x px, iter, [], 0⟩, ⟨.Name k pk, iter2, [], 0⟩] scope pos) 1 (.ref I2) (.ref R) (compEnvC scope cl C env))
        (fun r s' => match r with | .ok _ => ∃ q, q < n + 1 - i ∧ Sm5 (fun h' tk m' (i : Nat) (ys : List Value) => Al8 (s' = { s₂ with heap := h', toks := tk }) (St i h') (h'.PlainList R ys.toArray) (h'.Ns C m') (Rel i 0 ys) (i ≤ n) (q = n + 1 - i) (Mod wr s₂.heap h')) | .error _ => False) ⟨h₄, s₂.gens, s₂.drawn, tk₄, s₂.os⟩ := by
      refine loop2_in
        (fun q s' => Sm5 (fun h' tk m'' (j : Nat) (ys' : List Value) => Al9 (s' = { s₂ with heap := h', toks := tk }) (St2 j h') (h'.PlainList R ys'.toArray) (h'.Ns C m'') (m'' x = some v) (Rel i j ys') (j ≤ n2) (q = n2 + 1 - j) (Mod (C :: R :: fp2) h₃ h'))) ?_ (n2 + 1)
        ⟨h₄, _, _, 0, ys, rfl, hst4, hacc₃.at fun o e => kp₄ _ o e, hn₃.keeps kp₄, by simp, hrel, Nat.zero_le _, rfl, ⟨fun b o _ e => kp₄ b o e⟩⟩
      rintro q s' ⟨H5, tk5, m5, j, ys5, rfl, hst5, hacc5, hn5, hm5, hrel5, hj, rfl, hk5⟩
      by_cases hjl : j < n2
      · refine W2.item j _ _ _ hjl hst5 fun u h₆ tk₆ hPu hst₆ hk₆ => ?_
        refine wpAny_assign_Name (wpAny_storeName_local (lookup_relabel_local hk2) (hn5.at' fun o e => hk₆ _ o hC2w e) (fun h₇ hn₇ hs₇ => ?_) (by simp [compEnvC, relabel, hkind]))
        have up7 : ∀ b o, b ≠ C → b ∉ wr2 → H5.get? b = some o → h₇.get? b = some o := fun b o hbC hbf e => hs₇.extBut b o hbC (hk₆ b o hbf e)
        have hst₇ : St2 (j + 1) h₇ := W2.frame _ _ _ hst₆ fun b hb o e => hs₇.extBut b o (show b ≠ C from fun q => hC2 (q ▸ hb)) e
        have hacc₇ : h₇.PlainList R ys5.toArray := hacc5.at fun o e => up7 _ o (Ne.symm hCR) hR2w e
        have hk₇ : Mod (C :: R :: fp2) h₃ h₇ := ⟨fun b o hb e => up7 b o (fun q => hb (by simp [q])) (fun q => hb (.tail _ (.tail _ (W2.sub _ q)))) (hk5.keep b o hb e)⟩
        have em : (fun y => if y = k then some u else m5 y) = (fun y => if y = k then some u else if y = x then some v else m5 y) := by
          funext y
          by_cases h1 : y = k
          · simp [h1]
          · by_cases h2 : y = x
            · simp [h2, hm5]
            · simp [h1, h2]
        have F₇ : Fr g C h₇ (fun y => if y = k then some u else if y = x then some v else m5 y) := by
          refine ⟨em ▸ hn₇, fun b o e => ?_, hgs⟩
          have e3 := F₃.keep b o e
          refine hk₇.keep b o (fun q => ?_) e3
          rcases List.mem_cons.mp q with q | q
          · exact nC b o (hg b o e) q
          · rcases List.mem_cons.mp q with q | q
            · exact nR b o (hg b o e) q
            · exact nf2 e3 q
        refine wpAny_mono (elt2 j u m5 h₇ _ _ hjl hPu F₇) (fun y s₈ h₈ => ?_) fun _ _ e => e
        obtain ⟨tk₈, rfl, hR8⟩ := h₈.out
        have hl5 := hlen i j ys5 (Nat.le_of_lt hlt) hj hrel5
        refine wpAny_list_append_plain (hsz := by simp [sizeLine]; lia) hacc₇ fun h₉ hl₉ hs₉ => ?_
        refine ⟨n2 + 1 - (j + 1), by lia, h₉, tk₈, _, j + 1, ys5 ++ [y], rfl, ?_, by simpa using hl₉, hn₇.sameBut hs₉ hCR, ?_, hR8 _ hrel5, hjl, rfl, ?_⟩
        · exact W2.frame _ _ h₉ hst₇ fun b hb o e => hs₉.extBut b o (fun h => hR2 (h ▸ hb)) e
        · simp [hxk, hm5]
        · exact ⟨fun b o hb e => hs₉.extBut b o (fun q => hb (by simp [q])) (hk₇.keep b o hb e)⟩
      · have hjn : j = n2 := by lia
        subst hjn
        refine W2.done _ _ _ hst5 fun h₆ tk₆ hk₆ => ?_
        have keep : ∀ b o, b ≠ C → b ≠ R → h₃.get? b = some o → h₆.get? b = some o := fun b o h1 h2 e => hk₆ b o (fun q => nf2 e (W2.sub _ q)) (hk5.keep b o (fun q => by
          rcases List.mem_cons.mp q with q | q
          · exact h1 q
          · rcases List.mem_cons.mp q with q | q
            · exact h2 q
            · exact nf2 e q) e)
        refine ⟨n + 1 - (i + 1), by lia, h₆, tk₆, m5, i + 1, ys5, rfl, W.frame _ _ _ hst₃ fun b hb o e => keep b o (fun q => hCf (q ▸ hb)) (fun q => hRf (q ▸ hb)) e, hacc5.at fun o e => hk₆ _ o hR2w e, hn5.at' fun o e => hk₆ _ o hC2w e, hrow i ys5 hlt hrel5, hlt, rfl, ⟨fun b o hb e => keep b o (nC b o e) (nR b o e) (hk₃.keep b o hb e)⟩⟩
    exact start2_in loop (W2.self 0 _ _ _ hst4 loop)
  · have hin : i = n := by lia
    subst hin
    refine W.done _ _ _ hst' fun h₂ tk₂ hk₂ => ?_
    exact done ys h₂ tk₂ m' (hn'.at' fun o e => hk₂ _ o hCw e) hrel (hacc'.at fun o e => hk₂ _ o hRw e) ⟨fun b o hb e => hk₂ b o hb (hk.keep b o hb e)⟩
noncomputable def Comp2 (prog : Program) (w : World) (A : Around) (g : Heap) (env : Env) (scope : Scope) (cl : List (Str × Addr)) (x k : Str) (iter2 elt : Expr) (E : Value → Shared → Prop) (Q : Value → Shared → Prop) (it : Value) (s₂ : Shared) : Prop :=
  Sm8 (fun (I : Addr) (fp wr : List Addr) (n n2 : Nat) (P : Nat → Value → Prop) (St : Nat → Heap → Prop) (Rel : Nat → Nat → List Value → Prop) => Al13 (it = .ref I) (Walks prog w A I fp wr n P St) ((∀ i h, St i h → ∀ b ∈ fp, ∃ o, h.get? b = some o)) ((∀ i j ys, i ≤ n → j ≤ n2 → Rel i j ys → ys.length ≤ 500)) (St 0 s₂.heap) ((∀ b ∈ fp, b < s₂.heap.objs.size)) ((∀ b ∈ wr, g.get? b = none)) (Kept g s₂.heap) (g.objs.size ≤ s₂.heap.objs.size) (Rel 0 0 []) ((∀ C i v (m : Str → Option Value) h tk (E' : Value → Shared → Prop), s₂.heap.get? C = none → i < n → P i v → Fr g C h (fun y => if y = x then some v else m y) → Mod wr s₂.heap h → Row2 prog w A g (compEnvC scope cl C env) x k iter2 elt s₂ n2 Rel i v h tk E')) ((∀ i ys, i < n → Rel i n2 ys → Rel (i + 1) 0 ys)) ((∀ C R ys h tk m, s₂.heap.get? C = none → s₂.heap.get? R = none → C ≠ R → h.Ns C m → Rel n 0 ys → h.PlainList R ys.toArray → Mod wr s₂.heap h → compPost (model prog w) A E none Q (.ref R) C (.ok .next) { s₂ with heap := h, toks := tk })))
theorem listComp2 {Q : Value → Shared → Prop} (hclos : closureFor scope env = pure cl) (hcell : ∀ y ∈ scope.names, y.2 ≠ .cell) (hkind : scope.kind = .function)
    (hnames : ∀ y ∈ scope.names, y.2 = .local → scope.names.lookup y.1 = some .local) (hx : scope.names.lookup x = some .local) (hk2 : scope.names.lookup k = some .local) (hxk : x ≠ k)
    (h : wpAny (model prog w) A (eval iter env) (fun xv s₁ => wpAny (model prog w) A (pyIter xv) (fun it s₂ => Comp2 prog w A g env scope cl x k iter2 elt E Q it s₂) E s₁) E s)
    (hs : ∀ x, foldedSetIterable iter env x = pure x) (hs2 : ∀ C x, foldedSetIterable iter2 (compEnvC scope cl C env) x = pure x) :
    wpAny (model prog w) A (eval (.ListComp elt [⟨.Name x px, iter, [], 0⟩, ⟨.Name k pk, iter2, [], 0⟩] scope pos) env) Q E s := by
  rw [eval_ListComp]
  refine wpAny_comprehension_free (use := none) rfl hs hclos hkind hnames (wpAny_mono h (fun xv s₁ h₁ => wpAny_mono h₁ (fun it s₂ h₂ => ?_) fun _ _ e => e) fun _ _ e => e)
  refine Classical.byContradiction fun hGG => ?_
  obtain ⟨I, fp, wr, n, n2, P, St, Rel, rfl, W, live, hlen, hst, hfp, hwr, hg, hgs, h0, row, hrow, done⟩ := h₂
  refine hGG ?_
  clear hGG
  refine wpAny_newObj_type (wpAny_newFunctionEnv hcell (by intro y hy; simp at hy) (fun h₁ hns₁ hsb₁ => ?_) hkind)
  dsimp only at hns₁ hsb₁ ⊢
  generalize hH2 : s₂.heap.push { cls := .type "list", dict := none, data := .seq ([] : List Value).toArray } = H2 at hns₁ hsb₁ ⊢
  have hC : H2.objs.size = s₂.heap.objs.size + 1 := by rw [← hH2, Heap.size_push]
  have hDC : s₂.heap.objs.size ≠ H2.objs.size := by rw [hC]; exact Nat.ne_of_lt (Nat.lt_succ_self _)
  have below : ∀ b, b < s₂.heap.objs.size → b ≠ H2.objs.size ∧ b ≠ s₂.heap.objs.size := fun b hb => ⟨by rw [hC]; exact Nat.ne_of_lt (Nat.lt_succ_of_lt hb), Nat.ne_of_lt hb⟩
  have hDf : s₂.heap.objs.size ∉ fp := fun hm => Nat.lt_irrefl _ (hfp _ hm)
  have hCf : H2.objs.size ∉ fp := fun hm => by have := hfp _ hm; rw [hC] at this; exact Nat.lt_irrefl _ (Nat.lt_of_succ_lt this)
  have old : ∀ b o, s₂.heap.get? b = some o → h₁.get? b = some o := fun b o e => hsb₁.extBut b o (below b (Heap.lt_size e)).1 (Heap.get?_push_of_some _ (hH2 ▸ Heap.get?_push_of_some _ e))
  have hacc : h₁.PlainList s₂.heap.objs.size #[] := ⟨_, hsb₁.extBut _ _ hDC (Heap.get?_push_of_some _ (hH2 ▸ Heap.get?_push_size _ rfl))⟩
  have hst₁ : St 0 h₁ := W.frame _ _ _ hst fun b _ o e => old b o e
  have fD : s₂.heap.get? s₂.heap.objs.size = none := get_above' (Nat.le_refl _)
  have fC : s₂.heap.get? H2.objs.size = none := get_above' (by rw [hC]; exact Nat.le_succ _)
  have loop := compLoop2 (elt := elt) (iter := iter) (iter2 := iter2) (px := px) (pk := pk) (scope := scope) (cl := cl) (pos := pos) (env := env) (tk₁ := s₂.toks + ([] : List (Str × Value)).length) (Rel := Rel) (Rr := compPost (model prog w) A E none Q (.ref s₂.heap.objs.size) H2.objs.size)
    W live hkind hx hk2 hxk (Ne.symm hDC) hCf hDf fC fD hwr hg (by rw [hC]; exact Nat.le_succ_of_le hgs) hlen (fun i v m h tk E' hi hP F hM => row _ i v m h tk E' fC hi hP F hM) hrow
    (fun ys h tk m hn hrel hpl hM => done _ _ ys h tk m fC fD (Ne.symm hDC) hn hrel hpl hM) old hst₁ hacc hns₁ h0 (hs2 _)
  exact codeAny_compStart_list loop (W.self 0 _ _ _ hst₁ loop)
/-- the outer source is a list -/
theorem comp_seq2 {Q : Value → Shared → Prop} {T : Addr} {oT : Obj} {items : Array Value} {nn n2 : Nat} (hh : A.handled = none) (hT : s.heap.get? T = some oT) (hoc : oT.cls = .type "list") (hod : oT.data = .seq items nn) (hg : Kept g s.heap) (hgs : g.objs.size ≤ s.heap.objs.size)
    (Rel : Nat → Nat → List Value → Prop) (hlen : ∀ i j ys, i ≤ items.size → j ≤ n2 → Rel i j ys → ys.length ≤ 500) (h0 : Rel 0 0 []) (hrow : ∀ i ys, i < items.size → Rel i n2 ys → Rel (i + 1) 0 ys)
    (row : Hold (∀ C i v (m : Str → Option Value) h tk (E' : Value → Shared → Prop), s.heap.get? C = none → items[i]? = some v → Fr g C h (fun y => if y = x then some v else m y) → Kept s.heap h → Row2 prog w A g (compEnvC scope cl C env) x k iter2 elt s n2 Rel i v h tk E'))
    (done : Hold (∀ C R ys h tk m, s.heap.get? C = none → s.heap.get? R = none → C ≠ R → h.Ns C m → Rel items.size 0 ys → h.PlainList R ys.toArray → Kept s.heap h → compPost (model prog w) A E none Q (.ref R) C (.ok .next) ⟨h, s.gens, s.drawn, tk, s.os⟩)) :
    wpAny (model prog w) A (pyIter (.ref T)) (fun it s₂ => Comp2 prog w A g env scope cl x k iter2 elt E Q it s₂) E s := by
  have hf := fresh_size s.heap
  have hgI : g.get? s.heap.objs.size = none := by
    cases q : g.get? s.heap.objs.size with
    | none => rfl
    | some o => rw [hg _ _ q] at hf; cases hf
  have hne : T ≠ s.heap.objs.size := Nat.ne_of_lt (Heap.lt_size hT)
  have hl : s.heap.IsList T items := ⟨oT, hT, hoc, nn, hod⟩
  refine wpAny_pyIter_list hl ?_
  have hkeep : ∀ {o h : _}, Mod [s.heap.objs.size] (s.heap.push o) h → Kept s.heap h := fun hM b o e => hM.keep b o (fun q => by rw [List.mem_singleton.mp q, hf] at e; cases e) (Heap.get?_push_of_some _ e)
  refine ⟨_, [s.heap.objs.size, T], [s.heap.objs.size], items.size, n2, _, _, Rel, rfl, Walks.list hh _ _ hne _, ?_, hlen, ⟨⟨_, Heap.get?_push_size _ rfl, rfl, rfl⟩, hl.at fun o e => Heap.get?_push_of_some _ e⟩, ?_, ?_, fun b o e => Heap.get?_push_of_some _ (hg b o e), by rw [Heap.size_push]; exact Nat.le_succ_of_le hgs, h0, ?_, hrow, ?_⟩
  · intro i h hR4 b hb
    refine Classical.byContradiction fun hGG => ?_
    obtain ⟨⟨oI, hI, _⟩, ⟨oL, hL, _⟩⟩ := hR4
    refine hGG ?_
    clear hGG
    simp only [List.mem_cons, List.not_mem_nil, or_false] at hb
    rcases hb with rfl | rfl
    · exact ⟨oI, hI⟩
    · exact ⟨oL, hL⟩
  · intro b hb
    rw [Heap.size_push]
    rcases List.mem_cons.mp hb with rfl | hb
    · exact Nat.lt_succ_self _
    · rw [List.mem_singleton.mp hb]; exact Nat.lt_succ_of_lt (Heap.lt_size hT)
  · intro b hb
    rw [List.mem_singleton.mp hb]; exact hgI
  · intro C i v m h tk E' fC hi hv F hM
    exact row.out C i v m h tk E' (push_none rfl fC).1 hv F (hkeep hM)
  · intro C R ys h tk m fC fR hCR hn hrel hpl hM
    exact done.out C R ys h tk m (push_none rfl fC).1 (push_none rfl fR).1 hCR hn hrel hpl (hkeep hM)
/-- the inner source is a range -/
theorem row2_rng {v : Value} {h : Heap} {s₂ : Shared} {n2 i : Nat} {Rel : Nat → Nat → List Value → Prop} {cenv : Env} {r : Addr} {a b c : Int} {t u w' : Tok} {h₃ : Heap} {tk₃ : Nat} {E' : Value → Shared → Prop} (hh : A.handled = none) (hr : IsRange h₃ r a b c t u w') (hsmall : Builtin.Range.small a b c = true) (hn : Builtin.Range.rangeSize a b c = (n2 : Int)) (hk : Kept h h₃)
    (turn : Hold (∀ j t (m' : Str → Option Value) h' tk' (E'' : Value → Shared → Prop), j < n2 → Fr g cenv.locals h' (fun y => if y = k then some (.int (a + j * c) t) else if y = x then some v else m' y) →
         wpAny (model prog w) A (eval elt cenv) (fun y s₅ => Hold (∃ tk₅, s₅ = ⟨h', s₂.gens, s₂.drawn, tk₅, s₂.os⟩ ∧ ∀ ys, Rel i j ys → Rel i (j + 1) (ys ++ [y]))) E'' ⟨h', s₂.gens, s₂.drawn, tk', s₂.os⟩)) :
    wpAny (model prog w) A (pyIter (.ref r)) (fun it2 s₄ => Sm7 (fun I2 fp2 wr2 P2 St2 h₄ tk₄ => Al7 (it2 = .ref I2) (s₄ = ⟨h₄, s₂.gens, s₂.drawn, tk₄, s₂.os⟩) (Kept h h₄) (Walks prog w A I2 fp2 wr2 n2 P2 St2) (St2 0 h₄) ((∀ b ∈ fp2, h.get? b = none)) ((∀ j u (m' : Str → Option Value) h' tk' (E'' : Value → Shared → Prop), j < n2 → P2 j u → Fr g cenv.locals h' (fun y => if y = k then some u else if y = x then some v else m' y) →
         wpAny (model prog w) A (eval elt cenv) (fun y s₅ => Hold (∃ tk₅, s₅ = ⟨h', s₂.gens, s₂.drawn, tk₅, s₂.os⟩ ∧ ∀ ys, Rel i j ys → Rel i (j + 1) (ys ++ [y]))) E'' ⟨h', s₂.gens, s₂.drawn, tk', s₂.os⟩)))) E' ⟨h₃, s₂.gens, s₂.drawn, tk₃, s₂.os⟩ := by
  have hf := fresh_size h₃
  refine wpAny_pyIter_range (s := ⟨h₃, s₂.gens, s₂.drawn, tk₃, s₂.os⟩) hr hsmall ?_
  refine ⟨_, [h₃.objs.size], [h₃.objs.size], _, _, _, _, rfl, rfl, fun b o e => Heap.get?_push_of_some _ (hk b o e), Walks.range hh _ a c n2, ?_, ?_, ?_⟩
  · show IsRangeIter _ _ _ _ _
    rw [hn]; simpa using Heap.get?_push_size _ rfl
  · intro b hb
    rw [List.mem_singleton.mp hb]
    cases q : h.get? h₃.objs.size with
    | none => rfl
    | some o => rw [hk _ _ q] at hf; cases hf
  · rintro j u m' h' tk' E'' hj ⟨t, rfl⟩ F
    exact turn.out j t m' h' tk' E'' hj F
end
section
variable {prog : Program} {w : World} {A : Around} {E : Value → Shared → Prop} {env : Env} {s : Shared} {elt iter : Expr} {x : Str} {px : Pos} {ifs : List Expr} {scope : Scope} {cl : List (Str × Addr)} {pos : Pos} {g : Heap}
/-- the frame of a comprehension with one cell -/
theorem newEnv_cell {globals : Addr} {qual : Str} {code : Value} {outer : Env} {Q : Env → Shared → Prop} (hk : scope.kind = .function) (hc : cellsFrom (s.heap.objs.size + 1) scope.names cl = (x, s.heap.objs.size + 1) :: cl)
    (hp : ∀ h : Heap, pushCells h scope.names = h.push { cls := .type "cell", data := .cell none })
    (h : ∀ h₁ tk, (∀ b o, s.heap.get? b = some o → h₁.get? b = some o) → h₁.Ns s.heap.objs.size (fun _ => none) → h₁.get? (s.heap.objs.size + 1) = some { cls := .type "cell", data := .cell none } →
      Q (newEnv scope s.heap.objs.size globals ((x, s.heap.objs.size + 1) :: cl) qual none code (some outer) builtinsNs) { s with heap := h₁, toks := tk }) :
    wpAny (model prog w) A (newFunctionEnv scope globals cl [] qual none code (some outer)) Q E s := by
  simp only [newFunctionEnv, Option.isSome_some, if_true]
  refine wpAny_bind (wpAny_alloc ?_)
  refine wpAny_bind (wpAny_layCells _ (fun name kind cells => by cases kind == NameKind.cell <;> simp) _ _ _ _ ?_)
  rw [show ({ s with heap := s.heap.push { cls := .type "dict", data := .dict #[] } } : Shared).heap.objs.size = s.heap.objs.size + 1 from Heap.size_push .., hc, hp]
  refine wpAny_bind ?_
  rw [List.forIn_nil]
  refine wpAny_pure (wpAny_pure ?_)
  refine h _ s.toks (fun b o e => Heap.get?_push_of_some _ (Heap.get?_push_of_some _ e)) ?_ ?_
  · exact (Heap.Ns.new s.heap (.type "dict")).keeps fun b o e => Heap.get?_push_of_some _ e
  · have := Heap.get?_push_size (s.heap.push { cls := .type "dict", data := .dict #[] }) (o := { cls := .type "cell", data := .cell none }) rfl
    rw [Heap.size_push] at this
    exact this
noncomputable def CompX (prog : Program) (w : World) (A : Around) (g : Heap) (env : Env) (scope : Scope) (cl : List (Str × Addr)) (x : Str) (ifs : List Expr) (elt : Expr) (E : Value → Shared → Prop) (Q : Value → Shared → Prop) (it : Value) (s₂ : Shared) : Prop :=
  Sm7 (fun (I : Addr) (fp wr : List Addr) (n : Nat) (P : Nat → Value → Prop) (St : Nat → Heap → Prop) (Rel : Nat → List Value → Prop) => Al12 (it = .ref I) (Walks prog w A I fp wr n P St) (n ≤ 1000) (St 0 s₂.heap) ((∀ b ∈ fp, b < s₂.heap.objs.size)) ((∀ b ∈ wr, g.get? b = none)) (Kept g s₂.heap) (g.objs.size ≤ s₂.heap.objs.size) (Rel 0 []) ((∀ C D cx i v ys (m : Str → Option Value) h tk oX (E' : Value → Shared → Prop), s₂.heap.get? C = none → s₂.heap.get? D = none → s₂.heap.get? cx = none → C ≠ D → cx ≠ C → cx ≠ D → i < n → P i v → Rel i ys → h.PlainList D ys.toArray → Mod wr s₂.heap h →
      Fr g C h m → h.get? cx = some oX → oX.data = .cell (some v) → TurnG prog w A (compEnvC scope ((x, cx) :: cl) C env) ifs elt s₂ h tk E' (fun y _ => Rel (i + 1) (ys ++ [y])) (fun _ => Rel (i + 1) ys))) ((∀ i ys, i ≤ n → Rel i ys → ys.length ≤ 1000)) ((∀ C D ys h tk m, s₂.heap.get? C = none → s₂.heap.get? D = none → C ≠ D → h.Ns C m → Rel n ys → h.PlainList D ys.toArray → Mod wr s₂.heap h → compPost (model prog w) A E none Q (.ref D) C (.ok .next) { s₂ with heap := h, toks := tk })))
theorem compLoopX {C D I cx : Addr} {fp wr : List Addr} {n : Nat} {P : Nat → Value → Prop} {St : Nat → Heap → Prop} {Rel : Nat → List Value → Prop} {R : Result → Shared → Prop} {s₂ : Shared} {h₁ : Heap} {tk₁ : Nat} {m₁ : Str → Option Value}
    (W : Walks prog w A I fp wr n P St) (hkind : scope.kind = .function) (hx : (relabel scope env).names.lookup x = some .cell)
    (hCD : C ≠ D) (hxC : cx ≠ C) (hxD : cx ≠ D) (hCf : C ∉ fp) (hDf : D ∉ fp) (hxf : cx ∉ fp) (fC : s₂.heap.get? C = none) (fD : s₂.heap.get? D = none) (fx : s₂.heap.get? cx = none) (hwr : ∀ b ∈ wr, g.get? b = none) (hg : Kept g s₂.heap) (hgs : g.objs.size ≤ C)
    (hlen : ∀ i ys, i ≤ n → Rel i ys → ys.length ≤ 1000)
    (turn : ∀ i v ys (m : Str → Option Value) h tk oX (E' : Value → Shared → Prop), i < n → P i v → Rel i ys → h.PlainList D ys.toArray → Mod wr s₂.heap h →
      Fr g C h m → h.get? cx = some oX → oX.data = .cell (some v) → TurnG prog w A (compEnvC scope ((x, cx) :: cl) C env) ifs elt s₂ h tk E' (fun y _ => Rel (i + 1) (ys ++ [y])) (fun _ => Rel (i + 1) ys))
    (done : ∀ ys h tk m, h.Ns C m → Rel n ys → h.PlainList D ys.toArray → Mod wr s₂.heap h → R (.ok .next) { s₂ with heap := h, toks := tk })
    (old : Kept s₂.heap h₁) (hst₁ : St 0 h₁) (hacc : h₁.PlainList D #[]) (hns₁ : h₁.Ns C m₁) (hcell : h₁.IsCell cx none) (h0 : Rel 0 []) :
    codeAny (model prog w) A (.compLoop (.ListComp elt [⟨.Name x px, iter, ifs, 0⟩] scope pos) 0 (.ref I) (.ref D) (compEnvC scope ((x, cx) :: cl) C env)) R { s₂ with heap := h₁, toks := tk₁ } := by
  have hCw : C ∉ wr := fun h => hCf (W.sub _ h)
  have hDw : D ∉ wr := fun h => hDf (W.sub _ h)
  have hxw : cx ∉ wr := fun h => hxf (W.sub _ h)
  have nC : ∀ b o, s₂.heap.get? b = some o → b ≠ C := fun b o e q => by rw [q, fC] at e; cases e
  have nD : ∀ b o, s₂.heap.get? b = some o → b ≠ D := fun b o e q => by rw [q, fD] at e; cases e
  have nX : ∀ b o, s₂.heap.get? b = some o → b ≠ cx := fun b o e q => by rw [q, fx] at e; cases e
  refine codeAny_compLoop_tests
    (fun k s' => Sm6 (fun h' tk m' (i : Nat) (ys : List Value) v' => Al9 (s' = { s₂ with heap := h', toks := tk }) (St i h') (h'.PlainList D ys.toArray) (h'.Ns C m') (h'.IsCell cx v') (Rel i ys) (i ≤ n) (k = n + 1 - i) (Mod wr s₂.heap h'))) ?_ (n + 1)
    ⟨h₁, _, _, 0, [], _, rfl, hst₁, hacc, hns₁, hcell, h0, Nat.zero_le _, rfl, ⟨fun b o _ e => old b o e⟩⟩
  rintro k s' ⟨H, tk, m', i, ys, v', rfl, hst', hacc', hn', hc', hrel, hi, rfl, hk⟩
  by_cases hlt : i < n
  · refine W.item i _ _ _ hlt hst' fun v h₂ tk₂ hPv hst₂ hk₂ => ?_
    have hc2 : h₂.IsCell cx v' := by
      refine Classical.byContradiction fun hGG => ?_
      obtain ⟨o, ho, hd⟩ := hc'
      refine hGG ?_
      clear hGG
      exact ⟨o, hk₂ _ o hxw ho, hd⟩
    refine wpAny_assign_Name (wpAny_storeName_cell (c := cx) (by simp [compEnvC, relabel, hkind]) hx (by simp [compEnvC]) hc2 fun h₃ hc₃ hs₃ => ?_)
    have up : ∀ b o, b ≠ cx → b ∉ wr → H.get? b = some o → h₃.get? b = some o := fun b o hbC hbf e => hs₃.extBut b o hbC (hk₂ b o hbf e)
    have hst₃ : St (i + 1) h₃ := W.frame _ _ _ hst₂ fun b hb o e => hs₃.extBut b o (show b ≠ cx from fun q => hxf (q ▸ hb)) e
    have hacc₃ : h₃.PlainList D ys.toArray := hacc'.at fun o e => up _ o (Ne.symm hxD) hDw e
    have hk₃ : Mod wr s₂.heap h₃ := ⟨fun b o hb e => up b o (nX b o e) hb (hk.keep b o hb e)⟩
    have hn₃ : h₃.Ns C m' := hn'.at' fun o e => up _ o (Ne.symm hxC) hCw e
    have F₃ : Fr g C h₃ m' := ⟨hn₃, fun b o e => hk₃.keep b o (fun q => by rw [hwr b q] at e; cases e) (hg b o e), hgs⟩
    refine Classical.byContradiction fun hGG => ?_
    obtain ⟨oX, hoX, hdX⟩ := hc₃
    refine hGG ?_
    clear hGG
    have hyl := hlen i ys hi hrel
    refine wpAny_mono (turn i v ys m' h₃ _ oX _ hlt hPv hrel hacc₃ hk₃ F₃ hoX hdX) (fun ok s₅ h₅ => ?_) fun _ _ e => e
    refine Classical.byContradiction fun hGG => ?_
    obtain ⟨h₅', tk₅, rfl, kp₅, h₅⟩ := h₅.out
    refine hGG ?_
    clear hGG
    cases ok with
    | false =>
      simp only [Bool.false_eq_true, if_false] at h₅ ⊢
      refine Classical.byContradiction fun hGG => ?_
      obtain ⟨kp₅, m₅, hn₅⟩ := kp₅
      refine hGG ?_
      clear hGG
      exact ⟨n + 1 - (i + 1), by lia, h₅', tk₅, m₅, i + 1, ys, some v, rfl, W.frame _ _ _ hst₃ fun b hb o e => kp₅ b o (show b ≠ C from fun q => hCf (q ▸ hb)) e, hacc₃.at fun o e => kp₅ _ o (Ne.symm hCD) e, hn₅, ⟨oX, kp₅ _ _ hxC hoX, hdX⟩, h₅, hlt, rfl, ⟨fun b o hb e => kp₅ b o (nC b o e) (hk₃.keep b o hb e)⟩⟩
    | true =>
      simp only [if_true] at h₅ ⊢
      refine wpAny_mono h₅ (fun y s₆ h₆ => ?_) fun _ _ e => e
      refine Classical.byContradiction fun hGG => ?_
      obtain ⟨h₆', tk₆, rfl, ⟨kp₆, m₆, hn₆⟩, hrel₆⟩ := h₆.out
      refine hGG ?_
      clear hGG
      refine wpAny_list_append_plain (hsz := by simp [sizeLine]; lia) (hacc₃.at fun o e => kp₆ _ o (Ne.symm hCD) e) fun h₇ hl₇ hs₇ => ?_
      refine ⟨n + 1 - (i + 1), by lia, h₇, tk₆, m₆, i + 1, ys ++ [y], some v, rfl, ?_, by simpa using hl₇, hn₆.sameBut hs₇ hCD, ⟨oX, hs₇.extBut _ _ hxD (kp₆ _ _ hxC hoX), hdX⟩, hrel₆, hlt, rfl, ?_⟩
      · exact W.frame _ _ h₇ hst₃ fun b hb o e => hs₇.extBut b o (fun h => hDf (h ▸ hb)) (kp₆ b o (show b ≠ C from fun q => hCf (q ▸ hb)) e)
      · exact ⟨fun b o hb e => hs₇.extBut b o (nD b o e) (kp₆ b o (nC b o e) (hk₃.keep b o hb e))⟩
  · have hin : i = n := by lia
    subst hin
    refine W.done _ _ _ hst' fun h₂ tk₂ hk₂ => ?_
    exact done ys h₂ tk₂ m' (hn'.at' fun o e => hk₂ _ o hCw e) hrel (hacc'.at fun o e => hk₂ _ o hDw e) ⟨fun b o hb e => hk₂ b o hb (hk.keep b o hb e)⟩
theorem listCompX {Q : Value → Shared → Prop} (hclos : closureFor scope env = pure cl) (hkind : scope.kind = .function)
    (hc : ∀ n, cellsFrom n scope.names cl = (x, n) :: cl) (hp : ∀ h : Heap, pushCells h scope.names = h.push { cls := .type "cell", data := .cell none })
    (hnames : ∀ y ∈ scope.names, y.2 = .local → scope.names.lookup y.1 = some .local) (hx : (relabel scope env).names.lookup x = some .cell)
    (h : wpAny (model prog w) A (eval iter env) (fun xv s₁ => wpAny (model prog w) A (pyIter xv) (fun it s₂ => CompX prog w A g env scope cl x ifs elt E Q it s₂) E s₁) E s)
    (hs : ∀ x, foldedSetIterable iter env x = pure x) :
    wpAny (model prog w) A (eval (.ListComp elt [⟨.Name x px, iter, ifs, 0⟩] scope pos) env) Q E s := by
  rw [eval_ListComp]
  refine wpAny_comprehension_free (use := none) rfl hs hclos hkind hnames (wpAny_mono h (fun xv s₁ h₁ => wpAny_mono h₁ (fun it s₂ h₂ => ?_) fun _ _ e => e) fun _ _ e => e)
  refine Classical.byContradiction fun hGG => ?_
  obtain ⟨I, fp, wr, n, P, St, Rel, rfl, W, hsz, hst, hfp, hwr, hg, hgs, h0, turn, hlen, done⟩ := h₂
  refine hGG ?_
  clear hGG
  refine wpAny_newObj_type ?_
  generalize hH2 : s₂.heap.push { cls := .type "list", dict := none, data := .seq ([] : List Value).toArray } = H2
  refine newEnv_cell (s := { s₂ with heap := H2 }) hkind (hc _) hp fun h₁ tk₁ hk₁ hns₁ hcl₁ => ?_
  dsimp only at hk₁ hns₁ hcl₁ ⊢
  have hC : H2.objs.size = s₂.heap.objs.size + 1 := by rw [← hH2, Heap.size_push]
  have hDC : s₂.heap.objs.size ≠ H2.objs.size := by rw [hC]; exact Nat.ne_of_lt (Nat.lt_succ_self _)
  have hxC : H2.objs.size + 1 ≠ H2.objs.size := Nat.succ_ne_self _
  have hxD : H2.objs.size + 1 ≠ s₂.heap.objs.size := by rw [hC]; exact Nat.ne_of_gt (Nat.lt_succ_of_lt (Nat.lt_succ_self _))
  have hDf : s₂.heap.objs.size ∉ fp := fun hm => Nat.lt_irrefl _ (hfp _ hm)
  have hCf : H2.objs.size ∉ fp := fun hm => by have := hfp _ hm; rw [hC] at this; exact Nat.lt_irrefl _ (Nat.lt_of_succ_lt this)
  have hxf : H2.objs.size + 1 ∉ fp := fun hm => by have := hfp _ hm; rw [hC] at this; exact Nat.lt_irrefl _ (Nat.lt_of_succ_lt (Nat.lt_of_succ_lt this))
  have old : ∀ b o, s₂.heap.get? b = some o → h₁.get? b = some o := fun b o e => hk₁ b o (hH2 ▸ Heap.get?_push_of_some _ e)
  have hacc : h₁.PlainList s₂.heap.objs.size #[] := ⟨_, hk₁ _ _ (hH2 ▸ Heap.get?_push_size _ rfl)⟩
  have hst₁ : St 0 h₁ := W.frame _ _ _ hst fun b _ o e => old b o e
  have fD : s₂.heap.get? s₂.heap.objs.size = none := get_above' (Nat.le_refl _)
  have fC : s₂.heap.get? H2.objs.size = none := get_above' (by rw [hC]; exact Nat.le_succ _)
  have fx : s₂.heap.get? (H2.objs.size + 1) = none := get_above' (by rw [hC]; exact Nat.le_succ_of_le (Nat.le_succ _))
  have loop := compLoopX (elt := elt) (iter := iter) (px := px) (ifs := ifs) (scope := scope) (cl := cl) (pos := pos) (env := env) (tk₁ := tk₁) (Rel := Rel) (R := compPost (model prog w) A E none Q (.ref s₂.heap.objs.size) H2.objs.size)
    W hkind hx (Ne.symm hDC) hxC hxD hCf hDf hxf fC fD fx hwr hg (by rw [hC]; exact Nat.le_succ_of_le hgs) hlen (fun i v ys m h tk oX E' hi hP hrel hpl hM F hcx hdx => turn _ _ _ i v ys m h tk oX E' fC fD fx (Ne.symm hDC) hxC hxD hi hP hrel hpl hM F hcx hdx)
    (fun ys h tk m hn hrel hpl hM => done _ _ ys h tk m fC fD (Ne.symm hDC) hn hrel hpl hM) old hst₁ hacc hns₁ ⟨_, hcl₁, rfl⟩ h0
  exact codeAny_compStart_list loop (W.self 0 _ _ _ hst₁ loop)
theorem comp_seqX {Q : Value → Shared → Prop} {T : Addr} {oT : Obj} {items : Array Value} {nn : Nat} (hh : A.handled = none) (hT : s.heap.get? T = some oT) (hoc : oT.cls = .type "list") (hod : oT.data = .seq items nn) (hz : items.size ≤ 1000) (hg : Kept g s.heap) (hgs : g.objs.size ≤ s.heap.objs.size)
    (Rel : Nat → List Value → Prop) (h0 : Rel 0 []) (hlen : ∀ i ys, i ≤ items.size → Rel i ys → ys.length ≤ 1000)
    (turn : Hold (∀ C R cx i v ys (m : Str → Option Value) h tk oX (E' : Value → Shared → Prop), s.heap.get? C = none → s.heap.get? R = none → s.heap.get? cx = none → C ≠ R → cx ≠ C → cx ≠ R → items[i]? = some v → Rel i ys → h.PlainList R ys.toArray → Kept s.heap h →
      Fr g C h m → h.get? cx = some oX → oX.data = .cell (some v) → TurnG prog w A (compEnvC scope ((x, cx) :: cl) C env) ifs elt s h tk E' (fun y _ => Rel (i + 1) (ys ++ [y])) (fun _ => Rel (i + 1) ys)))
    (done : Hold (∀ C R ys h tk m, s.heap.get? C = none → s.heap.get? R = none → C ≠ R → h.Ns C m → Rel items.size ys → h.PlainList R ys.toArray → Kept s.heap h → compPost (model prog w) A E none Q (.ref R) C (.ok .next) ⟨h, s.gens, s.drawn, tk, s.os⟩)) :
    wpAny (model prog w) A (pyIter (.ref T)) (fun it s₂ => CompX prog w A g env scope cl x ifs elt E Q it s₂) E s := by
  have hf := fresh_size s.heap
  have hgI : g.get? s.heap.objs.size = none := by
    cases q : g.get? s.heap.objs.size with
    | none => rfl
    | some o => rw [hg _ _ q] at hf; cases hf
  have hne : T ≠ s.heap.objs.size := Nat.ne_of_lt (Heap.lt_size hT)
  have hl : s.heap.IsList T items := ⟨oT, hT, hoc, nn, hod⟩
  refine wpAny_pyIter_list hl ?_
  have hkeep : ∀ {o h : _}, Mod [s.heap.objs.size] (s.heap.push o) h → Kept s.heap h := fun hM b o e => hM.keep b o (fun q => by rw [List.mem_singleton.mp q, hf] at e; cases e) (Heap.get?_push_of_some _ e)
  refine ⟨_, [s.heap.objs.size, T], [s.heap.objs.size], items.size, _, _, Rel, rfl, Walks.list hh _ _ hne _, hz, ⟨⟨_, Heap.get?_push_size _ rfl, rfl, rfl⟩, hl.at fun o e => Heap.get?_push_of_some _ e⟩, ?_, ?_, fun b o e => Heap.get?_push_of_some _ (hg b o e), by rw [Heap.size_push]; exact Nat.le_succ_of_le hgs, h0, ?_, hlen, ?_⟩
  · intro b hb
    rw [Heap.size_push]
    rcases List.mem_cons.mp hb with rfl | hb
    · exact Nat.lt_succ_self _
    · rw [List.mem_singleton.mp hb]; exact Nat.lt_succ_of_lt (Heap.lt_size hT)
  · intro b hb
    rw [List.mem_singleton.mp hb]; exact hgI
  · intro C R cx i v ys m h tk oX E' fC fR fx hCR hxC hxR hi hv hrel hpl hM F hcx hdx
    exact turn.out C R cx i v ys m h tk oX E' (push_none rfl fC).1 (push_none rfl fR).1 (push_none rfl fx).1 hCR hxC hxR hv hrel hpl (hkeep hM) F hcx hdx
  · intro C R ys h tk m fC fR hCR hn hrel hpl hM
    exact done.out C R ys h tk m (push_none rfl fC).1 (push_none rfl fR).1 hCR hn hrel hpl (hkeep hM)
end
theorem rev_all (b : Array UInt8) : (List.range b.size).filterMap (b[·]?) = b.toList := by
  apply List.ext_getElem?
  intro i
  have key : ∀ (n : Nat) (h : n ≤ b.size), (List.range n).filterMap (b[·]?) = b.toList.take n := by
    intro n
    induction n with
    | zero => intro _; simp
    | succ n ih =>
      intro h
      have hn : n < b.size := by lia
      rw [List.range_succ, List.filterMap_append, ih (by lia), List.take_add_one]
      simp [hn]
  rw [key b.size (Nat.le_refl _), List.take_of_length_le (by simp)]
theorem rev_sliced (b : Array UInt8) : Builtin.Bytes.sliced b ((b.size : Int) - 1) (-1) (-1) = b.toList.reverse.toArray := by
  show ((sliceRange ((b.size : Int) - 1) (-1) (-1)).filterMap (b[·]?)).toArray = _
  rw [krv_sliceRange, krv_range, List.filterMap_reverse, rev_all]
theorem meets_byrev (b : Array UInt8) (t tk : Tok) (a : Addr) :
    Meets (Builtin.«bytes.__getitem__» ⟨[.bytes b t, .ref a], []⟩) (fun _ R s => s.heap.IsSliceOf a .none .none (.int (-1) tk) ∧ b.size ≤ 1000 ∧ ∀ t' k, R (.ok (.ret (.bytes b.toList.reverse.toArray t'))) { s with toks := k }) := by
  refine .of_wp fun prog w A R s hS => ?_
  obtain ⟨⟨o, ho, hc, hd⟩, hsz, h⟩ := hS
  have hT : s.TypeIs (.ref a) "slice" := ⟨o, ho, hc⟩
  show wpAny _ _ (Builtin.Bytes.payload (.bytes b t) >>= fun r => _) _ _ s
  refine wpAny_bind (wpAny_of_eq (a := b) rfl ?_)
  show wpAny _ _ (Builtin.Bytes.subscript? (.ref a) >>= fun r => _) _ _ s
  refine wpAny_bind ?_
  unfold Builtin.Bytes.subscript?
  refine wpAny_bind (wpAny_specialOf hT slice_no_index (wpAny_pure ?_))
  refine wpAny_bind (wpAny_typeOf hT ?_)
  show wpAny _ _ (Builtin.Bytes.sliceParts (.ref a) >>= fun r => _) _ _ s
  refine wpAny_bind ?_
  unfold Builtin.Bytes.sliceParts
  refine wpAny_bind (wpAny_field (x := .int (-1) tk) ho hd rfl ?_)
  refine wpAny_bind (wpAny_ite (KBy.ite_no (show ¬ ((Value.int _ _ == Value.none) = true) from Bool.false_ne_true) ?_))
  refine wpAny_bind (wpAny_specialOf (T := "int") (PySem.typeIs_int _ _ _) F.slot_int_index.lookup ?_)
  refine wpAny_ite (KBy.ite_no (show ¬ (Option.isNone (some _) = true) from Bool.false_ne_true) ?_)
  refine wpAny_bind (wpAny_of_eq rfl (wpAny_pure ?_))
  refine wpAny_ite (KBy.ite_no (show ¬ ((rawInt (-1) == rawInt 0) = true) by decide) ?_)
  refine wpAny_bind (wpAny_field (x := .none) ho hd rfl ?_)
  refine wpAny_bind (wpAny_of_eq (a := Value.none) rfl ?_)
  refine wpAny_bind (wpAny_field (x := .none) ho hd rfl ?_)
  refine wpAny_bind (wpAny_of_eq (a := Value.none) rfl ?_)
  refine wpAny_pure ?_
  have go : wpAny (model prog w) A.in1 (sliceIndices (rawPart none) (rawPart none) (rawPart (some (-1))) b.size) (fun r s' => r = ((b.size : Int) - 1, (-1 : Int), (-1 : Int)) ∧ s' = s) (fun _ _ => False) s :=
    wpAny_of_eq (sliceIndices_raw none none (some (-1)) b.size (by decide)) ⟨krv_bounds _, rfl⟩
  refine wpAny_bind (wpAny_mono go (fun r s' hr => ?_) fun _ _ e => e.elim)
  obtain ⟨hr1, hr2⟩ := hr
  subst hr1 hr2
  refine wpAny_ite (KBy.ite_no ?_ ?_)
  · simp
  · have e := rev_sliced b
    refine wpAny_bind (wpAny_mkBytes (wpAny_pure ⟨_, rfl, ?_⟩) ?_)
    · rw [e]; exact h _ _
    · rw [e, sizeLine_eq]; simp; lia
theorem by_rev {prog : Program} {w : World} {A : Around} {E : Value → Shared → Prop} {s : Shared} {value slice : PySem.Expr} {b : Array UInt8} {t tk : Tok} {h₀ : Heap} {L : Addr} {m : PySem.Str → Option Value} {news : List (Addr × Obj)} {ops : List Value} {Q : Value → Shared → Prop}
    (hF : Fr h₀ L s.heap m) (hN : News h₀ L s.heap news) (hz : b.size ≤ 1000)
    (h : ∀ h' t' k, Fr h₀ L h' m → News h₀ L h' news → Q (.bytes b.toList.reverse.toArray t') { s with heap := h', toks := k })
    (hs : subscripted slice false (.bytes b t) (.ref s.heap.objs.size) = operate ops (getItem (.bytes b t) (.ref s.heap.objs.size)))
    (ht : ∀ r, letTemporaryGo value (.bytes b t) r = pure ()) :
    wpAny (model prog w) A (subscriptTail value slice (.bytes b t) (.ref s.heap.objs.size)) Q E { s with heap := s.heap.push { cls := .type "slice", data := .fields #[.none, .none, .int (-1) tk] } } :=
  tail_of_ItemOn ⟨"bytes", _, FB.slot_bytes_getitem.lookup, PySem.W.typeIs_bytes _ _ _, getItem_meets (PySem.W.typeIs_bytes _ _ _) (by decide) FB.slot_bytes_getitem FB.entry_bytes_getitem (FB.args_bytes_getitem_2 _ _) (meets_byrev b t tk _)
    ⟨Heap.IsSliceOf.new _ _ _ _, hz, fun t' k => h _ _ _ (hF.push _) (News.pushKeep hN _)⟩⟩ hs ht
noncomputable def octs (j : Nat) (r : Int) : List Int := (List.range j).map fun k => r / 256 ^ k % 256
noncomputable def octsD (wd : Nat) (r : Int) : List Int := (List.range wd).map fun k => r / 256 ^ (wd - 1 - k) % 256
theorem flat_get {wd : Nat} : ∀ (rs : List Int) (i j : Nat), j < wd → (rs.flatMap (octs wd))[i * wd + j]? = rs[i]?.map fun x => x / 256 ^ j % 256
  | [], i, j, _ => by simp
  | x :: rs, 0, j, hj => by
    have hl : (octs wd x).length = wd := by simp [octs]
    rw [List.flatMap_cons, Nat.zero_mul, Nat.zero_add, List.getElem?_append_left (by lia)]
    simp [octs, hj]
  | x :: rs, i + 1, j, hj => by
    have hl : (octs wd x).length = wd := by simp [octs]
    have ih := flat_get rs i j hj
    have e : (i + 1) * wd + j - wd = i * wd + j := by rw [Nat.add_mul, Nat.one_mul]; lia
    rw [List.flatMap_cons, List.getElem?_append_right (by rw [hl, Nat.add_mul, Nat.one_mul]; lia), hl, e, ih]
    simp
theorem byteArr_get (ns : List Int) (q : Nat) : (byteArr ns)[q]? = ns[q]?.map fun n => n.toNat.toUInt8 := by simp [byteArr]
theorem chunk_get {b : Array UInt8} {wd i p : Nat} (hp : p < wd) : (chunk b wd i)[p]? = b[i * wd + p]? := by
  unfold chunk
  simp [List.getElem?_drop, hp]
theorem chunk_size {b : Array UInt8} {wd i n : Nat} (hb : b.size = n * wd) (hi : i < n) : (chunk b wd i).size = wd := by
  unfold chunk
  have : (i + 1) * wd ≤ n * wd := Nat.mul_le_mul_right _ hi
  rw [Nat.add_mul, Nat.one_mul] at this
  simp
  lia
theorem chunk_ext {a c : Array UInt8} {wd : Nat} (ha : a.size = wd) (hc : c.size = wd) (h : ∀ p, p < wd → a[p]? = c[p]?) : a = c := by
  apply Array.ext_getElem?
  intro p
  rcases Nat.lt_or_ge p wd with z | z
  · exact h p z
  · rw [Array.getElem?_eq_none (by lia), Array.getElem?_eq_none (by lia)]
/-- the turned row turned round gives the samples in the other order -/
theorem rev_eq {b r : Array UInt8} {wd n : Nat} (hb : b.size = n * wd) (h : Sw b.toList.reverse.toArray wd n r) : (List.range n).map (chunk r wd) = ((List.range n).map (chunk b wd)).reverse := by
  have hr : r.size = n * wd := by rw [h.1]; simp [hb]
  apply List.ext_getElem?
  intro i
  rcases Nat.lt_or_ge i n with hi | hi
  · rw [List.getElem?_reverse (by simpa using hi)]
    simp only [List.length_map, List.length_range, List.getElem?_map]
    rw [List.getElem?_range hi, List.getElem?_range (by omega)]
    simp only [Option.map_some, Option.some.injEq]
    refine chunk_ext (chunk_size hr hi) (chunk_size hb (by omega)) fun p hp => ?_
    rw [chunk_get hp, chunk_get hp]
    have e := h.2 i (wd - 1 - p) hi (by omega)
    rw [show wd - 1 - (wd - 1 - p) = p by omega] at e
    rw [e]
    have hlt : i * wd + (wd - 1 - p) < n * wd := pos_lt hi (by omega)
    have hl2 : i * wd + (wd - 1 - p) < b.toList.length := by simp [hb]; exact hlt
    simp only [List.getElem?_toArray]
    rw [List.getElem?_reverse hl2, Array.getElem?_toList, Array.length_toList, hb]
    congr 1
    have e2 : n * wd = (n - 1 - i) * wd + (i + 1) * wd := by rw [← Nat.add_mul]; congr 1; omega
    rw [e2, Nat.add_mul, Nat.one_mul]
    omega
  · rw [List.getElem?_eq_none (by simp; omega), List.getElem?_eq_none (by simp; omega)]
/-- the samples of the turned row are the big-endian octets -/
theorem keys_eq {rs : List Int} {r : Array UInt8} {wd n : Nat} (hn : rs.length = n) (h : Sw (byteArr (rs.flatMap (octs wd))) wd n r) : (List.range n).map (chunk r wd) = rs.map fun x => byteArr (octsD wd x) := by
  have hz : (byteArr (rs.flatMap (octs wd))).size = n * wd := by
    have key : ∀ rs : List Int, (rs.flatMap (octs wd)).length = rs.length * wd := by
      intro rs
      induction rs with
      | nil => simp
      | cons x rs ih => rw [List.flatMap_cons, List.length_append, ih, List.length_cons, Nat.add_mul, Nat.one_mul]; simp [octs]; lia
    simp [byteArr, key, hn]
  have hr : r.size = n * wd := by rw [h.1, hz]
  apply List.ext_getElem?
  intro i
  rcases Nat.lt_or_ge i n with hi | hi
  · simp only [List.getElem?_map]
    rw [List.getElem?_range hi, List.getElem?_eq_getElem (by lia)]
    simp only [Option.map_some, Option.some.injEq]
    refine chunk_ext (chunk_size hr hi) (by simp [byteArr, octsD]) fun p hp => ?_
    rw [chunk_get hp]
    have e := h.2 i (wd - 1 - p) hi (by lia)
    rw [show wd - 1 - (wd - 1 - p) = p by lia] at e
    rw [e, byteArr_get, byteArr_get, flat_get _ _ _ (by lia), List.getElem?_eq_getElem (show i < rs.length by lia)]
    simp [octsD, hp]
  · rw [List.getElem?_eq_none (by simp; lia), List.getElem?_eq_none (by simp; lia)]
theorem u8_lt {a b : Int} (ha : 0 ≤ a ∧ a < 256) (hb : 0 ≤ b ∧ b < 256) : a.toNat.toUInt8 < b.toNat.toUInt8 ↔ a < b := by
  rw [UInt8.lt_iff_toNat_lt]
  simp only [Nat.toUInt8_eq, UInt8.toNat_ofNat']
  rw [Nat.mod_eq_of_lt (by omega), Nat.mod_eq_of_lt (by omega)]
  omega
noncomputable def oD (wd : Nat) (x : Int) : List UInt8 := (octsD wd x).map fun n => n.toNat.toUInt8
theorem oD_succ (wd : Nat) (x : Int) : oD (wd + 1) x = (x / 256 ^ wd % 256).toNat.toUInt8 :: oD wd x := by
  unfold oD octsD
  rw [List.range_succ_eq_map, List.map_cons, List.map_cons, List.map_map, List.map_map, List.map_map]
  congr 1
  apply List.map_congr_left
  intro k _
  simp only [Function.comp]
  rw [show wd + 1 - 1 - (k + 1) = wd - 1 - k by lia]
theorem split_mod (x : Int) (wd : Nat) : x % 256 ^ (wd + 1) = (x / 256 ^ wd % 256) * 256 ^ wd + x % 256 ^ wd := by
  have hM : (0 : Int) < 256 ^ wd := Int.pow_pos (by decide)
  have h1 := Int.emod_add_mul_ediv x (256 ^ wd)
  have h2 := Int.emod_add_mul_ediv (x / 256 ^ wd) 256
  rw [Int.pow_succ]
  have h3 := Int.emod_lt_of_pos (x / 256 ^ wd) (show (0 : Int) < 256 by decide)
  have h4 := Int.emod_nonneg (x / 256 ^ wd) (show (256 : Int) ≠ 0 by decide)
  have h5 := Int.emod_lt_of_pos x hM
  have h6 := Int.emod_nonneg x (Int.ne_of_gt hM)
  generalize x / 256 ^ wd % 256 = a at h2 h3 h4 ⊢
  generalize x / 256 ^ wd / 256 = d at h2
  generalize x / 256 ^ wd = c at h1 h2
  generalize x % 256 ^ wd = r at h1 h5 h6 ⊢
  generalize (256 : Int) ^ wd = M at hM h1 h5 h6 ⊢
  have hx : x = a * M + r + (M * 256) * d := by
    rw [← h1, ← h2]
    simp only [Int.mul_add, Int.mul_comm a M, Int.mul_assoc]
    lia
  have hlo : 0 ≤ a * M + r := Int.add_nonneg (Int.mul_nonneg h4 (Int.le_of_lt hM)) h6
  have hhi : a * M + r < M * 256 := by
    have : (a + 1) * M ≤ 256 * M := Int.mul_le_mul_of_nonneg_right (by lia) (Int.le_of_lt hM)
    rw [Int.add_mul, Int.one_mul] at this
    rw [Int.mul_comm M 256]
    lia
  rw [hx, Int.add_mul_emod_self_left]
  exact Int.emod_eq_of_lt hlo hhi
theorem oD_order : ∀ (wd : Nat) (x y : Int), (Builtin.Bytes.order (oD wd x) (oD wd y) = .lt ↔ x % 256 ^ wd < y % 256 ^ wd) ∧ (oD wd x = oD wd y ↔ x % 256 ^ wd = y % 256 ^ wd)
  | 0, x, y => by simp [oD, octsD, Builtin.Bytes.order, Int.emod_one]
  | wd + 1, x, y => by
    obtain ⟨ih1, ih2⟩ := oD_order wd x y
    have hM : (0 : Int) < 256 ^ wd := Int.pow_pos (by decide)
    rw [oD_succ, oD_succ, split_mod x, split_mod y]
    have a1 := Int.emod_lt_of_pos (x / 256 ^ wd) (show (0 : Int) < 256 by decide)
    have a0 := Int.emod_nonneg (x / 256 ^ wd) (show (256 : Int) ≠ 0 by decide)
    have b1 := Int.emod_lt_of_pos (y / 256 ^ wd) (show (0 : Int) < 256 by decide)
    have b0 := Int.emod_nonneg (y / 256 ^ wd) (show (256 : Int) ≠ 0 by decide)
    have r1 := Int.emod_lt_of_pos x hM
    have r0 := Int.emod_nonneg x (Int.ne_of_gt hM)
    have s1 := Int.emod_lt_of_pos y hM
    have s0 := Int.emod_nonneg y (Int.ne_of_gt hM)
    generalize x / 256 ^ wd % 256 = a at a0 a1 ⊢
    generalize y / 256 ^ wd % 256 = b at b0 b1 ⊢
    generalize x % 256 ^ wd = r at ih1 ih2 r0 r1 ⊢
    generalize y % 256 ^ wd = q at ih1 ih2 s0 s1 ⊢
    generalize (256 : Int) ^ wd = M at hM r1 s1 ⊢
    have lab := u8_lt ⟨a0, a1⟩ ⟨b0, b1⟩
    have lba := u8_lt ⟨b0, b1⟩ ⟨a0, a1⟩
    have step : ∀ {u v r q : Int}, u < v → r < M → 0 ≤ q → u * M + r < v * M + q := fun {u v r q} h h1 h2 => by
      have : (u + 1) * M ≤ v * M := Int.mul_le_mul_of_nonneg_right (by lia) (Int.le_of_lt hM)
      rw [Int.add_mul, Int.one_mul] at this
      lia
    simp only [Builtin.Bytes.order]
    rcases Int.lt_trichotomy a b with h | h | h
    · have l := lab.mpr h
      have g := step h r1 s0
      refine ⟨by simp [l, g], ?_⟩
      constructor
      · intro e
        rw [List.cons.injEq] at e
        rw [e.1] at l
        exact absurd l (UInt8.lt_irrefl _)
      · intro e; lia
    · subst h
      simp only [UInt8.lt_irrefl, if_false, gt_iff_lt, List.cons.injEq, true_and]
      refine ⟨by rw [ih1]; lia, by rw [ih2]; lia⟩
    · have l := lba.mpr h
      have nl : ¬ (a.toNat.toUInt8 < b.toNat.toUInt8) := fun k => by rw [lab] at k; lia
      have g := step h s1 r0
      refine ⟨?_, ?_⟩
      · simp only [nl, if_false, gt_iff_lt, l, if_true]
        constructor
        · intro e; cases e
        · intro e; lia
      · constructor
        · intro e
          rw [List.cons.injEq] at e
          rw [e.1] at l
          exact absurd l (UInt8.lt_irrefl _)
        · intro e; lia
theorem lt_eq {rs : List Int} {wd : Nat} (hrs : ∀ r ∈ rs, 0 ≤ r ∧ r < 256 ^ wd) {ks : List (Array UInt8 × Tok)} {rk : List (Int × Tok)} (hk : ks.map Prod.fst = rs.map fun x => byteArr (octsD wd x)) (hr : rk.map Prod.fst = rs) {p q : Int}
    (hp0 : 0 ≤ p) (hp1 : p < (rs.length : Int)) (hq0 : 0 ≤ q) (hq1 : q < (rs.length : Int)) : kLt ks p q = rLt rk p q := by
  have at' : ∀ z : Int, 0 ≤ z → z < (rs.length : Int) → ∃ x ∈ rs, (rk.getD z.toNat (0, 0)).1 = x ∧ (ks.getD z.toNat (#[], 0)).1.toList = oD wd x := fun z h0 h1 => by
    have hl : z.toNat < rs.length := by lia
    have e1 : (rk.map Prod.fst)[z.toNat]? = some rs[z.toNat] := by rw [hr, List.getElem?_eq_getElem hl]
    have e2 : (ks.map Prod.fst)[z.toNat]? = some (byteArr (octsD wd rs[z.toNat])) := by rw [hk, List.getElem?_map, List.getElem?_eq_getElem hl]; rfl
    rw [List.getElem?_map] at e1 e2
    obtain ⟨u, hu, hu2⟩ := Option.map_eq_some_iff.mp e1
    obtain ⟨v, hv, hv2⟩ := Option.map_eq_some_iff.mp e2
    refine ⟨_, List.getElem_mem hl, ?_, ?_⟩
    · rw [List.getD_eq_getElem?_getD, hu]; exact hu2
    · rw [List.getD_eq_getElem?_getD, hv]
      show v.1.toList = _
      rw [hv2]
      rfl
  obtain ⟨x, hx, x1, x2⟩ := at' p hp0 hp1
  obtain ⟨y, hy, y1, y2⟩ := at' q hq0 hq1
  unfold kLt rLt
  rw [x1, x2, y1, y2]
  obtain ⟨o1, o2⟩ := oD_order wd x y
  have ex : x % 256 ^ wd = x := Int.emod_eq_of_lt (hrs x hx).1 (hrs x hx).2
  have ey : y % 256 ^ wd = y := Int.emod_eq_of_lt (hrs y hy).1 (hrs y hy).2
  rw [ex, ey] at o1 o2
  by_cases h : x = y
  · simp [h]
  · have : ¬ (oD wd x = oD wd y) := fun e => h (o2.mp e)
    rw [if_neg this, if_neg (by simpa using h)]
    by_cases l : x < y
    · simp [o1.mpr l, l]
    · have : ¬ (Builtin.Bytes.order (oD wd x) (oD wd y) = .lt) := fun e => l (o1.mp e)
      simp [l, this]
/-- the two orders are one -/
theorem same_order {nl : List (List Int)} {lt₁ lt₂ : Int → Int → Bool} {o₁ o₂ : List Int} (he : ∀ p q, 0 ≤ p → p < (nl.length : Int) → 0 ≤ q → q < (nl.length : Int) → lt₁ p q = lt₂ p q)
    (tot : ∀ a b, lt₂ a b = false → lt₂ b a = false → a = b) (g₁ : Greedy nl lt₁ o₁) (g₂ : Greedy nl lt₂ o₂) (hl : o₁.length = o₂.length) : o₁ = o₂ := by
  have g : Greedy nl lt₂ o₁ := ⟨fun t c hc => by
    obtain ⟨a1, a2⟩ := g₁.step t c hc
    refine ⟨a1, fun c' hc' => ?_⟩
    rw [← he c' c hc'.1 hc'.2.1 a1.1 a1.2.1]
    exact a2 c' hc'⟩
  exact Greedy.unique g g₂ (fun a b _ _ _ _ => tot a b) hl
theorem mode16 : True := by
  w_top off
  k_with_none
  trivial
theorem wpS_reset {α : Type} {M : Model} {A : Around} {t : Sem α} {Q : α → Shared → Prop} {E : Value → Shared → Prop} {s s₁ : Shared} {h : Heap} (eh : s₁.heap = h) (eg : s₁.gens = s.gens) (ed : s₁.drawn = s.drawn) (eo : s₁.os = s.os)
    (k : ∀ tk, wpS M A t Q E ⟨h, s.gens, s.drawn, tk, s.os⟩) : wpS M A t Q E s₁ := by
  refine Classical.byContradiction fun hGG => ?_
  obtain ⟨a, b, c, d, e⟩ := s₁
  refine hGG ?_
  clear hGG
  dsimp only at eh eg ed eo
  subst eh eg ed eo
  exact k d
theorem ivals_of {vs : List Value} {ns : List Int} (h : IntsAre vs ns) : ∃ l : List (Int × Tok), vs = ivals l ∧ l.map Prod.fst = ns := by
  induction h with
  | nil => exact ⟨[], rfl, rfl⟩
  | cons n t _ ih =>
    obtain ⟨l, rfl, rfl⟩ := ih
    exact ⟨(n, t) :: l, rfl, rfl⟩
noncomputable def RRel (rs : List Int) (wd i j : Nat) (ys : List Value) : Prop := ∃ o : List (Int × Tok), ys = ivals o ∧ o.map Prod.fst = (rs.take i).flatMap (octs wd) ++ octs j (rs.getD i 0) ∧ o.length = i * wd + j
theorem RRel.len {rs : List Int} {wd i j : Nat} {ys : List Value} (h : RRel rs wd i j ys) : ys.length = i * wd + j := by
  refine Classical.byContradiction fun hGG => ?_
  obtain ⟨o, rfl, _, h⟩ := h
  refine hGG ?_
  clear hGG
  simp [ivals, h]
theorem RRel.row {rs : List Int} {wd i : Nat} {ys : List Value} (h : RRel rs wd i wd ys) (hi : i < rs.length) : RRel rs wd (i + 1) 0 ys := by
  refine Classical.byContradiction fun hGG => ?_
  obtain ⟨o, rfl, h1, h2⟩ := h
  refine hGG ?_
  clear hGG
  refine ⟨o, rfl, ?_, by rw [h2, Nat.add_mul, Nat.one_mul, Nat.add_zero]⟩
  have e : rs.take (i + 1) = rs.take i ++ [rs.getD i 0] := by
    rw [List.take_add_one, List.getElem?_eq_getElem hi]
    simp [List.getD, hi]
  rw [h1, e, List.flatMap_append]
  simp [octs]
theorem RRel.step {rs : List Int} {wd i j : Nat} {ys : List Value} (h : RRel rs wd i j ys) {v : Int} {t : Tok} (e : v = rs.getD i 0 / 256 ^ j % 256) : RRel rs wd i (j + 1) (ys ++ [Value.int v t]) := by
  refine Classical.byContradiction fun hGG => ?_
  obtain ⟨o, rfl, h1, h2⟩ := h
  refine hGG ?_
  clear hGG
  refine ⟨o ++ [(v, t)], by simp [ivals], ?_, by simp [h2]; lia⟩
  rw [List.map_append, h1, List.append_assoc]
  congr 1
  unfold octs
  rw [List.range_succ, List.map_append, e]
  rfl
theorem listComp2B {prog : Program} {w : World} {A : Around} {E : Value → Shared → Prop} {env : Env} {s : Shared} {elt iter iter2 : Expr} {x k : Str} {px pk : Pos} {scope : Scope} {cl : List (Str × Addr)} {pos : Pos} {g : Heap} {Q : Value → Shared → Prop} (b : CBase g) (hclos : closureFor scope env = pure cl) (hcell : ∀ y ∈ scope.names, y.2 ≠ .cell) (hkind : scope.kind = .function)
    (hnames : ∀ y ∈ scope.names, y.2 = .local → scope.names.lookup y.1 = some .local) (hx : scope.names.lookup x = some .local) (hk2 : scope.names.lookup k = some .local) (hxk : x ≠ k)
    (h : wpAny (model prog w) A (eval iter env) (fun xv s₁ => wpAny (model prog w) A (pyIter xv) (fun it s₂ => Comp2 prog w A g env scope cl x k iter2 elt E Q it s₂) E s₁) E s)
    (hs : ∀ x, foldedSetIterable iter env x = pure x) (hs2 : ∀ C x, foldedSetIterable iter2 (compEnvC scope cl C env) x = pure x) :
    wpAny (model prog w) A (eval (.ListComp elt [⟨.Name x px, iter, [], 0⟩, ⟨.Name k pk, iter2, [], 0⟩] scope pos) env) Q E s := listComp2 hclos hcell hkind hnames hx hk2 hxk h hs hs2
theorem fdiv_mod (a : Int) {c b : Int} (hc : 0 ≤ c) (hb : 0 ≤ b) : (a.fdiv c).fmod b = a / c % b := by rw [Int.fdiv_eq_ediv_of_nonneg _ hc, Int.fmod_eq_emod_of_nonneg _ hb]
theorem pow_le (k : Nat) (h : k ≤ 3) : (256 : Int) ^ k ≤ 16777216 ∧ 0 < (256 : Int) ^ k := by
  rcases k with _ | _ | _ | _ | k
  · decide
  · decide
  · decide
  · decide
  · lia
theorem fd256 {prog : Program} {w : World} {A : Around} {E : Value → Shared → Prop} {s : Shared} {a : Int} {k : Nat} {t u : Tok} {Q : Value → Shared → Prop} (hk : k ≤ 3) (h : Q (.int (a / 256 ^ k) s.toks) { s with toks := s.toks + 1 }) :
    wpAny (model prog w) A (binaryOp .FloorDiv (.int a t) (.int (256 ^ k) u)) Q E s := by
  obtain ⟨h1, h2⟩ := pow_le k hk
  refine floordiv_int (Int.ne_of_gt h2) ?_ (Or.inl (PyProof.noPylong_small (by lia)))
  rw [Int.fdiv_eq_ediv_of_nonneg _ (Int.le_of_lt h2)]
  exact h
theorem listCompXB {prog : Program} {w : World} {A : Around} {E : Value → Shared → Prop} {env : Env} {s : Shared} {elt iter : Expr} {x : Str} {px : Pos} {ifs : List Expr} {scope : Scope} {cl : List (Str × Addr)} {pos : Pos} {g : Heap} {Q : Value → Shared → Prop} (b : CBase g) (hclos : closureFor scope env = pure cl) (hkind : scope.kind = .function)
    (hc : ∀ n, cellsFrom n scope.names cl = (x, n) :: cl) (hp : ∀ h : Heap, pushCells h scope.names = h.push { cls := .type "cell", data := .cell none })
    (hnames : ∀ y ∈ scope.names, y.2 = .local → scope.names.lookup y.1 = some .local) (hx : (relabel scope env).names.lookup x = some .cell)
    (h : wpAny (model prog w) A (eval iter env) (fun xv s₁ => wpAny (model prog w) A (pyIter xv) (fun it s₂ => CompX prog w A g env scope cl x ifs elt E Q it s₂) E s₁) E s)
    (hs : ∀ x, foldedSetIterable iter env x = pure x) :
    wpAny (model prog w) A (eval (.ListComp elt [⟨.Name x px, iter, ifs, 0⟩] scope pos) env) Q E s := listCompX hclos hkind hc hp hnames hx h hs
noncomputable def KRel (rs : List Int) (wd k : Nat) (ys : List Value) : Prop := ∃ ks : List (Array UInt8 × Tok), ys = ks.map (fun p => Value.bytes p.1 p.2) ∧ ks.map Prod.fst = (rs.take k).map fun r => byteArr (octsD wd r)
theorem KRel.add {rs : List Int} {wd k : Nat} {ys : List Value} (h : KRel rs wd k ys) {r : Int} (hr : rs[k]? = some r) {t : Tok} {b : Array UInt8} (e : b = byteArr (octsD wd r)) : KRel rs wd (k + 1) (ys ++ [Value.bytes b t]) := by
  obtain ⟨ks, rfl, h⟩ := h
  refine ⟨ks ++ [(b, t)], by simp, ?_⟩
  rw [List.map_append, h, List.take_add_one, hr, List.map_append, e]
  rfl
theorem KRel.len {rs : List Int} {wd k : Nat} {ys : List Value} (h : KRel rs wd k ys) : ys.length ≤ rs.length := by
  obtain ⟨ks, rfl, h⟩ := h
  have := congrArg List.length h
  simp at this
  simp
  lia
theorem down_size {wd : Nat} (h : 1 ≤ wd) : Builtin.Range.rangeSize ((wd : Int) - 1) (-1) (-1) = (wd : Int) := by
  unfold Builtin.Range.rangeSize
  rw [if_neg (by lia), if_pos (by lia)]
  simp
theorem down_small {wd : Nat} (h : 1 ≤ wd) (h2 : wd ≤ 10) : Builtin.Range.small ((wd : Int) - 1) (-1) (-1) = true := by
  have e := down_size h
  simp only [Builtin.Range.small, Builtin.Range.rangeFitsLong, e, Bool.and_eq_true, decide_eq_true_eq]
  refine ⟨by lia, ?_⟩
  simp
noncomputable def dRel (wd : Nat) (r : Int) (k : Nat) : List Int := (List.range k).map fun j => r / 256 ^ (wd - 1 - j) % 256
theorem dRel_succ (wd : Nat) (r : Int) (k : Nat) : dRel wd r (k + 1) = dRel wd r k ++ [r / 256 ^ (wd - 1 - k) % 256] := by
  unfold dRel
  rw [List.range_succ, List.map_append]
  rfl
theorem dRel_oct (wd : Nat) (r : Int) (k : Nat) : ∀ q ∈ dRel wd r k, 0 ≤ q ∧ q < 256 := fun q hq => by
  obtain ⟨j, _, rfl⟩ := List.mem_map.mp hq
  exact ⟨Int.emod_nonneg _ (by decide), Int.emod_lt_of_pos _ (by decide)⟩
theorem ne_bytes_same {prog : Program} {w : World} {A : Around} {E : Value → Shared → Prop} {s : Shared} {l b : Addr} {ks ks' : List (Array UInt8 × Tok)} {ol ob : Obj} {n n' : Nat} {Q : Value → Shared → Prop}
    (hl : s.heap.get? l = some ol) (hlc : ol.cls = .type "list") (hld : ol.data = .seq (ks.map fun p => Value.bytes p.1 p.2).toArray n) (hb : s.heap.get? b = some ob) (hbc : ob.cls = .type "list") (hbd : ob.data = .seq (ks'.map fun p => Value.bytes p.1 p.2).toArray n')
    (heq : ks.map Prod.fst = ks'.map Prod.fst) (hu : A.units < cLine) (h : Q (.bool false) s) : wpAny (model prog w) A (compareOp .NotEq (.ref l) (.ref b)) Q E s := by
  have hz : ks.length = ks'.length := by simpa using congrArg List.length heq
  have he : ∀ j (h1 : j < (ks.map fun p => Value.bytes p.1 p.2).toArray.size) (h2 : j < (ks'.map fun p => Value.bytes p.1 p.2).toArray.size), PySem.SeqAt.EqAt A.in1 s (ks.map fun p => Value.bytes p.1 p.2).toArray[j] (ks'.map fun p => Value.bytes p.1 p.2).toArray[j] true := by
    intro j h1 h2 prog w E Q hq
    simp only [List.getElem_toArray, List.getElem_map]
    have h1' : j < ks.length := by simpa using h1
    have h2' : j < ks'.length := by simpa using h2
    have e : ks[j].1 = ks'[j].1 := by
      have := congrArg (fun l => l[j]?) heq
      simp [h1', h2'] at this
      exact this
    refine eqBool_bytes ?_
    rw [e]
    simpa using hq
  have := PySem.SeqAt.RcNeAt.lists (A := A) (s := s) ⟨ol, hl, hlc, n, hld⟩ ⟨ob, hb, hbc, n', hbd⟩ (by simp [hz]) hu (e := fun _ => true) he
  refine this prog w E Q ?_
  have e : (!(List.range (ks.map fun p => Value.bytes p.1 p.2).toArray.size).all fun _ => true) = false := by simp
  rw [e]
  exact h
section
--SETATTR
--APART
--COMP
--COMPG
local macro_rules | `(tactic| walk_at "eval ListComp") => `(tactic| (k_here; (with_reducible refine gd17 ?_); (refine hold_of ?_)))
local macro_rules | `(tactic| walk_at "call builtin:isinstance") => `(tactic| (k_here; (refine hold_of ?_)))
local macro_rules | `(tactic| walk_at "binaryOp FloorDiv int int") => `(tactic| (k_here; (with_reducible refine fd256 ?k1 ?_); (case k1 => lia)))
local macro_rules | `(tactic| walk_at "eval ListComp") => `(tactic| (k_here; (with_reducible refine gd18 ?_); k_dflt (refine listComp2B (by assumption) (by with_unfolding_all rfl) (by decide) rfl (by decide) rfl rfl (by decide) ?_ (fun _ => rfl) (fun _ _ => rfl))))
local macro_rules | `(tactic| walk_at "call type:bytes") => `(tactic| (k_here; (refine hold_of ?_)))
local macro_rules | `(tactic| walk_at "call ref") => `(tactic| (k_here; (refine hold_of ?_)))
local macro_rules | `(tactic| walk_at "compareOp NotEq ref ref") => `(tactic| (k_here; (refine hold_of ?_)))
local macro_rules | `(tactic| walk_at "subscriptTail") => `(tactic| (k_here; (with_reducible refine gd19 ?_); k_dflt (refine' by_rev (s := ⟨_, _, _, _, _⟩) ?F ?N ?z ?_ ?s ?t; (case F | N => k_asm); (case z => lia); (case s => with_unfolding_all rfl); (case t => (intro _; with_unfolding_all rfl))); intro h' t' tk' F' N'))
local macro_rules | `(tactic| walk_at "compareOp Eq ref ref") => `(tactic| (k_here; (refine hold_of ?_)))
local macro_rules | `(tactic| walk_at "subscriptTail Call Slice ref ref") => `(tactic| (k_here; (with_reducible refine gd20 ?_); (refine hold_of ?_)))
local macro_rules | `(tactic| walk_at "subscriptTail") => `(tactic| (k_here; (with_reducible refine gd20 ?_); (refine hold_of ?_)))
theorem law_spec {prog : Program} {w : World} {loose : List Str} {mean : ExcName → Option Value} {mg mb : Str → Option Value} {s : Shared} {SA : Addr} {vs : List Value} {ns : List Int} {Q E : Value → Shared → Prop}
    (X : (Mine.hd.heap_1 w.params).In s.heap) (T : Top Mine.hd.view_1 loose mean mg mb s.heap) (hL : s.heap.IsList SA vs.toArray) (hI : IntsAre vs ns) (hlen : ns.length ≤ 63)
    (ret : ∀ h' tk', (∀ b o, s.heap.get? b = some o → h'.get? b = some o) → Q (.bool true) { s with heap := h', toks := tk' }) :
    wpS (model prog w) callerA (call (.ref 203) [.ref SA]) Q E s := by
  refine wpS_call ?_
  k_dflt refine' enterKS (binds := [(Str.ofString "script", Value.ref SA)]) ?k1 ?k2 ?k6 ?k7 ?k9 ?kB ?kD ?_ ?c2 ?c3 ?c4
  case k1 => exact X
  case k2 => exact T
  case k6 => k_is
  case k7 => k_is
  case k9 => exact BindsTo.of_eq rfl
  case kB => exact rfl
  case kD => decide +kernel
  case c2 => exact rfl
  case c3 => exact rfl
  case c4 => exact rfl
  intro L' h' tk' cells' hSize' F' N' Y' B'
  refine hideS fun QA hQA => ?_
  k_cells Y'
  try simp only [List.cons_append, List.nil_append] at N'
  rename_i oW dW
  refine wpS_execs_cons (wpS_any ?_)
  k_steps
  rename_i _ _ D1 ws1 _ _ h1 oW1 F1 N1 dW1
  refine wpS_reset (s := s) rfl rfl rfl rfl fun tk1 => ?_
  refine Classical.byContradiction fun hGG => ?_
  obtain ⟨wd, hwd, hw1, hw2⟩ : ∃ wd : Nat, 2 + (List.take 3 ns).sum.fmod 3 = (wd : Int) ∧ 2 ≤ wd ∧ wd ≤ 4 := by
    have h1 := Int.fmod_nonneg_of_pos (List.take 3 ns).sum (show (0 : Int) < 3 by decide)
    have h2 := Int.fmod_lt_of_pos (List.take 3 ns).sum (show (0 : Int) < 3 by decide)
    exact ⟨(2 + (List.take 3 ns).sum.fmod 3).toNat, by lia, by lia, by lia⟩
  refine hGG ?_
  clear hGG
  rw [hwd] at dW1
  obtain ⟨tw, dW2⟩ : ∃ t, oW1.data = .cell (some (.int (wd : Int) t)) := ⟨_, dW1⟩
  clear dW1
  have N2 : News s.heap L' h1 [(L' + 1, oW1)] := fun p hp => N1 p (.tail _ hp)
  clear N1
  refine wpS_execs_cons (wpS_any ?_)
  k_steps
  rename_i _ _ _ _ _ _ _ _ hl3 _ _ D2 ws2 _ hI2 _ h2 _ F2 N2b
  refine wpS_reset (s := s) rfl rfl rfl rfl fun tk2 => ?_
  obtain ⟨nl, rfl, hnl⟩ := ivals_of hI2
  clear hI2
  have hnz : 4 ≤ nl.length ∧ nl.length ≤ 7 := by
    have := congrArg List.length hnl
    simp at this
    lia
  have F3 : Fr s.heap L' h2 (fun y => if y = Str.ofString "numbers" then some (Value.ref D2) else if y = Str.ofString "script" then some (Value.ref SA) else none) := fr_eq F2 fun z => rfl
  have N3 : News s.heap L' h2 [(D2, listOf (ivals nl).toArray 0), (L' + 1, oW1)] := fun p hp => by
    simp only [memC, List.not_mem_nil, or_false] at hp
    rcases hp with rfl | rfl
    · exact N2b _ (.head _)
    · exact N2b _ (.tail _ (.tail _ (.tail _ (.head _))))
  clear F2 N2b
  have cb : CBase s.heap := ⟨trivial⟩
  refine wpS_execs_cons (wpS_any ?_)
  k_steps
  refine comp_seqG rfl (N3 _ (.head _)).1 rfl rfl (by simp [ivals]; lia) F3.keep (Nat.le_trans F3.above (Nat.le_of_lt F3.ns.lt)) (fun _ _ _ k ys _ => LRel (fun k => (nl.map Prod.fst).take k |>.map fun x => x / 64 % 256 ^ wd) k ys) (fun _ _ _ _ _ _ _ => ⟨[], rfl, rfl⟩) (fun _ _ _ _ _ _ _ _ _ _ h _ => h) ⟨?turn1⟩ ⟨?done1⟩
  case turn1 =>
    rintro C R K oK i v ys mm2 h3 tk3 E2 fC fR fK gK hCR hKC hKR hv hyl ⟨o, rfl, ho⟩ hkept hoK hpl F5
    obtain ⟨pq, hpq, rfl⟩ : ∃ q : Int × Tok, nl[i]? = some q ∧ v = .int q.1 q.2 := by
      simp [ivals] at hv
      obtain ⟨a, b, h, rfl⟩ := hv
      exact ⟨(a, b), h, rfl⟩
    have N5 := news_comp N3 hkept fC
    refine turn_nil (KeptC.same F5) ?_
    dsimp only
    clear F3 N3
    (try dsimp only at F5)
    k_steps
    refine ⟨_, _, rfl, KeptC.same F5, LRel.add (f := fun k => ((nl.map Prod.fst).take k).map fun x => x / 64 % 256 ^ wd) ho ?_⟩
    rw [List.take_add_one, List.getElem?_map, hpq, List.map_append]
    congr 1
    have hpos : (0 : Int) ≤ 256 ^ wd := Int.le_of_lt (Int.pow_pos (by decide))
    simp [fdiv_mod _ (show (0 : Int) ≤ 64 by decide) hpos]
  case done1 =>
    rintro C R K ys h3 tk3 mm2 fC fR fK hCR hKC hKR hns ⟨o, rfl, ho⟩ ⟨nn2, hR⟩ hkept
    dsimp only at fC fR fK hkept
    have nfC := fr_new F3 fC
    have nfR := fr_new F3 fR
    k_dflt refine' post_local' hns ?pL ?pC ?pa ?pb ?pk
    case pL => exact F3.ns.keeps hkept
    case pC => exact Ne.symm nfC.1
    case pa => exact rfl
    case pb => exact rfl
    intro h4 tk4 hM4 hn4
    have F4 := fr_stored F3 hkept fC hM4 hn4
    have N4 := news_stored N3 hkept fC hM4
    have hR4 := hM4.keep _ _ (fun q => by
      simp only [List.mem_cons, List.not_mem_nil, or_false] at q
      rcases q with q | q
      · exact hCR q.symm
      · exact nfR.1 q) hR
    have N5 : News s.heap L' h4 [(R, listOf (ivals o).toArray nn2), (D2, listOf (ivals nl).toArray 0), (L' + 1, oW1)] := fun q hq => by
      rcases memC.mp hq with rfl | hq
      · exact ⟨hR4, nfR⟩
      · exact N4 q hq
    clear F3 N3 N4
    obtain ⟨rl, rfl⟩ : ∃ l, l = o := ⟨o, rfl⟩
    have hrl : rl.map Prod.fst = (nl.map Prod.fst).map fun x => x / 64 % 256 ^ wd := by
      rw [ho]
      show List.map _ (List.take _ _) = _
      rw [List.take_of_length_le (by simp [ivals])]
    have hrlz : rl.length = nl.length := by simpa using congrArg List.length hrl
    have hrb : ∀ r ∈ rl.map Prod.fst, 0 ≤ r ∧ r < 256 ^ wd := fun r hr => by
      rw [hrl] at hr
      obtain ⟨q, _, rfl⟩ := List.mem_map.mp hr
      have hpos : (0 : Int) < 256 ^ wd := Int.pow_pos (by decide)
      exact ⟨Int.emod_nonneg _ (Int.ne_of_gt hpos), Int.emod_lt_of_pos _ hpos⟩
    show wpS _ _ _ _ _ _
    refine wpS_reset (s := s) (h := h4) rfl rfl rfl rfl fun tk5 => ?_
    refine wpS_execs_cons (wpS_any ?_)
    k_steps
    have hrs : (ivals rl).toArray.size = rl.length := by simp [ivals]
    refine comp_seq2 (n2 := wd) rfl hR4 rfl rfl F4.keep (Nat.le_trans F4.above (Nat.le_of_lt F4.ns.lt)) (RRel (rl.map Prod.fst) wd) (fun i j ys hi hj h => ?hlen) ⟨[], rfl, by simp [octs], by simp⟩ (fun i ys hi h => h.row (by rw [hrs] at hi; simpa using hi)) ⟨?row⟩ ⟨?done2⟩
    case hlen =>
      have := h.len
      rw [hrs] at hi
      have h2 : i * wd ≤ 7 * 4 := Nat.mul_le_mul (by lia) hw2
      lia
    case row =>
      intro C i v mm h5 tk6 E6 fC hv F6 hkept
      dsimp only at fC hkept
      obtain ⟨pq, hpq, rfl⟩ : ∃ q : Int × Tok, rl[i]? = some q ∧ v = .int q.1 q.2 := by
        simp [ivals] at hv
        obtain ⟨a, b, h, rfl⟩ := hv
        exact ⟨(a, b), h, rfl⟩
      have N6 := news_comp N5 hkept fC
      unfold Row2
      dsimp only
      clear F4 N5
      k_steps
      rename_i hB tkB _ _ _ hrng lF lN hsub
      refine row2_rng (s₂ := s) (h := h5) rfl hrng (rng_small (by lia) (by lia)) (rng_size wd) hsub ⟨?turn⟩
      intro j t m' h6 tk7 E7 hj F7
      have F8 : Fr s.heap C h6 (fun y => if y = Str.ofString "k" then some (.int (0 + (j : Int) * 1) t) else if y = Str.ofString "rank" then some (.int pq.1 pq.2) else m' y) := F7
      clear lF lN F7
      have N8 : News s.heap C h6 [] := fun _ h => absurd h List.not_mem_nil
      k_steps
      refine ⟨_, rfl, fun ys h => h.step ?_⟩
      have e0 : (0 + (j : Int) * 1).toNat = j := by lia
      have e1 : (rl.map Prod.fst).getD i 0 = pq.1 := by simp [List.getD, hpq]
      rw [e0, e1, Int.fmod_eq_emod_of_nonneg _ (by decide)]
    case done2 =>
      rintro C R3 ys h5 tk6 mm fC fR hCR hns hrel ⟨nn3, hR3⟩ hkept
      dsimp only at fC fR hkept
      refine post_plain hns fun h6 hs6 => ?_
      have F6 := fr_after F4 hkept fC hs6
      have N6 := news_after N5 hkept fC hs6
      have hR6 := hs6.extBut R3 _ (Ne.symm hCR) hR3
      refine Classical.byContradiction fun hGG => ?_
      obtain ⟨ol, rfl, hol, holz⟩ := hrel
      refine hGG ?_
      clear hGG
      clear F4 N5
      k_steps
      have hns : ol.map Prod.fst = (rl.map Prod.fst).flatMap (octs wd) := by
        rw [hol, hrs, List.take_of_length_le (by first | exact mc0 | exact mc1 | exact mc2 | exact mc3 | exact mc4 | exact mc5 | exact mc6 | exact mc7 | simp)]
        simp [octs]
      have hnz2 : (ol.map Prod.fst).length = nl.length * wd := by
        rw [List.length_map, holz, hrs, hrlz]
        rfl
      have hnz3 : nl.length * wd ≤ 7 * 4 := Nat.mul_le_mul hnz.2 hw2
      have hoct : ∀ q ∈ ol.map Prod.fst, 0 ≤ q ∧ q < 256 := fun q hq => by
        rw [hns] at hq
        refine Classical.byContradiction fun hGG => ?_
        obtain ⟨r, _, hq⟩ := List.mem_flatMap.mp hq
        obtain ⟨k, _, rfl⟩ := List.mem_map.mp hq
        refine hGG ?_
        clear hGG
        exact ⟨Int.emod_nonneg _ (by decide), Int.emod_lt_of_pos _ (by decide)⟩
      refine ⟨?_⟩
      have olz : (ivals ol).length ≤ sizeLine := by
        have e : (ivals ol).length = (ol.map Prod.fst).length := by simp [ivals]
        rw [e, hnz2, sizeLine_eq]
        lia
      refine call_bytes_ints ⟨_, hR6, rfl, nn3, rfl⟩ (ints_iv ol) hoct olz rfl fun h7 tb tk7 hk7 => ?_
      have F7 : Fr s.heap L' h7 _ := ⟨F6.ns.keeps hk7, fun b o e => hk7 b o (F6.keep b o e), F6.above⟩
      have N7 : News s.heap L' h7 _ := fun p hp => ⟨hk7 _ _ (N6 p hp).1, (N6 p hp).2⟩
      obtain ⟨row, hrow⟩ : ∃ b, b = byteArr (ol.map Prod.fst) := ⟨_, rfl⟩
      rw [← hrow]
      have hrowz : row.size = nl.length * wd := by
        rw [hrow, ← hnz2]
        simp [byteArr]
      rw [hns] at hrow
      clear F6 N6
      k_steps
      rename_i h8 tk8 F8 N8
      refine wpS_execs_cons (wpS_Assign_Name (wpS_Call ?_) rfl)
      k_steps
      refine wpS_callWith_K (K := Mine.hd.heap_1 w.params) (by with_unfolding_all rfl) ?_ rfl rfl
      refine wpS_args_cons (wpS_any ?_) rfl
      k_steps
      refine wpS_args_cons (wpS_any ?_) rfl
      k_steps
      refine wpS_any (args_nil ?_)
      have X8 : (Mine.hd.heap_1 w.params).In h8 := X.keeps F8.keep
      refine ⟨X8, ?_⟩
      k_dflt refine byteswap_spec B' F8 X T rfl (by ktr_room) (by ktr_units) hrowz (by lia) ⟨by lia, hw2⟩ ?_
      intro h9 tk9 tt turned hM9 hSw
      have F9 : Fr s.heap L' h9 _ := hM9.fr F8 (fun a ha => nomatch ha)
      have N9 : News s.heap L' h9 _ := hM9.news N8 (fun p hp q => nomatch q)
      clear F8 N8
      k_steps
      rename_i h10 tk10 F10 N10
      have htz : turned.size = nl.length * wd := by rw [hSw.1, hrowz]
      refine wpS_execs_cons (wpS_any ?_)
      k_steps
      refine ⟨?_⟩
      k_dflt refine samples_spec B' F10 X T rfl (by ktr_room) (by ktr_units) htz (by lia) ⟨by lia, hw2⟩ ?_
      intro h11 tk11 KA n1 ks hM11 fK hK hks
      have nfK := fr_new F10 fK
      have nKR : KA ≠ R := ne_of_fresh fK (N10 _ (.head _)).1
      have F11 : Fr s.heap L' h11 _ := hM11.fr F10 (fun a ha => nomatch ha)
      have N11 : News s.heap L' h11 ((KA, keysObj ks n1) :: _) := fun p hp => by
        rcases memC.mp hp with rfl | hp
        · exact ⟨hK, nfK⟩
        · exact hM11.news N10 (fun p hp q => nomatch q) p hp
      unfold keysObj at N11
      clear F10 N10
      k_steps
      rename_i h12 tk12 F12 N12
      refine wpS_execs_cons (wpS_any ?_)
      k_steps
      refine ⟨?_⟩
      refine call_isinstance_yes (typeIs_bytes _ _ _) PySem.F.isi_meta_bytes F.sub_bytes_bytes ?_
      refine wpAny_truthy_bool ?_
      simp only [Bool.not_true, Bool.false_eq_true, if_false]
      refine isTrue_or ?_
      refine wpAny_isTrue_Compare1 ?_ rfl
      k_steps
      refine ⟨?_⟩
      k_dflt refine' listCompXB (by assumption) ?ca rfl ?ce ?cf ?cb ?cc ?cd (fun _ => rfl)
      case ca => with_unfolding_all rfl
      case ce => exact fun _ => rfl
      case cf => exact fun _ => rfl
      case cb => decide
      case cc => exact rfl
      k_steps
      have mR := N12 _ (.tail _ (.head _))
      dsimp only at mR
      refine comp_seqX rfl mR.1 rfl rfl (by rw [hrs]; lia) F12.keep (Nat.le_trans F12.above (Nat.le_of_lt F12.ns.lt)) (KRel (rl.map Prod.fst) wd) ⟨[], rfl, rfl⟩ (fun i ys hi h => Nat.le_trans h.len (by simp; lia)) ⟨?turnk⟩ ⟨?donek⟩
      case turnk =>
        intro C R5 cx i v ys mm h13 tk13 oX E13 fC fR fx hCR hxC hxR hv hrel hpl hkept F13 hcx hdx
        dsimp only at fC fR fx hkept
        obtain ⟨pq, hpq, rfl⟩ : ∃ q : Int × Tok, rl[i]? = some q ∧ v = .int q.1 q.2 := by
          simp [ivals] at hv
          obtain ⟨a, b, h, rfl⟩ := hv
          exact ⟨(a, b), h, rfl⟩
        have N13 : News s.heap C h13 [(cx, oX), (L' + 1, oW1)] := fun p hp => by
          rcases memC.mp hp with rfl | hp
          · exact ⟨hcx, hxC, (fr_new F12 fx).2⟩
          · rw [List.mem_singleton.mp hp]
            exact news_comp N12 hkept fC _ (.tail _ (.tail _ (.tail _ (.head _))))
        refine Classical.byContradiction fun hGG => ?_
        obtain ⟨g10, tl10, F14, N14, st10, hold10, tn10, all10⟩ := rebase2 F13 N13
        refine hGG ?_
        clear hGG
        have X10 := X.keeps st10
        have T10 := T.keeps st10
        have keepN10 : Hold (News s.heap C h13 _) := ⟨N13⟩
        refine turn_nil (KeptC.same F14) ?_
        dsimp only
        clear F12 N12 F13 N13 cb
        have cb : CBase g10 := ⟨trivial⟩
        simp only [List.cons_append, List.nil_append] at N14
        k_steps
        rename_i hI tkI _ _ _ hrngI lF lN hsubI
        replace hsubI : Kept h13 hI := hsubI
        refine comp_rngG rfl hrngI (down_small (by lia) (by lia)) (down_size (by lia)) (by lia) lF.keep (Nat.le_trans lF.above (Nat.le_of_lt lF.ns.lt)) (fun _ _ _ k ys _ => LRel (dRel wd pq.1) k ys) (fun _ _ _ _ _ _ _ => ⟨[], rfl, rfl⟩) (fun _ _ _ _ _ _ _ _ _ _ h _ => h) ⟨?turn3⟩ ⟨?done3⟩
        case turn3 =>
          rintro C6 R6 K6 oK6 j tt6 ys6 mm6 h15 tk15 E15 fC6 fR6 fK6 gK6 hCR6 hKC6 hKR6 hj hyl6 ⟨o6, rfl, ho6⟩ hkept6 hoK6 hpl6 F15
          dsimp only at fC6 fR6 fK6 hkept6
          have N15 := news_comp lN hkept6 fC6
          refine turn_nil (KeptC.same F15) ?_
          dsimp only
          clear lF lN
          have F16 : Fr g10 C6 h15 (fun y => if y = Str.ofString "k" then some (.int ((wd : Int) - 1 + (j : Int) * (-1)) tt6) else mm6 y) := F15
          clear F15
          k_steps
          refine ⟨_, _, rfl, KeptC.same F16, LRel.add (f := dRel wd pq.1) ho6 ?_⟩
          have e0 : ((wd : Int) - 1 + (j : Int) * (-1)).toNat = wd - 1 - j := by lia
          rw [e0, dRel_succ, Int.fmod_eq_emod_of_nonneg _ (by decide)]
        case done3 =>
          rintro C6 R6 K6 ys6 h15 tk15 mm6 fC6 fR6 fK6 hCR6 hKC6 hKR6 hns6 ⟨o6, rfl, ho6⟩ ⟨nn6, hR6⟩ hkept6
          dsimp only at fC6 fR6 fK6 hkept6
          refine post_plain hns6 fun h16 hs16 => ?_
          have F16 := fr_after lF hkept6 fC6 hs16
          have N16 := news_after lN hkept6 fC6 hs16
          have hR16 := hs16.extBut R6 _ (Ne.symm hCR6) hR6
          clear lF lN
          k_steps
          refine ⟨?_⟩
          have o6z : (ivals o6).length ≤ sizeLine := by
            have e := congrArg List.length ho6
            simp [dRel] at e
            rw [sizeLine_eq]
            simp [ivals]
            lia
          refine call_bytes_ints ⟨_, hR16, rfl, nn6, rfl⟩ (ints_iv o6) (by rw [ho6]; exact dRel_oct _ _ _) o6z rfl fun h17 tb17 tk17 hk17 => ?_
          have F17 : Fr g10 C h17 _ := ⟨F16.ns.keeps hk17, fun b o e => hk17 b o (F16.keep b o e), F16.above⟩
          have N17 : News g10 C h17 _ := fun p hp => ⟨hk17 _ _ (N16 p hp).1, (N16 p hp).2⟩
          clear F16 N16
          k_steps
          have kC := keptC_of F17 N17 (fun p hp => (keepN10.out p hp).1) all10 (fun q hq => .tail _ (.tail _ hq)) (fun q hq => List.mem_append_left tl10 hq)
          refine Hold.mk ?_
          exact ⟨_, _, rfl, kC, hrel.add (r := pq.1) (by simp [hpq]) (by rw [ho6]; rfl)⟩
      case donek =>
        rintro C R5 ys h13 tk13 mm fC fR hCR hns ⟨ks2, rfl, hks2⟩ ⟨nn5, hR5⟩ hkept
        dsimp only at fC fR hkept
        refine post_plain hns fun h14 hs14 => ?_
        have F14 := fr_after F12 hkept fC hs14
        have N14 := news_after N12 hkept fC hs14
        have hR14 := hs14.extBut R5 _ (Ne.symm hCR) hR5
        clear F12 N12
        k_steps
        refine ⟨?_⟩
        have hkey : ks.map Prod.fst = (rl.map Prod.fst).map fun x => byteArr (octsD wd x) := by
          rw [show ks.map Prod.fst = _ from hks]
          rw [hrow] at hSw
          exact keys_eq (by rw [List.length_map]; exact hrlz) hSw
        have hkeq : ks.map Prod.fst = ks2.map Prod.fst := by
          rw [hkey, hks2, List.take_of_length_le (by simp [ivals])]
        refine ne_bytes_same (N14 _ (.head _)).1 rfl rfl hR14 rfl rfl hkeq (by ktr_units) ?_
        refine wpAny_truthy_bool ?_
        simp only [Bool.false_eq_true, if_false]
        refine isTrue_or_nil ?_
        (try simp only [Bool.false_eq_true, if_false])
        k_steps
        show wpS _ _ _ _ _ _
        refine wpS_execs_cons (wpS_If (wpS_isTrue_Compare1 (wpS_Call ?_) rfl))
        k_steps
        refine wpS_callWith_K (K := Mine.hd.heap_1 w.params) (by with_unfolding_all rfl) ?_ rfl rfl
        refine wpS_args_cons (wpS_Call ?_) rfl
        k_steps
        refine wpS_callWith_K (K := Mine.hd.heap_1 w.params) (by with_unfolding_all rfl) ?_ rfl rfl
        refine wpS_args_cons (wpS_any ?_) rfl
        k_steps
        rename_i h15 tr tk15 F15 N15
        refine wpS_args_cons (wpS_any ?_) rfl
        k_steps
        refine wpS_any (args_nil ?_)
        have X15 : (Mine.hd.heap_1 w.params).In h15 := X.keeps F15.keep
        refine ⟨X15, ?_⟩
        have hrz : row.toList.reverse.toArray.size = nl.length * wd := by simp [hrowz]
        k_dflt refine byteswap_spec B' F15 X T rfl (by ktr_room) (by ktr_units) hrz (by lia) ⟨by lia, hw2⟩ ?_
        intro h16 tk16 tr2 rev hM16 hSw2
        have F16 : Fr s.heap L' h16 _ := hM16.fr F15 (fun a ha => nomatch ha)
        have N16 : News s.heap L' h16 _ := hM16.news N15 (fun p hp q => nomatch q)
        clear F15 N15
        have hvz : rev.size = nl.length * wd := by rw [hSw2.1, hrz]
        refine wpS_args_cons (wpS_any ?_) rfl
        k_steps
        refine wpS_any (args_nil ?_)
        have X16 : (Mine.hd.heap_1 w.params).In h16 := X.keeps F16.keep
        refine ⟨X16, wpS_any ?_⟩
        k_dflt refine samples_spec B' F16 X T rfl (by ktr_room) (by ktr_units) hvz (by lia) ⟨by lia, hw2⟩ ?_
        intro h17 tk17 KR2 nr2 kr2 hM17 fK2 hK2 hks3
        have nfK2 := fr_new F16 fK2
        have F17 : Fr s.heap L' h17 _ := hM17.fr F16 (fun a ha => nomatch ha)
        have N17 : News s.heap L' h17 ((KR2, keysObj kr2 nr2) :: _) := fun p hp => by
          rcases memC.mp hp with rfl | hp
          · exact ⟨hK2, nfK2⟩
          · exact hM17.news N16 (fun p hp q => nomatch q) p hp
        unfold keysObj at N17
        clear F16 N16
        k_steps
        refine ⟨?_⟩
        k_dflt refine samples_spec B' F17 X T rfl (by ktr_room) (by ktr_units) hrowz (by lia) ⟨by lia, hw2⟩ ?_
        intro h18 tk18 KR3 nr3 kr3 hM18 fK3 hK3 hks4
        have nfK3 := fr_new F17 fK3
        have F18 : Fr s.heap L' h18 _ := hM18.fr F17 (fun a ha => nomatch ha)
        have N18 : News s.heap L' h18 ((KR3, keysObj kr3 nr3) :: _) := fun p hp => by
          rcases memC.mp hp with rfl | hp
          · exact ⟨hK3, nfK3⟩
          · exact hM18.news N17 (fun p hp q => nomatch q) p hp
        unfold keysObj at N18
        clear F17 N17
        k_steps
        have hkr3 : kr3.length = nl.length := by
          have := congrArg List.length hks4
          simpa using this
        refine ⟨?_⟩
        k_dflt (refine kba_turn (value' := PySem.Expr.Name (PySem.Str.ofString "x") ⟨0, 0, 0, 0⟩) (fun _ => rfl) ?_)
        k_dflt refine' krv_lit (s := ⟨_, _, _, _, _⟩) (zs := (kr3.reverse).map fun k => Value.bytes k.1 k.2) ?zzF ?zzN ?zzl ?zzk ?zze ?_ ?zzs ?zzt ?zzz
        case zzF => exact F18
        case zzN => exact N18
        case zzl => exact PySem.IsL.isList (N18 _ (.head _)).1
        case zzk => exact IsPart.int _ _
        case zze => simp
        case zzs => with_unfolding_all rfl
        case zzt => (intro _; with_unfolding_all rfl)
        case zzz => simp [sizeLine]; lia
        intro D3 h19 F19 N19 _
        clear F18 N18
        k_steps
        refine ⟨?_⟩
        have hkeq2 : kr2.map Prod.fst = kr3.reverse.map Prod.fst := by
          rw [show kr2.map Prod.fst = _ from hks3, List.map_reverse, show kr3.map Prod.fst = _ from hks4]
          exact rev_eq hrowz hSw2
        refine ne_bytes_same (N19 _ (.tail _ (.tail _ (.head _)))).1 rfl rfl (N19 _ (.head _)).1 rfl rfl hkeq2 (by ktr_units) ?_
        refine wpAny_truthy_bool ?_
        rw [if_neg Bool.false_ne_true]
        refine wpS_any (wpAny_execs_nil ?_)
        show wpS _ _ _ _ _ _
        refine wpS_execs_cons (wpS_any ?_)
        k_steps
        refine ⟨?_⟩
        have mD := N19 _ (.tail _ (.tail _ (.tail _ (.tail _ (.tail _ (.head _))))))
        dsimp only at mD
        k_dflt refine needs_spec B' F19 X T rfl (by ktr_room) (by ktr_units) mD.1 mD.2 (by lia) ?_
        intro h20 tk20 NR nr rows hM20 fNR hNR hrows hnlo hrowsz
        dsimp only at hM20 fNR hrows
        have nfN := fr_new F19 fNR
        have F20 : Fr s.heap L' h20 _ := hM20.fr F19 (fun a ha => nomatch ha)
        have mKA := N19 _ (.tail _ (.tail _ (.tail _ (.head _))))
        have mRk := N19 _ (.tail _ (.tail _ (.tail _ (.tail _ (.head _)))))
        dsimp only at mKA mRk
        have N20 : News s.heap L' h20 ((NR, rowsObj rows nr) :: (KA, keysObj ks n1) :: (R, listOf (ivals rl).toArray nn2) :: rowLed rows) := fun p hp => by
          simp only [memC] at hp
          rcases hp with rfl | rfl | rfl | hp
          · exact ⟨hNR, nfN⟩
          · exact ⟨hM20.keep _ _ (fun q => nomatch q) mKA.1, mKA.2⟩
          · exact ⟨hM20.keep _ _ (fun q => nomatch q) mRk.1, mRk.2⟩
          · obtain ⟨r, hr, rfl⟩ := List.mem_map.mp hp
            exact ⟨(hrows r hr).2, fr_new F19 (hrows r hr).1⟩
        have nNK : NR ≠ KA := fun q => by rw [q, mKA.1] at fNR; cases fNR
        have nNR2 : NR ≠ R := fun q => by rw [q, mRk.1] at fNR; cases fNR
        have nrR : ∀ r ∈ rows, r.r ≠ R := fun r hr q => by
          have := (hrows r hr).1
          rw [q, mRk.1] at this; cases this
        clear F19 N19
        k_steps
        rename_i h21 tk21 F21 N21
        refine wpS_any ?_
        k_steps
        refine ⟨?_⟩
        have mN21 := N21 _ (.head _)
        have mK21 := N21 _ (.tail _ (.head _))
        have mR21 := N21 _ (.tail _ (.tail _ (.head _)))
        have mrow : ∀ r ∈ rows, h21.get? r.r = some r.obj ∧ r.r ≠ L' ∧ s.heap.get? r.r = none := fun r hr => N21 (r.r, r.obj) (.tail _ (.tail _ (.tail _ (List.mem_map.mpr ⟨r, hr, rfl⟩))))
        dsimp only at mN21 mK21 mR21
        have hin : ∀ b ∈ inAddrs NR KA rows, b ≠ L' ∧ s.heap.get? b = none := fun b hb => by
          simp only [inAddrs, memC, List.mem_map] at hb
          rcases hb with rfl | rfl | ⟨r, hr, rfl⟩
          · exact mN21.2
          · exact mK21.2
          · exact (mrow r hr).2
        have hksz : ks.length = rows.length := by
          have := congrArg List.length hkey
          simp at this
          lia
        k_dflt refine order_spec trivial F21 X T rfl mN21.1 mK21.1 (fun r hr => (mrow r hr).1) hin (fun b hb q => nomatch q) hnlo (by lia) hksz (by ktr_room) (by ktr_units) ?_
        intro h22 tk22 O1 on1 ord1 hMF hkI hO1 hl1 hG1
        have sL : s.heap.get? L' = none := kts_self F21
        have gfr : ∀ b o, s.heap.get? b = some o → b ∉ inAddrs NR KA rows ∧ b ∉ L' :: frs ([] : List Env) := fun b o e => by
          refine ⟨fun q => ?_, fun q => ?_⟩
          · rw [(hin b q).2] at e; cases e
          · rcases List.mem_cons.mp q with q | q
            · rw [q, sL] at e; cases e
            · exact nomatch q
        have F22 : Fr s.heap L' h22 _ := hMF.fr F21 (.head _) (fun q => (hin L' q).1 rfl) gfr
        have hR22 : h22.get? R = some (listOf (ivals rl).toArray nn2) := hMF.keep R _ (fun q => by
          simp only [inAddrs, List.mem_cons, List.mem_map] at q
          rcases q with q | q | ⟨r, hr, q⟩
          · exact nNR2 q.symm
          · exact nKR q.symm
          · exact nrR r hr q) (fun q => by
          rcases List.mem_cons.mp q with q | q
          · exact mR21.2.1 q
          · exact nomatch q) mR21.1
        have hN22 : h22.get? NR = some (rowsObj rows nr) := hkI NR (by first | exact mc0 | exact mc1 | exact mc2 | exact mc3 | exact mc4 | simp [inAddrs]) _ mN21.1
        have hrow22 : ∀ r ∈ rows, h22.get? r.r = some r.obj := fun r hr => hkI r.r (by simp only [inAddrs, List.mem_cons, List.mem_map]; exact .inr (.inr ⟨r, hr, rfl⟩)) _ (mrow r hr).1
        have N22 : News s.heap L' h22 [(NR, rowsObj rows nr), (R, listOf (ivals rl).toArray nn2)] := fun p hp => by
          simp only [memC, List.not_mem_nil, or_false] at hp
          rcases hp with rfl | rfl
          · exact ⟨hN22, mN21.2⟩
          · exact ⟨hR22, mR21.2⟩
        clear F21 N21
        k_steps
        refine ⟨?_⟩
        k_dflt refine due_spec B' F22 X T rfl (by ktr_room) (by ktr_units) hN22 hR22 hrow22 (fun b hb => by
          simp only [memC, List.not_mem_nil, or_false] at hb
          rcases hb with rfl | rfl
          · exact mN21.2
          · exact mR21.2) nNR2 hnlo (by lia) (by lia) ?_
        intro h23 tk23 O2 on2 ord2 hM23 fO2 hO2 hl2 hG2
        have F23 : Fr s.heap L' h23 _ := hM23.fr F22 (fun a ha => nomatch ha)
        have N23 : News s.heap L' h23 [] := fun _ h => absurd h List.not_mem_nil
        have hO1b : h23.get? O1 = some (listOf (ivals ord1).toArray on1) := hM23.keep _ _ (fun q => nomatch q) hO1
        clear F22 N22
        k_steps
        refine ⟨?_⟩
        have hord : ord1.map Prod.fst = ord2.map Prod.fst := by
          have hnl2 : (nlOf rows).length = rows.length := by simp [nlOf]
          refine same_order (lt₁ := kLt ks) (lt₂ := rLt rl) (fun p q p0 p1 q0 q1 => ?_) (fun a b => rLt_tot) hG1 hG2 (by simp; lia)
          exact lt_eq hrb hkey rfl p0 (by rw [List.length_map]; lia) q0 (by rw [List.length_map]; lia)
        refine ke_eq_ints (PySem.IsL.isList hO1b) (PySem.IsL.isList hO2) (ints_iv ord1) (ints_iv ord2) (by ktr_units) ?_
        rw [decide_eq_true hord]
        k_steps
        refine hQA _ _ ?_
        exact ret _ _ (fun b o e => F23.keep b o e)
end
theorem post_true (ns : List Int) : PySem.Challenge.rw_nq0174_01.row.claim.post [ofPy (PyData.list (List.map PyData.int ns))] (WData.bool true) [ofPy (PyData.list (List.map PyData.int ns))] = true := by
  show (WShape.has [] (WData.bool true) .bool && _) = true
  rw [Bool.and_eq_true]
  refine ⟨by rfl, ?_⟩
  first | rfl | kernel_rfl | (simp [Tm.holds, Tm.value]; done)
theorem law_holds : PySem.Challenge.rw_nq0174_01.Holds := PySem.W.holds_law said fun _ => Mine.hd (by
  k_fill
  intro w s₀ s₁ mg mb G Y fa o pm cd doc dV kV ho hd hcd hD hmg hg args vals as hpre hlay hrd hwl hlo
  have KX := kIn_of Y
  refine Ground.open G ?_
  intro T B D TE TW
  have hfa : mg (Str.ofString "law") = some (.ref 203) := mg_of KX T.g (by kernel_rfl)
  have hm2 : some (Value.ref 203) = some (Value.ref fa) := hfa.symm.trans hmg
  have hfa2 : fa = 203 := by cases hm2; rfl
  subst hfa2
  clear D TE TW B hfa hm2 hmg ho hd hcd hD
  wrow_args hpre hlay hrd hwl hlo
  rename_i ns _ _ _ _ _ _ _ SA vs _ hL _ _ _ hI _ hc _
  refine law_spec KX T hL hI (by omega) fun h' tk' hk => ?_
  exact GoodW.toG ⟨.inl ⟨.bool true, .bool true, [], rfl, fun cls => rfl, .bool true, post_true ns, fun _ => ⟨List.nodup_nil, fun a ha => nomatch ha⟩⟩, hk, rfl, hg⟩)
end Mine
theorem PySem.Challenge.cw_nq0174_01_holds : PySem.Challenge.rw_nq0174_01.Holds := by
  exact Mine.law_holds
