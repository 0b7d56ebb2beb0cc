import PyProof.Rows.All
import Wide.All
import OpenK.AllK
import Wide.FinOn
import KE.KNestM
import PySem.Builtin.Sre.Common
import PySem.Challenge.RW_xo0008_01
set_option Elab.async false
set_option linter.unusedVariables false

-- part S0
section
open PySem PySem.W PyProof.Rows PySem.Calls PySem.Spec
set_option Elab.async false
set_option maxRecDepth 100000
set_option maxHeartbeats 0
set_option linter.unusedVariables false
namespace Mine
/-- the ids whose activations hold a bytearray -/
def holders : List String := Builtin.Bytes.decodersThatHold ++ ["bytearray.__contains__", "bytearray.__mod__", "bytearray.__rmod__", "_struct.pack_into.held", "bytearray.find.held"]
def calm : Code → Bool
  | .builtin id _ => !holders.contains id
  | _ => true
def CalmBelow (Γ : PySem.Ctx) : Prop := ∀ x ∈ Γ.below, calm x.1 = true
def Calm (Γ : PySem.Ctx) : Prop := calm Γ.code = true ∧ CalmBelow Γ
/-- as wpAny, on a stack that holds no bytearray -/
def wpS {α : Type} (M : Model) (A : Around) (t : Sem α) (Q : α → Shared → Prop) (E : Value → Shared → Prop) (s : Shared) : Prop :=
  ∀ Γ p, Γ.In A → Calm Γ → Sem.wp M Γ t (fun a _ s' => Q a s') (fun e _ s' => E e s') p s
def codeS (M : Model) (A : Around) (c : Code) (R : Result → Shared → Prop) (s : Shared) : Prop :=
  ∀ Γ p, Γ.code = c → Γ.Below A → CalmBelow Γ → wpCode M Γ R p s
section
variable {α β : Type} {M : Model} {A : Around} {E : Value → Shared → Prop} {s : Shared}
theorem wpS.of {t : Sem α} {Q : α → Shared → Prop} (h : wpAny M A t Q E s) : wpS M A t Q E s := fun Γ p hΓ _ => h Γ p hΓ
theorem codeS.of {c : Code} {R : Result → Shared → Prop} (h : codeAny M A c R s) : codeS M A c R s := fun Γ p hc hΓ _ => h Γ p hc hΓ
theorem wpS.mono {t : Sem α} {Q Q' : α → Shared → Prop} {E' : Value → Shared → Prop} (h : wpS M A t Q E s) (hQ : ∀ a s, Q a s → Q' a s) (hE : ∀ e s, E e s → E' e s) : wpS M A t Q' E' s :=
  fun Γ p hΓ hc => Sem.wp_mono M Γ t (fun a _ s => hQ a s) (fun e _ s => hE e s) p s (h Γ p hΓ hc)
theorem wpS.bind {m : Sem α} {f : α → Sem β} {Q : β → Shared → Prop} (h : wpS M A m (fun a s' => wpS M A (f a) Q E s') E s) : wpS M A (m >>= f) Q E s := fun Γ p hΓ hc => by
  rw [Sem.wp_bind']
  exact Sem.wp_mono M Γ m (fun a p' s' h' => h' Γ p' hΓ hc) (fun _ _ _ h' => h') p s (h Γ p hΓ hc)
theorem wpS.bindA {m : Sem α} {f : α → Sem β} {Q : β → Shared → Prop} (h : wpAny M A m (fun a s' => wpS M A (f a) Q E s') E s) : wpS M A (m >>= f) Q E s := .bind (.of h)
theorem wpS.pure {a : α} {Q : α → Shared → Prop} (h : Q a s) : wpS M A (pure a) Q E s := fun _ _ _ _ => h
theorem wpS.holding {vs : List Value} {m : Sem α} {Q : α → Shared → Prop} (h : wpS M A m Q E s) : wpS M A (PySem.holding vs m) Q E s := fun Γ p hΓ hc => by rw [Sem.wp_holding]; exact h Γ p hΓ hc
theorem wpS.onRaise {m : Sem α} {k : Value → Sem Unit} {Q : α → Shared → Prop} (h : wpS M A m Q (fun _ _ => False) s) : wpS M A (m.onRaise k) Q E s := fun Γ p hΓ hc => by
  rw [Sem.wp_onRaise]
  exact Sem.wp_mono M Γ m (fun _ _ _ h' => h') (fun e p' s' h' => h'.elim) p s (h Γ p hΓ hc)
theorem wpS.call {f : Value} {pos : List Value} {kw : List (Str × Value)} {Q : Value → Shared → Prop} (hc : codeS M A (.call f ⟨pos, kw⟩) (fun r s' => match r with | .ok (.ret v) => Q v s' | .ok _ => False | .error e => E e s') s) :
    wpS M A (PySem.call f pos kw) Q E s := fun Γ p hΓ hcl => by
  rw [show PySem.call f pos kw = runValue (.call f ⟨pos, kw⟩) from rfl, Sem.wp_runValue]
  refine hc _ p rfl (hΓ.enter _ none p (by intro x; cases x)) fun x hx => ?_
  rcases List.mem_cons.mp hx with rfl | hx
  · exact hcl.1
  · exact hcl.2 x hx
theorem wpS.run {c : Code} {h : Option Value} {Q : Flow → Shared → Prop} (hc : codeS M (A.mark h) c (fun r s' => match r with | .ok f => Q f s' | .error e => E e s') s) (hnb : h ≠ some byPass := by intro x; cases x) : wpS M A (PySem.run c h) Q E s := fun Γ p hΓ hcl => by
  rw [Sem.wp_run]
  refine hc _ p rfl (hΓ.enter _ h p hnb) fun x hx => ?_
  rcases List.mem_cons.mp hx with rfl | hx
  · exact hcl.1
  · exact hcl.2 x hx
theorem codeS_of_tree {c : Code} {R : Result → Shared → Prop} (hc : calm c = true) (h : wpS M (A.under c) (M.den c) (fun fin s' => match fin with | .done f => R (.ok f) s' | .again c' => c'.quiet = true ∧ codeS M A c' R s') (fun e s' => R (.error e) s') s) : codeS M A c R s := fun Γ p hcode hΓ hcl => by
  rw [wpCode_iff_wp, hcode]
  refine Sem.wp_mono M Γ _ (fun fin p' s' h' => ?_) (fun _ _ _ h' => h') p s (h Γ p (hcode ▸ hΓ.in) ⟨hcode ▸ hc, hcl⟩)
  cases fin with
  | done f => exact h'
  | again c' => exact ⟨h'.1, h'.2 (Γ.goto c') p' rfl (hΓ.goto c') hcl⟩
theorem codeS.mono {c : Code} {R R' : Result → Shared → Prop} (h : codeS M A c R s) (hR : ∀ r s, R r s → R' r s) : codeS M A c R' s := fun Γ p hc hΓ hcl => wpCode_mono hR (h Γ p hc hΓ hcl)
end
theorem thread_S {prog : Program} {w : World} {t : Sem Fin} {s : Shared} {R : Result → Shared → Prop} (hreg : s.asleep)
    (h : wpS (model prog w) callerA t (fun fin s' => ∃ f, fin = .done f ∧ (R (.ok f) s' ∧ leftWithCleanup s'.gens = false)) (fun e s' => R (.error e) s' ∧ leftWithCleanup s'.gens = false) s) :
    ∃ n r s' s'', runN (denote table) prog w n s ⟨t, .builtin "claim.caller" {}, default, []⟩ = .halted (outcomeOf r) s' ∧
      schedN (denote table) prog w n (.single s ⟨t, .builtin "claim.caller" {}, default, []⟩) = .halted (outcomeOf r) s' ∧ s'.forget = s''.forget ∧ R r s'' := by
  have h0 := h _ default caller_in ⟨by decide +kernel, fun _ hx => nomatch hx⟩
  obtain ⟨n, r, s₁, s₂, hs, hn, hfo, hR⟩ := wp_halts_full (M := model prog w) (R := R) hreg (Sem.wp_mono _ _ _ (fun fin p' s' h' => by
    obtain ⟨f, rfl, hf⟩ := h'
    exact hf) (fun _ _ _ h' => h') _ _ h0)
  exact ⟨n, r, s₂, s₁, hn, hs, hfo, hR⟩
/-- the walk that is asked: the law's call, on a calm stack -/
abbrev WalkS (q : Program) (loose : List Str) (XP : (Str → Option Value) → Heap → Prop) (YP : World → Heap → Prop) (r : RowW) (d : DefRec) (kwd : List (Str × PySem.Expr)) : Prop :=
  ∀ (w : World) (s₀ s₁ : Shared) (mg mb : Str → Option Value), Ground q loose r.records XP w s₀ mg mb s₁.heap → YP w s₁.heap → ∀ (a : Addr) (o : Obj) (pm cd doc dV kV : Value), s₁.heap.get? a = some o →
    o.data = .func { docDef d.name d.params d.body d.scope pm cd doc with defaults := dV, kwdefaults := kV } → s₁.heap.CodeRec cd d.name → Dflts mg s₁.heap d.params kwd dV kV → mg d.name = some (.ref a) → s₁.gens = #[] →
    ∀ (args : List WData) (vals : List Value) (as : List Addr), r.claim.pre args = true → WData.layableAll args = true → ReadsAllW r.records (classAt s₀.heap) s₁.heap vals args as → WellAll w.params s₁.heap vals args → (∀ a ∈ as, (a == sysModules) = false) →
      wpS (model r.prog w) callerA (PySem.call (.ref a) vals) (fun v s' => GoodWG r.claim (classAt s₀.heap) (ExcName.means s₀.heap) args s₁ (.ok (.ret v)) s')
        (fun e s' => GoodWG r.claim (classAt s₀.heap) (ExcName.means s₀.heap) args s₁ (.error e) s') s₁
theorem PySem.W.holds_open {r : OpenRow} {q : Program} {loose : List Str} {Xt : Shared → Bool} {XP : (Str → Option Value) → Heap → Prop} {α : Type} {Yf : Shared → α} {Ya : World → α} {YP : World → Heap → Prop} {d : DefRec} {kwd : List (Str × PySem.Expr)} {N : Nat}
    (left : LeftO r.prog q loose Xt Yf Ya N) (hY : ∀ w s, Yf s = Ya w → YP w s.heap) (hYk : ∀ w h h', YP w h → (∀ b o, h.get? b = some o → h'.get? b = some o) → YP w h')
    (hX : ∀ s, Xt s = true → XP (s.heap.nsMap mainGlobals) s.heap) (hXk : ∀ mg h h', XP mg h → (∀ b o, h.get? b = some o → h'.get? b = some o) → XP mg h')
    (hdef : defOf q r.name = some (d, kwd)) (hp : r.prog.theDef r.name = some (d.params, d.body, d.scope)) (hk : kwWritten? d.params.kwonlyargs d.params.kw_defaults = some kwd) (hRf : ∀ s, Xt s = true → RecFacts r.records s.heap) (hwr : (!r.writes || r.records.isEmpty) = true)
    (k1 : r.wellSaid = true) (ok : (chainsOk q && opensWell r.prog && (frees r.toRowW && r.within.isEmpty)) = true) (hb : r.prog.bare) (hw : r.toRowW.promised)
    (call : WalkS q loose XP YP r.toRowW d kwd) : r.Holds := by
  obtain ⟨ok1, ok2⟩ := Bool.and_eq_true_iff.mp ok
  obtain ⟨hch, hop⟩ := Bool.and_eq_true_iff.mp ok1
  obtain ⟨hfr, hwi⟩ := Bool.and_eq_true_iff.mp ok2
  obtain ⟨hsame, hu, ha, hap, hm⟩ := frees_parts hfr
  have hid := ident_freeW hu ha hap
  have hwi' : r.toRowW.claim.within = [] := List.isEmpty_iff.mp hwi
  refine ⟨k1, hw, ⟨hb, hop, by show r.toRowW.makers.map _ = []; rw [hm]; rfl⟩, hw.witness, fun w => ⟨(left.behind hX hch w).1, fun s' hs' => ?_⟩⟩
  obtain ⟨s₀, hf, hg0, s, hT, hz, hgens, hg, GG, y⟩ := (left.behind (XP := fun mg h => XP mg h ∧ RecFacts r.records h) (fun s hs => ⟨hX s hs, hRf s hs⟩) hch w).2 s' hs'
  have G0 : Ground q loose [] XP w s (s.heap.nsMap mainGlobals) (s.heap.nsMap builtinsNs) s.heap := ⟨GG.T, GG.B, GG.D, GG.TE, GG.TD, GG.W, GG.X.1, GG.cls, GG.has, GG.apart, GG.once, GG.K⟩
  have RF := GG.X.2
  refine ⟨s₀, hf, hg0, s, hT, (fun n hn => by
    obtain rfl : n = r.name := by split at hn <;> simp_all
    exact pinned_of_view hg G0 hdef hp hk), RF.1, RF.2.1, fun args hpre hlay ord hord => ?_⟩
  have G : Ground q loose r.records XP w s _ _ s.heap := RF.ground G0
  have hg' : s.gens = #[] := Array.eq_empty_of_size_eq_zero (beq_iff_eq.mp hgens)
  obtain ⟨⟨vs, s₁⟩, hlaid⟩ := Option.isSome_iff_exists.mp (layAllW_isSome (P := w.params) (ord := ord) G.has args r.toRowW.args s (pre_splitW hpre).1)
  have keeps := layAllW_keeps _ _ _ hlaid
  have hal := layAllW_rest _ _ _ hlaid
  obtain ⟨as, hrd, hin, hold⟩ := reads_layAllW hord _ _ _ hlaid hlay s₁.heap (fun _ _ e => e)
  have L : Laid r.toRowW.records w s s₁ args vs as := ⟨⟨ord, hord, hlaid⟩, hrd, hin, hold, keeps, hal.1.trans hg', hal.2.2.1⟩
  have G₁ := G.keeps hXk keeps
  obtain ⟨a, o, pm, cd, doc, dV, kV, h1, h2, h3, h4, h5⟩ := G₁.fn hdef
  have W := call w s s₁ _ _ G₁ (hYk _ _ _ (hY w s y) keeps) a o pm cd doc dV kV h2 h3 h4 h5 (defOf_name hdef ▸ h1) L.gens args vs as hpre hlay L.reads L.well (L.low G.low)
  let kept : Heap → Prop := fun h' => r.writes = true → namesKept r.prog r.keeps s.heap h' ∧ ∀ x ∈ r.records, ∀ a, classAt s.heap x.1 = some a → recordClass h' a x.1 (x.2.map (·.1)) = true
  have fin : ∀ (rr : Result) (s' : Shared), GoodWG r.toRowW.claim (classAt s.heap) (ExcName.means s.heap) args s₁ rr s' →
      (r.toRowW.claim.Ends s args vs s₁ rr s' ∧ s'.os = s.os ∧ kept s'.heap) ∧ leftWithCleanup s'.gens = false := fun rr s' g => by
    have z := g.laid (c := r.toRowW.claim) hsame hwi' hid L
    exact ⟨⟨z.1, z.2.1, fun q => ⟨namesKept_of hT hg _ keeps g.2.1.old, noTable hwr q⟩⟩, leftWithCleanup_false_of_bare z.2.2⟩
  have T : wpS (model r.prog w) callerA (do
      match ← nsGet mainNs r.name with
      | some f => do ret (← PySem.call f vs)
      | none => unsupported "claim.caller:no-such-global") (fun fin s' => ∃ f, fin = .done f ∧ ((r.toRowW.claim.Ends s args vs s₁ (.ok f) s' ∧ s'.os = s.os ∧ kept s'.heap) ∧ leftWithCleanup s'.gens = false))
      (fun e s' => (r.toRowW.claim.Ends s args vs s₁ (.error e) s' ∧ s'.os = s.os ∧ kept s'.heap) ∧ leftWithCleanup s'.gens = false) s₁ := by
    refine .bindA (wpAny_nsGet G₁.T.g ?_)
    have e1 : s.heap.nsMap mainGlobals r.name = some (.ref a) := h1
    rw [e1]
    exact .bind (W.mono (fun v s' g => .pure ⟨_, rfl, fin _ _ g⟩) fun e s' g => fin _ _ g)
  obtain ⟨k, rr, s', s'', hrun, hsched, hfo, hcase, hos, hkp⟩ := thread_S (prog := r.prog) (w := w) (R := fun rr s' => r.toRowW.claim.Ends s args vs s₁ rr s' ∧ s'.os = s.os ∧ kept s'.heap) (Shared.asleep_of_life hal.2.2.2 hz) T
  obtain ⟨eh, _, _, eo, _⟩ := Shared.forget_eq hfo
  have hcase := hcase.congr eh
  have hkp : kept s'.heap := by first | exact eh ▸ hkp | (rw [eh] at hkp; exact hkp) | (rw [← eh] at hkp; exact hkp)
  rw [← eo] at hos
  have hlife : s'.heap.life = s.heap.life := (runN_life _ _ _ hrun).trans hal.2.2.2
  refine ⟨vs, s₁, hlaid, k, _, s', hsched, ?_, (fun _ i x hx => by rw [hg'] at hx; simp at hx), hkp, by rw [hlife], Shared.rest_eq hos⟩
  rcases hcase with ⟨v, rfl, d1, d2, d3, d4, d5⟩ | ⟨e, ob, cls, rfl, d1, d2, d3, d4, d5⟩
  · exact .inl ⟨v, rfl, d1, d2, d3, fun b o y _ => d4 b o y, d5⟩
  · exact .inr ⟨e, ob, cls, rfl, d1, d2, d3, d4, fun b o y _ => d5 b o y⟩
end Mine
end

-- part HdK
section
open PySem PySem.W PyProof.Rows
set_option Elab.async false
set_option maxRecDepth 100000
set_option maxHeartbeats 0
namespace Mine
section
local macro_rules | `(tactic| o_head $h) => `(tactic| exact False.elim (by assumption))
/-- from nothing, nothing: this line is here for the one constant that its tactic writes, the text of the heap behind the top -/
theorem frag : False → PySem.Challenge.rw_xo0008_01.Holds := by
  intro hF
  w_on; o_law; k_head
end
section
local macro_rules | `(tactic| k_head) => `(tactic| o_head (kmHook frag.heap_39 [2, 3, 32, 34, 35, 37, 38, 42, 43, 44, 45, 47, 48, 50, 51, 52, 54, 55, 57, 58, 59, 62, 67, 68, 69, 71, 72, 74, 75,
        76, 78, 79, 81, 82, 83, 84, 86, 87, 89, 90, 91, 93, 94, 96, 97, 98, 100, 101, 103, 104, 105, 107, 108, 110, 111,
        112, 113, 115, 116, 118, 119, 120, 122, 123, 125, 126, 127, 129, 130, 132, 133, 134, 135, 136, 137, 138, 144,
        145, 149, 150, 151, 153, 154, 156, 157, 158, 160, 161, 163, 164, 165, 167, 168, 170, 171, 172, 174, 175, 177,
        178, 179, 181, 182, 184, 185, 186, 188, 189, 191, 192, 193, 196, 197] (fun _ => by kernel_rfl) [106]))
open_top hd for PySem.Challenge.rw_xo0008_01
end
end Mine
end

-- part C0
section
open PySem PySem.W PyProof.Rows
set_option Elab.async false
set_option maxRecDepth 100000
set_option maxHeartbeats 0
namespace Mine
noncomputable abbrev Kf (w : World) : Frag := frag.heap_39 w.params
noncomputable abbrev loose : List Str := looseW hd.view_39 [Str.ofString "_quoted", Str.ofString "_paren_depth", Str.ofString "_Accumulator", Str.ofString "_twin_re_1", Str.ofString "_twin_re_2"]
noncomputable abbrev prg : Program := PySem.Challenge.rw_xo0008_01.row.toRowW.prog
def Grow (h h' : Heap) : Prop := ∀ b o, h.get? b = some o → h'.get? b = some o
theorem Grow.refl (h : Heap) : Grow h h := fun _ _ e => e
theorem Grow.trans {a b c : Heap} (x : Grow a b) (y : Grow b c) : Grow a c := fun p o e => y p o (x p o e)
/-- the ground: the top's objects and names, at any heap -/
structure Gd (w : World) (mg mb : Str → Option Value) (h : Heap) : Prop where
  X : (Kf w).In h
  T : TopRead hd.view_39 loose mg mb h
theorem Gd.grow {w : World} {mg mb : Str → Option Value} {h h' : Heap} (G : Gd w mg mb h) (k : Grow h h') : Gd w mg mb h' := ⟨G.X.keeps k, G.T.keeps k⟩
section
variable {prog : Program} {w : World} {A : Around} {s : Shared} {mg mb : Str → Option Value}
theorem enter {R : Result → Shared → Prop} {name qual : Str} {params : Arguments} {body : List Stmt} {scope : Scope} {dV kV doc pm cdv ct oc : Value} {an od : Option Addr} {osl : Array (Option Value)} {f : Addr} {args : Args} {binds : List (Str × Value)}
    (G : Gd w mg mb s.heap) (ho : (Kf w).lookup f = some ⟨oc, od, .func (fnOf name qual params body scope dV kV doc pm an cdv ct), osl⟩) (hcd : codeIn (Kf w) cdv qual = true) (hroom : A.depth < recursionLimit)
    (hbind : BindsTo s (fnOf name qual params body scope dV kV doc pm an cdv ct) args binds) (hloc : ∀ y ∈ binds, scope.names.lookup y.1 = some .local)
    (h : ∀ L' h₁, Fr s.heap L' h₁ (fun y => binds.reverse.lookup y) →
      wpAny (model prog w) (A.deeper (envOf qual scope L' f cdv)) (execs body (envOf qual scope L' f cdv))
        (fun fl s' => R (.ok (.ret (match fl with | .ret v => v | _ => .none))) s')
        (fun _ _ => False)
        { s with heap := h₁, toks := s.toks + binds.length })
    (hco : scope.isCoroutine = false) (hgen : scope.isGenerator = false) (hk : scope.kind = .function)
    (hcell : ∀ x ∈ scope.names, x.2 ≠ .cell) : codeAny (model prog w) A (.call (.ref f) args) R s := by
  refine codeAny_call_def (fd := fnOf name qual params body scope dV kV doc pm an cdv ct) (body := body) (binds := binds) hroom (G.X _ _ ho) rfl G.T.nolimit (codeRec_of G.X hcd) rfl hbind hcell hloc (fun h₁ hns hk₁ => ?_) hco hgen hk
  exact wpAny_mono (h _ h₁ ⟨hns, hk₁, Nat.le_refl _⟩) (fun _ _ x => x) fun _ _ x => x.elim
end
section
variable {w : World}
theorem nm_quoted : nsIn (Kf w) mainGlobals (Str.ofString "_quoted") = some (some (.ref 43)) := by rfl
theorem nm_paren_depth : nsIn (Kf w) mainGlobals (Str.ofString "_paren_depth") = some (some (.ref 51)) := by rfl
theorem nm_twin_re_1 : nsIn (Kf w) mainGlobals (Str.ofString "_twin_re_1") = some (some (.ref 145)) := by rfl
theorem nm_twin_re_2 : nsIn (Kf w) mainGlobals (Str.ofString "_twin_re_2") = some (some (.ref 150)) := by rfl
theorem nm_law_numbers : nsIn (Kf w) mainGlobals (Str.ofString "_law_numbers") = some (some (.ref 178)) := by rfl
theorem nm_Accumulator : nsIn (Kf w) mainGlobals (Str.ofString "_Accumulator") = some (some (.ref 136)) := by rfl
theorem nm_law_sent : nsIn (Kf w) mainGlobals (Str.ofString "_law_sent") = some (some (.ref 185)) := by rfl
theorem nm_byteswap : nsIn (Kf w) mainGlobals (Str.ofString "_byteswap") = some (some (.ref 171)) := by rfl
theorem nm_Int2AP : nsIn (Kf w) mainGlobals (Str.ofString "Int2AP") = some (some (.ref 58)) := by rfl
theorem nm_law_number_of_depths : nsIn (Kf w) mainGlobals (Str.ofString "_law_number_of_depths") = some (some (.ref 192)) := by rfl
theorem nm_quote_periods : nsIn (Kf w) mainGlobals (Str.ofString "_quote_periods") = some (some (.ref 157)) := by rfl
theorem nm_fix_eols : nsIn (Kf w) mainGlobals (Str.ofString "_fix_eols") = some (some (.ref 164)) := by rfl
theorem nm_CRLF : nsIn (Kf w) mainGlobals (Str.ofString "CRLF") = some (some (.str (Str.ofString "\r\n") 512)) := by rfl
theorem nb_enumerate : nsIn (Kf w) mainGlobals (Str.ofString "enumerate") = some none := by rfl
theorem nb_range : nsIn (Kf w) mainGlobals (Str.ofString "range") = some none := by rfl
theorem nb_bytearray : nsIn (Kf w) mainGlobals (Str.ofString "bytearray") = some none := by rfl
theorem nb_len : nsIn (Kf w) mainGlobals (Str.ofString "len") = some none := by rfl
theorem nb_bytes : nsIn (Kf w) mainGlobals (Str.ofString "bytes") = some none := by rfl
theorem nb_sum : nsIn (Kf w) mainGlobals (Str.ofString "sum") = some none := by rfl
theorem nb_str : nsIn (Kf w) mainGlobals (Str.ofString "str") = some none := by rfl
theorem nb_int : nsIn (Kf w) mainGlobals (Str.ofString "int") = some none := by rfl
theorem nb_abs : nsIn (Kf w) mainGlobals (Str.ofString "abs") = some none := by rfl
theorem nb_divmod : nsIn (Kf w) mainGlobals (Str.ofString "divmod") = some none := by rfl
theorem nb_super : nsIn (Kf w) mainGlobals (Str.ofString "super") = some none := by rfl
end
end Mine
end

-- part LP
section
open PySem PySem.W PyProof.Rows PySem.Calls
set_option Elab.async false
set_option maxRecDepth 100000
set_option maxHeartbeats 0
set_option linter.unusedVariables false
namespace Mine
section
variable {prog : Program} {w : World} {A : Around} {E : Value → Shared → Prop} {s : Shared} {env : Env} {h₀ : Heap} {x : Str} {body : List Stmt} {Q : Flow → Shared → Prop}
theorem range_small (n : Nat) (h : n ≤ 2 ^ 30) : Builtin.Range.small 0 n 1 = true := by
  have f : ∀ k : Int, -1 ≤ k → k ≤ 2 ^ 30 → Builtin.Range.rangeFitsLong k = true := fun k h1 h2 => by
    unfold Builtin.Range.rangeFitsLong
    simp
    omega
  unfold Builtin.Range.small Builtin.Range.rangeSize
  simp
  refine ⟨⟨⟨⟨f _ (by decide) (by decide), f _ (by omega) (by omega)⟩, f _ (by decide) (by decide)⟩, f _ ?_ ?_⟩, .inr (f _ (by omega) (by omega))⟩ <;> split <;> omega
theorem range_size (n : Nat) : Builtin.Range.rangeSize 0 n 1 = (n : Int) := by
  unfold Builtin.Range.rangeSize
  rw [if_pos (by decide)]
  split <;> omega
/-- a turn's end: the frame alone is changed -/
def TurnEnd (h₀ : Heap) (L : Addr) (news : List (Addr × Obj)) (J : (Str → Option Value) → Prop) (s : Shared) (f : Flow) (s₂ : Shared) : Prop :=
  f = .next ∧ ∃ h' tk' m', s₂ = { s with heap := h', toks := tk' } ∧ Fr h₀ L h' m' ∧ News h₀ L h' news ∧ J m'
theorem TurnEnd.intro {h₀ h' : Heap} {L : Addr} {news : List (Addr × Obj)} {J : (Str → Option Value) → Prop} {s : Shared} {tk' : Nat} {m' : Str → Option Value} (F : Fr h₀ L h' m') (N : News h₀ L h' news) (j : J m') : TurnEnd h₀ L news J s .next { s with heap := h', toks := tk' } :=
  ⟨rfl, h', tk', m', rfl, F, N, j⟩
/-- a loop over range(n) that changes the frame alone -/
theorem range_V {r : Addr} {n : Nat} {t u v : Tok} {m₀ : Str → Option Value} {news : List (Addr × Obj)} (hh : A.handled = none) (R : IsRange s.heap r 0 n 1 t u v) (hn : n ≤ 2 ^ 30) (F : Fr h₀ env.locals s.heap m₀) (N : News h₀ env.locals s.heap news)
    (J : Nat → (Str → Option Value) → Prop) (j0 : J 0 m₀)
    (turn : ∀ i t m₁ h tk own, i < n → J i m₁ → Fr h₀ env.locals h (fun y => if y = x then some (.int (i : Nat) t) else m₁ y) → News h₀ env.locals h (own ++ news) →
      wpAny (model prog w) A (execs body env) (TurnEnd h₀ env.locals (own ++ news) (J (i + 1)) { s with heap := h, toks := tk }) E { s with heap := h, toks := tk })
    (done : ∀ h tk m', Fr h₀ env.locals h m' → News h₀ env.locals h news → J n m' → Q .next { s with heap := h, toks := tk }) :
    wpAny (model prog w) A (pyIter (.ref r)) (fun it s₂ => LoopAtV prog w A h₀ env x body Q E it s₂) E s := by
  refine wpAny_pyIter_range R (range_small n hn) ?_
  have W := Walks.range (prog := prog) (w := w) hh s.heap.objs.size 0 1 n
  refine ⟨_, _, _, n, _, _, m₀, news, (fun i m₁ news₁ => news₁ = news ∧ J i m₁), rfl, W, ?_, ?_, ?_, ?_, F.push _, (fun p hp => ⟨Heap.get?_push_of_some _ (N p hp).1, (N p hp).2⟩), ⟨rfl, j0⟩, ?_, ?_⟩
  · intro hm
    exact absurd F.ns.lt ((List.mem_singleton.mp hm) ▸ Nat.lt_irrefl _)
  · intro b hb
    rw [List.mem_singleton.mp hb]
    exact next_is_new F
  · intro p hp hI
    exact absurd (Heap.lt_size (N p hp).1) ((List.mem_singleton.mp hI) ▸ Nat.lt_irrefl _)
  · show IsRangeIter _ _ _ _ _
    rw [range_size]
    simpa using Heap.get?_push_size _ rfl
  · rintro i v m₁ news₁ s₁ own ⟨hh', tk', rfl⟩ hin ⟨tv, hP⟩ ⟨rfl, hJ⟩ hoff _ _ _ _ F₁ N₁
    have e : (0 : Int) + (i : Int) * 1 = (i : Int) := by omega
    rw [e] at hP
    subst hP
    refine wpAny_mono (turn i tv m₁ hh' tk' own hin hJ F₁ N₁) (fun f s₂ p => ?_) fun _ _ e => e
    obtain ⟨rfl, h', tk, m', e, F', N', hj⟩ := p
    exact ⟨rfl, h', tk, m', news₁, e, F', N', hoff, rfl, hj⟩
  · rintro h' tk m' news' F' N' _ ⟨rfl, hJ⟩
    exact done h' tk m' F' N' hJ
end
end Mine
end

-- part LP2
section
open PySem PySem.W PyProof.Rows PySem.Calls
set_option Elab.async false
set_option maxRecDepth 100000
set_option maxHeartbeats 0
set_option linter.unusedVariables false
namespace Mine
theorem form {m : Str → Option Value} {k : Str} {v : Value} (h : m k = some v) : m = fun y => if y = k then some v else m y := by
  funext y
  by_cases e : y = k
  · subst e; rw [if_pos rfl, h]
  · rw [if_neg e]
section
variable {prog : Program} {w : World} {A : Around} {E : Value → Shared → Prop} {s : Shared} {env : Env} {h₀ : Heap} {x : Str} {body : List Stmt} {Q : Flow → Shared → Prop}
/-- a turn's end: the frame and the news are changed, at the same addresses -/
def TurnN (h₀ : Heap) (L : Addr) (own : List (Addr × Obj)) (J : (Str → Option Value) → List (Addr × Obj) → Prop) (s : Shared) (f : Flow) (s₂ : Shared) : Prop :=
  f = .next ∧ ∃ h' tk' m' n', s₂ = { s with heap := h', toks := tk' } ∧ Fr h₀ L h' m' ∧ News h₀ L h' (own ++ n') ∧ J m' n'
theorem TurnN.intro {h₀ h' : Heap} {L : Addr} {own n' : List (Addr × Obj)} {J : (Str → Option Value) → List (Addr × Obj) → Prop} {s : Shared} {tk' : Nat} {m' : Str → Option Value} (F : Fr h₀ L h' m') (N : News h₀ L h' (own ++ n')) (j : J m' n') : TurnN h₀ L own J s .next { s with heap := h', toks := tk' } :=
  ⟨rfl, h', tk', m', n', rfl, F, N, j⟩
theorem range_VN {r : Addr} {a b c : Int} {n : Nat} {t u v : Tok} {m₀ : Str → Option Value} {news : List (Addr × Obj)} (adr : List Addr) (hh : A.handled = none) (R : IsRange s.heap r a b c t u v) (hs : Builtin.Range.small a b c = true) (hn : Builtin.Range.rangeSize a b c = (n : Int)) (F : Fr h₀ env.locals s.heap m₀) (N : News h₀ env.locals s.heap news)
    (J : Nat → (Str → Option Value) → List (Addr × Obj) → Prop) (hadr : ∀ i m n1, J i m n1 → n1.map (·.1) = adr) (j0 : J 0 m₀ news)
    (turn : ∀ (i : Nat) t m₁ n1 h tk own, i < n → J i m₁ n1 → (∀ p ∈ own, ∀ q ∈ n1, p.1 ≠ q.1) → Fr h₀ env.locals h (fun y => if y = x then some (.int (a + (i : Int) * c) t) else m₁ y) → News h₀ env.locals h (own ++ n1) →
      wpAny (model prog w) A (execs body env) (TurnN h₀ env.locals own (J (i + 1)) { s with heap := h, toks := tk }) E { s with heap := h, toks := tk })
    (done : ∀ h tk m' n', Fr h₀ env.locals h m' → News h₀ env.locals h n' → J n m' n' → Q .next { s with heap := h, toks := tk }) :
    wpAny (model prog w) A (pyIter (.ref r)) (fun it s₂ => LoopAtV prog w A h₀ env x body Q E it s₂) E s := by
  refine wpAny_pyIter_range R hs ?_
  have W := Walks.range (prog := prog) (w := w) hh s.heap.objs.size a c n
  refine ⟨_, _, _, n, _, _, m₀, news, J, rfl, W, ?_, ?_, ?_, ?_, F.push _, (fun p hp => ⟨Heap.get?_push_of_some _ (N p hp).1, (N p hp).2⟩), j0, ?_, ?_⟩
  · intro hm
    exact absurd F.ns.lt ((List.mem_singleton.mp hm) ▸ Nat.lt_irrefl _)
  · intro b hb
    rw [List.mem_singleton.mp hb]
    exact next_is_new F
  · intro p hp hI
    exact absurd (Heap.lt_size (N p hp).1) ((List.mem_singleton.mp hI) ▸ Nat.lt_irrefl _)
  · show IsRangeIter _ _ _ _ _
    rw [hn]
    simpa using Heap.get?_push_size _ rfl
  · rintro i v m₁ news₁ s₁ own ⟨hh', tk', rfl⟩ hin ⟨tv, hP⟩ hJ hoff hown _ _ _ F₁ N₁
    subst hP
    refine wpAny_mono (turn i tv m₁ news₁ hh' tk' own hin hJ (fun p hp q hq e => hoff q hq (e ▸ hown p hp)) F₁ N₁) (fun f s₂ p => ?_) fun _ _ e => e
    obtain ⟨rfl, h', tk, m', n', e, F', N', hj⟩ := p
    refine ⟨rfl, h', tk, m', n', e, F', N', fun p hp hI => ?_, hj⟩
    have : p.1 ∈ news₁.map (·.1) := by
      rw [hadr _ _ _ hJ, ← hadr _ _ _ hj]
      exact List.mem_map_of_mem hp
    obtain ⟨q, hq, e2⟩ := List.mem_map.mp this
    exact hoff q hq (e2 ▸ hI)
  · rintro h' tk m' news' F' N' _ hJ
    exact done h' tk m' news' F' N' hJ
end
end Mine
end

-- part H1
section
open PySem PySem.W PyProof.Rows PySem.Calls
set_option Elab.async false
set_option maxRecDepth 100000
set_option maxHeartbeats 0
set_option linter.unusedVariables false
namespace Mine
/-- k_steps stops here -/
def Hold (p : Prop) : Prop := p
theorem execs_hold {M : Model} {A : Around} {E : Value → Shared → Prop} {s : Shared} {env : Env} {st : Stmt} {rest : List Stmt} {Q : Flow → Shared → Prop} (h : wpAny M A (exec st env) (fun f s' => match f with | .next => Hold (wpAny M A (execs rest env) Q E s') | f => Q f s') E s) : wpAny M A (execs (st :: rest) env) Q E s := wpAny_execs_cons h
/-- the figures of n in base 16, as the letters from A on -/
def apL : Nat → Nat → List UInt8
  | 0, _ => []
  | k + 1, n => if n = 0 then [] else apL k (n / 16) ++ [(65 + n % 16).toUInt8]
section
variable {w : World} {A : Around} {E : Value → Shared → Prop} {s : Shared} {mg mb : Str → Option Value}
local macro_rules | `(tactic| walk_at "eval Name") => `(tactic| (k_dflt (refine' name_K ?F ?X ?T ?e ?_; (case F => k_asm); (case X => k_asm); (case T => k_asm); (case e => first | exact nm_quoted | exact nm_paren_depth | exact nm_twin_re_1 | exact nm_twin_re_2 | exact nm_law_numbers | exact nm_Accumulator | exact nm_law_sent | exact nm_byteswap | exact nm_Int2AP | exact nm_law_number_of_depths | exact nm_quote_periods | exact nm_fix_eols | exact nm_CRLF); k_whole)))
local macro_rules | `(tactic| walk_at "eval Name") => `(tactic| (k_dflt (refine' name_B ?F ?X ?T ?e ?v ?n ?_; (case F => k_asm); (case X => k_asm); (case T => k_asm); (case e => first | exact nb_enumerate | exact nb_range | exact nb_bytearray | exact nb_len | exact nb_bytes | exact nb_sum | exact nb_str | exact nb_int | exact nb_abs | exact nb_divmod | exact nb_super); (case v => boot_by_name); (case n => decide); k_whole)))
local macro_rules | `(tactic| walk_at "getMethod ref") => `(tactic| (k_dflt (refine' get_subK ?F ?X ?e ?_; (case F => k_asm); (case X => k_asm); (case e => first | exact pat145 | exact pat150 | exact pat43); k_whole)))
local macro_rules | `(tactic| walk_at "callWith ref") => `(tactic| (k_dflt (first
  | (refine' callWith_K ?k1 ?k2 ?_; (case k1 => k_asm); (case k2 => rfl); k_whole)
  | (refine' callWith_K0 ?k1 ?k2 ?_; (case k1 => k_in); (case k2 => rfl); k_whole))))

abbrev apB : Array UInt8 := ([65, 66, 67, 68, 69, 70, 71, 72, 73, 74, 75, 76, 77, 78, 79, 80] : List UInt8).toArray
theorem ap_pick : ∀ r : Nat, r < 16 → KBy.whole apB (some (r : Int)) (some ((r : Int) + 1)) = false ∧ KBy.picked apB (some (r : Int)) (some ((r : Int) + 1)) = [(65 + r).toUInt8].toArray := by decide +kernel
theorem apL_succ (k n : Nat) : apL (k + 1) n = if n = 0 then [] else apL k (n / 16) ++ [(65 + n % 16).toUInt8] := rfl
theorem apL_len : ∀ (k n : Nat), (apL k n).length ≤ k
  | 0, n => Nat.le_refl _
  | k + 1, n => by
    rw [apL_succ k n]
    split
    · exact Nat.zero_le _
    · have := apL_len k (n / 16)
      simp only [List.length_append, List.length_cons, List.length_nil]
      omega
theorem apL_small : ∀ (k n : Nat), n < 16 ^ k → apL (k + 1) n = apL k n
  | 0, n, h => by
    have : n = 0 := by simpa using h
    subst this; rfl
  | k + 1, n, h => by
    rw [apL_succ (k + 1) n, apL_succ k n]
    by_cases e : n = 0
    · rw [if_pos e, if_pos e]
    · rw [if_neg e, if_neg e, apL_small k (n / 16) (by rw [Nat.pow_succ] at h; omega)]
theorem apL_step {k : Nat} (h : k < 16 ^ 8) (h0 : k ≠ 0) : apL 8 k = apL 8 (k / 16) ++ [(65 + k % 16).toUInt8] := by
  rw [apL_small 7 (k / 16) (by have : (16 : Nat) ^ 8 = 16 ^ 7 * 16 := rfl; omega)]
  rw [apL_succ 7, if_neg h0]
theorem ap_c {n : Nat} {t : Tok} {Q : Value → Shared → Prop} (G : Gd w mg mb s.heap) (hroom : A.depth < recursionLimit) (hh : A.handled = none) (hn : n < 16 ^ 8)
    (h : ∀ h' t' k, Grow s.heap h' → Q (.bytes (apL 8 n).toArray t') { s with heap := h', toks := k }) :
  wpAny (model prg w) A (call (.ref 58) [.int n t]) Q E s := by
  refine wpAny_call ?_
  refine' enter G ?ho ?hcd hroom ?hb ?hl ?_ ?c1 ?c2 ?c3 ?c4
  case ho => exact rfl
  case hcd => rfl
  case hb => exact BindsTo.of_eq rfl
  case hl => exact locs rfl
  case c1 => exact rfl
  case c2 => exact rfl
  case c3 => exact rfl
  case c4 => decide
  intro L' h₁ F
  obtain ⟨X, T⟩ := G
  have N0 : News s.heap L' h₁ [] := News.nil
  refine execs_hold ?_
  k_steps
  refine execs_hold ?_
  k_steps
  refine execs_hold ?_
  k_steps
  unfold Hold
  rename Fr _ _ _ _ => F9
  refine wpAny_execs_cons (wpAny_While ?_)
  refine codeAny_whileLoop (fun k s' => ∃ h' tk v tv tn ta m', s' = { s with heap := h', toks := tk } ∧ Fr s.heap L' h' m' ∧ m' (Str.ofString "val") = some (.bytes (List.toArray v) tv) ∧ m' (Str.ofString "num") = some (.int (k : Nat) tn) ∧ m' (Str.ofString "AP") = some (.bytes ([65, 66, 67, 68, 69, 70, 71, 72, 73, 74, 75, 76, 77, 78, 79, 80] : List UInt8).toArray ta) ∧ k < 16 ^ 8 ∧ apL 8 n = apL 8 k ++ v) ?_ n ?_
  · rintro k s' ⟨h', tk, v, tv, tn, ta, m', rfl, F, e1, e2, e3, hk, hv⟩
    rw [form e1] at F
    rw [form e2] at F
    rw [form e3] at F
    have N1 : News s.heap L' h' [] := News.nil
    by_cases hk0 : k = 0
    · subst hk0
      k_steps
      have hv0 : apL 8 n = v := hv
      rw [← hv0]
      exact h _ tv _ fun b o e => F.keep b o e
    · k_steps
      · rename Fr _ _ _ _ => F2
        rename News _ _ _ _ => N2
        have hT := (N2 _ (.head _)).1
        refine wpAny_assign_Tuple hh ⟨_, hT, rfl, _, rfl⟩ rfl rfl fun h3 hx3 => ?_
        have F3 := F2.keeps fun b o e => hx3 b o (Nat.ne_of_lt (Heap.lt_size e)) e
        refine wpAny_bind (wpAny_holding (wpAny_assign_Name (wpAny_storeName_local rfl F3.ns (fun h4 hn4 hs4 => ?_) rfl)))
        have F4 := F3.set hn4 hs4
        refine wpAny_bind (wpAny_holding (wpAny_assign_Name (wpAny_storeName_local rfl F4.ns (fun h5 hn5 hs5 => wpAny_pure ?_) rfl)))
        have F5 := F4.set hn5 hs5
        have N5 : News s.heap L' h5 [] := News.nil
        clear F F2 F3 F4 F9 N2
        k_steps
        rename Fr _ _ _ _ => F6
        rename News _ _ _ _ => N6
        have hmod : (k : Int).fmod 16 = ((k % 16 : Nat) : Int) := by rw [Int.fmod_eq_emod_of_nonneg _ (by decide)]; omega
        have hp := ap_pick (k % 16) (Nat.mod_lt _ (by decide))
        rw [← hmod] at hp
        refine KBy.slice_N (s := ⟨_, _, _, _, _⟩) F6 N6 (.int _ _) (.int _ _) hp.1 (by rw [hp.2]; show (1 : Nat) ≤ _; decide) ?_
        intro h7 t7 k7 F7 N7
        rw [hp.2]
        clear F6 N6
        k_steps
        have hvl : v.length ≤ 8 := by
          have h1 := apL_len 8 n
          rw [hv, List.length_append] at h1
          omega
        refine bytes_add_K (b := [(65 + k % 16).toUInt8]) (c := v) (by simp; omega) rfl fun t8 k8 => ?_
        refine wpAny_storeName_local rfl F7.ns (fun h8 hn8 hs8 => ?_) rfl
        have F8 := F7.set hn8 hs8
        refine wpAny_execs_nil ?_
        have hdiv : (k : Int).fdiv 16 = ((k / 16 : Nat) : Int) := by rw [Int.fdiv_eq_ediv_of_nonneg _ (by decide)]; omega
        rw [hdiv] at F8
        exact ⟨k / 16, by omega, h8, _, [(65 + k % 16).toUInt8] ++ v, _, _, _, _, rfl, F8, rfl, rfl, rfl, by omega, by rw [hv, apL_step hk hk0, List.append_assoc]⟩
      · exact absurd (Int.ofNat.inj (by assumption)) hk0
  · trace_state
    exact ⟨_, _, [], _, _, _, _, rfl, F9, rfl, rfl, rfl, hn, (List.append_nil _).symm⟩
end
end Mine
end

-- part H2
section
open PySem PySem.W PyProof.Rows PySem.Calls
set_option Elab.async false
set_option maxRecDepth 100000
set_option maxHeartbeats 0
set_option linter.unusedVariables false
namespace Mine
section
variable {w : World} {A : Around} {E : Value → Shared → Prop} {s : Shared} {mg mb : Str → Option Value}
local macro_rules | `(tactic| walk_at "eval Name") => `(tactic| (k_dflt (refine' name_K ?F ?X ?T ?e ?_; (case F => k_asm); (case X => k_asm); (case T => k_asm); (case e => first | exact nm_quoted | exact nm_paren_depth | exact nm_twin_re_1 | exact nm_twin_re_2 | exact nm_law_numbers | exact nm_Accumulator | exact nm_law_sent | exact nm_byteswap | exact nm_Int2AP | exact nm_law_number_of_depths | exact nm_quote_periods | exact nm_fix_eols | exact nm_CRLF); k_whole)))
local macro_rules | `(tactic| walk_at "eval Name") => `(tactic| (k_dflt (refine' name_B ?F ?X ?T ?e ?v ?n ?_; (case F => k_asm); (case X => k_asm); (case T => k_asm); (case e => first | exact nb_enumerate | exact nb_range | exact nb_bytearray | exact nb_len | exact nb_bytes | exact nb_sum | exact nb_str | exact nb_int | exact nb_abs | exact nb_divmod | exact nb_super); (case v => boot_by_name); (case n => decide); k_whole)))
local macro_rules | `(tactic| walk_at "getMethod ref") => `(tactic| (k_dflt (refine' get_subK ?F ?X ?e ?_; (case F => k_asm); (case X => k_asm); (case e => first | exact pat145 | exact pat150 | exact pat43); k_whole)))
local macro_rules | `(tactic| walk_at "callWith ref") => `(tactic| (k_dflt (first
  | (refine' callWith_K ?k1 ?k2 ?_; (case k1 => k_asm); (case k2 => rfl); k_whole)
  | (refine' callWith_K0 ?k1 ?k2 ?_; (case k1 => k_in); (case k2 => rfl); k_whole))))

theorem unhold {p : Prop} (h : p) : Hold p := h
theorem If_hold {M : Model} {env : Env} {test body orelse pos} {Q : Flow → Shared → Prop}
    (h : wpAny M A (isTrue test env (eval test env))
      (fun b s₂ => Hold (if b then wpAny M A (execs body env) Q E s₂ else wpAny M A (execs orelse env) Q E s₂)) E s) :
    wpAny M A (exec (.If test body orelse pos) env) Q E s := wpAny_If h
theorem Bin_hold {M : Model} {env : Env} {l op r pos} {Q : Value → Shared → Prop}
    (h : wpAny M A (eval l env) (fun a s₁ => Hold (wpAny M A (eval r env) (fun b s₂ => Hold (wpAny M A (binaryOp op a b) Q E s₂)) E s₁)) E s) :
    wpAny M A (eval (.BinOp l op r pos) env) Q E s := wpAny_BinOp h
theorem pick4a (a b c d : Int) : pickNums [a, b, c, d] (some 0) none (some 2) = [a, c] := by
  show (sliceRange (sliceBounds (some 0) none (some 2) 4).1 (sliceBounds (some 0) none (some 2) 4).2.1 (sliceBounds (some 0) none (some 2) 4).2.2).filterMap ([a, b, c, d][·]?) = _
  rw [show sliceRange (sliceBounds (some 0) none (some 2) 4).1 (sliceBounds (some 0) none (some 2) 4).2.1 (sliceBounds (some 0) none (some 2) 4).2.2 = [0, 2] from by decide +kernel]
  rfl
theorem pick4b (a b c d : Int) : pickNums [a, b, c, d] (some 1) none (some 2) = [b, d] := by
  show (sliceRange (sliceBounds (some 1) none (some 2) 4).1 (sliceBounds (some 1) none (some 2) 4).2.1 (sliceBounds (some 1) none (some 2) 4).2.2).filterMap ([a, b, c, d][·]?) = _
  rw [show sliceRange (sliceBounds (some 1) none (some 2) 4).1 (sliceBounds (some 1) none (some 2) 4).2.1 (sliceBounds (some 1) none (some 2) 4).2.2 = [1, 3] from by decide +kernel]
  rfl
theorem nl {h₀ h : Heap} {L D : Addr} {items : Array Value} {own : List (Addr × Obj)} (N : News h₀ L h ((D, { cls := .type "list", data := .seq items }) :: own)) : h.IsList D (items.toList).toArray := ⟨_, (N _ (.head _)).1, rfl, 0, rfl⟩

theorem nod4_c {l : Addr} {vs : List Value} {a b c d : Int} {Q : Value → Shared → Prop} (G : Gd w mg mb s.heap) (hroom : A.depth < recursionLimit) (hh : A.handled = none) (hl : s.heap.IsList l vs.toArray) (hi : IntsAre vs [a, b, c, d])
    (h : ∀ h' x t' k, Grow s.heap h' → x = (16 * (a + c) + (b + d)) * 257 → Q (.int x t') { s with heap := h', toks := k }) :
  wpAny (model prg w) A (call (.ref 192) [.ref l]) Q E s := by
  refine wpAny_call ?_
  refine' enter G ?ho ?hcd hroom ?hb ?hl ?_ ?c1 ?c2 ?c3 ?c4
  case ho => exact rfl
  case hcd => rfl
  case hb => exact BindsTo.of_eq rfl
  case hl => exact locs rfl
  case c1 => exact rfl
  case c2 => exact rfl
  case c3 => exact rfl
  case c4 => decide
  intro L' h₁ F
  obtain ⟨X, T⟩ := G
  have N0 : News s.heap L' h₁ [] := News.nil
  refine execs_hold ?_
  k_steps
  refine execs_hold ?_
  k_steps
  unfold Hold
  rename Fr _ _ _ _ => F9
  rw [show ((16 : Int) ^ (((1 + 1 + 1 + 1 : Nat) : Int)).toNat - 1) = 65535 from rfl] at F9
  rw [show (((1 + 1 + 1 + 1 : Nat) : Int)) = 4 from rfl] at F9
  refine wpAny_execs_cons ?_
  refine If_hold ?_
  k_steps
  refine unhold ?_
  rw [if_pos (by decide)]
  refine wpAny_execs_cons ?_
  refine wpAny_Return_some ?_
  refine Bin_hold ?_
  refine Bin_hold ?_
  refine Bin_hold ?_
  k_steps
  refine unhold ?_
  k_steps
  rename News _ _ _ [_] => N1
  rename Fr _ _ _ _ => F1
  clear F9
  have i1 := IntsAre.pick hi (some 0) none (some 2)
  rw [pick4a] at i1
  refine sumK hh F1 N1 (nl N1) i1 fun h2 k2 t2 F2 N2 => ?_
  clear F1 N1
  refine unhold ?_
  refine mul_int ?_ (IntMulOk.of_left (by decide +kernel))
  refine unhold ?_
  k_steps
  rename News _ _ _ [_, _] => N3
  rename Fr _ _ _ _ => F3
  have i2 := IntsAre.pick hi (some 1) none (some 2)
  rw [pick4b] at i2
  refine sumK hh F3 N3 (nl N3) i2 fun h4 k4 t4 F4 N4 => ?_
  refine unhold ?_
  refine add_int ?_
  refine unhold ?_
  clear F3 F2
  k_steps
  refine unhold ?_
  refine mul_int ?_ (IntMulOk.of_right (by decide +kernel))
  refine h _ _ _ _ (fun b o e => by have F := ‹Fr _ _ _ _›; exact F.keep b o e) ?_
  simp only [List.sum_cons, List.sum_nil, Int.add_zero]
  rfl
end
end Mine
end

-- part H3
section
open PySem PySem.W PyProof.Rows PySem.Calls
set_option Elab.async false
set_option maxRecDepth 100000
set_option maxHeartbeats 0
set_option linter.unusedVariables false
namespace Mine
section
variable {w : World} {A : Around} {E : Value → Shared → Prop} {s : Shared} {mg mb : Str → Option Value}
local macro_rules | `(tactic| walk_at "eval Name") => `(tactic| (k_dflt (refine' name_K ?F ?X ?T ?e ?_; (case F => k_asm); (case X => k_asm); (case T => k_asm); (case e => first | exact nm_quoted | exact nm_paren_depth | exact nm_twin_re_1 | exact nm_twin_re_2 | exact nm_law_numbers | exact nm_Accumulator | exact nm_law_sent | exact nm_byteswap | exact nm_Int2AP | exact nm_law_number_of_depths | exact nm_quote_periods | exact nm_fix_eols | exact nm_CRLF); k_whole)))
local macro_rules | `(tactic| walk_at "eval Name") => `(tactic| (k_dflt (refine' name_B ?F ?X ?T ?e ?v ?n ?_; (case F => k_asm); (case X => k_asm); (case T => k_asm); (case e => first | exact nb_enumerate | exact nb_range | exact nb_bytearray | exact nb_len | exact nb_bytes | exact nb_sum | exact nb_str | exact nb_int | exact nb_abs | exact nb_divmod | exact nb_super); (case v => boot_by_name); (case n => decide); k_whole)))
local macro_rules | `(tactic| walk_at "getMethod ref") => `(tactic| (k_dflt (refine' get_subK ?F ?X ?e ?_; (case F => k_asm); (case X => k_asm); (case e => first | exact pat145 | exact pat150 | exact pat43); k_whole)))
local macro_rules | `(tactic| walk_at "callWith ref") => `(tactic| (k_dflt (first
  | (refine' callWith_K ?k1 ?k2 ?_; (case k1 => k_asm); (case k2 => rfl); k_whole)
  | (refine' callWith_K0 ?k1 ?k2 ?_; (case k1 => k_in); (case k2 => rfl); k_whole))))

section
variable {prog : Program} {env : Env} {h₀ : Heap} {x : Str} {body : List Stmt} {Q : Flow → Shared → Prop}
/-- a loop over a list of the base that changes the frame alone -/
theorem list_V {l : Addr} {items : Array Value} {m₀ : Str → Option Value} {news : List (Addr × Obj)} (hh : A.handled = none) (hl0 : h₀.IsList l items) (F : Fr h₀ env.locals s.heap m₀) (N : News h₀ env.locals s.heap news)
    (J : Nat → (Str → Option Value) → Prop) (j0 : J 0 m₀)
    (turn : ∀ i v m₁ h tk own, items[i]? = some v → J i m₁ → Fr h₀ env.locals h (fun y => if y = x then some v else m₁ y) → News h₀ env.locals h (own ++ news) →
      wpAny (model prog w) A (execs body env) (TurnEnd h₀ env.locals (own ++ news) (J (i + 1)) { s with heap := h, toks := tk }) E { s with heap := h, toks := tk })
    (done : ∀ h tk m', Fr h₀ env.locals h m' → News h₀ env.locals h news → J items.size m' → Q .next { s with heap := h, toks := tk }) :
    wpAny (model prog w) A (pyIter (.ref l)) (fun it s₂ => LoopAtV prog w A h₀ env x body Q E it s₂) E s := by
  have hls : s.heap.IsList l items := hl0.at fun o e => F.keep l o e
  obtain ⟨ol, hol, _⟩ := id hl0
  have hlt : l < h₀.objs.size := Heap.lt_size hol
  have hne : l ≠ s.heap.objs.size := Nat.ne_of_lt (Nat.lt_trans (Nat.lt_of_lt_of_le hlt F.above) F.ns.lt)
  refine wpAny_pyIter_list hls ?_
  have W := Walks.list (prog := prog) (w := w) hh s.heap.objs.size l hne items
  refine ⟨_, _, _, items.size, _, _, m₀, news, (fun i m₁ news₁ => news₁ = news ∧ J i m₁), rfl, W, ?_, ?_, ?_, ⟨⟨_, Heap.get?_push_size _ rfl, rfl, rfl⟩, hls.at fun o e => Heap.get?_push_of_some _ e⟩, F.push _, (fun p hp => ⟨Heap.get?_push_of_some _ (N p hp).1, (N p hp).2⟩), ⟨rfl, j0⟩, ?_, ?_⟩
  · intro hm
    rcases List.mem_cons.mp hm with e | hm
    · exact absurd F.ns.lt (e ▸ Nat.lt_irrefl _)
    · exact absurd (Nat.lt_of_lt_of_le hlt F.above) ((List.mem_singleton.mp hm) ▸ Nat.lt_irrefl _)
  · intro b hb
    rw [List.mem_singleton.mp hb]
    exact next_is_new F
  · intro p hp hI
    exact absurd (Heap.lt_size (N p hp).1) ((List.mem_singleton.mp hI) ▸ Nat.lt_irrefl _)
  · rintro i v m₁ news₁ s₁ own ⟨hh', tk', rfl⟩ hin hP ⟨rfl, hJ⟩ hoff _ _ _ _ F₁ N₁
    refine wpAny_mono (turn i v m₁ hh' tk' own hP hJ F₁ N₁) (fun f s₂ p => ?_) fun _ _ e => e
    obtain ⟨rfl, h', tk, m', e, F', N', hj⟩ := p
    exact ⟨rfl, h', tk, m', news₁, e, F', N', hoff, rfl, hj⟩
  · rintro h' tk m' news' F' N' _ ⟨rfl, hJ⟩
    exact done h' tk m' F' N' hJ
end
theorem mul_lit {prog : Program} {a b k : Int} {t u : Tok} {Q : Value → Shared → Prop} (e : b = k) (hm : IntMulOk a k) (h : Q (.int (a * k) s.toks) { s with toks := s.toks + 1 }) : wpAny (model prog w) A (binaryOp .Mult (.int a t) (.int b u)) Q E s := by
  subst e; exact mul_int h hm
theorem pow_lit {prog : Program} {a n k : Int} {m : Nat} {t u : Tok} {Q : Value → Shared → Prop} (e : n = m) (hm : n ≤ 1000000) (ha : a.natAbs < 2 ^ 64) (ek : a ^ m = k) (h : Q (.int k s.toks) { s with toks := s.toks + 1 }) : wpAny (model prog w) A (binaryOp .Pow (.int a t) (.int n u)) Q E s := by
  refine pow_int_small (by omega) hm ha ?_
  rw [e, Int.toNat_natCast, ek]
  exact h
def figF (S : Int) (l : List Int) : Int := l.foldl (fun f n => 16 * f + n + S) 0
theorem figF_take {S : Int} {ns : List Int} {i : Nat} {n : Int} (h : ns[i]? = some n) : figF S (ns.take (i + 1)) = 16 * figF S (ns.take i) + n + S := by
  rw [List.take_add_one, h]
  simp [figF, List.foldl_append]

theorem nod3_c {l : Addr} {vs : List Value} {a b c : Int} {Q : Value → Shared → Prop} (G : Gd w mg mb s.heap) (hroom : A.depth < recursionLimit) (hh : A.handled = none) (hl : s.heap.IsList l vs.toArray) (hi : IntsAre vs [a, b, c])
    (h : ∀ h' x t' k, Grow s.heap h' → x = (figF [a, b, c].sum [a, b, c] * 241 * 2048).fmod 4095 → Q (.int x t') { s with heap := h', toks := k }) :
  wpAny (model prg w) A (call (.ref 192) [.ref l]) Q E s := by
  refine wpAny_call ?_
  refine' enter G ?ho ?hcd hroom ?hb ?hl ?_ ?c1 ?c2 ?c3 ?c4
  case ho => exact rfl
  case hcd => rfl
  case hb => exact BindsTo.of_eq rfl
  case hl => exact locs rfl
  case c1 => exact rfl
  case c2 => exact rfl
  case c3 => exact rfl
  case c4 => decide
  intro L' h₁ F
  obtain ⟨X, T⟩ := G
  have N0 : News s.heap L' h₁ [] := News.nil
  refine execs_hold ?_
  k_steps
  refine execs_hold ?_
  k_steps
  unfold Hold
  rename Fr _ _ _ _ => F9
  rw [show ((16 : Int) ^ (((1 + 1 + 1 : Nat) : Int)).toNat - 1) = 4095 from rfl] at F9
  rw [show (((1 + 1 + 1 : Nat) : Int)) = 3 from rfl] at F9
  refine wpAny_execs_cons ?_
  refine If_hold ?_
  k_steps
  refine unhold ?_
  rw [if_neg (by decide)]
  refine wpAny_execs_nil ?_
  dsimp only
  refine execs_hold ?_
  k_steps
  refine unhold ?_
  refine wpAny_execs_cons ?_
  rename News _ _ _ _ => N
  rename Fr _ _ _ _ => F
  refine For_invV s.heap rfl rfl ?_ (fun _ => rfl)
  refine wpAny_Name (wpAny_loadName_local rfl rfl F.ns rfl ?_) (by decide)
  refine list_V hh hl F N (fun i m => ∃ t t1 t2, m (Str.ofString "figures") = some (.int (figF [a, b, c].sum ([a, b, c].take i)) t) ∧ m (Str.ofString "dots") = some (.ref l) ∧ m (Str.ofString "whole") = some (.int 4095 t1) ∧ m (Str.ofString "size") = some (.int 3 t2)) ⟨_, _, _, rfl, rfl, rfl, rfl⟩ ?_ ?_
  · rintro i v m₁ h5 tk5 own hv ⟨t, t1, t2, e1, e2, e3, e4⟩ F₁ N₁
    rw [form e1] at F₁
    rw [form e2] at F₁
    rw [form e3] at F₁
    rw [form e4] at F₁
    obtain ⟨n, tn, rfl, hn⟩ := hi.at i v (by simpa using hv)
    refine wpAny_execs_cons ?_
    refine wpAny_Assign_Name ?_
    refine Bin_hold ?_
    refine Bin_hold ?_
    refine Bin_hold ?_
    k_steps
    refine unhold ?_
    k_steps
    refine unhold ?_
    refine mul_int ?_ (IntMulOk.of_left (by decide +kernel))
    refine unhold ?_
    k_steps
    refine unhold ?_
    refine add_int ?_
    refine unhold ?_
    k_steps
    refine sumK hh F₁ N₁ (hl.at fun o e => F₁.keep l o e) hi fun h9 k9 t9 F9 N9 => ?_
    refine unhold ?_
    refine add_int ?_
    refine wpAny_storeName_local rfl F9.ns (fun h8 hn8 hs8 => ?_) rfl
    have F8 := F9.set hn8 hs8
    have N8 := News.set N9 hs8
    refine wpAny_execs_nil ?_
    exact TurnEnd.intro F8 N8 ⟨_, _, _, (congrArg some (congrFun (congrArg Value.int (figF_take hn).symm) _)), rfl, rfl, rfl⟩
  · rintro h5 tk5 m₁ F₁ N₁ ⟨t, t1, t2, e1, e2, e3, e4⟩
    rw [form e1] at F₁
    rw [form e2] at F₁
    rw [form e3] at F₁
    rw [form e4] at F₁
    refine wpAny_execs_cons ?_
    refine wpAny_Return_some ?_
    refine Bin_hold ?_
    refine Bin_hold ?_
    refine Bin_hold ?_
    k_steps
    refine unhold ?_
    k_steps
    refine mul_lit (k := 241) (by decide +kernel) (IntMulOk.of_right (by decide +kernel)) ?_
    refine unhold ?_
    refine Bin_hold ?_
    k_steps
    refine unhold ?_
    k_steps
    refine unhold ?_
    refine pow_lit (m := 11) (k := 2048) (by decide +kernel) (by decide) (by decide) (by decide +kernel) ?_
    refine unhold ?_
    refine mul_int ?_ (IntMulOk.of_right (by decide +kernel))
    refine unhold ?_
    refine wpAny_Name (wpAny_loadName_local rfl rfl F₁.ns rfl ?_) (by decide)
    refine unhold ?_
    refine mod_int' (by decide) ?_
    refine h _ _ _ _ (fun b o e => F₁.keep b o e) ?_
    rw [List.take_of_length_le (by simp [hi.length])]

theorem nod5_c {l : Addr} {vs : List Value} {a b c d e : Int} {Q : Value → Shared → Prop} (G : Gd w mg mb s.heap) (hroom : A.depth < recursionLimit) (hh : A.handled = none) (hl : s.heap.IsList l vs.toArray) (hi : IntsAre vs [a, b, c, d, e])
    (h : ∀ h' x t' k, Grow s.heap h' → x = (figF [a, b, c, d, e].sum [a, b, c, d, e] * 61681 * 524288).fmod 1048575 → Q (.int x t') { s with heap := h', toks := k }) :
  wpAny (model prg w) A (call (.ref 192) [.ref l]) Q E s := by
  refine wpAny_call ?_
  refine' enter G ?ho ?hcd hroom ?hb ?hl ?_ ?c1 ?c2 ?c3 ?c4
  case ho => exact rfl
  case hcd => rfl
  case hb => exact BindsTo.of_eq rfl
  case hl => exact locs rfl
  case c1 => exact rfl
  case c2 => exact rfl
  case c3 => exact rfl
  case c4 => decide
  intro L' h₁ F
  obtain ⟨X, T⟩ := G
  have N0 : News s.heap L' h₁ [] := News.nil
  refine execs_hold ?_
  k_steps
  refine execs_hold ?_
  k_steps
  unfold Hold
  rename Fr _ _ _ _ => F9
  rw [show ((16 : Int) ^ (((1 + 1 + 1 + 1 + 1 : Nat) : Int)).toNat - 1) = 1048575 from rfl] at F9
  rw [show (((1 + 1 + 1 + 1 + 1 : Nat) : Int)) = 5 from rfl] at F9
  refine wpAny_execs_cons ?_
  refine If_hold ?_
  k_steps
  refine unhold ?_
  rw [if_neg (by decide)]
  refine wpAny_execs_nil ?_
  dsimp only
  refine execs_hold ?_
  k_steps
  refine unhold ?_
  refine wpAny_execs_cons ?_
  rename News _ _ _ _ => N
  rename Fr _ _ _ _ => F
  refine For_invV s.heap rfl rfl ?_ (fun _ => rfl)
  refine wpAny_Name (wpAny_loadName_local rfl rfl F.ns rfl ?_) (by decide)
  refine list_V hh hl F N (fun i m => ∃ t t1 t2, m (Str.ofString "figures") = some (.int (figF [a, b, c, d, e].sum ([a, b, c, d, e].take i)) t) ∧ m (Str.ofString "dots") = some (.ref l) ∧ m (Str.ofString "whole") = some (.int 1048575 t1) ∧ m (Str.ofString "size") = some (.int 5 t2)) ⟨_, _, _, rfl, rfl, rfl, rfl⟩ ?_ ?_
  · rintro i v m₁ h5 tk5 own hv ⟨t, t1, t2, e1, e2, e3, e4⟩ F₁ N₁
    rw [form e1] at F₁
    rw [form e2] at F₁
    rw [form e3] at F₁
    rw [form e4] at F₁
    obtain ⟨n, tn, rfl, hn⟩ := hi.at i v (by simpa using hv)
    refine wpAny_execs_cons ?_
    refine wpAny_Assign_Name ?_
    refine Bin_hold ?_
    refine Bin_hold ?_
    refine Bin_hold ?_
    k_steps
    refine unhold ?_
    k_steps
    refine unhold ?_
    refine mul_int ?_ (IntMulOk.of_left (by decide +kernel))
    refine unhold ?_
    k_steps
    refine unhold ?_
    refine add_int ?_
    refine unhold ?_
    k_steps
    refine sumK hh F₁ N₁ (hl.at fun o e => F₁.keep l o e) hi fun h9 k9 t9 F9 N9 => ?_
    refine unhold ?_
    refine add_int ?_
    refine wpAny_storeName_local rfl F9.ns (fun h8 hn8 hs8 => ?_) rfl
    have F8 := F9.set hn8 hs8
    have N8 := News.set N9 hs8
    refine wpAny_execs_nil ?_
    exact TurnEnd.intro F8 N8 ⟨_, _, _, (congrArg some (congrFun (congrArg Value.int (figF_take hn).symm) _)), rfl, rfl, rfl⟩
  · rintro h5 tk5 m₁ F₁ N₁ ⟨t, t1, t2, e1, e2, e3, e4⟩
    rw [form e1] at F₁
    rw [form e2] at F₁
    rw [form e3] at F₁
    rw [form e4] at F₁
    refine wpAny_execs_cons ?_
    refine wpAny_Return_some ?_
    refine Bin_hold ?_
    refine Bin_hold ?_
    refine Bin_hold ?_
    k_steps
    refine unhold ?_
    k_steps
    refine mul_lit (k := 61681) (by decide +kernel) (IntMulOk.of_right (by decide +kernel)) ?_
    refine unhold ?_
    refine Bin_hold ?_
    k_steps
    refine unhold ?_
    k_steps
    refine unhold ?_
    refine pow_lit (m := 19) (k := 524288) (by decide +kernel) (by decide) (by decide) (by decide +kernel) ?_
    refine unhold ?_
    refine mul_int ?_ (IntMulOk.of_right (by decide +kernel))
    refine unhold ?_
    refine wpAny_Name (wpAny_loadName_local rfl rfl F₁.ns rfl ?_) (by decide)
    refine unhold ?_
    refine mod_int' (by decide) ?_
    refine h _ _ _ _ (fun b o e => F₁.keep b o e) ?_
    rw [List.take_of_length_le (by simp [hi.length])]
end
end Mine
end

-- part G0
section
open PySem PySem.W PyProof.Rows PySem.Calls
set_option Elab.async false
set_option maxRecDepth 100000
set_option maxHeartbeats 0
set_option linter.unusedVariables false
namespace Mine
namespace FR
section
variable (w : World)
theorem f_push : findIn (Kf w) (.ref 136) "push" = some (some (.ref 82)) := by rfl
theorem f_pop_from : findIn (Kf w) (.ref 136) "pop_from" = some (some (.ref 90)) := by rfl
theorem f_reset : findIn (Kf w) (.ref 136) "reset" = some (some (.ref 119)) := by rfl
theorem f_str : findIn (Kf w) (.ref 136) "__str__" = some (some (.ref 111)) := by rfl
theorem f_init : findIn (Kf w) (.ref 136) "__init__" = some (some (.ref 75)) := by rfl
theorem f_append : findIn (Kf w) (.ref 136) "append" = some (some (.builtin "list.append")) := by kernel_rfl
theorem f_getattribute : findIn (Kf w) (.ref 136) "__getattribute__" = some (some (.builtin "list.__getattribute__")) := by kernel_rfl
theorem f_getattr : findIn (Kf w) (.ref 136) "__getattr__" = some none := by kernel_rfl
theorem f_setattr : findIn (Kf w) (.ref 136) "__setattr__" = some (some (.builtin "object.__setattr__")) := by kernel_rfl
theorem f_new : findIn (Kf w) (.ref 136) "__new__" = some (some (.builtin "list.__new__")) := by kernel_rfl
theorem f_iter : findIn (Kf w) (.ref 136) "__iter__" = some (some (.builtin "list.__iter__")) := by kernel_rfl
theorem f_getitem : findIn (Kf w) (.ref 136) "__getitem__" = some (some (.builtin "list.__getitem__")) := by kernel_rfl
theorem f_setitem : findIn (Kf w) (.ref 136) "__setitem__" = some (some (.builtin "list.__setitem__")) := by kernel_rfl
theorem s_call : specialIn (Kf w) (.ref 136) "__call__" = some (some (.builtin "type.__call__")) := by kernel_rfl
theorem i_type : instIn (Kf w) (.ref 136) (.type "type") = some true := by kernel_rfl
theorem s_list : subIn (Kf w) (.ref 136) (.type "list") = some true := by kernel_rfl
theorem s_self : subIn (Kf w) (.ref 136) (.ref 136) = some true := by kernel_rfl
theorem t_75 : typeIn (Kf w) (.ref 75) = some (.type "function") := by rfl
theorem t_82 : typeIn (Kf w) (.ref 82) = some (.type "function") := by rfl
theorem t_90 : typeIn (Kf w) (.ref 90) = some (.type "function") := by rfl
theorem t_111 : typeIn (Kf w) (.ref 111) = some (.type "function") := by rfl
theorem t_119 : typeIn (Kf w) (.ref 119) = some (.type "function") := by rfl
theorem canon : Manifest.canonical "list.__getattribute__" = "object.__getattribute__" := by decide +kernel
end
end FR
def ringO (d : Addr) (its : Array Value) (c : Nat) : Obj := { cls := .ref 136, dict := some d, data := .seq its c }
def initD (od : Obj) : Prop := ∃ hs tk v n, od = dictOf [⟨hs, .str (Str.ofString "_initial_size") tk, v⟩] n
section
variable {w : World} {A : Around} {E : Value → Shared → Prop} {s : Shared} {R : Result → Shared → Prop}
theorem new_core {h : Heap} {g : Array GenState} {dr : Drawn} {t : Nat} {os : OsState} (X : (Kf w).In h)
    (hq : codeAny (model prg w) (A.under (.builtin "type.__call__" ⟨[.ref 136], []⟩)) (.call (.ref 75) ⟨[.ref (h.objs.size + 1)], []⟩) (InitBack (h.objs.size + 1) R) ⟨(h.push emptyDict).push (ringO h.objs.size #[] 0), g, dr, t, os⟩) :
    codeAny (model prg w) A (.call (.ref 136) ⟨[], []⟩) R ⟨h, g, dr, t, os⟩ := by
  have made : Looks (model prg w) h (Bind.madeBy (.ref 136)) (some "list.__new__") := .of_peek X (by kernel_rfl)
  have self : Looks (model prg w) h (isSubtype (.ref 136) (.ref 136)) true := looks_subIn X (FR.s_self w)
  have call : Looks (model prg w) h (specialOf (.ref 136) "__call__") (some (.builtin "type.__call__")) := looks_specialIn X (FR.s_call w)
  have typ : Looks (model prg w) h (isInstance (.ref 136) (.type "type")) true := looks_instIn X (FR.i_type w)
  have hi : Looks (model prg w) h (typeLookup (.ref 136) "__init__") (some (.ref 75)) := looks_findIn X (FR.f_init w)
  have chk : Looks (model prg w) h (checkBuiltinCall "list.__new__" ⟨[.ref 136], []⟩) () := .of_peek X (by kernel_rfl)
  have ist : Looks (model prg w) h (isType (.ref 136)) true := .of_peek X (by kernel_rfl)
  have sub : Looks (model prg w) h (isSubtype (.ref 136) (.type "list")) true := looks_subIn X (FR.s_list w)
  have mro : Looks (model prg w) h (mroOf (.ref 136)) [.ref 136, .type "list", .type "object"] := .of_peek X (by kernel_rfl)
  obtain ⟨c1, d1, cd, sl, hC, hdel⟩ : ∃ c1 d1 cd sl, h.get? 136 = some ⟨c1, d1, .cls cd, sl⟩ ∧ cd.hasDel = false := ⟨_, _, _, _, X _ _ rfl, rfl⟩
  refine codeAny_of_tree ?_
  show wpAny _ _ (callAny (.ref 136) _) _ _ _
  refine nd_load hC ?_
  show wpAny _ _ (callAny.viaDunder (.ref 136) _) _ _ _
  unfold callAny.viaDunder
  refine wpAny_bind (call.at ?_)
  dsimp only
  rw [tc_bind]
  refine wpAny_bind (wpAny_pure (wpAny_bind (wpAny_pure ?_)))
  refine wpAny_pure (a := Fin.again (.call (.builtin "type.__call__") ⟨[.ref 136], []⟩)) (And.intro rfl ?_)
  refine codeAny_call_builtin_at (Code.quiet_builtin _ (by decide +kernel)) entry_typeCall (check_slot tc_kind tc_split typ (tc_args _ _ _) ?_)
  unfold Builtin.«type.__call__»
  repeat (first | simp only [List.isEmpty_cons, Bool.false_eq_true, if_false] | with_reducible refine wpAny_call ?_ | lk)
  refine codeAny_of_tree ?_
  show wpAny _ _ (do checkBuiltinCall "list.__new__" ⟨[.ref 136], []⟩; again (.builtin "list.__new__" ⟨[.ref 136], []⟩)) _ _ _
  refine wpAny_bind (chk.at (wpAny_pure ⟨plainId_quiet PySem.F.plain_list_new _, codeAny_builtin_stack PySem.F.entry_list_new rfl fun p st => ?_⟩))
  rw [Around.under_plainId PySem.F.plain_list_new _]
  have hown := PySem.owner_list_new
  simp only [hown]
  refine wpAny_bind (ist.at ?_)
  refine bm_if_false rfl ?_
  refine wpAny_bind (sub.at ?_)
  refine bm_if_false rfl ?_
  refine wpAny_bind (wpAny_pure ?_)
  refine bm_if_false rfl ?_
  refine wpAny_bind ?_
  show wpAny _ _ (newObj (.type "dict") (.dict #[])) _ _ _
  refine wpAny_newObj_type ?_ (Nat.zero_le _)
  have hC' := Heap.get?_push_of_some (ringO h.objs.size #[] 0) (Heap.get?_push_of_some emptyDict hC)
  dsimp only
  refine wpAny_bind ?_
  show wpAny _ _ (newObjAsIs _ _ _) _ _ _
  unfold newObjAsIs classHasDel
  refine wpAny_bind (wpAny_alloc ?_)
  refine wpAny_bind (wpAny_bind (wpAny_load hC' (wpAny_pure ?_)))
  rw [hdel]
  refine wpAny_pure (wpAny_pure ?_)
  have hb : ∀ self, Looks (model prg w) h (bindSpecial (.ref 75) self) (.ref 75, [self]) := fun self => bind_fn X self (FR.t_75 w)
  have k : ∀ b o, h.get? b = some o → ((h.push emptyDict).push (ringO h.objs.size #[] 0)).get? b = some o := fun b o e => Heap.get?_push_of_some _ (Heap.get?_push_of_some _ e)
  have hx : ((h.push emptyDict).push (ringO h.objs.size #[] 0)).get? (h.objs.size + 1) = some (ringO h.objs.size #[] 0) := by
    have := Heap.get?_push_size (h.push emptyDict) (show (ringO h.objs.size #[] 0).isFreed = false from rfl)
    rwa [Heap.size_push] at this
  have t1 : Looks (model prg w) ((h.push emptyDict).push (ringO h.objs.size #[] 0)) (typeOf (.ref (h.objs.size + 1))) (.ref 136) := (Looks.ld hx).andThen .now
  have s1 := self.keeps k
  have i1 := hi.keeps k
  have b1 := (hb (.ref (h.objs.size + 1))).keeps k
  have ii : Looks (model prg w) ((h.push emptyDict).push (ringO h.objs.size #[] 0)) (isInstance (.ref (h.objs.size + 1)) (.ref 136)) true := t1.andThen s1
  have tl : Looks (model prg w) ((h.push emptyDict).push (ringO h.objs.size #[] 0)) (specialOf (.ref (h.objs.size + 1)) "__init__") (some (.ref 75)) := t1.andThen i1
  show wpAny _ _ (isInstance (.ref (h.push emptyDict).objs.size) (.ref 136) >>= _) _ _ ⟨(h.push emptyDict).push (ringO h.objs.size #[] 0), g, dr, t, os⟩
  rw [Heap.size_push]
  refine wpAny_bind (ii.at ?_)
  refine bm_if_false rfl ?_
  unfold callSpecial?
  refine wpAny_bind (wpAny_holding (wpAny_bind (tl.at ?_)))
  refine wpAny_holding (wpAny_bind (b1.at ?_))
  refine wpAny_bind (wpAny_call ?_)
  refine codeAny_mono hq fun r s' z => ?_
  rcases r with e | (v | _ | _ | _) <;> first | exact z | exact z.elim | skip
  obtain ⟨rfl, z⟩ := z
  exact wpAny_pure (bm_if_false rfl (wpAny_pure z))
end
end Mine
end

-- part G1
section
open PySem PySem.W PyProof.Rows PySem.Calls
set_option Elab.async false
set_option maxRecDepth 100000
set_option maxHeartbeats 0
set_option linter.unusedVariables false
namespace Mine
def szName : Str := Str.ofString "_initial_size"
theorem refuse_ring (self : Value) : refuseLoop self "__setattr__" [.ref 136, .type "list", .type "object"] = pure () := by
  rw [refuseLoop_ref]
  kernel_rfl
def initEs (es : List DictEntry) : Prop := es = [] ∨ ∃ hs tk v, es = [⟨hs, .str szName tk, v⟩]
section
variable {w : World} {A : Around} {E : Value → Shared → Prop} {s : Shared} {R : Result → Shared → Prop}
theorem ringInst {h : Heap} {x d : Addr} {its : Array Value} {c : Nat} {od : Obj} (hx : h.get? x = some (ringO d its c)) (hd : h.get? d = some od) : InstAt h x (ringO d its c) 136 (some od) :=
  ⟨hx, rfl, rfl, hd⟩
theorem store_ring {x d : Addr} {its : Array Value} {c n : Nat} {es : List DictEntry} {v : Value} {Q : Unit → Shared → Prop} (X : (Kf w).In s.heap) (hx : s.heap.get? x = some (ringO d its c)) (hd : s.heap.get? d = some (dictOf es n)) (he : initEs es)
    (h : ∀ h' od, Heap.SameBut d s.heap h' → h'.get? d = some od → initD od → Q () { s with heap := h', toks := s.toks + 2 }) :
    wpAny (model prg w) A (setAttr (.ref x) szName v) Q E s := by
  have I := ringInst hx hd
  refine set_plain X I (FR.f_setattr w) ?_
  generalize hs1 : ({ s with toks := s.toks + 1 } : Shared) = s1
  have X1 : (Kf w).In s1.heap := by subst hs1; exact X
  have I1 : InstAt s1.heap x (ringO d its c) 136 (some (dictOf es n)) := by subst hs1; exact I
  have hd1 : s1.heap.get? d = some (dictOf es n) := by subst hs1; exact hd
  have SF := PySem.F.store_object
  have mro : Looks (model prg w) s1.heap (mroOf (.ref 136)) [.ref 136, .type "list", .type "object"] := .of_peek X1 (by kernel_rfl)
  have sub : Looks (model prg w) s1.heap (isInstance (.ref x) (.type "object")) true := I1.type.andThen (Looks.of_peek X1 (by kernel_rfl))
  have tl : Looks (model prg w) s1.heap (typeLookup (.ref 136) szName) none := looks_findIn X1 (by kernel_rfl)
  refine codeAny_call_builtin SF.slot.plain SF.entry (@check_slot (model prg w) _ _ s1 "object.__setattr__" "object" "__setattr__" (.ref x) [.str szName s.toks, v] [] _ SF.kind SF.split sub (SF.args (.ref x) (.str szName s.toks) v) ?_)
  rw [osa_eq, refuse_eq]
  refine wpAny_bind (wpAny_bind (I1.type.here (wpAny_bind (mro.here ?_))))
  rw [refuse_ring]
  refine wpAny_pure (wpAny_bind (I1.type.here (wpAny_bind (tl.here (wpAny_bind (wpAny_pure ?_))))))
  obtain ⟨cd, hc, hdict⟩ := any_some (by kernel_rfl : (clsIn (Kf w) 136).any (·.hasDict) = true)
  have cls := looks_clsIn (M := model prg w) X1 hc
  refine wpAny_bind (wpAny_pure (wpAny_bind (wpAny_bind (wpAny_loadPart I1.at_ (wpAny_bind (cls.here ?_))))))
  rw [show cd.hasDict = true from by assumption]
  refine wpAny_pure (a := some d) (wpAny_bind (wpAny_pure (wpAny_bind ?_)))
  unfold nsSet
  refine wpAny_bind (wpAny_bind (wpAny_askSetting (wpAny_pure (wpAny_bind (wpAny_mkText (wpAny_bind (wpAny_loadPart hd1 ?_)))))))
  dsimp only
  have hk : aRefKeyMayBeTheName szName es.toArray = false := by
    rcases he with rfl | ⟨hs, tk, v, rfl⟩ <;> rfl
  refine bm_if_false hk ?_
  have hput : ∀ hv tk', ∃ es' n', Obj.putName szName hv (.str szName tk') v (dictOf es n) = dictOf es' n' ∧ initD (dictOf es' n') ∧ es'.length ≤ 1 := by
    intro hv tk'
    rw [putName_dict]
    rcases he with rfl | ⟨hs, tk, v, rfl⟩
    · exact ⟨_, _, rfl, ⟨_, _, _, _, rfl⟩, Nat.le_refl 1⟩
    · exact ⟨_, _, rfl, ⟨_, _, _, _, rfl⟩, Nat.le_refl 1⟩
  generalize hq : Obj.putName szName _ _ v = f
  replace hput : ∃ es' n', f (dictOf es n) = dictOf es' n' ∧ initD (dictOf es' n') ∧ es'.length ≤ 1 := by subst hq; exact hput _ _
  obtain ⟨es', n', hp, hi, hl⟩ := hput
  refine wpAny_updatePart hd1 ?_
  have hD' := Heap.get?_update_self f hd1 (by rw [hp]; rfl)
  rw [hp] at hD'
  refine wpAny_bind (wpAny_lookBehind hD' (pastItsLine_dict (by rw [List.size_toArray, sizeLine_eq]; omega)) ?_)
  subst hs1
  exact wpAny_pure (h _ _ (Heap.SameBut.update ..) hD' hi)
/-- the ring at x, its dict at d, both behind a base -/
structure Rg (h₀ h : Heap) (x d : Addr) (its : Array Value) : Prop where
  keep : Grow h₀ h
  le : h₀.objs.size ≤ h.objs.size
  x0 : h₀.get? x = none
  d0 : h₀.get? d = none
  xd : x ≠ d
  at_ : ∃ c, h.get? x = some (ringO d its c)
  dict : ∃ es n, h.get? d = some (dictOf es n) ∧ initEs es
def But2 (x d : Addr) (h h' : Heap) : Prop := ∀ b o, b ≠ x → b ≠ d → h.get? b = some o → h'.get? b = some o
theorem initD.es {od : Obj} (h : initD od) : ∃ es n, od = dictOf es n ∧ initEs es := by
  obtain ⟨a, b, c, d, rfl⟩ := h
  exact ⟨_, _, rfl, .inr ⟨_, _, _, rfl⟩⟩
/-- the frame of a method of the ring -/
theorem Rg.frame {h₀ h h₁ : Heap} {x d : Addr} {its : Array Value} {m : Str → Option Value} (r : Rg h₀ h x d its) (hn : h₁.Ns h.objs.size m) (hk : Grow h h₁) :
    Fr h₀ h.objs.size h₁ m ∧ ∃ c es n, initEs es ∧ News h₀ h.objs.size h₁ [(x, ringO d its c), (d, dictOf es n)] := by
  obtain ⟨c, hx⟩ := r.at_
  obtain ⟨es, n, hd, he⟩ := r.dict
  refine ⟨⟨hn, fun b o e => hk b o (r.keep b o e), r.le⟩, c, es, n, he, fun p hp => ?_⟩
  rcases List.mem_cons.mp hp with rfl | hp
  · exact ⟨hk _ _ hx, Nat.ne_of_lt (Heap.lt_size hx), r.x0⟩
  · rw [List.mem_singleton.mp hp]
    exact ⟨hk _ _ hd, Nat.ne_of_lt (Heap.lt_size hd), r.d0⟩
namespace FR
theorem t_init : typeOf (.builtin "list.__init__") = pure (.type "wrapper_descriptor") := by
  first
    | kernel_rfl
    | (simp only [typeOf, builtinType]; kernel_rfl)
theorem slot_wget : Slot "wrapper_descriptor" "__get__" "wrapper_descriptor.__get__" := .of (owner := "wrapper_descriptor") (n := "__get__") (by rw [typeLookup_type, builtinLookup_eq_fast]; kernel_rfl) (by decide +kernel) (by decide +kernel) (by decide +kernel)
  (by first | exact .inl (by decide +kernel) | exact .inr (by decide +kernel)) (by rw [isSubtype_type]; kernel_rfl)
theorem entry_wget : entryFor table "wrapper_descriptor.__get__" = some Builtin.«wrapper_descriptor.__get__» := entryFor_of_tree (by kernel_rfl)
theorem wget_args (o a b : Value) : argsOk "wrapper_descriptor.__get__" ⟨[o, a, b], []⟩ := by unfold argsOk; kernel_rfl
end FR
def wrapO (x : Addr) : Obj := { cls := .type "method-wrapper", data := .fields #[.builtin "list.__init__", .ref x] }
def superO (x : Addr) : Obj := { cls := .type "super", dict := none, data := .fields #[.ref 136, .ref x, .ref 136], slots := #[] }
theorem super_ga {h : Heap} {g : Array GenState} {dr : Drawn} {t : Nat} {os : OsState} {so x d : Addr} {its : Array Value} {c : Nat} {od : Obj} {tk : Tok} {Q : Fin → Shared → Prop} (X : (Kf w).In h) (hso : h.get? so = some (superO x)) (hx : h.get? x = some (ringO d its c)) (hd : h.get? d = some od)
    (hq : Q (.done (.ret (.ref h.objs.size))) ⟨h.push (wrapO x), g, dr, t, os⟩) :
    wpAny (model prg w) A (Builtin.«super.__getattribute__» ⟨[.ref so, .str "__init__" tk], []⟩) Q E ⟨h, g, dr, t, os⟩ := by
  have I := ringInst hx hd
  have hne : x ≠ 136 := ks_ne (K := Kf w) X I (any_some (by kernel_rfl : (clsIn (Kf w) 136).any (·.hasDict) = true)).choose_spec.1
  have mro : Looks (model prg w) h (mroOf (.ref 136)) [.ref 136, .type "list", .type "object"] := .of_peek X (by kernel_rfl)
  have hno : Looks (model prg w) h (opaqueClassAbove (.ref 136)) none := .of_peek X (by kernel_rfl)
  have sub : Looks (model prg w) h (isInstance (.ref x) (.type "list")) true := I.type.andThen (looks_subIn X (FR.s_list w))
  have hdt : (superO x).data = .fields #[.ref 136, .ref x, .ref 136] := rfl
  have f0 : (#[.ref 136, .ref x, .ref 136] : Array Value)[0]? = some (.ref 136) := rfl
  have f1 : (#[.ref 136, .ref x, .ref 136] : Array Value)[1]? = some (.ref x) := rfl
  have f2 : (#[.ref 136, .ref x, .ref 136] : Array Value)[2]? = some (.ref 136) := rfl
  have hn : ((Str.ofString "__init__") == ("__class__" : Str)) = false := by decide
  have hx1 : (Value.ref x == Value.ref 136) = false := by simp [hne]
  have own : Looks (model prg w) h (classOwn (.type "list") (Str.ofString "__init__")) (some (.builtin "list.__init__")) := .of_peek X (by kernel_rfl)
  have hlk := FR.slot_wget.lookup
  have hti := FR.t_init
  unfold Builtin.«super.__getattribute__»
  dsimp only
  refine wpAny_bind ?_
  refine wpAny_of_eq (a := some (Str.ofString "__init__")) (rfl : asStr? (.str (Str.ofString "__init__") tk) = pure (some (Str.ofString "__init__"))) ?_
  simp only [Option.isNone_some, Bool.false_eq_true, if_false]
  refine wpAny_bind ?_
  refine wpAny_of_eq (a := some (Str.ofString "__init__")) (rfl : asStr? (.str (Str.ofString "__init__") tk) = pure (some (Str.ofString "__init__"))) ?_
  dsimp only
  refine wpAny_bind ?_
  refine wpAny_field hso hdt f0 ?_
  refine wpAny_bind ?_
  refine wpAny_field hso hdt f1 ?_
  refine wpAny_bind ?_
  refine wpAny_field hso hdt f2 ?_
  refine bm_if_false (by simp [hn]) ?_
  refine wpAny_bind ?_
  refine ks_wpAny_notOpaque hno ?_
  refine bm_if_false (by decide) ?_
  refine wpAny_bind ?_
  refine Looks.at mro ?_
  rw [show (([.ref 136, .type "list", .type "object"] : List Value).dropWhile (· != .ref 136)).drop 1 = [.type "list", .type "object"] from by decide]
  refine wpAny_bind ?_
  rw [List.forIn_cons]
  refine wpAny_bind ?_
  refine wpAny_bind ?_
  refine own.at ?_
  dsimp only
  refine wpAny_bind ?_
  refine wpAny_of_eq hti ?_
  refine wpAny_bind ?_
  refine wpAny_of_eq hlk ?_
  dsimp only
  simp only [hx1, Bool.false_eq_true, if_false]
  refine wpAny_bind ?_
  refine wpAny_holding ?_
  refine wpAny_call_entry FR.slot_wget hti FR.entry_wget ?_ (FR.wget_args _ _ _)
  unfold Builtin.«wrapper_descriptor.__get__»
  refine wpAny_bind ?_
  refine wpAny_of_eq (a := (.builtin "list.__init__", some (.ref x), some (.ref 136))) (by kernel_rfl) ?_
  dsimp only
  refine wpAny_bind ?_
  refine wpAny_bind ?_
  refine wpAny_of_eq (a := (Str.ofString "__init__", .type "list")) (by kernel_rfl) ?_
  dsimp only
  refine wpAny_bind ?_
  refine sub.at ?_
  refine bm_if_false rfl ?_
  refine wpAny_pure ?_
  refine wpAny_bind ?_
  refine wpAny_newObj_type ?_ (by size_fits)
  refine wpAny_pure ⟨_, rfl, ?_⟩
  exact wpAny_bind (wpAny_pure (wpAny_pure (wpAny_pure (wpAny_pure hq))))
theorem super_method {h : Heap} {g : Array GenState} {dr : Drawn} {t : Nat} {os : OsState} {so x d : Addr} {its : Array Value} {c : Nat} {od : Obj} {pl : Sem Bool} {Q : Value × List Value → Shared → Prop} (X : (Kf w).In h) (hso : h.get? so = some (superO x)) (hx : h.get? x = some (ringO d its c)) (hd : h.get? d = some od)
    (hq : Q (.ref h.objs.size, []) ⟨h.push (wrapO x), g, dr, t + 1, os⟩) :
    wpAny (model prg w) A (getMethod (.ref so) (Str.ofString "__init__") pl) Q E ⟨h, g, dr, t, os⟩ := by
  have hlk := PySem.F.ks_slot_super_ga.lookup
  have hcan := PySem.F.ks_canon_super_ga
  have hT : ∀ t', (⟨h, g, dr, t', os⟩ : Shared).TypeIs (.ref so) "super" := fun _ => ⟨_, hso, rfl⟩
  unfold getMethod
  refine wpAny_bind ?_
  refine wpAny_specialOf (hT _) hlk ?_
  dsimp only
  rw [if_pos hcan]
  unfold getAttr getAttrBy
  refine wpAny_bind ?_
  refine wpAny_bind ?_
  refine wpAny_mkText ?_
  refine wpAny_holding ?_
  refine wpAny_bind ?_
  refine wpAny_typeOf (hT _) ?_
  refine wpAny_bind ?_
  refine wpAny_of_eq hlk ?_
  show wpAny _ _ (getAttrByItsOwn (.ref so) (.str (Str.ofString "__init__") t) (.type "super") (.builtin "super.__getattribute__") true false) _ _ _
  unfold getAttrByItsOwn hookBefore callGetattribute boundAndCalled
  refine wpAny_bind (wpAny_of_eq (show (if onTheHeap (.type "super") then typeLookup (.type "super") "__getattr__" else pure none) = pure none from rfl) ?_)
  refine wpAny_bind ?_
  refine wpAny_attempt ?_
  refine wpAny_holding ?_
  show wpAny _ _ (bindSpecial (.builtin "super.__getattribute__") (.ref so) >>= _) _ _ _
  refine wpAny_bind (wpAny_of_eq (PySem.F.ks_slot_super_ga.bind _) ?_)
  refine wpAny_mono (Q := fun v s' => v = .ref h.objs.size ∧ s' = ⟨h.push (wrapO x), g, dr, t + 1, os⟩) (E := fun _ _ => False)
    (wpAny_call_entry PySem.F.ks_slot_super_ga (hT _) PySem.F.ks_entry_super_ga (super_ga X hso hx hd ⟨_, rfl, rfl, rfl⟩) (PySem.F.ks_gaArgs_super _ _)) (fun v s' hv => ?_) fun _ _ z => z.elim
  obtain ⟨rfl, rfl⟩ := hv
  exact wpAny_pure (wpAny_pure hq)
theorem wrap_call {q x d : Addr} {its : Array Value} {c : Nat} {od : Obj} {Q : Value → Shared → Prop} (X : (Kf w).In s.heap) (hq : s.heap.get? q = some (wrapO x)) (hx : s.heap.get? x = some (ringO d its c)) (hd : s.heap.get? d = some od) (hits : its = #[])
    (h : ∀ h' c', Heap.SameBut x s.heap h' → h'.get? x = some (ringO d #[] c') → Q .none { s with heap := h' }) : wpAny (model prg w) A (call (.ref q) []) Q E s := by
  have I := ringInst hx hd
  have sub : Looks (model prg w) s.heap (isInstance (.ref x) (.type "list")) true := I.type.andThen (looks_subIn X (FR.s_list w))
  refine wpAny_call (codeAny_of_tree ?_)
  show wpAny _ _ (callAny (.ref q) _) _ _ _
  unfold callAny
  refine wpAny_bind ?_
  refine wpAny_load hq ?_
  show wpAny _ _ (checkBoundCall "list.__init__" ⟨[.ref x], []⟩ >>= fun _ => again (.builtin "list.__init__" ⟨[.ref x], []⟩)) _ _ _
  refine wpAny_bind ?_
  refine wpAny_of_eq (a := ()) (by kernel_rfl) ?_
  refine wpAny_pure ⟨plainId_quiet PySem.F.slot_list_init.plain _, codeAny_builtin PySem.F.entry_list_init ?_⟩
  rw [Around.under_plainId PySem.F.slot_list_init.plain _]
  unfold Builtin.«list.__init__»
  subst hits
  dsimp only
  refine bm_if_false rfl ?_
  rw [if_neg (by decide)]
  unfold Builtin.List.listItems
  refine wpAny_bind ?_
  refine wpAny_bind ?_
  refine wpAny_seqItems hx rfl ?_
  refine wpAny_pure ?_
  refine wpAny_bind ?_
  show wpAny _ _ (updateSeq x fun _ => #[]) _ _ _
  unfold updateSeq
  refine wpAny_bind ?_
  refine wpAny_load hx ?_
  show wpAny _ _ (update x (Obj.mapSeq fun _ => #[]) >>= fun _ => lookBehind x) _ _ _
  refine wpAny_bind ?_
  refine wpAny_update hx ?_
  have hget : (s.heap.update x (Obj.mapSeq fun _ => #[])).get? x = some (Obj.mapSeq (fun _ => #[]) (ringO d #[] c)) := Heap.get?_update_self _ hx rfl
  have hform : Obj.mapSeq (fun _ => #[]) (ringO d #[] c) = ringO d #[] c := by
    show Obj.mapSeq _ _ = _
    unfold Obj.mapSeq ringO
    simp
  rw [hform] at hget
  refine wpAny_lookBehind hget (by show (if (#[] : Array Value).size > sizeLine then some "sequence:memory" else none) = none; rw [if_neg (by simp)]) ?_
  refine wpAny_bind (wpAny_pure ?_)
  exact wpAny_pure (h _ c (Heap.SameBut.update ..) hget)
end
end Mine
end

-- part G2
section
open PySem PySem.W PyProof.Rows PySem.Calls
set_option Elab.async false
set_option maxRecDepth 100000
set_option maxHeartbeats 0
set_option linter.unusedVariables false
namespace Mine
section
variable {w : World} {A : Around} {E : Value → Shared → Prop} {s : Shared} {R : Result → Shared → Prop}
theorem load_B {M : Model} {env : Env} {x : Str} {T : String} {L : Addr} {m mg mb : Str → Option Value} {h₀ : Heap} {Q : Value → Shared → Prop} (F : Fr h₀ L s.heap m) (X : (Kf w).In h₀) (Tr : TopRead hd.view_39 loose mg mb h₀) (hg : env.globals = mainGlobals) (hb : env.builtins = builtinsNs)
    (hk : env.scope.kind = .function) (hx : env.kindOf x = some .globalImplicit) (hn : nsIn (Kf w) mainGlobals x = some none) (hv : bootBuiltins x = some (.type T)) (hne : x ≠ "__name__") (h : Q (.type T) s) : wpAny M A (loadName env x) Q E s :=
  ks_loadName_global hk hx (loadGlobal_builtin (by rw [hg]; exact Tr.g.keeps F.keep) (mg_none_of X Tr.g hn) (by rw [hb]; exact Tr.b.keeps F.keep) ((Tr.builtins _ hne).trans hv) h)
theorem init_c {h₀ : Heap} {mg mb : Str → Option Value} {x d : Addr} (G : Gd w mg mb h₀) (r : Rg h₀ s.heap x d #[]) (hroom : A.depth < recursionLimit) (hh : A.handled = none)
    (h : ∀ h' tk, But2 x d s.heap h' → Rg h₀ h' x d #[] → R (.ok (.ret .none)) { s with heap := h', toks := tk }) :
    codeAny (model prg w) A (.call (.ref 75) ⟨[.ref x], []⟩) R s := by
  have Gs := G.grow r.keep
  refine ks_codeAny_call_defAt hroom (Gs.X 75 _ rfl) rfl Gs.T.nolimit (codeRec_of Gs.X rfl) rfl (BindsTo.of_defaults (binds := [(Str.ofString "self", .ref x), (Str.ofString "initial_size", .int 0 370)]) rfl (Gs.X 67 _ rfl) rfl rfl ?hb) ?hcell ?hloc ?_
  case hb => kernel_rfl
  case hcell => decide
  case hloc => exact locs rfl
  intro h₁ hn hk
  obtain ⟨F, c, es, n, he, N⟩ := r.frame hn hk
  obtain ⟨X, T⟩ := G
  refine ks_wpAt_execs_cons (ks_wpAt_Assign_Attr ?_)
  refine wpAt_of_wpAny ?_
  k_steps
  have hx := N _ (.head _)
  have hd := N _ (.tail _ (.head _))
  refine store_ring (X.keeps F.keep) hx.1 hd.1 he fun h2 od hsb hod hid => ?_
  obtain ⟨es2, n2, rfl, he2⟩ := hid.es
  have F2 := F.change hsb hd.2.1 hd.2.2
  have N2 := news_set (pre := [(x, ringO d #[] c)]) (post := []) N (fun p hp => by rw [List.mem_singleton.mp hp]; exact r.xd) (fun p hp => nomatch hp) hsb hod
  have hx2 := N2 _ (.head _)
  have hd2 := N2 _ (.tail _ (.head _))
  have X2 := X.keeps F2.keep
  dsimp only
  refine ks_wpAt_execs_cons (ks_wpAt_Expr_any ?_)
  refine ks_wpAt_MethodCall (pl := pure false) ?_
  refine ks_wpAt_super_base rfl rfl rfl rfl (X2 75 _ rfl) rfl rfl rfl (X2 74 _ rfl) rfl rfl ?_ ?_ ?_
  · rfl
  · rfl
  refine load_B F2 X T rfl rfl rfl rfl nb_super (by decide +kernel) (by decide) ⟨rfl, ?_⟩
  refine wpAny_loadName_free rfl rfl rfl ⟨_, X2 62 _ rfl, rfl⟩ ?_
  refine wpAny_loadName_local rfl rfl F2.ns rfl ?_
  refine ks_wpAny_isType_cls (X2 136 _ rfl) rfl ⟨rfl, ?_⟩
  refine ks_wpAny_call_super (C := 136) (X2 136 _ rfl) rfl hx2.1 rfl (fun c e => nomatch e) (looks_subIn X2 (FR.s_self w)) (fun h3 hso k3 => ?_)
  have F3 := F2.keeps k3
  have hx3 := k3 _ _ hx2.1
  have hd3 := k3 _ _ hd2.1
  refine super_method (X.keeps F3.keep) hso hx3 hd3 ?_
  have k4 : Grow h3 (h3.push (wrapO x)) := fun b o e => Heap.get?_push_of_some _ e
  have hq4 : (h3.push (wrapO x)).get? h3.objs.size = some (wrapO x) := Heap.get?_push_at rfl rfl
  have F4 := F3.keeps k4
  have X4 := X.keeps F4.keep
  refine callWith_of (P := fun h => h.get? h3.objs.size = some (wrapO x)) rfl (fun h e => ⟨.machine, .inr (.inl rfl), (Looks.ld e).andThen .now⟩) (evalArgs_nil3 ⟨hq4, ?_⟩)
  refine wrap_call X4 hq4 (k4 _ _ hx3) (k4 _ _ hd3) rfl fun h5 c5 sb5 hx5 => ?_
  dsimp only
  refine wpAt_of_wpAny (wpAny_execs_nil ?_)
  have Ns4 : News h₀ s.heap.objs.size (h3.push (wrapO x)) [(x, ringO d #[] c), (d, dictOf es2 n2)] := fun p hp => ⟨k4 _ _ (k3 _ _ (N2 p hp).1), (N2 p hp).2⟩
  have F5 := F4.change sb5 hx2.2.1 hx2.2.2
  refine h h5 _ (fun b o h1 h2 e => ?_) ⟨F5.keep, ?_, r.x0, r.d0, r.xd, ⟨c5, hx5⟩, ⟨es2, n2, ?_, he2⟩⟩
  · exact sb5.extBut b o h1 (k4 _ _ (k3 _ _ (hsb.extBut b o h2 (hk b o e))))
  · exact Nat.le_of_lt (Nat.lt_of_le_of_lt F5.above F5.ns.lt)
  · exact sb5.extBut d _ (Ne.symm r.xd) (Ns4 _ (.tail _ (.head _))).1
/-- _Accumulator() -/
theorem ring_new {h₀ : Heap} {mg mb : Str → Option Value} {Q : Value → Shared → Prop} (G : Gd w mg mb h₀) (k : Grow h₀ s.heap) (hle : h₀.objs.size ≤ s.heap.objs.size) (hroom : A.depth + 1 < recursionLimit) (hh : A.handled = none)
    (h : ∀ h' x d tk, Grow s.heap h' → Rg h₀ h' x d #[] → s.heap.objs.size ≤ x → s.heap.objs.size ≤ d → Q (.ref x) { s with heap := h', toks := tk }) :
    wpAny (model prg w) A (call (.ref 136) []) Q E s := by
  have X := G.X.keeps k
  obtain ⟨hp, g, dr, t, os⟩ := s
  replace hle : h₀.objs.size ≤ hp.objs.size := hle
  refine wpAny_call (new_core X ?_)
  have hnone : ∀ b, hp.objs.size ≤ b → h₀.get? b = none := fun b hb => by
    cases e : h₀.get? b with
    | none => rfl
    | some o => exact absurd (Nat.lt_of_lt_of_le (Heap.lt_size e) (Nat.le_trans hle hb)) (Nat.lt_irrefl _)
  have k2 : Grow hp ((hp.push emptyDict).push (ringO hp.objs.size #[] 0)) := fun b o e => Heap.get?_push_of_some _ (Heap.get?_push_of_some _ e)
  have hx : ((hp.push emptyDict).push (ringO hp.objs.size #[] 0)).get? (hp.objs.size + 1) = some (ringO hp.objs.size #[] 0) := by
    have := Heap.get?_push_size (hp.push emptyDict) (show (ringO hp.objs.size #[] 0).isFreed = false from rfl)
    rwa [Heap.size_push] at this
  have hd : ((hp.push emptyDict).push (ringO hp.objs.size #[] 0)).get? hp.objs.size = some (dictOf [] 0) := Heap.get?_push_of_some _ (Heap.get?_push_at rfl rfl)
  have r : Rg h₀ ((hp.push emptyDict).push (ringO hp.objs.size #[] 0)) (hp.objs.size + 1) hp.objs.size #[] :=
    ⟨fun b o e => k2 _ _ (k _ _ e), by rw [Heap.size_push, Heap.size_push]; exact Nat.le_succ_of_le (Nat.le_succ_of_le hle), hnone _ (Nat.le_succ _), hnone _ (Nat.le_refl _), Nat.succ_ne_self _, ⟨0, hx⟩, ⟨[], 0, hd, .inl rfl⟩⟩
  refine init_c (s := ⟨(hp.push emptyDict).push (ringO hp.objs.size #[] 0), g, dr, t, os⟩) G r (by rw [depth_under_kw]; exact hroom) hh fun h' tk b r' => ?_
  refine ⟨rfl, h h' _ _ tk (fun b' o e => ?_) r' (Nat.le_succ _) (Nat.le_refl _)⟩
  have hlt : b' < hp.objs.size := Heap.lt_size e
  exact b b' o (Nat.ne_of_lt (Nat.lt_succ_of_lt hlt)) (Nat.ne_of_lt hlt) (k2 _ _ e)
end
end Mine
end

-- part G3
section
open PySem PySem.W PyProof.Rows PySem.Calls
set_option Elab.async false
set_option maxRecDepth 100000
set_option maxHeartbeats 0
set_option linter.unusedVariables false
namespace Mine
namespace FR
theorem tyAppend : typeOf (.builtin "list.append") = pure (.type "method_descriptor") := by kernel_rfl
end FR
section
variable {w : World} {A : Around} {E : Value → Shared → Prop} {s : Shared} {R : Result → Shared → Prop}
theorem initEs.get {es : List DictEntry} (h : initEs es) {name : Str} (hn : (szName == name) = false) {n : Nat} : lookIn name (dictOf es n) = some none := by
  rcases h with rfl | ⟨hs, tk, v, rfl⟩
  · rfl
  · show getL name _ = _
    have hk : (Value.str szName tk).isStr name = false := hn
    simp [getL, hk]
    rfl
theorem ring_get {x d : Addr} {its : Array Value} {c n : Nat} {es : List DictEntry} {name : Str} {f : Value} {T : String} {pl : Sem Bool} {Q : Value × List Value → Shared → Prop} (X : (Kf w).In s.heap) (hx : s.heap.get? x = some (ringO d its c)) (hd : s.heap.get? d = some (dictOf es n)) (he : initEs es) (hn : (szName == name) = false)
    (hf : findIn (Kf w) (.ref 136) name = some (some f)) (ht : Looks (model prg w) s.heap (typeOf f) (.type T)) (hT : (Value.type T != .type "function" && Value.type T != .type "method_descriptor" && Value.type T != .type "wrapper_descriptor") = false) (h : Q (f, [.ref x]) s) :
    wpAny (model prg w) A (getMethod (.ref x) name pl) Q E s := by
  have I := ringInst hx hd
  unfold getMethod specialOf
  refine wpAny_bind ?_
  refine wpAny_bind ?_
  refine I.type.here ?_
  refine (looks_findIn X (FR.f_getattribute w)).here ?_
  dsimp only
  rw [FR.canon, if_neg (by decide)]
  refine wpAny_bind ?_
  refine wpAny_bind ?_
  refine I.type.here ?_
  refine (looks_findIn X (FR.f_getattr w)).here ?_
  simp only [Option.isSome_none, Bool.false_eq_true, if_false]
  refine wpAny_bind ?_
  refine wpAny_bind ?_
  refine I.type.here ?_
  refine (looks_findIn X hf).here ?_
  dsimp only
  refine wpAny_bind ?_
  refine ht.here ?_
  rw [hT]
  simp only [Bool.false_eq_true, if_false]
  refine wpAny_bind ?_
  refine wpAny_loadPart I.at_ ?_
  rw [show (ringO d its c).dict = some d from rfl]
  dsimp only
  refine wpAny_bind ?_
  refine wpAny_bind ?_
  refine wpAny_loadPart hd ?_
  rw [nsLook_of (he.get hn)]
  refine wpAny_pure ?_
  simp only [Option.isSome_none, Bool.false_eq_true, if_false]
  refine wpAny_bind ?_
  refine wpAny_rule ?_
  exact wpAny_pure h
theorem isList_ring {x d : Addr} {its : Array Value} {c : Nat} {od : Obj} (X : (Kf w).In s.heap) (hx : s.heap.get? x = some (ringO d its c)) (hd : s.heap.get? d = some od) : Looks (model prg w) s.heap (isInstance (.ref x) (.type "list")) true :=
  (ringInst hx hd).type.andThen (looks_subIn X (FR.s_list w))
/-- the ring's items are written anew -/
theorem ring_write {x d : Addr} {its : Array Value} {c : Nat} {f : Array Value → Array Value} {Q : Unit → Shared → Prop} (hx : s.heap.get? x = some (ringO d its c)) (hz : (f its).size ≤ sizeLine)
    (h : ∀ h' c', Heap.SameBut x s.heap h' → h'.get? x = some (ringO d (f its) c') → Q () { s with heap := h' }) : wpAny (model prg w) A (updateSeq x f) Q E s := by
  unfold updateSeq
  refine wpAny_bind ?_
  refine wpAny_load hx ?_
  show wpAny _ _ (update x (Obj.mapSeq f) >>= fun _ => lookBehind x) _ _ _
  refine wpAny_bind ?_
  refine wpAny_update hx ?_
  have hget : (s.heap.update x (Obj.mapSeq f)).get? x = some (Obj.mapSeq f (ringO d its c)) := Heap.get?_update_self _ hx rfl
  have hform : Obj.mapSeq f (ringO d its c) = ringO d (f its) (if (f its).size == its.size then c else c + 1) := rfl
  rw [hform] at hget
  refine wpAny_lookBehind hget ?_ (h _ _ (Heap.SameBut.update ..) hget)
  unfold ringO Data.pastItsLine
  dsimp only
  rw [if_neg (by omega)]
theorem check_ring {x d : Addr} {its : Array Value} {c : Nat} {od : Obj} {id n : String} {rest : List Value} {Q : Unit → Shared → Prop} (X : (Kf w).In s.heap) (hx : s.heap.get? x = some (ringO d its c)) (hd : s.heap.get? d = some od)
    (hk : builtinKind id = some .slot ∨ builtinKind id = some .method) (hs : splitId id = some ("list", n)) (ha : argsOk id ⟨.ref x :: rest, []⟩) (q : Q () s) : wpAny (model prg w) A (checkBuiltinCall id ⟨.ref x :: rest, []⟩) Q E s := by
  rcases hk with hk | hk <;>
  · simp only [checkBuiltinCall, hk, hs]
    refine wpAny_bind ?_
    refine (isList_ring X hx hd).here ?_
    simp only [Bool.not_true, Bool.false_eq_true, if_false]
    cases hsig : Manifest.signature? id with
    | none => exact wpAny_pure q
    | some sig =>
      simp only [argsOk, hsig] at ha
      have h2 : Bind.checkArgs id sig ⟨.ref x :: rest, []⟩ = pure () := ha
      show wpAny _ _ (Bind.checkArgs id sig ⟨.ref x :: rest, []⟩) _ _ _
      rw [h2]; exact wpAny_pure q
/-- a built-in of list, called on the ring -/
theorem call_ring {x d : Addr} {its : Array Value} {c : Nat} {od : Obj} {id n : String} {rest : List Value} {b : Builtin} {Q : Value → Shared → Prop} (X : (Kf w).In s.heap) (hx : s.heap.get? x = some (ringO d its c)) (hd : s.heap.get? d = some od)
    (hk : builtinKind id = some .slot ∨ builtinKind id = some .method) (hs : splitId id = some ("list", n)) (hp : plainId id = true) (hb : entryFor table id = some b) (ha : argsOk id ⟨.ref x :: rest, []⟩)
    (hc : wpAny (model prg w) A.in1 (b ⟨.ref x :: rest, []⟩) (fun fin s' => ∃ v, fin = .done (.ret v) ∧ Q v s') E s) : wpAny (model prg w) A (call (.builtin id) (.ref x :: rest)) Q E s := by
  refine wpAny_call (codeAny_call_builtin hp hb ?_)
  refine check_ring X hx hd hk hs ha ?_
  refine wpAny_mono hc (fun fin s' h' => ?_) fun _ _ h' => h'
  obtain ⟨v, rfl, hv⟩ := h'
  exact hv
theorem ring_append {x d : Addr} {its : Array Value} {c : Nat} {od : Obj} {v : Value} {Q : Value → Shared → Prop} (X : (Kf w).In s.heap) (hx : s.heap.get? x = some (ringO d its c)) (hd : s.heap.get? d = some od) (hz : its.size < sizeLine)
    (h : ∀ h' c', Heap.SameBut x s.heap h' → h'.get? x = some (ringO d (its.push v) c') → Q .none { s with heap := h' }) : wpAny (model prg w) A (call (.builtin "list.append") [.ref x, v]) Q E s := by
  refine call_ring (n := "append") X hx hd (.inr (by decide +kernel)) (by decide +kernel) PySem.F.slot_list_append.plain PySem.F.entry_list_append (PySem.F.args_list_append_2 _ _) ?_
  unfold Builtin.«list.append»
  refine wpAny_bind ?_
  refine wpAny_of_eq (a := (.ref x, v)) rfl ?_
  dsimp only
  refine wpAny_bind ?_
  show wpAny _ _ (updateSeq x (·.push v)) _ _ _
  refine ring_write hx (by simp only [Array.size_push]; omega) fun h' c' hs hg => ?_
  exact wpAny_pure ⟨_, rfl, h h' c' hs hg⟩
def Rg.hb (h : Heap) (x d : Addr) : Heap := hideAll h [x, d]
theorem Rg.up {h₀ h : Heap} {x d : Addr} {its : Array Value} (r : Rg h₀ h x d its) : Grow h₀ (Rg.hb h x d) := fun b o e => by
  refine hideAll_get _ (r.keep b o e) fun hm => ?_
  rcases List.mem_cons.mp hm with rfl | hm
  · rw [r.x0] at e; cases e
  · rw [List.mem_singleton.mp hm, r.d0] at e; cases e
theorem Rg.hb_but {h h' : Heap} {x d : Addr} (k : Grow (Rg.hb h x d) h') : But2 x d h h' := fun b o h1 h2 e =>
  k b o (hideAll_get _ e fun hm => by rcases List.mem_cons.mp hm with rfl | hm; exact h1 rfl; exact h2 (List.mem_singleton.mp hm))
theorem Rg.frame3 {h₀ h h₁ : Heap} {x d L : Addr} {its : Array Value} {m : Str → Option Value} (r : Rg h₀ h x d its) (F : Fr h L h₁ m) :
    Fr (Rg.hb h x d) L h₁ m ∧ ∃ c es n, initEs es ∧ News (Rg.hb h x d) L h₁ [(x, ringO d its c), (d, dictOf es n)] := by
  obtain ⟨c, hx⟩ := r.at_
  obtain ⟨es, n, hd, he⟩ := r.dict
  refine ⟨⟨F.ns, fun b o e => F.keep b o (of_hideAll _ e), Nat.le_trans (Nat.le_of_eq (hideAll_size _ _)) F.above⟩, c, es, n, he, fun p hp => ?_⟩
  rcases List.mem_cons.mp hp with rfl | hp
  · exact ⟨F.keep _ _ hx, Nat.ne_of_lt (Nat.lt_of_lt_of_le (Heap.lt_size hx) F.above), hideAll_none _ (by simp)⟩
  · rw [List.mem_singleton.mp hp]
    exact ⟨F.keep _ _ hd, Nat.ne_of_lt (Nat.lt_of_lt_of_le (Heap.lt_size hd) F.above), hideAll_none _ (by simp)⟩
/-- the ring behind a method -/
theorem Rg.leave {h₀ h h' : Heap} {x d L : Addr} {its its' : Array Value} {m : Str → Option Value} {c n : Nat} {es : List DictEntry} (r : Rg h₀ h x d its) (F : Fr (Rg.hb h x d) L h' m) (hx : h'.get? x = some (ringO d its' c)) (hd : h'.get? d = some (dictOf es n)) (he : initEs es) :
    But2 x d h h' ∧ Rg h₀ h' x d its' :=
  ⟨Rg.hb_but F.keep, fun b o e => F.keep b o (r.up b o e), Nat.le_trans r.le (Nat.le_trans (Nat.le_of_eq (hideAll_size _ _).symm) (Nat.le_of_lt (Nat.lt_of_le_of_lt F.above F.ns.lt))), r.x0, r.d0, r.xd, ⟨c, hx⟩, ⟨es, n, hd, he⟩⟩
end
end Mine
end

-- part G5
section
open PySem PySem.W PyProof.Rows PySem.Calls
set_option Elab.async false
set_option maxRecDepth 100000
set_option maxHeartbeats 0
set_option linter.unusedVariables false
namespace Mine
section
variable {w : World} {A : Around} {E : Value → Shared → Prop} {s : Shared} {R : Result → Shared → Prop}
theorem seqKey_ring {x d : Addr} {its : Array Value} {c : Nat} {od : Obj} {k : Value} {nm : Str} {Q : Value → Shared → Prop} (X : (Kf w).In s.heap) (hx : s.heap.get? x = some (ringO d its c)) (hd : s.heap.get? d = some od) (h : Q k s) : wpAny (model prg w) A (sequenceKey (.ref x) k nm) Q E s := by
  have no : Looks (model prg w) s.heap (seqItemTypes.anyM fun n => isSubtype (.ref 136) (.type n)) false := .of_peek X (by kernel_rfl)
  unfold sequenceKey
  refine wpAny_bind ?_
  refine (ringInst hx hd).type.here ?_
  dsimp only
  refine wpAny_bind ?_
  refine no.here ?_
  exact wpAny_pure h
theorem special_ring {x d : Addr} {its : Array Value} {c : Nat} {od : Obj} {name : Str} {id : String} {args : List Value} {Q : Option Value → Shared → Prop} (X : (Kf w).In s.heap) (hx : s.heap.get? x = some (ringO d its c)) (hd : s.heap.get? d = some od)
    (hf : findIn (Kf w) (.ref 136) name = some (some (.builtin id))) (hb : ∀ self, bindSpecial (.builtin id) self = pure (.builtin id, [self]))
    (h : wpAny (model prg w) A (call (.builtin id) (.ref x :: args)) (fun v => Q (some v)) E s) : wpAny (model prg w) A (callSpecial? (.ref x) name args) Q E s := by
  unfold callSpecial? specialOf
  refine wpAny_bind ?_
  refine wpAny_bind ?_
  refine (ringInst hx hd).type.here ?_
  refine (looks_findIn X hf).here ?_
  dsimp only
  refine wpAny_holding ?_
  refine wpAny_bind ?_
  refine wpAny_of_eq (hb _) ?_
  refine wpAny_bind ?_
  exact wpAny_mono h (fun v s' h' => wpAny_pure h') fun _ _ e => e
theorem ring_slice {x d sl : Addr} {its : Array Value} {c : Nat} {od : Obj} {vl vu vs : Value} {lo hi st : Option Int} {Q : Value → Shared → Prop} (X : (Kf w).In s.heap) (hx : s.heap.get? x = some (ringO d its c)) (hd : s.heap.get? d = some od)
    (hs : s.heap.IsSliceOf sl vl vu vs) (pl : IsPart vl lo) (pu : IsPart vu hi) (ps : IsPart vs st) (h0 : st ≠ some 0)
    (h : Q (.ref s.heap.objs.size) { s with heap := s.heap.push { cls := .type "list", data := .seq (slicePick its lo hi st) } })
    (hsz : its.size ≤ sizeLine) : wpAny (model prg w) A (getItem (.ref x) (.ref sl)) Q E s := by
  obtain ⟨os, hos, hcs, hds⟩ := id hs
  have hTs : s.TypeIs (.ref sl) "slice" := ⟨os, hos, hcs⟩
  unfold getItem
  try with_reducible refine wpAny_holding ?_
  first | refine wpAny_bind (wpAny_pure ?_) | skip
  refine wpAny_bind ?_
  refine seqKey_ring X hx hd ?_
  refine wpAny_bind ?_
  refine special_ring X hx hd (FR.f_getitem w) PySem.F.slot_list_getitem.bind ?_
  refine call_ring (n := "__getitem__") X hx hd (.inr (by decide +kernel)) (by decide +kernel) PySem.F.slot_list_getitem.plain PySem.F.entry_list_getitem (PySem.F.args_list_getitem_2 _ _) ?_
  show wpAny _ _ (Builtin.List.listSubscript? (.ref sl) >>= _) _ _ s
  refine wpAny_bind ?_
  unfold Builtin.List.listSubscript?
  refine wpAny_bind (wpAny_specialOf hTs slice_no_index ?_)
  simp only [Option.isNone_none, if_true]
  refine wpAny_pure ?_
  show wpAny _ _ (typeOf (.ref sl) >>= _) _ _ s
  refine wpAny_bind (wpAny_typeOf hTs ?_)
  rw [if_neg (by decide)]
  rw [listSliceParts_eq]
  have hstep : ¬ ((rawPart st == rawInt 0) = true) := by
    cases st with
    | none => exact Bool.false_ne_true
    | some c =>
      intro hh
      exact h0 (by rw [show c = 0 from by simpa [rawPart, rawInt] using hh])
  refine wpAny_bind (wpAny_bind (wpAny_field hos hds (x := vs) rfl (wpAny_bind (wpAny_listPart ps ?_))))
  rw [if_neg hstep]
  refine wpAny_bind (wpAny_field hos hds (x := vl) rfl (wpAny_bind (wpAny_listPart pl ?_)))
  refine wpAny_bind (wpAny_field hos hds (x := vu) rfl (wpAny_bind (wpAny_listPart pu (wpAny_pure ?_))))
  refine wpAny_bind (m := Builtin.List.listItems (.ref x)) ?_
  unfold Builtin.List.listItems
  refine wpAny_bind (wpAny_seqItems hx rfl (wpAny_pure ?_))
  refine wpAny_bind (wpAny_of_eq (sliceIndices_raw lo hi st its.size h0) ?_)
  refine wpAny_bind (wpAny_newObj_type (wpAny_pure ⟨_, rfl, wpAny_pure h⟩) (Nat.le_trans (slicePick_size_le its lo hi st) hsz))
theorem ring_setslice {x d sl l : Addr} {its new : Array Value} {c cl : Nat} {od : Obj} {vl vu : Value} {lo hi : Option Int} {Q : Unit → Shared → Prop} (X : (Kf w).In s.heap) (hx : s.heap.get? x = some (ringO d its c)) (hd : s.heap.get? d = some od) (hl : s.heap.get? l = some (listOf new cl))
    (hs : s.heap.IsSliceOf sl vl vu .none) (pl : IsPart vl lo) (pu : IsPart vu hi) (hsz : its.size + new.size ≤ 1000000)
    (h : ∀ h' c', Heap.SameBut x s.heap h' → h'.get? x = some (ringO d (its.extract 0 (sliceBounds lo hi none its.size).1.toNat ++ new ++ its.extract (max (sliceBounds lo hi none its.size).1 (sliceBounds lo hi none its.size).2.1).toNat its.size) c') → Q () { s with heap := h' }) :
    wpAny (model prg w) A (setItem (.ref x) (.ref sl) (.ref l)) Q E s := by
  obtain ⟨os, hos, hcs, hds⟩ := id hs
  have hTs : s.TypeIs (.ref sl) "slice" := ⟨os, hos, hcs⟩
  have hTl : s.TypeIs (.ref l) "list" := ⟨_, hl, rfl⟩
  have hlx : l ≠ x := by rintro rfl; rw [hx] at hl; cases hl
  unfold setItem
  try with_reducible refine wpAny_holding ?_
  first | refine wpAny_bind (wpAny_pure ?_) | skip
  refine wpAny_bind ?_
  refine seqKey_ring X hx hd ?_
  refine wpAny_bind ?_
  refine special_ring X hx hd (FR.f_setitem w) slot_list_setitem.bind ?_
  refine call_ring (n := "__setitem__") X hx hd (.inl (by decide +kernel)) (by decide +kernel) slot_list_setitem.plain entry_list_setitem (args_list_setitem _ _ _) ?_
  unfold Builtin.«list.__setitem__»
  refine wpAny_bind ?_
  refine wpAny_of_eq (a := (.ref x, [.ref sl, .ref l])) (by kernel_rfl) ?_
  dsimp only
  refine wpAny_bind ?_
  unfold Builtin.List.listSubscript?
  refine wpAny_bind (wpAny_specialOf hTs slice_no_index ?_)
  simp only [Option.isNone_none, if_true]
  refine wpAny_pure ?_
  dsimp only
  refine wpAny_bind (wpAny_typeOf hTs ?_)
  rw [if_neg (by decide)]
  rw [listSliceParts_eq]
  refine wpAny_bind (wpAny_bind (wpAny_field hos hds (x := .none) rfl (wpAny_bind (wpAny_listPart .none ?_))))
  rw [if_neg (by decide)]
  refine wpAny_bind (wpAny_field hos hds (x := vl) rfl (wpAny_bind (wpAny_listPart pl ?_)))
  refine wpAny_bind (wpAny_field hos hds (x := vu) rfl (wpAny_bind (wpAny_listPart pu (wpAny_pure ?_))))
  dsimp only
  rw [show Builtin.List.listSameRef (.ref x) (.ref l) = false from by simp [Builtin.List.listSameRef, Ne.symm hlx]]
  simp only [Bool.false_eq_true, if_false]
  refine wpAny_bind ?_
  unfold Builtin.List.listAllItems
  refine wpAny_bind (wpAny_typeOf hTl ?_)
  rw [if_pos (by decide)]
  unfold Builtin.List.listItems
  refine wpAny_bind ?_
  refine wpAny_seqItems hl rfl ?_
  refine wpAny_pure ?_
  refine wpAny_bind ?_
  refine wpAny_bind ?_
  refine wpAny_seqItems hx rfl ?_
  refine wpAny_pure ?_
  refine wpAny_bind ?_
  refine wpAny_of_eq (sliceIndices_raw lo hi none its.size (by intro e; cases e)) ?_
  rw [show (sliceBounds lo hi none its.size).2.2 = 1 from rfl]
  refine bm_if_true (by decide) ?_
  refine wpAny_bind ?_
  refine wpAny_rule ?_
  refine bm_if_false (by simp only [Builtin.List.listTooLong, sizeLine_eq, decide_eq_false_iff_not]; omega) ?_
  refine wpAny_bind ?_
  have hz : ∀ a b : Nat, (its.extract 0 a ++ new ++ its.extract b its.size).size ≤ sizeLine := by
    intro a b
    rw [sizeLine_eq]
    simp only [Array.size_append, Array.size_extract]
    omega
  refine ring_write hx ?_ fun h' c' hs hg => ?_
  · simp only [Array.size_append, Array.size_extract, sizeLine_eq]
    omega
  refine wpAny_bind ?_
  refine wpAny_letGo ?_
  exact wpAny_pure ⟨_, rfl, wpAny_pure (h h' c' hs hg)⟩
end
end Mine
end

-- part G8
section
open PySem PySem.W PyProof.Rows PySem.Calls
set_option Elab.async false
set_option maxRecDepth 100000
set_option maxHeartbeats 0
set_option linter.unusedVariables false
namespace Mine
section
variable {w : World} {A : Around} {E : Value → Shared → Prop} {s : Shared} {R : Result → Shared → Prop}
theorem ring_iter {x d : Addr} {its : Array Value} {c n : Nat} {es : List DictEntry} {Q : Value → Shared → Prop} (X : (Kf w).In s.heap) (hx : s.heap.get? x = some (ringO d its c)) (hd : s.heap.get? d = some (dictOf es n))
    (hQ : Q (.ref s.heap.objs.size) { s with heap := s.heap.push { cls := .type "list_iterator", data := .fields #[.ref x, .int 0 0] } }) : wpAny (model prg w) A (pyIter (.ref x)) Q E s := by
  have I := ringInst hx hd
  have li : Looks (model prg w) s.heap (typeLookup (.ref 136) (Str.ofString "__iter__")) (some (.builtin "list.__iter__")) := looks_findIn X (FR.f_iter w)
  unfold pyIter
  refine wpAny_bind ?_
  unfold specialOf
  refine wpAny_bind ?_
  refine I.type.here ?_
  refine li.here ?_
  dsimp only
  refine wpAny_bind ?_
  simp only [callSpecialIfBoundUnlessNone?, bindSpecialIfBound?]
  refine wpAny_holding ?_
  refine wpAny_bind ?_
  refine wpAny_bind ?_
  unfold specialOf
  refine wpAny_bind ?_
  refine I.type.here ?_
  refine li.here ?_
  simp only [slot_list_iter.bind]
  refine wpAny_bind ?_
  refine wpAny_askSetting ?_
  refine wpAny_ite ?_
  have call : wpAny (model prg w) A (PySem.call (.builtin "list.__iter__") [.ref x]) (fun v s' => v = .ref s.heap.objs.size ∧ s' = { s with heap := s.heap.push { cls := .type "list_iterator", data := .fields #[.ref x, .int 0 0] } }) E s := by
    refine call_ring (n := "__iter__") X hx hd (.inl (by decide +kernel)) (by decide +kernel) slot_list_iter.plain entry_list_iter (args_list_iter _) ?_
    show wpAny _ _ (do ret (← newFields "list_iterator" [.ref x, rawInt 0])) _ _ s
    exact wpAny_bind (wpAny_newObj_type (wpAny_pure ⟨_, rfl, rfl, rfl⟩))
  have nx : typeLookup (.type "list_iterator") (Str.ofString "__next__") = pure (some (.builtin "list_iterator.__next__")) := slot_listiter_next.lookup
  split
  · refine wpAny_bind (wpAny_pure (wpAny_pure ?_))
    simp only [builtin_beq_none, Bool.false_eq_true, if_false]
    refine wpAny_bind (wpAny_mono call (fun v s' hv => ?_) fun _ _ e => e)
    obtain ⟨rfl, rfl⟩ := hv
    refine wpAny_pure ?_
    dsimp only
    refine wpAny_bind ?_
    refine wpAny_specialOf (T := "list_iterator") ⟨_, Heap.get?_push_size _ rfl, rfl⟩ nx ?_
    exact wpAny_pure hQ
  · refine wpAny_tryCatch (wpAny_bind (wpAny_pure (wpAny_pure ?_)))
    simp only [builtin_beq_none, Bool.false_eq_true, if_false]
    refine wpAny_bind (wpAny_mono call (fun v s' hv => ?_) fun _ _ e => e)
    obtain ⟨rfl, rfl⟩ := hv
    refine wpAny_pure ?_
    dsimp only
    refine wpAny_bind ?_
    refine wpAny_specialOf (T := "list_iterator") ⟨_, Heap.get?_push_size _ rfl, rfl⟩ nx ?_
    exact wpAny_pure hQ
theorem ring_next_item {it x d : Addr} {i c : Nat} {its : Array Value} {v : Value} {prog : Program} {Q : Option Value → Shared → Prop} (hit : s.heap.IsListIter it x i) (hx : s.heap.get? x = some (ringO d its c)) (hv : its[i]? = some v)
    (hQ : ∀ h', h'.IsListIter it x (i + 1) → Heap.SameBut it s.heap h' → Q (some v) { s with heap := h' }) : wpAny (model prog w) A (pyNext (.ref it)) Q E s := by
  obtain ⟨o, ho, hc, hd⟩ := id hit
  unfold pyNext
  refine wpAny_bind (wpAny_attempt (wpAny_callSpecial?_slot (name := Str.ofString "__next__") hit.typeIs slot_listiter_next
    (wpAny_call_entry slot_listiter_next hit.typeIs entry_listiter_next ?_ (args_listiter_next _))))
  show wpAny _ _ (field (.ref it) 0 >>= _) _ _ s
  refine wpAny_bind (wpAny_field ho hd (x := .ref x) rfl ?_)
  show wpAny _ _ (if (Value.ref x == Value.none) = true then _ else _) _ _ s
  rw [if_neg (show ¬ ((Value.ref x == Value.none) = true) from Bool.false_ne_true)]
  show wpAny _ _ (field (.ref it) 1 >>= _) _ _ s
  refine wpAny_bind (wpAny_field ho hd (x := .int i 0) rfl ?_)
  show wpAny _ _ (seqItems? (.ref x) >>= _) _ _ s
  refine wpAny_bind (wpAny_seqItems hx rfl ?_)
  simp only [Int.toNat_natCast, hv]
  refine wpAny_bind (wpAny_setField ho hd (by simp) (wpAny_pure ⟨v, rfl, wpAny_pure (hQ _ ?_ (Heap.SameBut.update ..))⟩))
  exact ⟨_, Heap.get?_update_self _ ho (Obj.isFreed_of_fields (Obj.data_mapFields hd _)), (Obj.cls_mapFields ..).trans hc, by
    rw [Obj.data_mapFields hd]; simp [rawInt]⟩
theorem ring_next_end {it x d : Addr} {i c : Nat} {its : Array Value} {prog : Program} {Q : Option Value → Shared → Prop} (hh : A.handled = none) (hit : s.heap.IsListIter it x i) (hx : s.heap.get? x = some (ringO d its c)) (hv : its[i]? = none)
    (hQ : ∀ h', Heap.ExtBut it s.heap h' → Q none { s with heap := h' }) : wpAny (model prog w) A (pyNext (.ref it)) Q E s := by
  obtain ⟨o, ho, hc, hd⟩ := id hit
  unfold pyNext
  refine wpAny_bind (wpAny_attempt (wpAny_callSpecial?_slot (name := Str.ofString "__next__") hit.typeIs slot_listiter_next
    (wpAny_call_entry slot_listiter_next hit.typeIs entry_listiter_next ?_ (args_listiter_next _))))
  show wpAny _ _ (field (.ref it) 0 >>= _) _ _ s
  refine wpAny_bind (wpAny_field ho hd (x := .ref x) rfl ?_)
  show wpAny _ _ (if (Value.ref x == Value.none) = true then _ else _) _ _ s
  rw [if_neg (show ¬ ((Value.ref x == Value.none) = true) from Bool.false_ne_true)]
  show wpAny _ _ (field (.ref it) 1 >>= _) _ _ s
  refine wpAny_bind (wpAny_field ho hd (x := .int i 0) rfl ?_)
  show wpAny _ _ (seqItems? (.ref x) >>= _) _ _ s
  refine wpAny_bind (wpAny_seqItems hx rfl ?_)
  simp only [Int.toNat_natCast, hv]
  refine wpAny_bind (wpAny_rule (wpAny_bind (wpAny_setField ho hd (by simp) ?_)))
  show wpAny _ _ (newExc (.type "StopIteration") [] >>= _) _ _ _
  refine wpAny_bind ?_
  simp only [newExc, newTuple]
  refine wpAny_bind (wpAny_newObj_type ?_ (by size_fits))
  refine wpAny_bind (m := firstArgMember _ _) (wpAny_of_eq (a := Value.none) (by first | rfl | (simp only [firstArgMember]; rfl)) ?_)
  refine wpAny_newObj_type ?_ (by size_fits)
  simp only [raiseNew]
  refine wpAny_bind (wpAny_handled ?_)
  rw [show A.in1.handled = none from hh]
  refine wpAny_bind (wpAny_pure (wpAny_throw ?_))
  refine wpAny_bind (wpAny_isInstance (T := "StopIteration") (b := true) ⟨_, Heap.get?_push_size _ rfl, rfl⟩ isSubtype_stop ?_)
  exact wpAny_pure (hQ _ (((Heap.SameBut.update ..).extBut.push _).push _))
theorem walks_ring {prog : Program} (hh : A.handled = none) (I x d : Addr) (hne : x ≠ I) (items : Array Value) (c : Nat) (Ts : Nat → Addr) (vals : Nat → Array Value)
    (hit : ∀ j, j < items.size → items[j]? = some (.ref (Ts j))) (hTI : ∀ j, j < items.size → Ts j ≠ I) :
    WalksU prog w A I (I :: x :: (List.range items.size).map Ts) [I] items.size (fun j v => v = vals j)
      (fun j h => h.IsListIter I x j ∧ h.get? x = some (ringO d items c) ∧ ∀ k, k < items.size → h.IsTuple (Ts k) (vals k))
      (fun j T h => (j < items.size ∧ T = Ts j) ∧ h.IsListIter I x (j + 1) ∧ h.get? x = some (ringO d items c) ∧ ∀ k, k < items.size → h.IsTuple (Ts k) (vals k)) where
  sub := fun b hb => by simp at hb; simp [hb]
  frame := fun _ _ _ st hk => ⟨st.1.at fun o e => hk I (by simp) o e, hk x (by simp) _ st.2.1,
    fun k hk' => (st.2.2 k hk').at fun o e => hk (Ts k) (List.mem_cons_of_mem _ (List.mem_cons_of_mem _ (List.mem_map.mpr ⟨k, List.mem_range.mpr hk', rfl⟩))) o e⟩
  item := fun i s Q E hi st hQ => by
    refine ring_next_item st.1 st.2.1 (v := .ref (Ts i)) (hit i hi) fun h' hit' hs' => ?_
    have tup : ∀ k, k < items.size → h'.IsTuple (Ts k) (vals k) := fun k hk' => (st.2.2 k hk').extBut hs'.extBut (hTI k hk')
    exact hQ (Ts i) (vals i) h' s.toks rfl (tup i hi) ⟨⟨hi, rfl⟩, hit', hs'.extBut x _ hne st.2.1, tup⟩ fun b o hb e => hs'.extBut b o (fun h => hb (by simp [h])) e
  go := fun _ _ _ _ _ s Q _ hm hQ => wpAny_letOwnedTupleGo_listiter hm.2.1 (hQ s.heap hm.2 fun _ _ _ e => e)
  apart := fun j T _ hm hmem => by
    rcases List.mem_cons.mp hmem with e | e
    · exact hTI j hm.1.1 (hm.1.2 ▸ e)
    · cases e
  done := fun s Q E st hQ => ring_next_end hh st.1 st.2.1 (by simp) fun h' he' => hQ h' s.toks fun b o hb e => he' b o (fun h => hb (by simp [h])) e
  self := fun _ _ _ _ st hQ => wpAny_pyIter_listiter st.1 hQ
end
end Mine
end

-- part G9
section
open PySem PySem.W PyProof.Rows PySem.Calls
set_option Elab.async false
set_option maxRecDepth 100000
set_option maxHeartbeats 0
set_option linter.unusedVariables false
namespace Mine
theorem nm_EMPTYSTRING {w : World} : nsIn (Kf w) mainGlobals (Str.ofString "EMPTYSTRING") = some (some (.str (Str.ofString "") 356)) := by rfl
section
variable {w : World} {A : Around} {E : Value → Shared → Prop} {s : Shared} {mg mb : Str → Option Value}
local macro_rules | `(tactic| walk_at "eval Name") => `(tactic| (k_dflt (refine' name_K ?F ?X ?T ?e ?_; (case F => k_asm); (case X => k_asm); (case T => k_asm); (case e => first | exact nm_quoted | exact nm_paren_depth | exact nm_twin_re_1 | exact nm_twin_re_2 | exact nm_law_numbers | exact nm_Accumulator | exact nm_law_sent | exact nm_byteswap | exact nm_Int2AP | exact nm_law_number_of_depths | exact nm_quote_periods | exact nm_fix_eols | exact nm_CRLF | exact nm_EMPTYSTRING); k_whole)))
local macro_rules | `(tactic| walk_at "eval Name") => `(tactic| (k_dflt (refine' name_B ?F ?X ?T ?e ?v ?n ?_; (case F => k_asm); (case X => k_asm); (case T => k_asm); (case e => first | exact nb_enumerate | exact nb_range | exact nb_bytearray | exact nb_len | exact nb_bytes | exact nb_sum | exact nb_str | exact nb_int | exact nb_abs | exact nb_divmod | exact nb_super); (case v => boot_by_name); (case n => decide); k_whole)))
local macro_rules | `(tactic| walk_at "getMethod ref") => `(tactic| (k_dflt (refine' get_subK ?F ?X ?e ?_; (case F => k_asm); (case X => k_asm); (case e => first | exact pat145 | exact pat150 | exact pat43); k_whole)))
local macro_rules | `(tactic| walk_at "callWith ref") => `(tactic| (k_dflt (first
  | (refine' callWith_K ?k1 ?k2 ?_; (case k1 => k_asm); (case k2 => rfl); k_whole)
  | (refine' callWith_K0 ?k1 ?k2 ?_; (case k1 => k_in); (case k2 => rfl); k_whole))))

theorem get_str2 {M : Model} {x : Str} {t : Tok} {name : Str} {id : String} {pl : Sem Bool} {Q : Value × List Value → Shared → Prop} (slot : Slot "str" name id) (ty : typeOf (.builtin id) = pure (.type "method_descriptor")) (h : Q (.builtin id, [.str x t]) s) : wpAny M A (getMethod (.str x t) name pl) Q E s :=
  getMethod_builtin (T := "str") (typeIs_str _ _ _) F.plainAttrs_str slot ty (fun a e => nomatch e) h
def tabH (h : Heap) : Heap := hideAll h [106]
theorem elt_join {env : Env} {m : Str → Option Value} {x y : Str} {tx ty : Tok} {p1 p2 p3 p4 p5 p6 : Pos} {k : Nat} {Q : Value → Shared → Prop} (hmg : s.heap.Ns env.globals mg) (hE : mg (Str.ofString "EMPTYSTRING") = some (.str (Str.ofString "") 356)) (hk : env.scope.kind = .function)
    (k1 : env.kindOf (Str.ofString "EMPTYSTRING") = some .globalImplicit) (k2 : env.kindOf (Str.ofString "fws") = some .local) (k3 : env.kindOf (Str.ofString "part") = some .local) (hn : s.heap.Ns env.locals m) (h1 : m (Str.ofString "fws") = some (.str x tx)) (h2 : m (Str.ofString "part") = some (.str y ty))
    (hl : x.length ≤ 1000 ∧ y.length ≤ 1000) (hline : (p2.endLine == p6.line) = true)
    (h : ∀ h' t' tk, (∀ b o, s.heap.get? b = some o → h'.get? b = some o) → Q (.str (Txt.join (Str.ofString "") [x, y]) t') { s with heap := h', toks := tk }) :
    wpAny (model prg w) A (eval (.Call (.Attribute (.Name (Str.ofString "EMPTYSTRING") p1) (Str.ofString "join") p2) [.Tuple [.Name (Str.ofString "fws") p3, .Name (Str.ofString "part") p4] k p5] [] p6) env) Q E s := by
  refine Call_method1 rfl rfl hline ?_
  refine wpAny_Name (ks_loadName_global hk k1 (loadGlobal_global hmg hE ?_)) (by decide)
  refine ⟨"str", "str.join", F.plainAttrs_str, PySem.F.slot_str_join, PySem.F.type_str_join, typeIs_str _ _ _, (fun _ e => nomatch e), ?_⟩
  refine callWith_builtin rfl ?_
  refine evalArgs_plain ?_
  refine spliced_cons ?_
  refine wpAny_Tuple_spliced ?_
  show wpAny _ _ (spliced [(false, eval (.Name (Str.ofString "fws") p3) env), (false, eval (.Name (Str.ofString "part") p4) env)]) _ _ _
  refine spliced_cons ?_
  refine wpAny_Name (wpAny_loadName_local hk k2 hn h1 ?_) (by decide)
  refine spliced_cons ?_
  refine wpAny_Name (wpAny_loadName_local hk k3 hn h2 ?_) (by decide)
  refine spliced_nil ?_
  refine ⟨by rw [sizeLine_eq]; show (2 : Nat) ≤ _; decide, ?_⟩
  refine spliced_nil ?_
  show wpAny _ _ (call (.builtin "str.join") [.str (Str.ofString "") 356, .ref s.heap.objs.size]) _ _ _
  refine join_tuple (ys := [x, y]) ⟨_, Heap.get?_push_size _ rfl, rfl, _, rfl⟩ (.cons _ _ (.cons _ _ .nil)) (by have e0 : (Str.ofString "").length = 0 := rfl; simp [e0]; omega) fun t' k => ?_
  exact h _ t' k fun b o e => Heap.get?_push_of_some _ e
theorem sum_le {B : Nat} : ∀ {ys : List Str}, (∀ y ∈ ys, y.length ≤ B) → (ys.map (·.length)).sum ≤ ys.length * B
  | [], _ => Nat.zero_le _
  | y :: ys, h => by
    have i1 := sum_le (B := B) (ys := ys) fun z hz => h z (.tail _ hz)
    have i2 := h y (.head _)
    simp only [List.map_cons, List.sum_cons, List.length_cons, Nat.succ_mul]
    omega
theorem join2_len (x y : Str) : (Txt.join (Str.ofString "") [x, y]).length = x.length + y.length := by
  show (x.cps ++ (Str.ofString "").cps ++ y.cps).size = x.cps.size + y.cps.size
  have e0 : (Str.ofString "").cps.size = 0 := rfl
  rw [Array.size_append, Array.size_append, e0]
  omega
theorem genexpr_tab {env : Env} {ps : Array Value} {pos : Pos} {qualname : Str} {scope : Scope} {Q : Value → Shared → Prop} (hc : env.code = .ref 110) (hd : CodeHd s.heap 110 106) (hP : s.heap.get? 106 = some (tabObj ps)) (hps : TriplesOk ps.toList)
    (hQ : ∀ code h' tk more, Heap.ExtBut 106 s.heap h' → h'.get? 106 = some (tabObj (ps ++ more)) → TriplesOk (ps ++ more).toList → Q code { s with heap := h', toks := tk }) : wpAny (model prg w) A (genexprCode env pos qualname scope) Q E s := by
  cases hnf : codeAmong pos ps.toList with
  | some c' => exact wpAny_genexprCode_hit hc (hd.code hP hps) hnf (hQ c' s.heap s.toks #[] (Heap.ExtBut.refl _ _) (by simpa using hP) (by simpa using hps))
  | none =>
    refine wpAny_genexprCodeX hc (hd.code hP hps) (hd.tab hP) hnf fun c' h' tk e _ _ hcode _ htab _ => ?_
    obtain ⟨_, _, _, _, _, _, _, _, _, op, _, _, _, _, _, _, _, _, _, htr, _⟩ := hcode
    exact hQ _ h' tk _ e htab.2 htr
theorem ext_grow {h h' : Heap} (e : Heap.ExtBut 106 h h') : Grow (tabH h) h' := fun b o q => by
  have hb : b ≠ 106 := fun x => by
    rw [x, show tabH h = hideAll h [106] from rfl, hideAll_none [106] (by simp)] at q; cases q
  exact e b o hb (of_hideAll _ q)
abbrev tupS (a : Nat → Str × Tok) (b : Nat → Str × Tok) (j : Nat) : Array Value := #[.str (a j).1 (a j).2, .str (b j).1 (b j).2]
/-- str(ring), by __str__ -/
theorem str_c {x d : Addr} {its : Array Value} {c n : Nat} {es : List DictEntry} {ps : Array Value} {Ts : Nat → Addr} {a b : Nat → Str × Tok} {Q : Value → Shared → Prop} (X : (Kf w).In (tabH s.heap)) (T : TopRead hd.view_39 loose mg mb (tabH s.heap)) (hroom : A.depth + 2 < recursionLimit) (hh : A.handled = none) (G : Gd w mg mb s.heap)
    (hbm : ∃ bm ob, mg "__builtins__" = some (.ref bm) ∧ bm ≠ builtinsNs ∧ (tabH s.heap).get? bm = some ob ∧ ob.cls = .type "module" ∧ ob.dict = some builtinsNs ∧ ob.data = .plain)
    (hP : s.heap.get? 106 = some (tabObj ps)) (hps : TriplesOk ps.toList) (hx : s.heap.get? x = some (ringO d its c)) (hd : s.heap.get? d = some (dictOf es n)) (hz : its.size < 500)
    (hit : ∀ j, j < its.size → its[j]? = some (.ref (Ts j))) (hT : ∀ j, j < its.size → s.heap.IsTuple (Ts j) (tupS a b j))
    (hlen : ∀ j, j < its.size → (a j).1.length ≤ 1000 ∧ (b j).1.length ≤ 1000) (hx6 : x ≠ 106) (hd6 : d ≠ 106) (hT6 : ∀ j, j < its.size → Ts j ≠ 106)
    (h : ∀ h' g' t' tk, (∀ y ∈ g', y.bare = true) → (∀ b o, b ≠ 106 → s.heap.get? b = some o → h'.get? b = some o) → (∃ more, h'.get? 106 = some (tabObj (ps ++ more)) ∧ TriplesOk (ps ++ more).toList) →
      Q (.str (Txt.join (Str.ofString "") ((List.range its.size).map fun j => Txt.join (Str.ofString "") [(a j).1, (b j).1])) t') { s with heap := h', gens := g', toks := tk }) (hgens : ∀ y ∈ s.gens, y.bare = true) :
    wpAny (model prg w) A (call (.ref 111) [.ref x]) Q E s := by
  have hroom' : A.depth < recursionLimit := by omega
  refine wpAny_call ?_
  refine' enter G ?ho ?hcd hroom' ?hb ?hl ?_ ?c1 ?c2 ?c3 ?c4
  case ho => exact rfl
  case hcd => rfl
  case hb => exact BindsTo.of_eq rfl
  case hl => exact locs rfl
  case c1 => exact rfl
  case c2 => exact rfl
  case c3 => exact rfl
  case c4 => decide
  intro L' h₁ F0
  have F : Fr (tabH s.heap) L' h₁ _ := ⟨F0.ns, fun b o e => F0.keep b o (of_hideAll _ e), Nat.le_trans (Nat.le_of_eq (hideAll_size _ _)) F0.above⟩
  have hx1 := F0.keep _ _ hx
  have hd1 := F0.keep _ _ hd
  have hP1 := F0.keep _ _ hP
  k_steps
  refine wpAny_GeneratorExp_walksQT hh rfl rfl (by decide) rfl rfl rfl (by decide) rfl (show A.depth + 1 < recursionLimit by omega) ?_ (fun _ => rfl)
  k_steps
  have hdh := codeHd_of_K (X.keeps F.keep) (rfl : codeHdIn (Kf w) 110 106 = true)
  refine ring_iter (X.keeps F.keep) hx1 hd1 ?_
  have F2 := F.push { cls := .type "list_iterator", data := .fields #[.ref x, .int 0 0] }
  refine ⟨T.nolimit.keeps F2.keep, ?_⟩
  have hP2 := Heap.get?_push_of_some { cls := .type "list_iterator", data := .fields #[.ref x, .int 0 0] } hP1
  have hdh2 := codeHd_of_K (X.keeps F2.keep) (rfl : codeHdIn (Kf w) 110 106 = true)
  refine genexpr_tab rfl hdh2 hP2 hps fun code h3 tk3 more ext3 hP3 hps3 => ?_
  have F3 : Fr (tabH s.heap) L' h3 _ := ⟨F2.ns.extBut ext3 (by rintro rfl; exact absurd (Nat.lt_of_lt_of_le (Heap.lt_size hP) F0.above) (Nat.lt_irrefl _)), fun b o e => by
    have hb : b ≠ 106 := fun q => by
      rw [q, show tabH s.heap = hideAll s.heap [106] from rfl, hideAll_none [106] (by simp)] at e; cases e
    exact ext3 b o hb (F2.keep b o e), F2.above⟩
  obtain ⟨bm, ob, g1, g2, g3, g4, g5, g6⟩ := hbm
  refine wpAny_builtinsFor (T.g.keeps F3.keep) g1 g2 (F3.keep _ _ g3) g4 g5 g6 ?_
  have l1 : L' < h₁.objs.size := F.ns.lt
  have p6 : 106 < h₁.objs.size := Heap.lt_size hP1
  have i6 : h₁.objs.size ≠ 106 := Nat.ne_of_gt p6
  have xlt : x < h₁.objs.size := Heap.lt_size hx1
  have tlt : ∀ j, j < its.size → Ts j < h₁.objs.size := fun j hj => by
    obtain ⟨o, ho, _⟩ := hT j hj
    exact Heap.lt_size (F0.keep _ _ ho)
  have hI2 : (h₁.push { cls := .type "list_iterator", data := .fields #[.ref x, .int 0 0] }).get? h₁.objs.size = some { cls := .type "list_iterator", data := .fields #[.ref x, .int 0 0] } := Heap.get?_push_size _ rfl
  have hI3 := ext3 _ _ i6 hI2
  have hx3 := ext3 _ _ hx6 (Heap.get?_push_of_some _ hx1)
  have ht3 : ∀ j, j < its.size → h3.IsTuple (Ts j) (tupS a b j) := fun j hj => by
    obtain ⟨o, ho, r⟩ := hT j hj
    exact ⟨o, ext3 _ _ (hT6 j hj) (Heap.get?_push_of_some _ (F0.keep _ _ ho)), r⟩
  refine ⟨h₁.objs.size, h₁.objs.size :: x :: (List.range its.size).map Ts, [h₁.objs.size], its.size, _, _, _, fun _ => true, fun j y => ∃ t, y = .str (Txt.join (Str.ofString "") [(a j).1, (b j).1]) t, rfl,
    fun A' hA => (walks_ring hA _ x d (Nat.ne_of_lt xlt) its c Ts (tupS a b) hit fun j hj => Nat.ne_of_lt (tlt j hj)).bound, ?_, ?_, ?_, ?_, ?_, ?_, ?_⟩
  · rintro i vals ⟨_, rfl⟩
    exact ⟨_, _, rfl⟩
  · exact ⟨⟨_, hI3, rfl, rfl⟩, hx3, ht3⟩
  · intro b' hb'
    rcases List.mem_cons.mp hb' with rfl | hb'
    · exact Heap.lt_size hI3
    · rcases List.mem_cons.mp hb' with rfl | hb'
      · exact Heap.lt_size hx3
      · obtain ⟨j, hj, rfl⟩ := List.mem_map.mp hb'
        obtain ⟨o, ho, _⟩ := ht3 j (List.mem_range.mp hj)
        exact Heap.lt_size ho
  · exact T.nolimit.keeps F3.keep
  · intro hm
    obtain ⟨mc, hns, _⟩ := T.nolimit
    have := Nat.lt_of_lt_of_le hns.lt (Nat.le_trans (Nat.le_of_eq (hideAll_size _ _)) F0.above)
    rw [List.mem_singleton.mp hm] at this
    exact absurd (Nat.lt_trans this l1) (Nat.lt_irrefl _)
  · intro href hk
    refine ⟨fun A' E' i va vb s₂ m₂ hA hp hn h1 h2 hkk => ?_, fun A' E' i va vb s₂ m₂ hA hp hpz hn h1 h2 hkk => ?_⟩
    · exact wpAny_pure ⟨rfl, s₂.heap, s₂.toks, rfl, fun _ _ e => e⟩
    · obtain ⟨hin, hv⟩ := hp
      have hva : va = .str (a i).1 (a i).2 := by have := congrArg (fun z => z[0]?) hv; simpa using this
      have hvb : vb = .str (b i).1 (b i).2 := by have := congrArg (fun z => z[1]?) hv; simpa using this
      subst hva hvb
      have key : ∀ b' o, (tabH s.heap).get? b' = some o → s₂.heap.get? b' = some o := fun b' o e => by
        have e3 := F3.keep b' o e
        have hlt := Heap.lt_size e
        rw [show (tabH s.heap).objs.size = s.heap.objs.size from hideAll_size _ _] at hlt
        refine hkk b' (List.mem_range.mpr (Heap.lt_size e3)) (fun hm => ?_) o (hk _ _ e3)
        rw [List.mem_singleton.mp hm] at hlt
        exact absurd (Nat.lt_of_lt_of_le hlt F0.above) (Nat.lt_asymm l1)
      have Fe : Fr (tabH s.heap) h3.objs.size s₂.heap m₂ := ⟨hn, key, Nat.le_trans (Nat.le_of_eq (hideAll_size _ _)) (Nat.le_trans F0.above (Nat.le_of_lt (Nat.lt_trans l1 (Heap.lt_size hI3))))⟩
      refine elt_join (m := m₂) (T.g.keeps Fe.keep) (mg_of X T.g nm_EMPTYSTRING) rfl rfl rfl rfl hn h1 h2 (hlen i hin) (by decide) fun h' t' tk kk => ?_
      exact ⟨⟨t', rfl⟩, h', tk, rfl, kk⟩
  · intro a5 h5 tk5 gs hbare hlt5 hsz5 hk5 W5 G5
    refine spliced_nil ?_
    have hpass : passing (fun _ => true) its.size 0 = List.range its.size := by
      unfold passing; rw [List.drop_zero]; simp
    refine SC.joinGen W5.in4_2 (fun i s h => h.1.typeIs) G5 ?_ (.head _) ?_ (fun s' l mv io => ?_) ?_
    · intro b' hb'
      show b' < h5.objs.size
      rw [hsz5]
      rcases List.mem_cons.mp hb' with rfl | hb'
      · exact Nat.lt_succ_self _
      · rcases List.mem_cons.mp hb' with rfl | hb'
        · exact Nat.lt_succ_of_lt hlt5
        · exact Nat.lt_succ_of_lt (Nat.lt_trans (List.mem_range.mp hb') hlt5)
    · rintro i v ⟨j, _, t, rfl⟩
      exact ⟨_, _, rfl⟩
    · have hl : l.map (·.1) = (List.range its.size).map fun j => Txt.join (Str.ofString "") [(a j).1, (b j).1] := by
        have hsz : l.length = its.size := by
          have := io.1
          rw [hpass, List.length_range] at this
          simpa [strValues] using this
        apply List.ext_getElem?
        intro j
        by_cases hj : j < its.size
        · have hj' : j < l.length := by omega
          have := io.2 j (.str l[j].1 l[j].2) (by simp [strValues, hj'])
          obtain ⟨i, hi, t, ht⟩ := this
          rw [hpass, List.getElem?_range hj] at hi
          cases hi
          simp only [List.getElem?_map, List.getElem?_range hj, List.getElem?_eq_getElem hj', Option.map_some]
          rw [(Value.str.inj ht).1]
        · rw [List.getElem?_eq_none (by simp; omega), List.getElem?_eq_none (by simp; omega)]
      rw [hl]
      refine ⟨joinOk_of_weight ?_ (by decide), fun t' k => ?_⟩
      · have := sum_le (B := 2000) (ys := (List.range its.size).map fun j => Txt.join (Str.ofString "") [(a j).1, (b j).1]) fun y hy => by
          obtain ⟨j, hj, rfl⟩ := List.mem_map.mp hy
          have := hlen j (List.mem_range.mp hj)
          rw [join2_len]
          omega
        simp only [List.length_map, List.length_range] at this ⊢
        omega
      · obtain ⟨h', g', d', t0, o'⟩ := s'
        obtain ⟨m1, m2, m3, m4, m5⟩ := mv
        cases m3
        cases m4
        have keep : ∀ b' o, b' ≠ 106 → s.heap.get? b' = some o → h'.get? b' = some o := fun b' o hb e => by
          have hlt := Nat.lt_of_lt_of_le (Heap.lt_size e) F0.above
          have e3 : h3.get? b' = some o := ext3 b' o hb (Heap.get?_push_of_some _ (F0.keep _ _ e))
          refine m1 b' o (fun hm => ?_) (hk5 _ _ e3)
          rcases List.mem_cons.mp hm with rfl | hm
          · exact absurd (Heap.lt_size e3) (Nat.lt_irrefl _)
          · rw [List.mem_singleton.mp hm] at hlt
            exact absurd hlt (Nat.lt_asymm l1)
        refine h h' g' t' k ?_ keep ⟨more, m1 106 _ (fun hm => ?_) (hk5 _ _ hP3), hps3⟩
        · refine m2.bare fun y hy => ?_
          rcases Array.mem_push.mp hy with hy | rfl
          · exact hgens y hy
          · exact hbare
        · rcases List.mem_cons.mp hm with e | hm
          · have := Heap.lt_size hP3
            rw [e] at this
            exact Nat.lt_irrefl _ this
          · exact i6 (List.mem_singleton.mp hm).symm
    · rw [hpass, List.length_range, sizeLine_eq]; omega
end
end Mine
end

-- part G6
section
open PySem PySem.W PyProof.Rows PySem.Calls
set_option Elab.async false
set_option maxRecDepth 100000
set_option maxHeartbeats 0
set_option linter.unusedVariables false
namespace Mine
section
variable {w : World} {A : Around} {E : Value → Shared → Prop} {s : Shared} {R : Result → Shared → Prop}
theorem fresh_fin {h hp : Heap} {T x d : Addr} {o : Obj} {its : Array Value} {c n m : Nat} {es : List DictEntry} {vs : Array Value} (ho : o.cls = .type "list") (hdata : o.data = .seq vs n) (hT : hp.get? T = some o) (hTn : (Rg.hb h x d).get? T = none)
    (hx : hp.get? x = some (ringO d its c)) (hd : hp.get? d = some (dictOf es m)) : T ≠ x ∧ T ≠ d ∧ h.get? T = none := by
  have h1 : T ≠ x := by
    rintro rfl
    rw [hx] at hT; cases hT; cases ho
  have h2 : T ≠ d := by
    rintro rfl
    rw [hd] at hT; cases hT; cases hdata
  refine ⟨h1, h2, ?_⟩
  cases e : h.get? T with
  | none => rfl
  | some q =>
    have := hideAll_get [x, d] e (by simp [h1, h2])
    rw [show hideAll h [x, d] = Rg.hb h x d from rfl, hTn] at this
    cases this
theorem operate_ {M : Model} {vs : List Value} {m : Sem Value} {Q : Value → Shared → Prop} (h : wpAny M A m Q E s) : wpAny M A (operate vs m) Q E s := fun Γ p hΓ => by rw [Sem.wp_operate]; exact h Γ p hΓ
theorem ring_sub {x d : Addr} {its : Array Value} {c n : Nat} {es : List DictEntry} {nm : Str} {p0 p1 : Pos} {l u : Option Expr} {vl vu : Value} {lo hi : Option Int} {Q : Value → Shared → Prop} (X : (Kf w).In s.heap) (hx : s.heap.get? x = some (ringO d its c)) (hd : s.heap.get? d = some (dictOf es n))
    (pl : IsPart vl lo) (pu : IsPart vu hi) (hz : its.size ≤ sizeLine)
    (h : Q (.ref (s.heap.objs.size + 1)) { s with heap := (s.heap.push { cls := .type "slice", data := .fields #[vl, vu, .none] }).push { cls := .type "list", data := .seq (slicePick its lo hi none) } }) :
    wpAny (model prg w) A (subscriptTail (.Name nm p0) (.Slice l u none p1) (.ref x) (.ref s.heap.objs.size)) Q E { s with heap := s.heap.push { cls := .type "slice", data := .fields #[vl, vu, .none] } } := by
  have k : ∀ b o, s.heap.get? b = some o → (s.heap.push { cls := .type "slice", data := .fields #[vl, vu, .none] }).get? b = some o := fun b o e => Heap.get?_push_of_some _ e
  have X' := X.keeps k
  unfold subscriptTail
  refine wpAny_bind ?_
  unfold getitemInPython specialOf
  refine wpAny_bind ?_
  refine wpAny_bind ?_
  refine (ringInst (k _ _ hx) (k _ _ hd)).type.here ?_
  refine (looks_findIn X' (FR.f_getitem w)).here ?_
  dsimp only
  refine wpAny_pure ?_
  refine wpAny_bind ?_
  show wpAny _ _ (operate [.ref s.heap.objs.size, .ref x] (getItem (.ref x) (.ref s.heap.objs.size))) _ _ _
  refine operate_ ?_
  refine ring_slice X' (k _ _ hx) (k _ _ hd) (Heap.IsSliceOf.new ..) pl pu .none (by simp) ?_ hz
  refine wpAny_bind (wpAny_pure (wpAny_pure ?_))
  show Q (.ref (s.heap.push _).objs.size) _
  rw [Heap.size_push]
  exact h
/-- ring.pop_from(i) -/
theorem pop_c {h₀ : Heap} {mg mb : Str → Option Value} {x d : Addr} {its : Array Value} {i : Nat} {t : Tok} {args : List Value} (ha : args = [.ref x, .int i t] ∨ (args = [.ref x] ∧ i = 0 ∧ t = 389)) {Q : Value → Shared → Prop} (G : Gd w mg mb h₀) (r : Rg h₀ s.heap x d its) (hroom : A.depth < recursionLimit) (hh : A.handled = none) (hz : its.size < 1000) (hi : i ≤ its.size)
    (h : ∀ h' D c tk, But2 x d s.heap h' → Rg h₀ h' x d (its.toList.take i).toArray → h'.get? D = some (listOf (its.toList.drop i).toArray c) → s.heap.get? D = none → Q (.ref D) { s with heap := h', toks := tk }) :
    wpAny (model prg w) A (call (.ref 90) args) Q E s := by
  refine wpAny_call ?_
  refine' enter (G.grow r.keep) ?ho ?hcd hroom ?hb ?hl ?_ ?c1 ?c2 ?c3 ?c4
  case ho => exact rfl
  case hcd => rfl
  case hb =>
    exact BindsTo.of_defaults (binds := [(Str.ofString "self", .ref x), (Str.ofString "i", .int i t)]) rfl ((G.grow r.keep).X 83 _ rfl) rfl rfl (by rcases ha with rfl | ⟨rfl, rfl, rfl⟩ <;> kernel_rfl)
  case hl => exact locs rfl
  case c1 => exact rfl
  case c2 => exact rfl
  case c3 => exact rfl
  case c4 => decide
  intro L' h₁ F0
  obtain ⟨F, c, es, n, he, N⟩ := r.frame3 F0
  obtain ⟨X, T⟩ := G.grow r.up
  have hx := N _ (.head _)
  have hd := N _ (.tail _ (.head _))
  k_steps
  refine ring_sub (s := { s with heap := h₁, toks := _ }) (X.keeps F.keep) hx.1 hd.1 (.int _ _) .none (by rw [sizeLine_eq]; omega) ?_
  have F2 := (F.push { cls := .type "slice", data := .fields #[.int i t, .none, .none] }).push { cls := .type "list", data := .seq (slicePick its (some (i : Int)) none none) }
  have N2 := (N.push F { cls := .type "slice", data := .fields #[.int i t, .none, .none] }).push (F.push _) { cls := .type "list", data := .seq (slicePick its (some (i : Int)) none none) }
  rw [Heap.size_push] at N2
  k_steps
  rename News _ _ _ _ => N9
  rename Fr _ _ _ _ => F9
  have hl9 := N9 _ (.head _)
  have hD9 := N9 _ (.tail _ (.head _))
  have hx9 := N9 _ (.tail _ (.tail _ (.tail _ (.head _))))
  have hd9 := N9 _ (.tail _ (.tail _ (.tail _ (.tail _ (.head _)))))
  have F10 := F9.push { cls := .type "slice", data := .fields #[.int i t, .none, .none] }
  refine ring_setslice (lo := some (i : Int)) (hi := none) (X.keeps F10.keep) (Heap.get?_push_of_some _ hx9.1) (Heap.get?_push_of_some _ hd9.1) (Heap.get?_push_of_some _ hl9.1) (Heap.IsSliceOf.new ..) (.int _ _) .none (by simp; omega) fun h5 c5 sb hx5 => ?_
  have F5 := F10.change sb hx9.2.1 hx9.2.2
  have hd5 := sb.extBut d _ (Ne.symm r.xd) (Heap.get?_push_of_some _ hd9.1)
  k_steps
  have eD : slicePick its (some (i : Int)) none none = (its.toList.drop i).toArray := slicePick_from its i hi
  have eb : sliceBounds (some (i : Int)) none none its.size = ((i : Int), (its.size : Int), 1) := by
    rw [sliceBounds_plain]
    simp only [Option.elim, clipAt_cast]
    refine Prod.ext ?_ rfl
    show max 0 (min (if (i : Int) < 0 then _ else (i : Int)) _) = _
    rw [if_neg (by omega)]
    omega
  rw [eb] at hx5
  have ex : its.extract 0 ((i : Int)).toNat ++ (#[] : Array Value) ++ its.extract (max (i : Int) its.size).toNat its.size = (its.toList.take i).toArray := by
    rw [show (max (i : Int) its.size).toNat = its.size from by omega, Int.toNat_natCast]
    apply Array.toList_inj.mp
    simp
  have hx6 : h5.get? x = some (ringO d (its.toList.take i).toArray c5) := by
    rw [← ex]; exact hx5
  obtain ⟨b2, r2⟩ := r.leave F5 hx6 hd5 he
  obtain ⟨n1, n2, n3⟩ := fresh_fin (o := _) rfl rfl hD9.1 hD9.2.2 hx9.1 hd9.1
  refine h h5 _ 0 _ b2 r2 ?_ n3
  rw [← eD]
  exact sb.extBut _ _ n1 (Heap.get?_push_of_some _ hD9.1)
end
end Mine
end

-- part G7
section
open PySem PySem.W PyProof.Rows PySem.Calls
set_option Elab.async false
set_option maxRecDepth 100000
set_option maxHeartbeats 0
set_option linter.unusedVariables false
namespace Mine
section
variable {w : World} {A : Around} {E : Value → Shared → Prop} {s : Shared} {R : Result → Shared → Prop}
/-- ring.reset(l) -/
theorem reset_c {h₀ : Heap} {mg mb : Str → Option Value} {x d l : Addr} {its new : Array Value} {cl : Nat} {Q : Value → Shared → Prop} (G : Gd w mg mb h₀) (r : Rg h₀ s.heap x d its) (hroom : A.depth < recursionLimit) (hl : s.heap.get? l = some (listOf new cl)) (hz : its.size + new.size ≤ 1000000)
    (h : ∀ h' tk, But2 x d s.heap h' → Rg h₀ h' x d new → Q .none { s with heap := h', toks := tk }) :
    wpAny (model prg w) A (call (.ref 119) [.ref x, .ref l]) Q E s := by
  have hlx : l ≠ x := by
    rintro rfl
    obtain ⟨c, hx⟩ := r.at_
    rw [hx] at hl; cases hl
  have hld : l ≠ d := by
    rintro rfl
    obtain ⟨es, n, hd, _⟩ := r.dict
    have e : Value.type "dict" = Value.type "list" := congrArg Obj.cls (Option.some.inj (hd.symm.trans hl))
    exact absurd e (by decide)
  refine wpAny_call ?_
  refine' enter (G.grow r.keep) ?ho ?hcd hroom ?hb ?hl ?_ ?c1 ?c2 ?c3 ?c4
  case ho => exact rfl
  case hcd => rfl
  case hb =>
    exact BindsTo.of_defaults (binds := [(Str.ofString "self", .ref x), (Str.ofString "startval", .ref l)]) rfl ((G.grow r.keep).X 112 _ rfl) rfl rfl (by kernel_rfl)
  case hl => exact locs rfl
  case c1 => exact rfl
  case c2 => exact rfl
  case c3 => exact rfl
  case c4 => decide
  intro L' h₁ F0
  obtain ⟨F, c, es, n, he, N⟩ := r.frame3 F0
  obtain ⟨X, T⟩ := G.grow r.up
  have hl1 : (Rg.hb s.heap x d).get? l = some (listOf new cl) := hideAll_get _ hl (by simp [hlx, hld])
  k_steps
  rename News _ _ _ _ => N9
  rename Fr _ _ _ _ => F9
  have hx9 := N9 _ (.head _)
  have hd9 := N9 _ (.tail _ (.head _))
  have F10 := F9.push { cls := .type "slice", data := .fields #[.none, .none, .none] }
  refine ring_setslice (lo := none) (hi := none) (X.keeps F10.keep) (Heap.get?_push_of_some _ hx9.1) (Heap.get?_push_of_some _ hd9.1) (F10.keep _ _ hl1) (Heap.IsSliceOf.new ..) .none .none hz fun h5 c5 sb hx5 => ?_
  have F5 := F10.change sb hx9.2.1 hx9.2.2
  have hd5 := sb.extBut d _ (Ne.symm r.xd) (Heap.get?_push_of_some _ hd9.1)
  have eb : sliceBounds none none none its.size = (0, (its.size : Int), 1) := by
    rw [sliceBounds_plain]; rfl
  rw [eb] at hx5
  have ex : its.extract 0 ((0 : Int)).toNat ++ new ++ its.extract (max (0 : Int) its.size).toNat its.size = new := by
    rw [show (max (0 : Int) its.size).toNat = its.size from by omega]
    apply Array.toList_inj.mp
    simp
  replace hx5 : h5.get? x = some (ringO d new c5) := by
    rw [← ex]; exact hx5
  k_steps
  refine store_ring (X.keeps F5.keep) hx5 hd5 he fun h6 od sb6 hod hid => ?_
  obtain ⟨es2, n2, rfl, he2⟩ := hid.es
  have F6 := F5.change sb6 hd9.2.1 hd9.2.2
  have hx6 := sb6.extBut x _ r.xd hx5
  dsimp only
  k_steps
  obtain ⟨b2, r2⟩ := r.leave F6 hx6 hod he2
  exact h h6 _ b2 r2
end
end Mine
end

-- part G4
section
open PySem PySem.W PyProof.Rows PySem.Calls
set_option Elab.async false
set_option maxRecDepth 100000
set_option maxHeartbeats 0
set_option linter.unusedVariables false
namespace Mine
section
variable {w : World} {A : Around} {E : Value → Shared → Prop} {s : Shared} {R : Result → Shared → Prop}

theorem tup_fin {h hp h5 : Heap} {T x d : Addr} {o : Obj} {vs its : Array Value} {c n m : Nat} {es : List DictEntry} (ho : o.cls = .type "tuple") (hdata : o.data = .seq vs n) (hT : hp.get? T = some o) (hTn : (Rg.hb h x d).get? T = none)
    (hx : hp.get? x = some (ringO d its c)) (hd : hp.get? d = some (dictOf es m)) (sb : Heap.SameBut x hp h5) : h5.IsTuple T vs ∧ h.get? T = none := by
  have h1 : T ≠ x := by
    rintro rfl
    rw [hx] at hT; cases hT; cases ho
  have h2 : T ≠ d := by
    rintro rfl
    rw [hd] at hT; cases hT; cases hdata
  refine ⟨⟨o, sb.extBut T o h1 hT, ho, n, hdata⟩, ?_⟩
  cases e : h.get? T with
  | none => rfl
  | some q =>
    have := hideAll_get [x, d] e (by simp [h1, h2])
    rw [show hideAll h [x, d] = Rg.hb h x d from rfl, hTn] at this
    cases this
/-- ring.push(a, b) -/
theorem push_c {h₀ : Heap} {mg mb : Str → Option Value} {x d : Addr} {its : Array Value} {a b : Value} {Q : Value → Shared → Prop} (G : Gd w mg mb h₀) (r : Rg h₀ s.heap x d its) (hroom : A.depth < recursionLimit) (hz : its.size < 1000)
    (h : ∀ h' T tk, But2 x d s.heap h' → Rg h₀ h' x d (its.push (.ref T)) → h'.IsTuple T #[a, b] → s.heap.get? T = none → Q .none { s with heap := h', toks := tk }) :
    wpAny (model prg w) A (call (.ref 82) [.ref x, a, b]) Q E s := by
  refine wpAny_call ?_
  refine' enter (G.grow r.keep) ?ho ?hcd hroom ?hb ?hl ?_ ?c1 ?c2 ?c3 ?c4
  case ho => exact rfl
  case hcd => rfl
  case hb => exact BindsTo.of_eq rfl
  case hl => exact locs rfl
  case c1 => exact rfl
  case c2 => exact rfl
  case c3 => exact rfl
  case c4 => decide
  intro L' h₁ F0
  obtain ⟨F, c, es, n, he, N⟩ := r.frame3 F0
  obtain ⟨X, T⟩ := G.grow r.up
  have hx := N _ (.head _)
  have hd := N _ (.tail _ (.head _))
  refine wpAny_execs_cons ?_
  refine wpAny_Expr ?_
  refine MethodCall_ ?_
  refine ld F rfl ?_
  refine ring_get (X.keeps F.keep) hx.1 hd.1 he (by decide) (FR.f_append w) (Looks.of_pure FR.tyAppend) (by decide) ?_
  refine callWith_method1 ?_
  refine args_cons ?_
  refine wpAny_Tuple_spliced ?_
  refine args_cons ?_
  refine ld F rfl ?_
  refine args_cons ?_
  refine ld F rfl ?_
  refine args_nil ?_
  refine ⟨by rw [sizeLine_eq]; show (2 : Nat) ≤ _; decide, ?_⟩
  refine args_nil ?_
  show wpAny _ _ (call (.builtin "list.append") [.ref x, .ref _]) _ _ _
  have F9 := F.push { cls := .type "tuple", data := .seq [a, b].toArray }
  have N9 := News.push F N { cls := .type "tuple", data := .seq [a, b].toArray }
  have hx9 := N9 _ (.tail _ (.head _))
  have hd9 := N9 _ (.tail _ (.tail _ (.head _)))
  have hT9 := N9 _ (.head _)
  refine ring_append (X.keeps F9.keep) hx9.1 hd9.1 (by rw [sizeLine_eq]; omega) fun h5 c5 sb hx5 => ?_
  have F5 := F9.change sb hx9.2.1 hx9.2.2
  refine wpAny_execs_nil ?_
  have hd5 := sb.extBut d _ (Ne.symm r.xd) hd9.1
  obtain ⟨b2, r2⟩ := r.leave F5 hx5 hd5 he
  obtain ⟨t1, t2⟩ := tup_fin (o := _) rfl rfl hT9.1 hT9.2.2 hx9.1 hd9.1 sb
  exact h h5 _ _ b2 r2 t1 t2
end
end Mine
end

-- part P1
section
open PySem PySem.Sre
namespace Mine
def codeE : Array Nat := #[14, 9, 4, 1, 2, 16, 10, 16, 13, 0, 7, 7, 16, 13, 16, 10, 15, 18, 5, 16, 10, 15, 13, 11, 16, 13, 5, 5, 0, 16, 10, 1, 15, 2, 0, 1]
def codeP : Array Nat := #[14, 4, 0, 1, 1, 6, 1, 16, 46, 1]
def codeQ : Array Nat := #[14, 8, 1, 2, 4294967295, 1, 1, 34, 0, 16, 34, 28, 22, 0, 4294967295, 7, 11, 13, 7, 21, 16, 34, 16, 92, 0, 15, 8, 6, 16, 92, 2, 15, 2, 0, 1, 16, 34, 1]

section
variable {m : M} {b : Bool}
theorem step_exec (h1 : m.outcome = none) (h2 : m.answer = none) (h3 : decide (m.pc < m.code.size) = true) : m.step = m.exec := by
  unfold M.step
  rw [h1, h2]
  simp only [Option.isSome_none, Bool.false_eq_true, if_false]
  rw [if_pos (of_decide_eq_true h3)]
theorem step_pop {yes : Bool} {f : PySem.Sre.Frame} {rest : List PySem.Sre.Frame} (h1 : m.outcome = none) (h2 : m.answer = some yes) (h3 : m.frames = f :: rest) :
    m.step = M.resume { m with answer := none, frames := rest, weight := m.weight - (1 + f.kept.marks.size), pc := f.pc, pos := f.pos, outermost := f.outermost } f yes := by
  unfold M.step
  rw [h1, h2, h3]
  simp only [Option.isSome_none, Bool.false_eq_true, if_false]
theorem step_end {yes : Bool} (h1 : m.outcome = none) (h2 : m.answer = some yes) (h3 : m.frames = []) :
    m.step = { m with outcome := some (if yes then .matched else .failed) } := by
  unfold M.step
  rw [h1, h2, h3]
  simp only [Option.isSome_none, Bool.false_eq_true, if_false]
theorem step_start_yes {f : PySem.Sre.Frame} {rest : List PySem.Sre.Frame} (h1 : m.outcome = none) (h2 : m.answer = some true) (h3 : m.frames = f :: rest) (hw : f.wait = .nextStart) :
    m.step = { m with answer := some true, frames := rest, weight := m.weight - (1 + f.kept.marks.size), pc := f.pc, pos := f.pos, outermost := f.outermost } := by
  rw [step_pop h1 h2 h3]
  unfold M.resume
  rw [hw]
  rfl
theorem step_start_no {f : PySem.Sre.Frame} {rest : List PySem.Sre.Frame} (h1 : m.outcome = none) (h2 : m.answer = some false) (h3 : m.frames = f :: rest) (hw : f.wait = .nextStart) (hp : f.pos < m.lastStart) :
    m.step = M.attemptFrom { m with answer := none, frames := rest, weight := m.weight - (1 + f.kept.marks.size), pc := f.pc, pos := f.pos, outermost := f.outermost, mustAdvance := false } (f.pos + 1) false := by
  rw [step_pop h1 h2 h3]
  unfold M.resume
  rw [hw]
  dsimp only
  rw [if_neg Bool.false_ne_true, if_pos hp]
theorem step_start_end {f : PySem.Sre.Frame} {rest : List PySem.Sre.Frame} (h1 : m.outcome = none) (h2 : m.answer = some false) (h3 : m.frames = f :: rest) (hw : f.wait = .nextStart) (hp : ¬ f.pos < m.lastStart) :
    m.step = { m with answer := some false, frames := rest, weight := m.weight - (1 + f.kept.marks.size), pc := f.pc, pos := f.pos, outermost := f.outermost } := by
  rw [step_pop h1 h2 h3]
  unfold M.resume
  rw [hw]
  dsimp only
  rw [if_neg Bool.false_ne_true, if_neg hp]
  rfl
theorem step_branch_yes {f : PySem.Sre.Frame} {rest : List PySem.Sre.Frame} (h1 : m.outcome = none) (h2 : m.answer = some true) (h3 : m.frames = f :: rest) (hw : f.wait = .nextBranch) :
    m.step = { m with answer := some true, frames := rest, weight := m.weight - (1 + f.kept.marks.size), pc := f.pc, pos := f.pos, outermost := f.outermost } := by
  rw [step_pop h1 h2 h3]
  unfold M.resume
  rw [hw]
  rfl
theorem step_branch_no {f : PySem.Sre.Frame} {rest : List PySem.Sre.Frame} (h1 : m.outcome = none) (h2 : m.answer = some false) (h3 : m.frames = f :: rest) (hw : f.wait = .nextBranch) :
    m.step = M.alternative (M.putBack { m with answer := none, frames := rest, weight := m.weight - (1 + f.kept.marks.size), pc := f.pc, pos := f.pos, outermost := f.outermost } f.kept) (f.pc + m.code.getD f.pc 0) f.kept := by
  rw [step_pop h1 h2 h3]
  unfold M.resume
  rw [hw]
  rfl
theorem step_not_no {f : PySem.Sre.Frame} {rest : List PySem.Sre.Frame} (h1 : m.outcome = none) (h2 : m.answer = some false) (h3 : m.frames = f :: rest) (hw : f.wait = .lookNot) :
    m.step = { M.putBack { m with answer := none, frames := rest, weight := m.weight - (1 + f.kept.marks.size), pc := f.pc, pos := f.pos, outermost := f.outermost } f.kept with pc := f.pc + 1 + m.code.getD (f.pc + 1) 0 } := by
  rw [step_pop h1 h2 h3]
  unfold M.resume
  rw [hw]
  rfl
theorem step_poss_yes {f : PySem.Sre.Frame} {rest : List PySem.Sre.Frame} (h1 : m.outcome = none) (h2 : m.answer = some true) (h3 : m.frames = f :: rest) (hw : f.wait = .possMore) :
    m.step = M.possessive { m with answer := none, frames := rest, weight := m.weight - (1 + f.kept.marks.size), pc := f.pc, pos := f.pos, outermost := f.outermost } f.loop (f.count + 1) (some f.pos) := by
  rw [step_pop h1 h2 h3]
  unfold M.resume
  rw [hw]
  rfl
theorem step_poss_no {f : PySem.Sre.Frame} {rest : List PySem.Sre.Frame} (h1 : m.outcome = none) (h2 : m.answer = some false) (h3 : m.frames = f :: rest) (hw : f.wait = .possMore) :
    m.step = M.possessive { M.putBack { m with answer := none, frames := rest, weight := m.weight - (1 + f.kept.marks.size), pc := f.pc, pos := f.pos, outermost := f.outermost } f.kept with handed := f.pos } f.loop f.count (some f.pos) := by
  rw [step_pop h1 h2 h3]
  unfold M.resume
  rw [hw]
  rfl
theorem exec_AT (h : m.word 0 = 6) (hb : M.isAt { m with seen := m.seen.add 6 } (m.word 1) = .ok b) :
    m.exec = if b then { m with seen := (m.seen.add 6).add (43 + m.word 1), pc := m.pc + 2 } else M.say { m with seen := (m.seen.add 6).add (43 + m.word 1) } false := by
  unfold M.exec
  rw [h]
  show (match M.isAt { m with seen := m.seen.add 6 } (m.word 1) with | .error why => _ | .ok yes => _) = _
  rw [hb]
  cases b <;> rfl
theorem exec_LIT (h : m.word 0 = 16) : m.exec = if m.pos < m.lim then (if m.text.getD m.pos 0 == m.code.getD (m.pc + 1) 0 then { m with seen := m.seen.add 16, pc := m.pc + 2, pos := m.pos + 1 } else M.say { m with seen := m.seen.add 16 } false) else M.say { m with seen := m.seen.add 16 } false := by
  have ho : ops[m.code.getD m.pc 0]? = some Op.LITERAL := by have : m.code.getD m.pc 0 = 16 := h; rw [this]; rfl
  unfold M.exec
  rw [h]
  show (if m.pos ≥ m.lim then _ else match accepts m.code m.pc (m.text.getD m.pos 0) (m.seen.add 16) with | .error why => _ | .ok (false, seen) => _ | .ok (true, seen) => _) = _
  by_cases hp : m.pos < m.lim
  · rw [if_pos hp, if_neg (by omega)]
    have e : accepts m.code m.pc (m.text.getD m.pos 0) (m.seen.add 16) = .ok (m.text.getD m.pos 0 == m.code.getD (m.pc + 1) 0, m.seen.add 16) := by
      unfold accepts
      rw [ho]
    rw [e]
    have ew : itemWidth m.code m.pc = 2 := by
      unfold itemWidth
      rw [ho]
    cases hq : (m.text.getD m.pos 0 == m.code.getD (m.pc + 1) 0) with
    | true => simp only [if_true]; rw [ew]
    | false => rfl
  · rw [if_neg hp, if_pos (by omega)]
theorem exec_SUCC (h : m.word 0 = 1) (hb : (m.outermost && ((m.wholeText && m.pos != m.lim) || (m.mustAdvance && m.pos == m.start))) = false) :
    m.exec = M.say { m with seen := m.seen.add 1, handed := m.pos } true := by
  unfold M.exec
  rw [h]
  show (if (m.outermost && ((m.wholeText && m.pos != m.lim) || (m.mustAdvance && m.pos == m.start))) = true then _ else _) = _
  rw [hb]
  rfl
theorem exec_JUMP (h : m.word 0 = 15) : m.exec = { m with seen := m.seen.add 15, pc := m.pc + 1 + m.word 1 } := by
  unfold M.exec
  rw [h]
  rfl
theorem exec_BRANCH (h : m.word 0 = 7) : m.exec = M.alternative { m with seen := m.seen.add 7 } (m.pc + 1) (M.keep { m with seen := m.seen.add 7 } m.inner.isSome) := by
  unfold M.exec
  rw [h]
  rfl
theorem exec_NOT (h : m.word 0 = 5) (hp : m.pos ≥ m.word 2) : m.exec = M.attempt { m with seen := m.seen.add 5 } { M.frame { m with seen := m.seen.add 5 } .lookNot with kept := M.keep { m with seen := m.seen.add 5 } m.inner.isSome } (m.pc + 3) (m.pos - m.word 2) false := by
  unfold M.exec
  rw [h]
  show (if m.pos < m.word 2 then _ else _) = _
  rw [if_neg (by omega)]
  rfl
theorem exec_IN (h : m.word 0 = 13) {y : Bool} {sn : Seen} (hb : inSet m.code (m.text.getD m.pos 0) m.code.size (m.pc + 2) true (m.seen.add 13) = .ok (y, sn)) :
    m.exec = if m.pos < m.lim then (if y then { m with seen := sn, pc := m.pc + (1 + m.code.getD (m.pc + 1) 0), pos := m.pos + 1 } else M.say { m with seen := sn } false) else M.say { m with seen := m.seen.add 13 } false := by
  have ho : ops[m.code.getD m.pc 0]? = some Op.IN := by have : m.code.getD m.pc 0 = 13 := h; rw [this]; rfl
  unfold M.exec
  rw [h]
  show (if m.pos ≥ m.lim then _ else match accepts m.code m.pc (m.text.getD m.pos 0) (m.seen.add 13) with | .error why => _ | .ok (false, seen) => _ | .ok (true, seen) => _) = _
  by_cases hp : m.pos < m.lim
  · rw [if_pos hp, if_neg (by omega)]
    have e : accepts m.code m.pc (m.text.getD m.pos 0) (m.seen.add 13) = .ok (y, sn) := by
      unfold accepts
      rw [ho]
      exact hb
    rw [e]
    have ew : itemWidth m.code m.pc = 1 + m.code.getD (m.pc + 1) 0 := by
      unfold itemWidth
      rw [ho]
    cases y with
    | true => simp only [if_true]; rw [ew]
    | false => rfl
  · rw [if_neg hp, if_pos (by omega)]
theorem exec_POSS (h : m.word 0 = 28) : m.exec = M.possessive { m with seen := m.seen.add 28, loops := m.loops.push { pc := 0, outer := m.inner }, inner := some m.loops.size, handed := m.pos } m.loops.size 0 none := by
  unfold M.exec
  rw [h]
  rfl
theorem attempt_ok {f : PySem.Sre.Frame} {target p : Nat} {o : Bool} (h : ¬ (m.weight + 1 + f.kept.marks.size > 16777216)) : m.attempt f target p o = { m with frames := f :: m.frames, weight := m.weight + 1 + f.kept.marks.size, pc := target, pos := p, handed := p, outermost := o } := by
  unfold M.attempt
  rw [if_neg h]
end

/-- n steps lead from m to a state with P -/
def Goes (n : Nat) (m : M) (P : M → Prop) : Prop := P (M.runFor n m)
theorem Goes.now {m : M} {P : M → Prop} (h : P m) : Goes 0 m P := h
theorem Goes.one {n : Nat} {m m' : M} {P : M → Prop} (h1 : m.outcome = none) (h : m.step = m') (g : Goes n m' P) : Goes (n + 1) m P := by
  unfold Goes M.runFor
  rw [h1]
  simp only [Option.isSome_none, Bool.false_eq_true, if_false]
  rw [h]; exact g
theorem runFor_done : ∀ (n : Nat) (m : M), m.outcome.isSome = true → M.runFor n m = m
  | 0, _, _ => rfl
  | n + 1, m, h => by unfold M.runFor; rw [if_pos h]
theorem runFor_add : ∀ (a b : Nat) (m : M), M.runFor (a + b) m = M.runFor b (M.runFor a m)
  | 0, b, m => by rw [Nat.zero_add]; rfl
  | a + 1, b, m => by
    rw [Nat.add_right_comm]
    by_cases h : m.outcome.isSome = true
    · rw [runFor_done _ _ h, runFor_done _ _ h, runFor_done _ _ h]
    · show (if m.outcome.isSome then m else M.runFor (a + b) m.step) = M.runFor b (if m.outcome.isSome then m else M.runFor a m.step)
      rw [if_neg h, if_neg h, runFor_add a b]
theorem Goes.more {n k : Nat} {m : M} {P : M → Prop} (g : Goes n m fun m' => m'.outcome.isSome = true ∧ P m') : Goes (n + k) m fun m' => m'.outcome.isSome = true ∧ P m' := by
  unfold Goes at *
  rw [runFor_add, runFor_done _ _ g.1]; exact g
theorem Goes.then {n k : Nat} {m m' : M} {P : M → Prop} (g : M.runFor n m = m') (g' : Goes k m' P) : Goes (n + k) m P := by
  unfold Goes at *
  rw [runFor_add, g]; exact g'

section
variable {m : M}
theorem exec_AT_t (h : m.word 0 = 6) (hb : M.isAt { m with seen := m.seen.add 6 } (m.word 1) = .ok true) : m.exec = { m with seen := (m.seen.add 6).add (43 + m.word 1), pc := m.pc + 2 } := (exec_AT h hb).trans (if_pos rfl)
theorem exec_AT_f (h : m.word 0 = 6) (hb : M.isAt { m with seen := m.seen.add 6 } (m.word 1) = .ok false) : m.exec = { m with seen := (m.seen.add 6).add (43 + m.word 1), answer := some false } := (exec_AT h hb).trans (if_neg Bool.false_ne_true)
theorem exec_LIT_t (h : m.word 0 = 16) (hp : m.pos < m.lim) (hc : (m.text.getD m.pos 0 == m.code.getD (m.pc + 1) 0) = true) : m.exec = { m with seen := m.seen.add 16, pc := m.pc + 2, pos := m.pos + 1 } := (exec_LIT h).trans ((if_pos hp).trans (if_pos hc))
theorem exec_LIT_f (h : m.word 0 = 16) (hp : m.pos < m.lim) (hc : (m.text.getD m.pos 0 == m.code.getD (m.pc + 1) 0) = false) : m.exec = { m with seen := m.seen.add 16, answer := some false } := (exec_LIT h).trans ((if_pos hp).trans (if_neg (by rw [hc]; exact Bool.false_ne_true)))
theorem exec_LIT_e (h : m.word 0 = 16) (hp : ¬ m.pos < m.lim) : m.exec = { m with seen := m.seen.add 16, answer := some false } := (exec_LIT h).trans (if_neg hp)
theorem exec_IN_t (h : m.word 0 = 13) {sn : Seen} (hb : inSet m.code (m.text.getD m.pos 0) m.code.size (m.pc + 2) true (m.seen.add 13) = .ok (true, sn)) (hp : m.pos < m.lim) :
    m.exec = { m with seen := sn, pc := m.pc + (1 + m.code.getD (m.pc + 1) 0), pos := m.pos + 1 } := (exec_IN h hb).trans ((if_pos hp).trans (if_pos rfl))
theorem exec_IN_f (h : m.word 0 = 13) {sn : Seen} (hb : inSet m.code (m.text.getD m.pos 0) m.code.size (m.pc + 2) true (m.seen.add 13) = .ok (false, sn)) (hp : m.pos < m.lim) :
    m.exec = { m with seen := sn, answer := some false } := (exec_IN h hb).trans ((if_pos hp).trans (if_neg Bool.false_ne_true))
theorem exec_IN_e (h : m.word 0 = 13) {y : Bool} {sn : Seen} (hb : inSet m.code (m.text.getD m.pos 0) m.code.size (m.pc + 2) true (m.seen.add 13) = .ok (y, sn)) (hp : ¬ m.pos < m.lim) :
    m.exec = { m with seen := m.seen.add 13, answer := some false } := (exec_IN h hb).trans (if_neg hp)

end
/-- the machine at the start of a try at place s -/
def tryP (t : Array Nat) (lim s ls : Nat) (must fi : Bool) (sn : Seen) : M :=
  { code := codeP, text := t, lim := lim, start := s, lastStart := ls, mustAdvance := must, pc := 5, pos := s, handed := s, outermost := fi, marks := #[],
    frames := [{ wait := .nextStart, pc := 5, pos := s, outermost := fi }], weight := 1, seen := sn }

/-- a try that has failed -/
def failP (t : Array Nat) (lim s ls : Nat) (must fi : Bool) (sn : Seen) (pc pos : Nat) : M :=
  { code := codeP, text := t, lim := lim, start := s, lastStart := ls, mustAdvance := must, pc := pc, pos := pos, handed := s, outermost := fi, marks := #[],
    frames := [{ wait := .nextStart, pc := 5, pos := s, outermost := fi }], weight := 1, seen := sn, answer := some false }

def Hit (s e : Nat) (m' : M) : Prop := m'.outcome.isSome = true ∧ (∃ o, m'.outcome = some o ∧ o = .matched) ∧ m'.start = s ∧ m'.handed = e
def Miss (m' : M) : Prop := m'.outcome.isSome = true ∧ ∃ o, m'.outcome = some o ∧ o = .failed

theorem hitP (t : Array Nat) (lim s ls : Nat) (must fi : Bool) (sn : Seen) (h : s < lim) (h0 : (s == 0 || t.getD (s - 1) 0 == 10) = true) (h1 : t.getD s 0 = 46) :
    Goes 5 (tryP t lim s ls must fi sn) (Hit s (s + 1)) := by
  refine Goes.one rfl ((step_exec rfl rfl rfl).trans (exec_AT_t rfl (by rw [← h0]; rfl))) ?_
  dsimp only [tryP]
  refine Goes.one rfl ((step_exec rfl rfl rfl).trans (exec_LIT_t rfl h (by show (t.getD s 0 == 46) = true; rw [h1]; rfl))) ?_
  dsimp only
  refine Goes.one rfl ((step_exec rfl rfl rfl).trans (exec_SUCC rfl ?_)) ?_
  · show (fi && ((false && _) || (must && (s + 1) == s))) = false
    have : (s + 1 == s) = false := by simp
    rw [this]; simp
  dsimp only [M.say]
  refine Goes.one rfl (step_pop rfl rfl rfl) ?_
  dsimp only
  refine Goes.one rfl (step_end rfl rfl rfl) ?_
  exact ⟨rfl, ⟨_, rfl, rfl⟩, rfl, rfl⟩
/-- at most n steps lead from m to m' -/
def Leads (n : Nat) (m m' : M) : Prop := ∃ k, k ≤ n ∧ M.runFor k m = m'
theorem Leads.refl {n : Nat} (m : M) : Leads n m m := ⟨0, Nat.zero_le _, rfl⟩
theorem Leads.one {n : Nat} {m m' m'' : M} (h1 : m.outcome = none) (h : m.step = m') (g : Leads n m' m'') : Leads (n + 1) m m'' := by
  obtain ⟨k, hn, hk⟩ := g
  exact ⟨k + 1, Nat.succ_le_succ hn, Goes.one (P := fun x => x = m'') h1 h hk⟩
theorem Leads.trans {x y : Nat} {a b c : M} (f : Leads x a b) (g : Leads y b c) : Leads (x + y) a c := by
  obtain ⟨j, h1, hj⟩ := f
  obtain ⟨k, h2, hk⟩ := g
  exact ⟨j + k, Nat.add_le_add h1 h2, by rw [runFor_add, hj, hk]⟩
theorem Leads.mono {x y : Nat} {a b : M} (f : Leads x a b) (h : x ≤ y := by omega) : Leads y a b := let ⟨j, h1, hj⟩ := f; ⟨j, Nat.le_trans h1 h, hj⟩
/-- at most n steps end in P -/
def Ends (n : Nat) (m : M) (P : M → Prop) : Prop := ∃ m', Leads n m m' ∧ P m'
theorem Ends.of {n x : Nat} {m : M} {P : M → Prop} (g : Goes n m P) (h : n ≤ x := by omega) : Ends x m P := ⟨_, ⟨n, h, rfl⟩, g⟩
theorem Ends.from {n x y : Nat} {m m' : M} {P : M → Prop} (f : Leads x m m') (g : Ends y m' P) (h : x + y ≤ n := by omega) : Ends n m P := let ⟨z, w, k⟩ := g; ⟨z, (f.trans w).mono h, k⟩
theorem Ends.mono {x y : Nat} {m : M} {P : M → Prop} (f : Ends x m P) (h : x ≤ y := by omega) : Ends y m P := let ⟨z, w, k⟩ := f; ⟨z, w.mono h, k⟩
theorem Ends.one {n : Nat} {m m' : M} {P : M → Prop} (h1 : m.outcome = none) (h : m.step = m') (g : Ends n m' P) : Ends (n + 1) m P := let ⟨f, y, hf⟩ := g; ⟨f, y.one h1 h, hf⟩

/-- a try that fails goes on at the next place -/
theorem missP (t : Array Nat) (lim s ls : Nat) (must fi : Bool) (sn : Seen) (h : (s == 0 || t.getD (s - 1) 0 == 10) = false ∨ ¬ s < lim ∨ (t.getD s 0 == 46) = false) :
    ∃ pc pos sn', Leads 20 (tryP t lim s ls must fi sn) (failP t lim s ls must fi sn' pc pos) := by
  cases hb : (s == 0 || t.getD (s - 1) 0 == 10) with
  | false =>
    exact ⟨5, s, (sn.add 6).add 44, .one rfl ((step_exec rfl rfl rfl).trans (exec_AT_f rfl (by rw [← hb]; rfl))) (.refl _)⟩
  | true =>
    have h2 : ¬ s < lim ∨ (t.getD s 0 == 46) = false := by
      rcases h with h | h
      · rw [h] at hb; cases hb
      · exact h
    by_cases hl : s < lim
    · have h3 : (t.getD s 0 == 46) = false := h2.resolve_left fun x => x hl
      refine ⟨7, s, ((sn.add 6).add 44).add 16, .one rfl ((step_exec rfl rfl rfl).trans (exec_AT_t rfl (by rw [← hb]; rfl))) ?_⟩
      dsimp only [tryP]
      exact .one rfl ((step_exec rfl rfl rfl).trans (exec_LIT_f rfl hl h3)) (.refl _)
    · refine ⟨7, s, ((sn.add 6).add 44).add 16, .one rfl ((step_exec rfl rfl rfl).trans (exec_AT_t rfl (by rw [← hb]; rfl))) ?_⟩
      dsimp only [tryP]
      exact .one rfl ((step_exec rfl rfl rfl).trans (exec_LIT_e rfl hl)) (.refl _)
theorem nextP (t : Array Nat) (lim s ls : Nat) (must fi : Bool) (sn : Seen) (h : (s == 0 || t.getD (s - 1) 0 == 10) = false ∨ ¬ s < lim ∨ (t.getD s 0 == 46) = false) (hs : s < ls) :
    ∃ sn', Leads 40 (tryP t lim s ls must fi sn) (tryP t lim (s + 1) ls false false sn') := by
  obtain ⟨pc, pos, sn', g⟩ := missP t lim s ls must fi sn h
  exact ⟨sn', g.trans (.one (n := 19) rfl (step_start_no rfl rfl rfl rfl hs) (.refl _))⟩
theorem lastP (t : Array Nat) (lim s ls : Nat) (must fi : Bool) (sn : Seen) (h : (s == 0 || t.getD (s - 1) 0 == 10) = false ∨ ¬ s < lim ∨ (t.getD s 0 == 46) = false) (hs : ¬ s < ls) :
    Ends 40 (tryP t lim s ls must fi sn) Miss := by
  obtain ⟨pc, pos, sn', g⟩ := missP t lim s ls must fi sn h
  refine .from (y := 20) g ?_
  refine .one rfl (step_start_end rfl rfl rfl rfl hs) ?_
  exact .one rfl (step_end rfl rfl rfl) ⟨_, .refl _, rfl, _, rfl, rfl⟩
/-- a dot that begins a line -/
def dotAt (t : Array Nat) (s : Nat) : Bool := (s == 0 || t.getD (s - 1) 0 == 10) && t.getD s 0 == 46
theorem searchP_hit (t : Array Nat) (b : Nat) (hb : dotAt t b = true) (hl : b < t.size) : ∀ (k s : Nat) (must fi : Bool) (sn : Seen), s + k = b → (∀ j, s ≤ j → j < b → dotAt t j = false) →
    Ends (40 * (k + 1)) (tryP t t.size s t.size must fi sn) (Hit b (b + 1))
  | 0, s, must, fi, sn, e, _ => by
    obtain rfl : s = b := by omega
    have := Bool.and_eq_true_iff.mp hb
    exact .of (hitP t t.size s t.size must fi sn hl this.1 (by simpa using this.2))
  | k + 1, s, must, fi, sn, e, h => by
    have h1 := h s (Nat.le_refl _) (by omega)
    obtain ⟨sn', g⟩ := nextP t t.size s t.size must fi sn ((Bool.and_eq_false_iff.mp h1).imp id .inr) (by omega)
    exact .from g (searchP_hit t b hb hl k (s + 1) false false sn' (by omega) fun j h1 h2 => h j (by omega) h2)
theorem searchP_miss (t : Array Nat) : ∀ (k s : Nat) (must fi : Bool) (sn : Seen), s + k = t.size → (∀ j, s ≤ j → j < t.size → dotAt t j = false) →
    Ends (40 * (k + 1)) (tryP t t.size s t.size must fi sn) Miss
  | 0, s, must, fi, sn, e, _ => lastP t t.size s t.size must fi sn (.inr (.inl (by omega))) (by omega)
  | k + 1, s, must, fi, sn, e, h => by
    have h1 := h s (Nat.le_refl _) (by omega)
    obtain ⟨sn', g⟩ := nextP t t.size s t.size must fi sn ((Bool.and_eq_false_iff.mp h1).imp id .inr) (by omega)
    exact .from g (searchP_miss t k (s + 1) false false sn' (by omega) fun j h1 h2 => h j (by omega) h2)
theorem startP (t : Array Nat) (s : Nat) (must : Bool) (h : s < t.size) : forSearch codeP t 0 s t.size must = tryP t t.size s t.size must true (({} : Seen).add 14) := by
  show (if (decide (s > t.size) || decide (t.size - s < 1)) = true then _ else M.attemptFrom _ s true) = _
  have e : (decide (s > t.size) || decide (t.size - s < 1)) = false := by simp; omega
  rw [e, if_neg Bool.false_ne_true]
  rfl
theorem startP_end (t : Array Nat) (must : Bool) : Ends 400 (forSearch codeP t 0 t.size t.size must) Miss := by
  have h : forSearch codeP t 0 t.size t.size must = M.say { code := codeP, text := t, lim := t.size, start := t.size, pc := 5, pos := t.size, handed := t.size, marks := #[], mustAdvance := must, seen := ({} : Seen).add 14 } false := by
    show (if (decide (t.size > t.size) || decide (t.size - t.size < 1)) = true then _ else _) = _
    rw [if_pos (by simp)]
    rfl
  rw [h]
  exact .one rfl (step_end rfl rfl rfl) ⟨_, .refl _, rfl, _, rfl, rfl⟩
/-! the line ends -/
def tryE (t : Array Nat) (lim s ls : Nat) (fi : Bool) (sn : Seen) : M :=
  { code := codeE, text := t, lim := lim, start := s, lastStart := ls, pc := 10, pos := s, handed := s, outermost := fi, marks := #[],
    frames := [{ wait := .nextStart, pc := 10, pos := s, outermost := fi }], weight := 1, seen := sn }
def inE (t : Array Nat) (lim s ls : Nat) (fi : Bool) (sn : Seen) (hd alt pc pos : Nat) : M :=
  { code := codeE, text := t, lim := lim, start := s, lastStart := ls, pc := pc, pos := pos, handed := hd, outermost := fi, marks := #[],
    frames := [{ wait := .nextBranch, pc := alt, pos := s, outermost := fi }, { wait := .nextStart, pc := 10, pos := s, outermost := fi }], weight := 2, seen := sn }
section
variable (t : Array Nat) (lim s ls : Nat) (fi : Bool) (sn : Seen)
theorem branchE : ∃ sn', Leads 20 (tryE t lim s ls fi sn) (inE t lim s ls fi sn' s 11 12 s) :=
  ⟨sn.add 7, .one rfl ((step_exec rfl rfl rfl).trans (exec_BRANCH rfl)) (.refl _)⟩
theorem succE (hd alt pos : Nat) : Ends 20 (inE t lim s ls fi sn hd alt 35 pos) (Hit s pos) := by
  refine .one rfl ((step_exec rfl rfl rfl).trans (exec_SUCC rfl ?_)) ?_
  · show (fi && ((false && _) || (false && _))) = false
    simp
  dsimp only [M.say, inE]
  refine .one rfl (step_branch_yes rfl rfl rfl rfl) ?_
  dsimp only
  refine .one rfl (step_start_yes rfl rfl rfl rfl) ?_
  dsimp only
  exact .one rfl (step_end rfl rfl rfl) ⟨_, .refl _, rfl, ⟨_, rfl, rfl⟩, rfl, rfl⟩
theorem litE {hd alt pc pos c : Nat} (hw : codeE.getD pc 0 = 16) (hc : codeE.getD (pc + 1) 0 = c) (hpc : decide (pc < codeE.size) = true) (hp : pos < lim) (h : t.getD pos 0 = c) :
    ∃ sn', Leads 20 (inE t lim s ls fi sn hd alt pc pos) (inE t lim s ls fi sn' hd alt (pc + 2) (pos + 1)) :=
  ⟨sn.add 16, .one rfl ((step_exec rfl rfl hpc).trans (exec_LIT_t hw hp (by show (t.getD pos 0 == codeE.getD (pc + 1) 0) = true; rw [hc, h]; exact beq_self_eq_true c))) (.refl _)⟩
theorem jumpE {hd alt pc pos : Nat} (hw : codeE.getD pc 0 = 15) (hc : pc + 1 + codeE.getD (pc + 1) 0 = 35) (hpc : decide (pc < codeE.size) = true) :
    ∃ sn', Leads 20 (inE t lim s ls fi sn hd alt pc pos) (inE t lim s ls fi sn' hd alt 35 pos) :=
  ⟨sn.add 15, .one rfl ((step_exec rfl rfl hpc).trans (exec_JUMP hw)) (by
    have : inE t lim s ls fi (sn.add 15) hd alt 35 pos = inE t lim s ls fi (sn.add 15) hd alt (pc + 1 + codeE.getD (pc + 1) 0) pos := by rw [hc]
    rw [this]; exact .refl _)⟩
theorem nolitE {hd alt pc pos : Nat} (hw : codeE.getD pc 0 = 16) (hpc : decide (pc < codeE.size) = true) (h : ¬ pos < lim ∨ (t.getD pos 0 == codeE.getD (pc + 1) 0) = false) (ha : (codeE.getD (alt + codeE.getD alt 0) 0 == 0) = false) :
    ∃ sn', Leads 20 (inE t lim s ls fi sn hd alt pc pos) (inE t lim s ls fi sn' s (alt + codeE.getD alt 0) (alt + codeE.getD alt 0 + 1) s) := by
  refine ⟨sn.add 16, ?_⟩
  have pop : Leads 19 { inE t lim s ls fi (sn.add 16) hd alt pc pos with answer := some false } (inE t lim s ls fi (sn.add 16) s (alt + codeE.getD alt 0) (alt + codeE.getD alt 0 + 1) s) := by
    refine .one rfl ((step_branch_no rfl rfl rfl rfl).trans ?_) (.refl _)
    show (if (codeE.getD (alt + codeE.getD alt 0) 0 == 0) = true then _ else _) = _
    rw [ha, if_neg Bool.false_ne_true]
    rfl
  by_cases hp : pos < lim
  · exact .one rfl ((step_exec rfl rfl hpc).trans (exec_LIT_f hw hp (h.resolve_left fun x => x hp))) pop
  · exact .one rfl ((step_exec rfl rfl hpc).trans (exec_LIT_e hw hp)) pop
theorem hitE_two (h1 : s + 1 < lim) (h2 : t.getD s 0 = 13) (h3 : t.getD (s + 1) 0 = 10) : Ends 200 (tryE t lim s ls fi sn) (Hit s (s + 2)) := by
  obtain ⟨s1, g1⟩ := branchE t lim s ls fi sn
  obtain ⟨s2, g2⟩ := litE t lim s ls fi s1 (alt := 11) (pc := 12) (pos := s) rfl rfl rfl (by omega) h2
  obtain ⟨s3, g3⟩ := litE t lim s ls fi s2 (alt := 11) (pc := 14) (pos := s + 1) rfl rfl rfl h1 h3
  obtain ⟨s4, g4⟩ := jumpE t lim s ls fi s3 (alt := 11) (pc := 16) (pos := s + 2) rfl rfl rfl
  exact .from (g1.trans (g2.trans (g3.trans g4))) (succE t lim s ls fi s4 _ 11 (s + 2))
theorem hitE_feed (h1 : s < lim) (h2 : t.getD s 0 = 10) : Ends 200 (tryE t lim s ls fi sn) (Hit s (s + 1)) := by
  obtain ⟨s1, g1⟩ := branchE t lim s ls fi sn
  obtain ⟨s2, g2⟩ := nolitE t lim s ls fi s1 (alt := 11) (pc := 12) (pos := s) rfl rfl (.inr (by rw [h2]; rfl)) rfl
  obtain ⟨s3, g3⟩ := litE t lim s ls fi s2 (alt := 18) (pc := 19) (pos := s) rfl rfl rfl h1 h2
  obtain ⟨s4, g4⟩ := jumpE t lim s ls fi s3 (alt := 18) (pc := 21) (pos := s + 1) rfl rfl rfl
  exact .from (g1.trans (g2.trans (g3.trans g4))) (succE t lim s ls fi s4 _ 18 (s + 1))
theorem notE {hd : Nat} (h : ¬ s + 1 < lim ∨ (t.getD (s + 1) 0 == 10) = false) : ∃ sn', Leads 20 (inE t lim s ls fi sn hd 23 26 (s + 1)) (inE t lim s ls fi sn' (s + 1) 23 32 (s + 1)) := by
  refine ⟨(sn.add 5).add 16, ?_⟩
  refine .one rfl ((step_exec rfl rfl rfl).trans (exec_NOT rfl (Nat.zero_le _))) ?_
  have pop : Leads 18 { inE t lim s ls fi ((sn.add 5).add 16) (s + 1) 23 29 (s + 1) with outermost := false, answer := some false, weight := 3, frames := { wait := .lookNot, pc := 26, pos := s + 1, outermost := fi } :: (inE t lim s ls fi sn hd 23 26 (s + 1)).frames }
      (inE t lim s ls fi ((sn.add 5).add 16) (s + 1) 23 32 (s + 1)) :=
    .one rfl (step_not_no rfl rfl rfl rfl) (.refl _)
  by_cases hp : s + 1 < lim
  · exact .one rfl ((step_exec rfl rfl rfl).trans (exec_LIT_f rfl hp (h.resolve_left fun x => x hp))) pop
  · exact .one rfl ((step_exec rfl rfl rfl).trans (exec_LIT_e rfl hp)) pop
theorem hitE_ret (h1 : s < lim) (h2 : t.getD s 0 = 13) (h : ¬ s + 1 < lim ∨ (t.getD (s + 1) 0 == 10) = false) : Ends 200 (tryE t lim s ls fi sn) (Hit s (s + 1)) := by
  obtain ⟨s1, g1⟩ := branchE t lim s ls fi sn
  obtain ⟨s2, g2⟩ := litE t lim s ls fi s1 (alt := 11) (pc := 12) (pos := s) (hd := s) rfl rfl rfl h1 h2
  obtain ⟨s3, g3⟩ := nolitE t lim s ls fi s2 (alt := 11) (pc := 14) (pos := s + 1) (hd := s) rfl rfl h rfl
  obtain ⟨s4, g4⟩ := nolitE t lim s ls fi s3 (alt := 18) (pc := 19) (pos := s) (hd := s) rfl rfl (.inr (by rw [h2]; rfl)) rfl
  obtain ⟨s5, g5⟩ := litE t lim s ls fi s4 (alt := 23) (pc := 24) (pos := s) (hd := s) rfl rfl rfl h1 h2
  obtain ⟨s6, g6⟩ := notE t lim s ls fi s5 (hd := s) h
  obtain ⟨s7, g7⟩ := jumpE t lim s ls fi s6 (alt := 23) (pc := 32) (pos := s + 1) (hd := s + 1) rfl rfl rfl
  exact .from (g1.trans (g2.trans (g3.trans (g4.trans (g5.trans (g6.trans g7)))))) (succE t lim s ls fi s7 _ 23 (s + 1))
end
/-- where a line ends, and how long its end is -/
def eolAt (t : Array Nat) (s : Nat) : Bool := t.getD s 0 == 10 || t.getD s 0 == 13
def eolLen (t : Array Nat) (s : Nat) : Nat := if t.getD s 0 == 13 && decide (s + 1 < t.size) && t.getD (s + 1) 0 == 10 then 2 else 1
theorem hitE (t : Array Nat) (s ls : Nat) (fi : Bool) (sn : Seen) (h1 : s < t.size) (h : eolAt t s = true) : Ends 200 (tryE t t.size s ls fi sn) (Hit s (s + eolLen t s)) := by
  unfold eolLen
  rcases Bool.or_eq_true_iff.mp h with h | h
  · have e : t.getD s 0 = 10 := by simpa using h
    rw [e]
    exact hitE_feed t t.size s ls fi sn h1 e
  · have e : t.getD s 0 = 13 := by simpa using h
    cases q : (t.getD s 0 == 13 && decide (s + 1 < t.size) && t.getD (s + 1) 0 == 10) with
    | true =>
      simp only [Bool.and_eq_true, decide_eq_true_eq, beq_iff_eq] at q
      exact hitE_two t t.size s ls fi sn q.1.2 e q.2
    | false =>
      refine hitE_ret t t.size s ls fi sn h1 e ?_
      rw [h, Bool.true_and] at q
      rcases Bool.and_eq_false_iff.mp q with q | q
      · exact .inl (of_decide_eq_false q)
      · exact .inr q
theorem inSetE (c : Nat) (sn : Seen) : ∃ sn', inSet codeE c codeE.size 5 true sn = .ok (c == 10 || c == 13, sn') := by
  have e : codeE.size = 36 := rfl
  rw [e]
  by_cases h : c = 10
  · subst h; exact ⟨_, rfl⟩
  · by_cases h2 : c = 13
    · subst h2; exact ⟨_, rfl⟩
    · have q1 : (c == 10) = false := by simpa using h
      have q2 : (c == 13) = false := by simpa using h2
      refine ⟨((sn.add 16).add 16).add 0, ?_⟩
      rw [q1, q2]
      show (if (c == 10) = true then _ else (if (c == 13) = true then _ else _)) = _
      rw [q1, if_neg Bool.false_ne_true, q2, if_neg Bool.false_ne_true]
      rfl
theorem admE_hit (m : M) (hc : m.code = codeE) (hl : m.lim = m.text.size) (b : Nat) (hb : b < m.text.size) (he : eolAt m.text b = true) : ∀ (k s f : Nat) (sn : Seen), s + k = b → k < f → (∀ j, s ≤ j → j < b → eolAt m.text j = false) →
    ∃ sn', M.admitted m f s sn = .ok (some b, sn')
  | k, s, 0, sn, _, hf, _ => absurd hf (Nat.not_lt_zero _)
  | k, s, f + 1, sn, e, hf, h => by
    obtain ⟨s1, g1⟩ := inSetE (m.text.getD s 0) sn
    have hs : ¬ s ≥ m.lim := by omega
    unfold M.admitted
    rw [if_neg hs, hc, g1]
    cases k with
    | zero =>
      obtain rfl : s = b := by omega
      have q : (m.text.getD s 0 == 10 || m.text.getD s 0 == 13) = true := he
      rw [q]
      exact ⟨_, rfl⟩
    | succ k =>
      have q : (m.text.getD s 0 == 10 || m.text.getD s 0 == 13) = false := h s (Nat.le_refl _) (by omega)
      rw [q]
      exact admE_hit m hc hl b hb he k (s + 1) f s1 (by omega) (by omega) fun j h1 h2 => h j (by omega) h2
theorem admE_miss (m : M) (hc : m.code = codeE) (hl : m.lim = m.text.size) : ∀ (k s f : Nat) (sn : Seen), s + k = m.text.size → k < f → (∀ j, s ≤ j → j < m.text.size → eolAt m.text j = false) →
    ∃ sn', M.admitted m f s sn = .ok (none, sn')
  | k, s, 0, sn, _, hf, _ => absurd hf (Nat.not_lt_zero _)
  | 0, s, f + 1, sn, e, hf, h => by
    unfold M.admitted
    rw [if_pos (show s ≥ m.lim by omega)]
    exact ⟨_, rfl⟩
  | k + 1, s, f + 1, sn, e, hf, h => by
    obtain ⟨s1, g1⟩ := inSetE (m.text.getD s 0) sn
    have hs : ¬ s ≥ m.lim := by omega
    unfold M.admitted
    rw [if_neg hs, hc, g1]
    have q : (m.text.getD s 0 == 10 || m.text.getD s 0 == 13) = false := h s (Nat.le_refl _) (by omega)
    rw [q]
    exact admE_miss m hc hl k (s + 1) f s1 (by omega) (by omega) fun j h1 h2 => h j (by omega) h2
theorem firstSetE {m : M} (hc : m.code = codeE) : m.hasFirstSet = true := by unfold M.hasFirstSet; rw [hc]; rfl
theorem attemptFrom_E1 {m : M} (hc : m.code = codeE) {s b : Nat} {fi : Bool} {sn : Seen} (h : M.admitted m (m.lim + 1 - s) s m.seen = .ok (some b, sn)) :
    M.attemptFrom m s fi = M.attemptAt { m with mustAdvance := false, seen := sn } b fi := by
  unfold M.attemptFrom
  rw [firstSetE hc, h]
  rfl
theorem attemptFrom_E0 {m : M} (hc : m.code = codeE) {s : Nat} {fi : Bool} {sn : Seen} (h : M.admitted m (m.lim + 1 - s) s m.seen = .ok (none, sn)) :
    M.attemptFrom m s fi = M.say { m with seen := sn } false := by
  unfold M.attemptFrom
  rw [firstSetE hc, h]
  rfl
def freshM (c t : Array Nat) (s pc : Nat) (must : Bool) : M :=
  { code := c, text := t, lim := t.size, start := s, pc := pc, pos := s, handed := s, marks := #[], mustAdvance := must, seen := ({} : Seen).add 14 }
theorem searchE_hit (t : Array Nat) (b : Nat) (hb : b < t.size) (he : eolAt t b = true) (s : Nat) (must : Bool) (hs : s ≤ b) (h : ∀ j, s ≤ j → j < b → eolAt t j = false) :
    Ends 200 (forSearch codeE t 0 s t.size must) (Hit b (b + eolLen t b)) := by
  have e : (decide (s > t.size) || decide (t.size - s < 1)) = false := by simp; omega
  have h0 : forSearch codeE t 0 s t.size must = M.attemptFrom { freshM codeE t s 10 must with lastStart := t.size } s true := by
    show (if (decide (s > t.size) || decide (t.size - s < 1)) = true then _ else M.attemptFrom _ s true) = _
    rw [e, if_neg Bool.false_ne_true]
    rfl
  obtain ⟨sn, g⟩ := admE_hit { freshM codeE t s 10 must with lastStart := t.size } rfl rfl b hb he (b - s) s (t.size + 1 - s) (({} : Seen).add 14) (by omega) (by omega) h
  rw [h0, attemptFrom_E1 rfl g]
  exact hitE t b t.size true sn hb he
theorem searchE_miss (t : Array Nat) (s : Nat) (must : Bool) (hs : s ≤ t.size) (h : ∀ j, s ≤ j → j < t.size → eolAt t j = false) : Ends 200 (forSearch codeE t 0 s t.size must) Miss := by
  by_cases hl : s < t.size
  · have e : (decide (s > t.size) || decide (t.size - s < 1)) = false := by simp; omega
    have h0 : forSearch codeE t 0 s t.size must = M.attemptFrom { freshM codeE t s 10 must with lastStart := t.size } s true := by
      show (if (decide (s > t.size) || decide (t.size - s < 1)) = true then _ else M.attemptFrom _ s true) = _
      rw [e, if_neg Bool.false_ne_true]
      rfl
    obtain ⟨sn, g⟩ := admE_miss { freshM codeE t s 10 must with lastStart := t.size } rfl rfl (t.size - s) s (t.size + 1 - s) (({} : Seen).add 14) (by show s + (t.size - s) = t.size; omega) (by omega) h
    rw [h0, attemptFrom_E0 rfl g]
    exact .one rfl (step_end rfl rfl rfl) ⟨_, .refl _, rfl, _, rfl, rfl⟩
  · obtain rfl : s = t.size := by omega
    have h0 : forSearch codeE t 0 t.size t.size must = M.say (freshM codeE t t.size 10 must) false := by
      show (if (decide (t.size > t.size) || decide (t.size - t.size < 1)) = true then _ else _) = _
      rw [if_pos (by simp)]
      rfl
    rw [h0]
    exact .one rfl (step_end rfl rfl rfl) ⟨_, .refl _, rfl, _, rfl, rfl⟩

/-! what stands between two quotation marks -/
def startF (s : Nat) (fi : Bool) : PySem.Sre.Frame := { wait := .nextStart, pc := 9, pos := s, outermost := fi }
def moreF (p : Nat) (fi : Bool) (cnt : Int) : PySem.Sre.Frame := { wait := .possMore, pc := 11, pos := p, outermost := fi, count := cnt, kept := { whole := true } }
def tryQ (t : Array Nat) (lim s ls : Nat) (must fi : Bool) (sn : Seen) : M :=
  { code := codeQ, text := t, lim := lim, start := s, lastStart := ls, mustAdvance := must, pc := 9, pos := s, handed := s, outermost := fi, marks := #[], frames := [startF s fi], weight := 1, seen := sn }
def failQ (t : Array Nat) (lim s ls : Nat) (must fi : Bool) (sn : Seen) (pc pos hd : Nat) : M :=
  { code := codeQ, text := t, lim := lim, start := s, lastStart := ls, mustAdvance := must, pc := pc, pos := pos, handed := hd, outermost := fi, marks := #[], frames := [startF s fi], weight := 1, seen := sn, answer := some false }
def loopQ (t : Array Nat) (lim s ls : Nat) (must fi : Bool) (sn : Seen) (p : Nat) (cnt : Int) : M :=
  { code := codeQ, text := t, lim := lim, start := s, lastStart := ls, mustAdvance := must, pc := 15, pos := p, handed := p, outermost := false, marks := #[], loops := #[{ pc := 0, outer := none }], inner := some 0,
    frames := [moreF p fi cnt, startF s fi], weight := 2, seen := sn }
def inQ (t : Array Nat) (lim s ls : Nat) (must fi : Bool) (sn : Seen) (p : Nat) (cnt : Int) (alt pc pos : Nat) : M :=
  { code := codeQ, text := t, lim := lim, start := s, lastStart := ls, mustAdvance := must, pc := pc, pos := pos, handed := p, outermost := false, marks := #[], loops := #[{ pc := 0, outer := none }], inner := some 0,
    frames := [{ wait := .nextBranch, pc := alt, pos := p, outermost := false, kept := { whole := true } }, moreF p fi cnt, startF s fi], weight := 3, seen := sn }
def outQ (t : Array Nat) (lim s ls : Nat) (must fi : Bool) (sn : Seen) (pc p hd : Nat) : M :=
  { code := codeQ, text := t, lim := lim, start := s, lastStart := ls, mustAdvance := must, pc := pc, pos := p, handed := hd, outermost := fi, marks := #[], frames := [startF s fi], weight := 1, seen := sn }
theorem putBack_nil {m : M} {k : PySem.Sre.Kept} (hm : m.marks = #[]) (hk : k.marks = #[]) : m.putBack k = { m with lastmark := k.lastmark, lastindex := k.lastindex } := by
  unfold M.putBack
  have e : (if k.whole = true then k.marks ++ m.marks.extract k.marks.size m.marks.size else m.marks) = m.marks := by
    cases k.whole <;> simp [hm, hk]
  rw [e]
theorem step_branch_no' {m : M} {f : PySem.Sre.Frame} {rest : List PySem.Sre.Frame} (h1 : m.outcome = none) (h2 : m.answer = some false) (h3 : m.frames = f :: rest) (hw : f.wait = .nextBranch) (hm : m.marks = #[]) (hk : f.kept.marks = #[]) :
    m.step = M.alternative { m with answer := none, frames := rest, weight := m.weight - (1 + f.kept.marks.size), pc := f.pc, pos := f.pos, outermost := f.outermost, lastmark := f.kept.lastmark, lastindex := f.kept.lastindex } (f.pc + m.code.getD f.pc 0) f.kept := by
  have e := @putBack_nil { m with answer := none, frames := rest, weight := m.weight - (1 + f.kept.marks.size), pc := f.pc, pos := f.pos, outermost := f.outermost } f.kept hm hk
  rw [step_branch_no h1 h2 h3 hw, e]
theorem step_poss_no' {m : M} {f : PySem.Sre.Frame} {rest : List PySem.Sre.Frame} (h1 : m.outcome = none) (h2 : m.answer = some false) (h3 : m.frames = f :: rest) (hw : f.wait = .possMore) (hm : m.marks = #[]) (hk : f.kept.marks = #[]) :
    m.step = M.possessive { m with answer := none, frames := rest, weight := m.weight - (1 + f.kept.marks.size), pc := f.pc, pos := f.pos, outermost := f.outermost, lastmark := f.kept.lastmark, lastindex := f.kept.lastindex, handed := f.pos } f.loop f.count (some f.pos) := by
  have e := @putBack_nil { m with answer := none, frames := rest, weight := m.weight - (1 + f.kept.marks.size), pc := f.pc, pos := f.pos, outermost := f.outermost } f.kept hm hk
  rw [step_poss_no h1 h2 h3 hw]
  dsimp only
  rw [e]
theorem poss_more {m : M} {i : Nat} {count : Int} {began : Option Nat} (h1 : m.word 2 = 0) (h2 : m.word 3 = maxRepeat) (h0 : 0 ≤ count) (h3 : (began != some m.handed) = true) :
    m.possessive i count began = m.attempt { m.frame .possMore with pos := m.handed, loop := i, count, kept := m.keep true } (m.pc + 4) m.handed false := by
  unfold M.possessive
  dsimp only
  rw [h1, h2, h3, if_neg (by omega), if_pos (by simp)]
theorem poss_out {m : M} {i : Nat} {count : Int} {began : Option Nat} (h1 : m.word 2 = 0) (h0 : 0 ≤ count) (h3 : (began != some m.handed) = false) :
    m.possessive i count began = { m with inner := (m.loopAt i).outer, loops := m.loops.pop, pc := m.pc + 2 + m.word 1, pos := m.handed } := by
  unfold M.possessive
  dsimp only
  rw [h1, h3, if_neg (by omega), Bool.and_false, if_neg Bool.false_ne_true]
section
variable (t : Array Nat) (lim s ls : Nat) (must fi : Bool) (sn : Seen)
theorem inSetQ (c : Nat) (sn : Seen) : ∃ sn', inSet codeQ c codeQ.size 19 true sn = .ok (!(c == 34 || c == 92), sn') := by
  have e : codeQ.size = 38 := rfl
  rw [e]
  by_cases h : c = 34
  · subst h; exact ⟨_, rfl⟩
  · by_cases h2 : c = 92
    · subst h2; exact ⟨_, rfl⟩
    · have q1 : (c == 34) = false := by simpa using h
      have q2 : (c == 92) = false := by simpa using h2
      refine ⟨(((sn.add 21).add 16).add 16).add 0, ?_⟩
      rw [q1, q2]
      show (if (c == 34) = true then _ else (if (c == 92) = true then _ else _)) = _
      rw [q1, if_neg Bool.false_ne_true, q2, if_neg Bool.false_ne_true]
      rfl
theorem enterQ (hs : s < lim) (h : t.getD s 0 = 34) : ∃ sn', Leads 20 (tryQ t lim s ls must fi sn) (loopQ t lim s ls must fi sn' (s + 1) 0) := by
  refine ⟨(sn.add 16).add 28, ?_⟩
  refine .one rfl ((step_exec rfl rfl rfl).trans (exec_LIT_t rfl hs (by show (t.getD s 0 == 34) = true; rw [h]; rfl))) ?_
  dsimp only [tryQ]
  exact .one rfl ((step_exec rfl rfl rfl).trans ((exec_POSS rfl).trans (poss_more rfl rfl (Int.le_refl 0) rfl))) (.refl _)
theorem branchQ (p : Nat) (cnt : Int) : ∃ sn', Leads 20 (loopQ t lim s ls must fi sn p cnt) (inQ t lim s ls must fi sn' p cnt 16 17 p) :=
  ⟨sn.add 7, .one rfl ((step_exec rfl rfl rfl).trans (exec_BRANCH rfl)) (.refl _)⟩
theorem turnQ (p : Nat) (cnt : Int) (h0 : 0 ≤ cnt) (hp : p < lim) (h : (t.getD p 0 == 34 || t.getD p 0 == 92) = false) : ∃ sn', Leads 40 (loopQ t lim s ls must fi sn p cnt) (loopQ t lim s ls must fi sn' (p + 1) (cnt + 1)) := by
  obtain ⟨s1, g1⟩ := branchQ t lim s ls must fi sn p cnt
  obtain ⟨s2, g2⟩ := inSetQ (t.getD p 0) (s1.add 13)
  rw [h] at g2
  refine ⟨(s2.add 15).add 1, g1.trans (y := 20) ?_⟩
  refine .one rfl ((step_exec rfl rfl rfl).trans (exec_IN_t rfl g2 hp)) ?_
  dsimp only [inQ]
  refine .one rfl ((step_exec rfl rfl rfl).trans (exec_JUMP rfl)) ?_
  dsimp only
  refine .one rfl ((step_exec rfl rfl rfl).trans (exec_SUCC rfl rfl)) ?_
  dsimp only [M.say]
  refine .one rfl (step_branch_yes rfl rfl rfl rfl) ?_
  dsimp only
  refine .one rfl ((step_poss_yes rfl rfl rfl rfl).trans (poss_more rfl rfl (show 0 ≤ cnt + 1 by omega) ?_)) (.refl _)
  show (some p != some (p + 1)) = true
  simp
theorem leaveQ (p : Nat) (cnt : Int) (h0 : 0 ≤ cnt) (h : ¬ p < lim ∨ t.getD p 0 = 34) : ∃ sn', Leads 60 (loopQ t lim s ls must fi sn p cnt) (outQ t lim s ls must fi sn' 35 p p) := by
  obtain ⟨s1, g1⟩ := branchQ t lim s ls must fi sn p cnt
  obtain ⟨s2, g2⟩ := inSetQ (t.getD p 0) (s1.add 13)
  have rest : ∀ s3, ∃ sn', Leads 20 { inQ t lim s ls must fi s3 p cnt 16 17 p with answer := some false } (outQ t lim s ls must fi sn' 35 p p) := fun s3 => by
    refine ⟨s3.add 16, .mono (x := 12) (.one rfl (step_branch_no' rfl rfl rfl rfl rfl rfl) ?_)⟩
    have pop : Leads 10 { inQ t lim s ls must fi (s3.add 16) p cnt 27 28 p with answer := some false } (outQ t lim s ls must fi (s3.add 16) 35 p p) := by
      refine .one rfl (step_branch_no' rfl rfl rfl rfl rfl rfl) ?_
      refine .one rfl ((step_poss_no' rfl rfl rfl rfl rfl rfl).trans (poss_out rfl h0 ?_)) (.refl _)
      show (some p != some p) = false
      simp
    by_cases hp : p < lim
    · have h2 : t.getD p 0 = 34 := h.resolve_left fun x => x hp
      exact .one rfl ((step_exec rfl rfl rfl).trans (exec_LIT_f rfl hp (by show (t.getD p 0 == 92) = false; rw [h2]; rfl))) pop
    · exact .one rfl ((step_exec rfl rfl rfl).trans (exec_LIT_e rfl hp)) pop
  by_cases hp : p < lim
  · have h2 : t.getD p 0 = 34 := h.resolve_left fun x => x hp
    have q : (!(t.getD p 0 == 34 || t.getD p 0 == 92)) = false := by rw [h2]; rfl
    rw [q] at g2
    obtain ⟨sn', g⟩ := rest s2
    exact ⟨sn', (g1.trans (.one rfl ((step_exec rfl rfl rfl).trans (exec_IN_f rfl g2 hp)) g)).mono⟩
  · obtain ⟨sn', g⟩ := rest (s1.add 13)
    exact ⟨sn', (g1.trans (.one rfl ((step_exec rfl rfl rfl).trans (exec_IN_e rfl g2 hp)) g)).mono⟩
theorem runQ (c : Nat) : ∀ (k p : Nat) (cnt : Int) (sn : Seen), p + k = c → c ≤ lim → 0 ≤ cnt → (∀ j, p ≤ j → j < c → (t.getD j 0 == 34 || t.getD j 0 == 92) = false) →
    ∃ sn' cnt', 0 ≤ cnt' ∧ Leads (40 * k) (loopQ t lim s ls must fi sn p cnt) (loopQ t lim s ls must fi sn' c cnt')
  | 0, p, cnt, sn, e, _, h0, _ => by
    obtain rfl : p = c := by omega
    exact ⟨sn, cnt, h0, .refl _⟩
  | k + 1, p, cnt, sn, e, hl, h0, h => by
    obtain ⟨s1, g1⟩ := turnQ t lim s ls must fi sn p cnt h0 (by omega) (h p (Nat.le_refl _) (by omega))
    obtain ⟨s2, c2, h2, g2⟩ := runQ c k (p + 1) (cnt + 1) s1 (by omega) hl (by omega) fun j h1 h2 => h j (by omega) h2
    exact ⟨s2, c2, h2, (g1.trans g2).mono⟩
theorem hitQ (c : Nat) (hs : s < lim) (h1 : t.getD s 0 = 34) (hc : s < c) (hl : c < lim) (h2 : t.getD c 0 = 34) (h : ∀ j, s < j → j < c → (t.getD j 0 == 34 || t.getD j 0 == 92) = false) :
    Ends (40 * lim + 120) (tryQ t lim s ls must fi sn) (Hit s (c + 1)) := by
  obtain ⟨s1, g1⟩ := enterQ t lim s ls must fi sn hs h1
  obtain ⟨s2, c2, h0, g2⟩ := runQ t lim s ls must fi c (c - (s + 1)) (s + 1) 0 s1 (by omega) (by omega) (Int.le_refl 0) fun j h1 h2 => h j (by omega) h2
  obtain ⟨s3, g3⟩ := leaveQ t lim s ls must fi s2 c c2 h0 (.inr h2)
  refine .from (y := 20) (g1.trans (g2.trans g3)) ?_
  refine .one rfl ((step_exec rfl rfl rfl).trans (exec_LIT_t rfl hl (by show (t.getD c 0 == 34) = true; rw [h2]; rfl))) ?_
  dsimp only [outQ]
  refine .one rfl ((step_exec rfl rfl rfl).trans (exec_SUCC rfl ?_)) ?_
  · show (fi && ((false && _) || (must && (c + 1) == s))) = false
    have : (c + 1 == s) = false := by simp; omega
    rw [this]; simp
  dsimp only [M.say]
  refine .one rfl (step_start_yes rfl rfl rfl rfl) ?_
  dsimp only
  exact .one rfl (step_end rfl rfl rfl) ⟨_, .refl _, rfl, ⟨_, rfl, rfl⟩, rfl, rfl⟩
theorem failsQ (hl : s ≤ lim) (h : ¬ s < lim ∨ t.getD s 0 ≠ 34 ∨ ∀ j, s < j → j < lim → (t.getD j 0 == 34 || t.getD j 0 == 92) = false) :
    ∃ sn' pc pos hd, Leads (40 * lim + 100) (tryQ t lim s ls must fi sn) (failQ t lim s ls must fi sn' pc pos hd) := by
  by_cases hs : s < lim
  · by_cases h34 : t.getD s 0 = 34
    · have h3 := (h.resolve_left fun x => x hs).resolve_left fun x => x h34
      obtain ⟨s1, g1⟩ := enterQ t lim s ls must fi sn hs h34
      obtain ⟨s2, c2, h0, g2⟩ := runQ t lim s ls must fi lim (lim - (s + 1)) (s + 1) 0 s1 (by omega) (by omega) (Int.le_refl 0) fun j h1 h2 => h3 j (by omega) h2
      obtain ⟨s3, g3⟩ := leaveQ t lim s ls must fi s2 lim c2 h0 (.inl (Nat.lt_irrefl _))
      exact ⟨s3.add 16, 35, lim, lim, (g1.trans (g2.trans (g3.trans (.one (n := 0) rfl ((step_exec rfl rfl rfl).trans (exec_LIT_e rfl (Nat.lt_irrefl _))) (.refl _))))).mono⟩
    · exact ⟨sn.add 16, 9, s, s, .one rfl ((step_exec rfl rfl rfl).trans (exec_LIT_f rfl hs (by show (t.getD s 0 == 34) = false; simpa using h34))) (.refl _)⟩
  · exact ⟨sn.add 16, 9, s, s, .one rfl ((step_exec rfl rfl rfl).trans (exec_LIT_e rfl hs)) (.refl _)⟩
theorem nextQ (hs : s < lim) (hl : s < ls) (h : t.getD s 0 ≠ 34 ∨ ∀ j, s < j → j < lim → (t.getD j 0 == 34 || t.getD j 0 == 92) = false) :
    ∃ sn', Leads (40 * lim + 120) (tryQ t lim s ls must fi sn) (tryQ t lim (s + 1) ls false false sn') := by
  obtain ⟨sn', pc, pos, hd, g⟩ := failsQ t lim s ls must fi sn (by omega) (.inr h)
  exact ⟨sn', (g.trans (.one (n := 0) rfl (step_start_no rfl rfl rfl rfl hl) (.refl _))).mono⟩
theorem lastQ (hs : s = lim) (hl : ¬ s < ls) : Ends (40 * lim + 120) (tryQ t lim s ls must fi sn) Miss := by
  obtain ⟨sn', pc, pos, hd, g⟩ := failsQ t lim s ls must fi sn (by omega) (.inl (by omega))
  refine .from (y := 20) g (.one rfl (step_start_end rfl rfl rfl rfl hl) ?_)
  exact .one rfl (step_end rfl rfl rfl) ⟨_, .refl _, rfl, _, rfl, rfl⟩
end
theorem triesQ_hit (t : Array Nat) (b c : Nat) (hb : t.getD b 0 = 34) (hc : b < c) (hl : c < t.size) (h2 : t.getD c 0 = 34) (h : ∀ j, b < j → j < c → (t.getD j 0 == 34 || t.getD j 0 == 92) = false) :
    ∀ (k s : Nat) (must fi : Bool) (sn : Seen), s + k = b → (∀ j, s ≤ j → j < b → t.getD j 0 ≠ 34) → Ends ((k + 1) * (40 * t.size + 120)) (tryQ t t.size s t.size must fi sn) (Hit b (c + 1))
  | 0, s, must, fi, sn, e, _ => by
    obtain rfl : s = b := by omega
    exact (hitQ t t.size s t.size must fi sn c (by omega) hb hc hl h2 h).mono
  | k + 1, s, must, fi, sn, e, hn => by
    obtain ⟨sn', g⟩ := nextQ t t.size s t.size must fi sn (by omega) (by omega) (.inl (hn s (Nat.le_refl _) (by omega)))
    exact .from g (triesQ_hit t b c hb hc hl h2 h k (s + 1) false false sn' (by omega) fun j h1 h2 => hn j (by omega) h2) (by rw [Nat.succ_mul (k + 1)]; omega)
/-- at most one mark is left, and no backslash -/
theorem triesQ_miss (t : Array Nat) : ∀ (k s : Nat) (must fi : Bool) (sn : Seen), s + k = t.size →
    (∀ i, s ≤ i → i < t.size → t.getD i 0 = 34 → ∀ j, i < j → j < t.size → (t.getD j 0 == 34 || t.getD j 0 == 92) = false) → Ends ((k + 1) * (40 * t.size + 120)) (tryQ t t.size s t.size must fi sn) Miss
  | 0, s, must, fi, sn, e, _ => (lastQ t t.size s t.size must fi sn (by omega) (by omega)).mono
  | k + 1, s, must, fi, sn, e, hn => by
    have h : t.getD s 0 ≠ 34 ∨ ∀ j, s < j → j < t.size → (t.getD j 0 == 34 || t.getD j 0 == 92) = false := by
      by_cases q : t.getD s 0 = 34
      · exact .inr (hn s (Nat.le_refl _) (by omega) q)
      · exact .inl q
    obtain ⟨sn', g⟩ := nextQ t t.size s t.size must fi sn (by omega) (by omega) h
    exact .from g (triesQ_miss t k (s + 1) false false sn' (by omega) fun i h1 h2 => hn i (by omega) h2) (by rw [Nat.succ_mul (k + 1)]; omega)
theorem startQ (t : Array Nat) (s : Nat) (must : Bool) (h : s + 2 ≤ t.size) : forSearch codeQ t 0 s t.size must = tryQ t t.size s t.size must true (({} : Seen).add 14) := by
  show (if (decide (s > t.size) || decide (t.size - s < 2)) = true then _ else M.attemptFrom _ s true) = _
  have e : (decide (s > t.size) || decide (t.size - s < 2)) = false := by simp; omega
  rw [e, if_neg Bool.false_ne_true]
  rfl
theorem startQ_short (t : Array Nat) (s : Nat) (must : Bool) (h : t.size < s + 2) : Ends 400 (forSearch codeQ t 0 s t.size must) Miss := by
  have e : forSearch codeQ t 0 s t.size must = M.say (freshM codeQ t s 9 must) false := by
    show (if (decide (s > t.size) || decide (t.size - s < 2)) = true then _ else _) = _
    rw [if_pos (by simp; omega)]
    rfl
  rw [e]
  exact .one rfl (step_end rfl rfl rfl) ⟨_, .refl _, rfl, _, rfl, rfl⟩
end Mine
end

-- part R1
section
open PySem PySem.W PyProof.Rows PySem.Calls PySem.Builtin.Re
set_option Elab.async false
set_option maxRecDepth 100000
set_option maxHeartbeats 0
namespace Mine

section
variable {M : Model} {A : Around} {E : Value → Shared → Prop} {s : Shared}
theorem drive_ok {Q : Sre.M → Shared → Prop} : ∀ (turns n : Nat) (m : Sre.M), (Sre.M.runFor n m).outcome.isSome = true → n ≤ 4 * turns → 1 ≤ turns → Q (Sre.M.runFor n m) s → wpAny M A (reDrive turns m) Q E s
  | 0, _, _, _, _, h, _ => absurd h (by decide)
  | turns + 1, n, m, ho, hn, _, hq => by
    unfold reDrive
    show wpAny M A (if (Sre.M.runFor 4 m).outcome.isSome = true then pure (Sre.M.runFor 4 m) else do rule "sre.turn"; reDrive turns (Sre.M.runFor 4 m)) Q E s
    by_cases h4 : n ≤ 4
    · have e : Sre.M.runFor 4 m = Sre.M.runFor n m := by
        have : 4 = n + (4 - n) := by omega
        rw [this, runFor_add, runFor_done _ _ ho]
      rw [e, if_pos ho]
      exact wpAny_pure hq
    · by_cases hd : (Sre.M.runFor 4 m).outcome.isSome = true
      · have e : Sre.M.runFor n m = Sre.M.runFor 4 m := by
          have : n = 4 + (n - 4) := by omega
          rw [this, runFor_add, runFor_done _ _ hd]
        rw [if_pos hd]
        rw [e] at hq
        exact wpAny_pure hq
      · rw [if_neg hd]
        have e : Sre.M.runFor n m = Sre.M.runFor (n - 4) (Sre.M.runFor 4 m) := by
          have : n = 4 + (n - 4) := by omega
          rw [← runFor_add, ← this]
        rw [e] at ho hq
        exact wpAny_bind (wpAny_rule (drive_ok turns (n - 4) _ ho (by omega) (by omega) hq))
theorem forIn_skip {α : Type} {body : α → PUnit → Sem (ForInStep PUnit)} {Q : PUnit → Shared → Prop} (h : ∀ i (Q' : ForInStep PUnit → Shared → Prop), Q' (.yield ⟨⟩) s → wpAny M A (body i ⟨⟩) Q' E s) (hq : Q ⟨⟩ s) :
    ∀ l : List α, wpAny M A (forIn l PUnit.unit body) Q E s
  | [] => wpAny_pure hq
  | i :: l => by
    rw [List.forIn_cons]
    exact wpAny_bind (h i _ (forIn_skip h hq l))
theorem toEnd_ok {n : Nat} {m : Sre.M} {Q : Option Sre.M → Shared → Prop} (hn : n ≤ 2 ^ 64) :
    (∀ {b e : Nat}, Ends n m (Hit b e) → (∀ m' : Sre.M, m'.start = b → m'.handed = e → Q (some m') s) → wpAny M A (reRunToEnd m) Q E s) ∧ (Ends n m Miss → Q none s → wpAny M A (reRunToEnd m) Q E s) := by
  have key : ∀ (m' : Sre.M), Leads n m m' → m'.outcome.isSome = true → (wpAny M A (match m'.outcome with
      | some .matched => pure (some m')
      | some .failed => pure none
      | some (.stuck why) => unsupported s!"_sre:{why}"
      | none => unsupported "internal:sre:no-outcome") Q E s) → wpAny M A (reRunToEnd m) Q E s := by
    rintro m' ⟨k, hk, rfl⟩ ho h
    unfold reRunToEnd
    refine wpAny_bind (drive_ok (2 ^ 64) k m ho (by omega) (by decide) ?_)
    refine wpAny_bind (forIn_skip (fun i Q' hQ' => ?_) h _)
    split
    · exact wpAny_bind (wpAny_rule (wpAny_pure hQ'))
    · exact wpAny_pure hQ'
  refine ⟨fun {b e} he hq => ?_, fun he hq => ?_⟩
  · obtain ⟨m', hl, ho, ⟨o, h1, rfl⟩, hs, hh⟩ := he
    refine key m' hl ho ?_
    rw [h1]
    exact wpAny_pure (hq m' hs hh)
  · obtain ⟨m', hl, ho, o, h1, rfl⟩ := he
    refine key m' hl ho ?_
    rw [h1]
    exact wpAny_pure hq
end
abbrev patObj (src fl : Value) (a : Addr) (kind : Int) (tk : Tok) (d : Option Addr) (sl : Array (Option Value)) (g : Tok) : Obj := ⟨.type "re.Pattern", d, .fields #[src, fl, .int 0 g, .none, .none, .ref a, .int kind tk], sl⟩
section
variable {prog : Program} {w : World} {A : Around} {E : Value → Shared → Prop} {s : Shared}
theorem whole_str {p a : Addr} {src fl : Value} {tk g t : Tok} {d d' : Option Addr} {sl sl' : Array (Option Value)} {c : Value} {items : Array Value} {n : Nat} {x : Str} {Q : ReTarget → Shared → Prop}
    (hp : s.heap.get? p = some (patObj src fl a 0 tk d sl g)) (ha : s.heap.get? a = some ⟨c, d', .seq items n, sl'⟩)
    (h : Q { pattern := .ref p, string := .str x t, code := (items.map reRawOf).map (·.toNat), text := x.cps, kind := 0, groups := 0, pos := 0, lim := x.cps.size } s) :
    wpAny (model prog w) A (reWholeTarget (.ref p) (.str x t)) Q E s := by
  obtain ⟨hp_, gs, dr, tks, os⟩ := s
  unfold reWholeTarget
  wp_walk
  exact h
theorem whole_bytes {p a : Addr} {src fl : Value} {tk g t : Tok} {d d' : Option Addr} {sl sl' : Array (Option Value)} {c : Value} {items : Array Value} {n : Nat} {x : Array UInt8} {Q : ReTarget → Shared → Prop}
    (hp : s.heap.get? p = some (patObj src fl a 1 tk d sl g)) (ha : s.heap.get? a = some ⟨c, d', .seq items n, sl'⟩)
    (h : Q { pattern := .ref p, string := .bytes x t, code := (items.map reRawOf).map (·.toNat), text := x.map (·.toNat), kind := 1, groups := 0, pos := 0, lim := (x.map (·.toNat)).size } s) :
    wpAny (model prog w) A (reWholeTarget (.ref p) (.bytes x t)) Q E s := by
  obtain ⟨hp_, gs, dr, tks, os⟩ := s
  have f1 : Builtin.Bytes.bufferQuiet? "_sre" (.bytes x t) = pure (some x) := KBy.quiet_eq
  have f2 : isInstance (.bytes x t) (.type "bytes") = pure true := KBy.isInstance_eq
  unfold reWholeTarget
  wp_walk
  exact h
theorem takeQ_eq {id : String} {b : Array UInt8} {t : Tok} : Builtin.Bytes.takeBufferQuiet? id (.bytes b t) 0 = pure (some (b, none)) := by
  have e : Builtin.Bytes.takeBuffer? id (.bytes b t) 0 = pure (some (b, none)) := by
    unfold Builtin.Bytes.takeBuffer?
    rw [KBy.special_eq KBy.look_buffer, KBy.own_buffer]
    show (Builtin.Bytes.buffer? id (.bytes b t) false >>= fun r => _) = _
    rw [KBy.buffer_eq]
    rfl
  unfold Builtin.Bytes.takeBufferQuiet?
  rw [e]
  rfl
def bytesVals (l : List (Array UInt8 × Tok)) : List Value := l.map fun x => .bytes x.1 x.2
def takenVals (l : List (Array UInt8 × Tok)) : List (Value × Option Value) := l.map fun x => (.bytes x.1 x.2, none)
theorem taken_heap (l : List (Array UInt8 × Tok)) : (takenVals l).any (fun x => x.1.onHeap) = false := by
  induction l with
  | nil => rfl
  | cons x l ih => simp only [takenVals, List.map_cons, List.any_cons] at *; rw [ih]; rfl
theorem loopB {l : List (Array UInt8 × Tok)} {F : Nat → Array (Array UInt8) × List (Value × Option Value) → Sem (ForInStep (Array (Array UInt8) × List (Value × Option Value)))} {Q : Array (Array UInt8) × List (Value × Option Value) → Shared → Prop}
    (hF : ∀ (i : Nat) (h : i < l.length) (parts : Array (Array UInt8)) (Q' : ForInStep (Array (Array UInt8) × List (Value × Option Value)) → Shared → Prop), Q' (.yield (parts.push l[i].1, takenVals (l.take i) ++ [(.bytes l[i].1 l[i].2, none)])) s →
      wpAny (model prog w) A (F i (parts, takenVals (l.take i))) Q' E s)
    (hq : Q ((l.map (·.1)).toArray, takenVals l) s) : ∀ (k i : Nat), i + k = l.length → wpAny (model prog w) A (forIn (List.range' i k) (((l.take i).map (·.1)).toArray, takenVals (l.take i)) F) Q E s
  | 0, i, e => by
    rw [show l.take i = l from List.take_of_length_le (by omega)]
    exact wpAny_pure hq
  | k + 1, i, e => by
    have hi : i < l.length := by omega
    rw [List.range'_succ, List.forIn_cons]
    refine wpAny_bind (hF i hi _ _ ?_)
    have e1 : ((l.take i).map (·.1)).toArray.push l[i].1 = ((l.take (i + 1)).map (·.1)).toArray := by
      rw [List.take_add_one, List.getElem?_eq_getElem hi, List.map_append, List.push_toArray]; rfl
    have e2 : takenVals (l.take i) ++ [(.bytes l[i].1 l[i].2, none)] = takenVals (l.take (i + 1)) := by
      rw [List.take_add_one, List.getElem?_eq_getElem hi]; unfold takenVals; rw [List.map_append]; rfl
    rw [e1, e2]
    exact loopB hF hq k (i + 1) (by omega)
theorem letGoB {Q : Unit → Shared → Prop} (keep : List Value) (hq : Q () s) : ∀ l : List (Array UInt8 × Tok), wpAny (model prog w) A (Builtin.Bytes.joinLetGo (takenVals l) keep) Q E s
  | [] => wpAny_pure hq
  | x :: l => by
    show wpAny _ _ (do letGo [.bytes x.1 x.2] _; Builtin.Bytes.joinLetGo (takenVals l) keep) _ _ _
    exact wpAny_bind (wpAny_letGo (letGoB keep hq l))
theorem joinB1 {sep : Array UInt8} {t : Tok} {D : Addr} {x : Array UInt8} {u : Tok} {d : Option Addr} {n : Nat} {sl : Array (Option Value)} {Q : Value → Shared → Prop} (hl : s.heap.get? D = some ⟨.type "list", d, .seq ⟨[.bytes x u]⟩ n, sl⟩)
    (h : Q (.bytes x u) s) : wpAny (model prog w) A (Builtin.Bytes.joinM .bytes ⟨[.bytes sep t, .ref D], []⟩) (fun fin s' => ∃ v, fin = PySem.Fin.done (.ret v) ∧ Q v s') E s := by
  obtain ⟨hp_, gs, dr, tks, os⟩ := s
  unfold Builtin.Bytes.joinM
  wp_walk
  exact ⟨_, rfl, h⟩
theorem wpAny_takeQ {M : Model} {id : String} {v : Value} {b : Array UInt8} {t : Tok} {Q : Option (Array UInt8 × Option Value) → Shared → Prop} (hv : v = .bytes b t) (h : Q (some (b, none)) s) : wpAny M A (Builtin.Bytes.takeBufferQuiet? id v 0) Q E s := by
  rw [hv, takeQ_eq]; exact wpAny_pure h
def Stop (p : Prop) : Prop := p
theorem rangeStop {M : Model} {β : Type} {r : Std.Legacy.Range} {b : β} {f : Nat → β → Sem (ForInStep β)} {Q : β → Shared → Prop} (h : Stop (wpAny M A (forIn (List.range' r.start r.size r.step) b f) Q E s)) : wpAny M A (forIn r b f) Q E s := by
  rw [Std.Legacy.Range.forIn_eq_forIn_range']; exact h
theorem joinB2 {sep : Array UInt8} {t : Tok} {D : Addr} {x y : Array UInt8 × Tok} {r : List (Array UInt8 × Tok)} {d : Option Addr} {n : Nat} {sl : Array (Option Value)} {Q : Value → Shared → Prop}
    (hl : s.heap.get? D = some ⟨.type "list", d, .seq ⟨bytesVals (x :: y :: r)⟩ n, sl⟩)
    (hz : (Builtin.Bytes.joined sep ((x :: y :: r).map (·.1))).size ≤ sizeLine) (hz' : (((x :: y :: r).map (·.1)).toArray.foldl (· + ·.size) (sep.size * (((x :: y :: r).map (·.1)).toArray.size - 1))) ≤ sizeLine)
    (h : Q (.bytes (Builtin.Bytes.joined sep ((x :: y :: r).map (·.1))) s.toks) { s with toks := s.toks + 1 }) :
    wpAny (model prog w) A (Builtin.Bytes.joinM .bytes ⟨[.bytes sep t, .ref D], []⟩) (fun fin s' => ∃ v, fin = PySem.Fin.done (.ret v) ∧ Q v s') E s := by
  obtain ⟨hp_, gs, dr, tks, os⟩ := s
  unfold Builtin.Bytes.joinM
  have e : bytesVals (x :: y :: r) = .bytes x.1 x.2 :: .bytes y.1 y.2 :: bytesVals r := rfl
  rw [e] at hl
  wp_walk using rangeStop
  have e2 : Std.Legacy.Range.size [:(Array.mk (Value.bytes x.1 x.2 :: Value.bytes y.1 y.2 :: bytesVals r)).size] = (x :: y :: r).length := by
    show ((Value.bytes x.1 x.2 :: Value.bytes y.1 y.2 :: bytesVals r).length - 0 + 1 - 1) / 1 = _
    simp [bytesVals]
  unfold Stop
  rw [e2]
  refine loopB (l := x :: y :: r) (fun i hi parts Q' hQ' => ?_) ?_ _ 0 (Nat.zero_add _)
  · have hnow : (Array.mk (Value.bytes x.1 x.2 :: Value.bytes y.1 y.2 :: bytesVals r)).getD i .none = .bytes (x :: y :: r)[i].1 (x :: y :: r)[i].2 := by
      show (bytesVals (x :: y :: r)).toArray.getD i .none = _
      rw [Array.getD_eq_getD_getElem?, List.getElem?_toArray]
      unfold bytesVals
      rw [List.getElem?_map, List.getElem?_eq_getElem hi]
      rfl
    have hh := taken_heap ((x :: y :: r).take i)
    dsimp only
    wp_walk using (wpAny_takeQ hnow)
    rw [hnow]
    exact hQ'
  · dsimp only
    have f2 : Builtin.Bytes.tooLong (Array.foldl (fun x1 x2 => x1 + x2.size) (sep.size * (((x :: y :: r).map (·.1)).toArray.size - 1)) ((x :: y :: r).map (·.1)).toArray) = false := by
      unfold Builtin.Bytes.tooLong
      exact decide_eq_false (Nat.not_lt.mpr hz')
    refine wpAny_bind (wpAny_pure ?_)
    rw [f2, if_neg Bool.false_ne_true]
    have f3 : ¬ (Builtin.Bytes.joined sep ((x :: y :: r).map (·.1))).size > sizeLine := Nat.not_lt.mpr hz
    refine wpAny_bind ?_
    show wpAny _ _ (mkBytes _) _ _ _
    unfold mkBytes
    rw [if_neg f3]
    refine wpAny_bind (wpAny_fresh (wpAny_pure ?_))
    refine wpAny_bind (wpAny_holding (wpAny_point ?_))
    refine wpAny_bind (letGoB _ ?_ _)
    exact wpAny_pure ⟨_, rfl, h⟩
end

namespace FS
theorem plain_join : plainId "bytes.join" = true := by decide +kernel
theorem slot_bytes_join : Slot "bytes" "join" "bytes.join" :=
  .of (owner := "bytes") (n := "join") (by rw [typeLookup_type, builtinLookup_eq_fast]; kernel_rfl) (by decide +kernel) (by decide +kernel) (by decide +kernel)
    (by first | exact .inl (by decide +kernel) | exact .inr (by decide +kernel)) (by rw [isSubtype_type]; kernel_rfl)
theorem entry_bytes_join : entryFor table "bytes.join" = some Builtin.«bytes.join» := entryFor_of_tree (by kernel_rfl)
theorem args_bytes_join (a b : Value) : argsOk "bytes.join" ⟨[a, b], []⟩ := by unfold argsOk; kernel_rfl
end FS
section
variable {prog : Program} {w : World} {A : Around} {E : Value → Shared → Prop} {s : Shared}
theorem type_bytes (s : Shared) (b : Array UInt8) (t : Tok) : s.TypeIs (.bytes b t) "bytes" := by first | exact rfl | exact trivial
theorem callJoin1 {sep : Array UInt8} {t : Tok} {D : Addr} {x : Array UInt8} {u : Tok} {d : Option Addr} {n : Nat} {sl : Array (Option Value)} {Q : Value → Shared → Prop} (hl : s.heap.get? D = some ⟨.type "list", d, .seq ⟨[.bytes x u]⟩ n, sl⟩)
    (h : Q (.bytes x u) s) : wpAny (model prog w) A (call (.builtin "bytes.join") [.bytes sep t, .ref D]) Q E s :=
  call_meets FS.slot_bytes_join (type_bytes _ _ _) FS.entry_bytes_join (FS.args_bytes_join _ _) (S := fun _ R s => s.heap.get? D = some ⟨.type "list", d, .seq ⟨[.bytes x u]⟩ n, sl⟩ ∧ R (.ok (.ret (.bytes x u))) s) (.of_wp fun _ _ _ R s hs => joinB1 (Q := fun v s' => R (.ok (.ret v)) s') hs.1 hs.2) ⟨hl, h⟩
end
end Mine
end

-- part R2
section
open PySem PySem.W PyProof.Rows PySem.Calls PySem.Builtin.Re
set_option Elab.async false
set_option maxRecDepth 100000
set_option maxHeartbeats 0
set_option linter.unusedVariables false
namespace Mine
def piece (kind : Nat) (a : Array Nat) (tk : Tok) : Value := if kind == 0 then .str ⟨a⟩ tk else .bytes (a.map (·.toUInt8)) tk
def IsP (kind : Nat) (v : Value) (a : Array Nat) : Prop := ∃ tk, v = piece kind a tk
inductive Pcs (kind : Nat) : List Value → List (Array Nat) → Prop
  | nil : Pcs kind [] []
  | cons {v a vs as} : IsP kind v a → Pcs kind vs as → Pcs kind (v :: vs) (a :: as)
def piecesOf (text repl : Array Nat) : Nat → List (Nat × Nat) → List (Array Nat)
  | s, [] => if s < text.size then [text.extract s text.size] else []
  | s, (b, e) :: r => (if s < b then [text.extract s b] else []) ++ repl :: piecesOf text repl e r
def Srch (code text : Array Nat) (s : Nat) (must : Bool) (P : Sre.M → Prop) : Prop := ∃ n, n ≤ 2 ^ 64 ∧ Ends n (Sre.forSearch code text 0 s text.size must) P
inductive Runs (code text : Array Nat) : Nat → Bool → List (Nat × Nat) → Prop
  | nil {s must} : Srch code text s must Miss → Runs code text s must []
  | cons {s must b e r} : Srch code text s must (Hit b e) → s ≤ b → b ≤ e → e ≤ text.size → Runs code text e (e == b) r → Runs code text s must ((b, e) :: r)
abbrev lobj (vs : List Value) (n : Nat) (sl : Array (Option Value)) : Obj := ⟨.type "list", none, .seq ⟨vs⟩ n, sl⟩
section
variable {prog : Program} {w : World} {A : Around} {E : Value → Shared → Prop} {s : Shared}
theorem slice_ok {M : Model} {text : Array Nat} {kind b e : Nat} {Q : Value → Shared → Prop} (h : (text.extract b e).size ≤ sizeLine) (hq : Q (piece kind (text.extract b e) s.toks) { s with toks := s.toks + 1 }) :
    wpAny M A (reSlice text kind b e) Q E s := by
  unfold reSlice
  unfold piece at hq
  cases hk : (kind == 0) with
  | true =>
    rw [hk] at hq
    rw [if_pos rfl]
    unfold mkStr
    have : ¬ (PySem.Str.length ⟨text.extract b e⟩ > sizeLine) := Nat.not_lt.mpr h
    rw [if_neg this]
    exact wpAny_bind (wpAny_fresh (wpAny_pure hq))
  | false =>
    rw [hk] at hq
    rw [if_neg Bool.false_ne_true]
    unfold mkBytes
    have : ¬ ((text.extract b e).map (·.toUInt8)).size > sizeLine := by rw [Array.size_map]; exact Nat.not_lt.mpr h
    rw [if_neg this]
    exact wpAny_bind (wpAny_fresh (wpAny_pure hq))
/-- what the loop asks of its pattern, text and replacement -/
structure SubOk (prog : Program) (w : World) (p : Addr) (string repl : Value) (code text : Array Nat) (kind : Nat) (P : Heap → Prop) : Prop where
  target : ∀ (A : Around) (E : Value → Shared → Prop) (Q : ReTarget → Shared → Prop) (s : Shared), P s.heap → Q { pattern := .ref p, string := string, code := code, text := text, kind := kind, groups := 0, pos := 0, lim := text.size } s → wpAny (model prog w) A (reWholeTarget (.ref p) string) Q E s
  lit : ∀ (A : Around) (E : Value → Shared → Prop) (Q : Unit → Shared → Prop) (s : Shared), Q () s → wpAny (model prog w) A (reLiteralCannotBeTurned repl) Q E s
  some : (repl != .none) = true
def subArgs (p : Addr) (string repl : Value) (n : Int) (st : Nat) (must : Bool) (D : Addr) : Args :=
  ⟨[.ref p, string, repl, rawInt 0, rawInt 0, rawInt n, rawInt st, rawInt st, .bool must, .ref D, .bool false], []⟩
theorem found_hit {M : Model} {t : ReTarget} {st : Nat} {must : Bool} {b e : Nat} {Q : Option Sre.M → Shared → Prop} (hg : t.groups = 0) (hl : t.lim = t.text.size) (h : Srch t.code t.text st must (Hit b e)) (hq : ∀ m' : Sre.M, m'.start = b → m'.handed = e → Q (some m') s) :
    wpAny M A (reNextFound t st must) Q E s := by
  obtain ⟨n, hn, he⟩ := h
  unfold reNextFound
  rw [hg, hl]
  exact (toEnd_ok hn).1 he hq
theorem found_miss {M : Model} {t : ReTarget} {st : Nat} {must : Bool} {Q : Option Sre.M → Shared → Prop} (hg : t.groups = 0) (hl : t.lim = t.text.size) (h : Srch t.code t.text st must Miss) (hq : Q none s) :
    wpAny M A (reNextFound t st must) Q E s := by
  obtain ⟨n, hn, he⟩ := h
  unfold reNextFound
  rw [hg, hl]
  exact (toEnd_ok hn).2 he hq
end
namespace FS
theorem entry_sub_loop : entryFor table "re.Pattern.sub.loop" = some Builtin.«re.Pattern.sub.loop» := entryFor_of_tree (by kernel_rfl)
theorem plain_sub_loop : plainId "re.Pattern.sub.loop" = true := by decide +kernel
end FS
section
variable {prog : Program} {w : World} {A : Around} {E : Value → Shared → Prop} {s : Shared}
theorem push_at {D : Addr} {vs : List Value} {n : Nat} {sl : Array (Option Value)} {v : Value} {M : Model} {Q : Unit → Shared → Prop} (hD : s.heap.get? D = some (lobj vs n sl)) (hz : vs.length ≤ 2 ^ 22)
    (h : ∀ h' n', Heap.SameBut D s.heap h' → h'.get? D = some (lobj (vs ++ [v]) n' sl) → Q () { s with heap := h' }) : wpAny M A (updateSeq D (·.push v)) Q E s := by
  refine wpAny_updateSeq hD rfl (h _ (n + 1) (Heap.SameBut.update ..) ?_) (by show vs.length ≤ sizeLine; rw [sizeLine_eq]; omega) (by show (Array.mk vs |>.push v).size ≤ sizeLine + 1; rw [Array.size_push]; show vs.length + 1 ≤ _; rw [sizeLine_eq]; omega)
  rw [Heap.get?_update_self _ hD rfl]
  have : ((Array.mk vs).push v).size ≠ (Array.mk vs).size := by rw [Array.size_push]; omega
  simp [Obj.mapSeq]
theorem nat_of (n : Nat) : (n : Int).toNat = n := rfl
theorem step_hit {p D : Addr} {string repl : Value} {code text : Array Nat} {kind : Nat} {P : Heap → Prop} (O : SubOk prog w p string repl code text kind P) (hP : P s.heap)
    {vs : List Value} {n : Nat} {sl : Array (Option Value)} (hD : s.heap.get? D = some (lobj vs n sl)) (hz : vs.length + 2 ≤ 2 ^ 22) (ht : text.size ≤ 2 ^ 22) {k : Int} {st b e : Nat} {must : Bool} (hs : Srch code text st must (Hit b e)) (hb : st ≤ b)
    {Q : PySem.Fin → Shared → Prop}
    (h : ∀ h' n' tk ws, Heap.SameBut D s.heap h' → h'.get? D = some (lobj (vs ++ (ws ++ [repl])) n' sl) → Pcs kind ws (if st < b then [text.extract st b] else []) → Q (.again (.builtin "re.Pattern.sub.loop" (subArgs p string repl (k + 1) e (e == b) D))) { s with heap := h', toks := tk }) :
    wpAny (model prog w) A (Builtin.«re.Pattern.sub.loop» (subArgs p string repl k st must D)) Q E s := by
  unfold Builtin.«re.Pattern.sub.loop» subArgs
  dsimp only
  refine wpAny_bind (O.target _ _ _ _ hP ?_)
  dsimp only
  refine wpAny_bind ?_
  show wpAny _ _ (if (true : Bool) = true then reLiteralCannotBeTurned repl else pure ()) _ _ _
  rw [if_pos rfl]
  refine O.lit _ _ _ _ ?_
  refine wpAny_bind ?_
  show wpAny _ _ (if (false : Bool) = true then pure none else _) _ _ _
  rw [if_neg Bool.false_ne_true]
  refine found_hit rfl rfl hs (fun m' hm1 hm2 => ?_)
  dsimp only
  show wpAny _ _ (if (Int.toNat (st : Int)) < m'.start then _ else _) _ _ _
  rw [nat_of, hm1, hm2]
  have tail : ∀ (s' : Shared) (ws : List Value) (n' : Nat), Heap.SameBut D s.heap s'.heap → s'.heap.get? D = some (lobj (vs ++ ws) n' sl) → ws.length ≤ 1 → Pcs kind ws (if st < b then [text.extract st b] else []) → (∃ tk, s' = { s with heap := s'.heap, toks := tk }) →
      wpAny (model prog w) A (do
        updateSeq D (·.push repl)
        again (.builtin "re.Pattern.sub.loop" (subArgs p string repl (k + 1) e (e == b) D))) Q E s' := fun s' ws n' h1 h2 h3 h4 h5 => by
    refine wpAny_bind (push_at h2 (by rw [List.length_append]; omega) fun h' n'' hs' hd' => ?_)
    obtain ⟨tk, e5⟩ := h5
    rw [e5]
    refine wpAny_pure (h h' n'' tk ws ⟨hs'.1.trans h1.1, fun x hx => (hs'.2 x hx).trans (h1.2 x hx)⟩ ?_ h4)
    rw [hd', List.append_assoc]
  have hx : (text.extract st b).size ≤ sizeLine := by rw [sizeLine_eq, Array.size_extract]; omega
  by_cases hlt : st < b
  · rw [if_pos hlt] at tail ⊢
    refine wpAny_bind (slice_ok hx ?_)
    refine wpAny_bind (push_at hD (by omega) fun h' n' hs' hd' => ?_)
    rw [if_pos (show ((0 : Int) == 0) = true from rfl)]
    refine wpAny_bind (wpAny_pure ?_)
    rw [if_pos O.some]
    exact tail _ _ n' hs' hd' (Nat.le_refl _) (.cons ⟨_, rfl⟩ .nil) ⟨_, rfl⟩
  · rw [if_neg hlt] at tail ⊢
    rw [if_pos (show ((0 : Int) == 0) = true from rfl)]
    refine wpAny_bind (wpAny_pure ?_)
    rw [if_pos O.some]
    exact tail s [] n ⟨rfl, fun _ _ => rfl⟩ (by rw [List.append_nil]; exact hD) (Nat.zero_le _) .nil ⟨s.toks, rfl⟩
def joinId (kind : Nat) : String := if kind == 0 then "str.join" else "bytes.join"
theorem step_miss {p D : Addr} {string repl : Value} {code text : Array Nat} {kind : Nat} {P : Heap → Prop} (O : SubOk prog w p string repl code text kind P) (hP : P s.heap)
    {vs : List Value} {n : Nat} {sl : Array (Option Value)} (hD : s.heap.get? D = some (lobj vs n sl)) (hz : vs.length + 2 ≤ 2 ^ 22) (ht : text.size ≤ 2 ^ 22) {k : Int} {st : Nat} {must : Bool} (hs : Srch code text st must Miss)
    {Q : PySem.Fin → Shared → Prop} (hne : vs ≠ [] ∨ st < text.size)
    (h : ∀ h' n' tk tj ws, Heap.SameBut D s.heap h' → h'.get? D = some (lobj (vs ++ ws) n' sl) → Pcs kind ws (if st < text.size then [text.extract st text.size] else []) →
      wpAny (model prog w) A (call (.builtin (joinId kind)) [piece kind #[] tj, .ref D]) (fun v s' => Q (.done (.ret v)) s') E { s with heap := h', toks := tk }) :
    wpAny (model prog w) A (Builtin.«re.Pattern.sub.loop» (subArgs p string repl k st must D)) Q E s := by
  unfold Builtin.«re.Pattern.sub.loop» subArgs
  dsimp only
  refine wpAny_bind (O.target _ _ _ _ hP ?_)
  dsimp only
  refine wpAny_bind ?_
  show wpAny _ _ (if (true : Bool) = true then reLiteralCannotBeTurned repl else pure ()) _ _ _
  rw [if_pos rfl]
  refine O.lit _ _ _ _ ?_
  refine wpAny_bind ?_
  show wpAny _ _ (if (false : Bool) = true then pure none else _) _ _ _
  rw [if_neg Bool.false_ne_true]
  refine found_miss rfl rfl hs ?_
  dsimp only
  show wpAny _ _ (if (Int.toNat (st : Int)) < text.size then _ else _) _ _ _
  rw [nat_of]
  have he : text.extract 0 0 = #[] := by simp
  have tail : ∀ (s' : Shared) (ws : List Value) (n' : Nat), Heap.SameBut D s.heap s'.heap → s'.heap.get? D = some (lobj (vs ++ ws) n' sl) → vs ++ ws ≠ [] → Pcs kind ws (if st < text.size then [text.extract st text.size] else []) → (∃ tk, s' = { s with heap := s'.heap, toks := tk }) →
      wpAny (model prog w) A (do
        let joiner ← reSlice text kind 0 0
        let x ← seqItems? (.ref D)
        let y ← if (x.getD #[]).isEmpty = true then pure joiner else call (.builtin (joinId kind)) [joiner, .ref D]
        if false = true then (do ret (← holding [y] do newTuple [y, ← mkInt k])) else ret y) Q E s' := fun s' ws n' h1 h2 h3 h4 h5 => by
    refine wpAny_bind (slice_ok (by rw [he]; exact Nat.zero_le _) ?_)
    rw [he]
    refine wpAny_bind ?_
    unfold seqItems?
    refine wpAny_bind (wpAny_load h2 ?_)
    dsimp only
    refine wpAny_pure ?_
    have hem : ((some (Array.mk (vs ++ ws)) : Option (Array Value)).getD #[]).isEmpty = false := by
      show (Array.mk (vs ++ ws)).isEmpty = false
      cases hq : vs ++ ws with
      | nil => exact absurd hq h3
      | cons a r => rfl
    rw [hem, if_neg Bool.false_ne_true]
    obtain ⟨tk, e5⟩ := h5
    refine wpAny_bind ?_
    rw [e5]
    refine wpAny_mono (h s'.heap n' _ _ ws h1 h2 h4) (fun v s'' hq => ?_) fun _ _ x => x
    rw [if_neg Bool.false_ne_true]
    exact wpAny_pure hq
  by_cases hlt : st < text.size
  · rw [if_pos hlt] at tail ⊢
    refine wpAny_bind (slice_ok (by rw [sizeLine_eq, Array.size_extract]; omega) ?_)
    refine wpAny_bind (push_at hD (by omega) fun h' n' hs' hd' => ?_)
    exact tail _ _ n' hs' hd' (by simp) (.cons ⟨_, rfl⟩ .nil) ⟨_, rfl⟩
  · rw [if_neg hlt] at tail ⊢
    exact tail s [] n ⟨rfl, fun _ _ => rfl⟩ (by rw [List.append_nil]; exact hD) (by rw [List.append_nil]; exact hne.resolve_right hlt) .nil ⟨s.toks, rfl⟩
theorem den_builtin {id : String} {args : Args} {b : Builtin} (hb : entryFor table id = some b) : (model prog w).den (.builtin id args) = b args := by
  show (match entryFor table id with | some b => b args | none => unsupported ((withoutEnding? id "#data").getD id)) = _
  rw [hb]
theorem Pcs.append {kind : Nat} {vs ws : List Value} {as bs : List (Array Nat)} (h : Pcs kind vs as) (g : Pcs kind ws bs) : Pcs kind (vs ++ ws) (as ++ bs) := by
  induction h with
  | nil => exact g
  | cons x _ ih => exact .cons x ih
theorem sub_loop {p D : Addr} {string repl : Value} {code text rp : Array Nat} {kind : Nat} {P : Heap → Prop} (O : SubOk prog w p string repl code text kind P) (hr : IsP kind repl rp) (keepP : ∀ h h', Heap.SameBut D h h' → P h → P h')
    (ht : text.size ≤ 2 ^ 20) {sl : Array (Option Value)} {R : Result → Shared → Prop} : ∀ (ms : List (Nat × Nat)) (st : Nat) (must : Bool) (k : Int) (s : Shared) (vs : List Value) (n : Nat), Runs code text st must ms → P s.heap → s.heap.get? D = some (lobj vs n sl) → vs.length + 2 * ms.length + 2 ≤ 2 ^ 22 → (vs ≠ [] ∨ ms ≠ [] ∨ st < text.size) →
      (∀ h' n' tk tj ws, Heap.SameBut D s.heap h' → h'.get? D = some (lobj (vs ++ ws) n' sl) → Pcs kind ws (piecesOf text rp st ms) →
        wpAny (model prog w) A.in1 (call (.builtin (joinId kind)) [piece kind #[] tj, .ref D]) (fun v s' => R (.ok (.ret v)) s') (fun e s' => R (.error e) s') { s with heap := h', toks := tk }) →
      codeAny (model prog w) A (.builtin "re.Pattern.sub.loop" (subArgs p string repl k st must D)) R s
  | [], st, must, k, s, vs, n, hR, hP, hD, hl, hne, h => by
    cases hR with
    | nil hs =>
      refine codeAny_of_tree ?_
      rw [Around.under_plainId FS.plain_sub_loop]
      rw [den_builtin FS.entry_sub_loop]
      exact step_miss O hP hD (by simp at hl; omega) (by omega) hs (hne.imp id fun x => x.resolve_left fun y => y rfl) h
  | (b, e) :: r, st, must, k, s, vs, n, hR, hP, hD, hl, hne, h => by
    cases hR with
    | cons hs h1 h2 h3 hr' =>
      refine codeAny_of_tree ?_
      rw [Around.under_plainId FS.plain_sub_loop]
      rw [den_builtin FS.entry_sub_loop]
      rw [List.length_cons] at hl
      refine step_hit O hP hD (by omega) (by omega) hs h1 fun h' n' tk ws hsb hd hp => ?_
      refine ⟨plainId_quiet FS.plain_sub_loop _, ?_⟩
      have hw : ws.length ≤ 1 := by
        by_cases hlt : st < b
        · rw [if_pos hlt] at hp; cases hp with | cons _ q => cases q; exact Nat.le_refl _
        · rw [if_neg hlt] at hp; cases hp; exact Nat.zero_le _
      refine sub_loop O hr keepP ht r e (e == b) (k + 1) _ (vs ++ (ws ++ [repl])) n' hr' (keepP _ _ hsb hP) hd (by rw [List.length_append, List.length_append, List.length_singleton]; omega) (.inl (by simp)) fun h'' n'' tk' tj ws' hsb' hd' hp' => ?_
      refine h h'' n'' tk' tj (ws ++ [repl] ++ ws') ⟨hsb'.1.trans hsb.1, fun x hx => (hsb'.2 x hx).trans (hsb.2 x hx)⟩ (by rw [hd']; simp) ?_
      show Pcs kind _ ((if st < b then [text.extract st b] else []) ++ rp :: piecesOf text rp e r)
      rw [List.append_assoc]
      exact hp.append (.cons hr hp')
end
end Mine
end

-- part R3
section
open PySem PySem.W PyProof.Rows PySem.Calls PySem.Builtin.Re
set_option Elab.async false
set_option maxRecDepth 100000
set_option maxHeartbeats 0
set_option linter.unusedVariables false
namespace Mine
namespace FS
theorem plain_sub : plainId "re.Pattern.sub" = true := by decide +kernel
theorem slot_sub : Slot "re.Pattern" "sub" "re.Pattern.sub" :=
  .of (owner := "re.Pattern") (n := "sub") (by rw [typeLookup_type, builtinLookup_eq_fast]; kernel_rfl) (by decide +kernel) (by decide +kernel) (by decide +kernel)
    (by first | exact .inl (by decide +kernel) | exact .inr (by decide +kernel)) (by rw [isSubtype_type]; kernel_rfl)
theorem entry_sub : entryFor table "re.Pattern.sub" = some Builtin.«re.Pattern.sub» := entryFor_of_tree (by kernel_rfl)
theorem args_sub (a b c : Value) : argsOk "re.Pattern.sub" ⟨[a, b, c], []⟩ := by unfold argsOk; kernel_rfl
theorem nocall_bytes : typeLookup (.type "bytes") "__call__" = pure none := by rw [typeLookup_type, builtinLookup_eq_fast]; kernel_rfl
theorem nocall_str : typeLookup (.type "str") "__call__" = pure none := by rw [typeLookup_type, builtinLookup_eq_fast]; kernel_rfl
end FS
section
variable {prog : Program} {w : World} {A : Around} {E : Value → Shared → Prop} {s : Shared}
theorem entry_bytes {p : Addr} {y x : Array UInt8} {u t : Tok} {rg : ReTarget} {Q : PySem.Fin → Shared → Prop} (hy : y.contains 92 = false)
    (hW : ∀ (A : Around) (E : Value → Shared → Prop) (Q : ReTarget → Shared → Prop), Q rg s → wpAny (model prog w) A (reWholeTarget (.ref p) (.bytes x t)) Q E s)
    (h : Q (.again (.builtin "re.Pattern.sub.loop" (subArgs p (.bytes x t) (.bytes y u) 0 0 false s.heap.objs.size))) { s with heap := s.heap.push (lobj [] 0 #[]) }) :
    wpAny (model prog w) A (Builtin.«re.Pattern.sub» ⟨[.ref p, .bytes y u, .bytes x t], []⟩) Q E s := by
  have f1 : Builtin.Bytes.bufferQuiet? "re.Pattern.sub" (.bytes y u) = pure (some y) := KBy.quiet_eq
  unfold Builtin.«re.Pattern.sub» reSubstitute
  dsimp only
  refine wpAny_bind (wpAny_of_eq (a := [some (.bytes y u), some (.bytes x t), none]) (by rfl) ?_)
  dsimp only
  refine wpAny_bind (wpAny_pure ?_)
  refine wpAny_bind (wpAny_specialOf (T := "bytes") (by first | rfl | trivial) FS.nocall_bytes ?_)
  have f0 : asStr? (.bytes y u) = pure none := rfl
  rw [f0]
  simp only [Option.isSome_none, Bool.false_eq_true, if_false, pure_bind]
  rw [f1]
  simp only [pure_bind, hy, Bool.not_false, if_true]
  refine wpAny_bind (wpAny_holding (hW _ _ _ ?_))
  have hi : ((0 : Int) == 1) = false := rfl
  simp only [hi, Bool.false_eq_true, if_false]
  refine wpAny_bind ?_
  unfold newList
  refine wpAny_newObj_type ?_ (by size_fits)
  exact wpAny_pure h
theorem entry_str {p : Addr} {y x : Str} {u t : Tok} {rg : ReTarget} {Q : PySem.Fin → Shared → Prop} (hy : y.cps.contains 92 = false)
    (hW : ∀ (A : Around) (E : Value → Shared → Prop) (Q : ReTarget → Shared → Prop), Q rg s → wpAny (model prog w) A (reWholeTarget (.ref p) (.str x t)) Q E s)
    (h : Q (.again (.builtin "re.Pattern.sub.loop" (subArgs p (.str x t) (.str y u) 0 0 false s.heap.objs.size))) { s with heap := s.heap.push (lobj [] 0 #[]) }) :
    wpAny (model prog w) A (Builtin.«re.Pattern.sub» ⟨[.ref p, .str y u, .str x t], []⟩) Q E s := by
  unfold Builtin.«re.Pattern.sub» reSubstitute
  dsimp only
  refine wpAny_bind (wpAny_of_eq (a := [some (.str y u), some (.str x t), none]) (by rfl) ?_)
  dsimp only
  refine wpAny_bind (wpAny_pure ?_)
  refine wpAny_bind (wpAny_specialOf (T := "str") (by first | rfl | trivial) FS.nocall_str ?_)
  have f0 : asStr? (.str y u) = pure (some y) := rfl
  rw [f0]
  simp only [Option.isSome_none, Bool.false_eq_true, if_false, pure_bind, hy, Bool.not_false, if_true]
  refine wpAny_bind (wpAny_holding (hW _ _ _ ?_))
  have hi : ((0 : Int) == 1) = false := rfl
  simp only [hi, Bool.false_eq_true, if_false]
  refine wpAny_bind ?_
  unfold newList
  refine wpAny_newObj_type ?_ (by size_fits)
  exact wpAny_pure h
/-! the pieces, joined -/
def joinAll (as : List (Array Nat)) : List Nat := (as.map (·.toList)).flatten
theorem pcs_str : ∀ {vs : List Value} {as : List (Array Nat)}, Pcs 0 vs as → StrsAre vs (as.map fun a => (⟨a⟩ : Str))
  | _, _, .nil => .nil
  | _, _, .cons ⟨tk, e⟩ r => by rw [e]; exact .cons _ tk (pcs_str r)
theorem join_empty : ∀ as : List (Array Nat), (Str.join (⟨#[]⟩ : Str) (as.map fun a => (⟨a⟩ : Str))) = ⟨(joinAll as).toArray⟩
  | [] => rfl
  | [a] => by
    show (⟨a⟩ : Str) = _
    simp [joinAll]
  | a :: b :: r => by
    have ih := join_empty (b :: r)
    show (⟨a⟩ : Str) ++ ⟨#[]⟩ ++ Str.join (⟨#[]⟩ : Str) ((b :: r).map fun a => (⟨a⟩ : Str)) = _
    rw [ih]
    apply Str.ext'
    rw [Str.cps_append, Str.cps_append]
    simp [joinAll]
theorem str_join_empty (as : List (Array Nat)) : (Txt.join (⟨#[]⟩ : Str) (as.map fun a => (⟨a⟩ : Str))) = ⟨(joinAll as).toArray⟩ := (StrLaws.glued_eq_join _ _).trans (join_empty as)
theorem joined_empty (as : List (Array UInt8)) : Builtin.Bytes.joined #[] as = ((as.map (·.toList)).flatten).toArray := by
  have key : ∀ (as : List (Array UInt8)) (k : Nat) (acc : Array UInt8), ((as.zipIdx k).foldl (fun out (p, i) => (if i > 0 then out ++ #[] else out) ++ p) acc) = acc ++ ((as.map (·.toList)).flatten).toArray := by
    intro as
    induction as with
    | nil => intro k acc; simp
    | cons a r ih =>
      intro k acc
      rw [List.zipIdx_cons, List.foldl_cons, ih]
      have : (if k > 0 then acc ++ (#[] : Array UInt8) else acc) = acc := by split <;> simp
      simp only [this]
      apply Array.ext'
      simp
  have := key as 0 #[]
  unfold Builtin.Bytes.joined
  rw [this]
  simp
theorem pcs_bytes : ∀ {vs : List Value} {as : List (Array Nat)}, Pcs 1 vs as → ∃ l : List (Array UInt8 × Tok), vs = bytesVals l ∧ l.map (·.1) = as.map fun a => a.map (·.toUInt8)
  | _, _, .nil => ⟨[], rfl, rfl⟩
  | _, _, .cons (a := a) ⟨tk, e⟩ r => by
    obtain ⟨l, h1, h2⟩ := pcs_bytes r
    exact ⟨(a.map (·.toUInt8), tk) :: l, by rw [e, h1]; rfl, by rw [List.map_cons, h2]; rfl⟩
theorem sum_flatten (as : List (Array Nat)) : (joinAll as).length = (as.map (·.size)).sum := by
  unfold joinAll
  rw [List.length_flatten, List.map_map]
  congr 1
theorem flat_bytes (as : List (Array Nat)) : ((as.map fun a => a.map (·.toUInt8)).map (·.toList)).flatten.toArray = (joinAll as).toArray.map (·.toUInt8) := by
  unfold joinAll
  simp [Function.comp_def]
theorem foldl_sizes (as : List (Array UInt8)) : ∀ k : Nat, as.toArray.foldl (· + ·.size) k = k + (as.map (·.size)).sum := by
  induction as with
  | nil => intro k; simp
  | cons a r ih => intro k; have := ih (k + a.size); simp at this ⊢; omega
theorem call_bjoin {sep : Array UInt8} {t : Tok} {D : Addr} {l : List (Array UInt8 × Tok)} {d : Option Addr} {n : Nat} {sl : Array (Option Value)} {Q : Value → Shared → Prop}
    (hl : s.heap.get? D = some ⟨.type "list", d, .seq ⟨bytesVals l⟩ n, sl⟩) (hne : l ≠ []) (hs : sep = #[]) (hz : ((l.map (·.1)).map (·.size)).sum ≤ sizeLine)
    (h : ∀ tk k, Q (.bytes (((l.map (·.1)).map (·.toList)).flatten).toArray tk) { s with toks := k }) : wpAny (model prog w) A (call (.builtin "bytes.join") [.bytes sep t, .ref D]) Q E s := by
  subst hs
  match l, hne with
  | [x], _ =>
    refine callJoin1 (x := x.1) (u := x.2) hl ?_
    have := h x.2 s.toks
    simpa using this
  | x :: y :: r, _ =>
    have e : Builtin.Bytes.joined #[] ((x :: y :: r).map (·.1)) = ((((x :: y :: r).map (·.1)).map (·.toList)).flatten).toArray := joined_empty _
    have hsz : ((((x :: y :: r).map (·.1)).map (·.toList)).flatten).toArray.size ≤ sizeLine := by
      rw [List.size_toArray, List.length_flatten, List.map_map]
      exact hz
    refine call_meets FS.slot_bytes_join (type_bytes _ _ _) FS.entry_bytes_join (FS.args_bytes_join _ _)
      (S := fun _ R s => s.heap.get? D = some ⟨.type "list", d, .seq ⟨bytesVals (x :: y :: r)⟩ n, sl⟩ ∧ ∀ tk k, R (.ok (.ret (.bytes (((((x :: y :: r).map (·.1)).map (·.toList)).flatten).toArray) tk))) { s with toks := k })
      (.of_wp fun _ _ _ R s hs => joinB2 (Q := fun v s' => R (.ok (.ret v)) s') hs.1 (by rw [e]; exact hsz) (by
        rw [foldl_sizes]
        have : (#[] : Array UInt8).size * (((x :: y :: r).map (·.1)).toArray.size - 1) = 0 := by simp
        omega) (by rw [e]; exact hs.2 _ _)) ⟨hl, fun tk k => h tk k⟩
theorem pcs_ne {kind : Nat} {vs : List Value} {as : List (Array Nat)} (h : Pcs kind vs as) (hn : as ≠ []) : vs ≠ [] := by
  cases h with
  | nil => exact absurd rfl hn
  | cons _ _ => simp
theorem piecesOf_ne {text repl : Array Nat} {st : Nat} {ms : List (Nat × Nat)} (h : ms ≠ [] ∨ st < text.size) : piecesOf text repl st ms ≠ [] := by
  cases ms with
  | nil =>
    have : st < text.size := h.resolve_left fun x => x rfl
    unfold piecesOf
    rw [if_pos this]; simp
  | cons x r => unfold piecesOf; simp
/-- the pieces are joined -/
theorem join_pieces {kind : Nat} {D : Addr} {vs : List Value} {as : List (Array Nat)} {n : Nat} {sl : Array (Option Value)} {tj : Tok} {Q : Value → Shared → Prop} (hk : kind = 0 ∨ kind = 1) (hD : s.heap.get? D = some (lobj vs n sl)) (hp : Pcs kind vs as) (hne : as ≠ [])
    (hz : (joinAll as).length ≤ sizeLine) (h : ∀ tk k, Q (piece kind (joinAll as).toArray tk) { s with toks := k }) : wpAny (model prog w) A (call (.builtin (joinId kind)) [piece kind #[] tj, .ref D]) Q E s := by
  rw [sum_flatten] at hz
  rcases hk with rfl | rfl
  · refine join_list (items := ⟨vs⟩) ⟨_, hD, rfl, n, rfl⟩ (pcs_str hp) ?_ fun t' k => ?_
    · rw [List.map_map, List.length_map]
      have : (as.map ((fun y : Str => y.length) ∘ fun a => (⟨a⟩ : Str))) = as.map (·.size) := rfl
      rw [this]
      have h0 : (⟨#[]⟩ : Str).length = 0 := rfl
      rw [h0, Nat.mul_zero, Nat.add_zero]
      rw [sizeLine_eq] at hz
      exact hz
    · rw [str_join_empty]
      exact h t' k
  · obtain ⟨l, h1, h2⟩ := pcs_bytes hp
    have hvs := pcs_ne hp hne
    refine call_bjoin (l := l) (by rw [hD, h1]) (fun e => hvs (by rw [h1, e]; rfl)) (by simp) (by rw [h2, List.map_map]; have : (as.map ((fun x : Array UInt8 => x.size) ∘ fun a => a.map (·.toUInt8))) = as.map (·.size) := (by simp [Function.comp_def]); rw [this]; exact hz) fun tk k => ?_
    rw [h2, flat_bytes]
    exact h tk k

theorem SameBut_keeps {D : Addr} {h h' : Heap} {b : Addr} {o : Obj} (hs : Heap.SameBut D h h') (hb : b ≠ D) (e : h.get? b = some o) : h'.get? b = some o := (hs.2 b hb).trans e
theorem Grow_push {h h' : Heap} {o : Obj} (hs : Heap.SameBut h.objs.size (h.push o) h') : ∀ b o', h.get? b = some o' → h'.get? b = some o' := fun b o' e => SameBut_keeps hs (Nat.ne_of_lt (Heap.lt_size e)) (Heap.get?_push_of_some _ e)
theorem sub_bytes {p a : Addr} {src fl c : Value} {tk g : Tok} {d d' : Option Addr} {sl sl' : Array (Option Value)} {items : Array Value} {n : Nat} {y x : Array UInt8} {u t : Tok} {ms : List (Nat × Nat)} {code : Array Nat} {Q : Value → Shared → Prop}
    (hp : s.heap.get? p = some (patObj src fl a 1 tk d sl g)) (ha : s.heap.get? a = some ⟨c, d', .seq items n, sl'⟩) (hc : (items.map reRawOf).map (·.toNat) = code) (hy : y.contains 92 = false)
    (hR : Runs code (x.map (·.toNat)) 0 false ms) (hx : x.size ≤ 2 ^ 20) (hm : ms.length ≤ 2 ^ 20) (hne : ms ≠ [] ∨ 0 < x.size) (hz : (joinAll (piecesOf (x.map (·.toNat)) (y.map (·.toNat)) 0 ms)).length ≤ sizeLine)
    (h : ∀ h' tk k, (∀ b o, s.heap.get? b = some o → h'.get? b = some o) → Q (.bytes ((joinAll (piecesOf (x.map (·.toNat)) (y.map (·.toNat)) 0 ms)).toArray.map (·.toUInt8)) tk) { s with heap := h', toks := k }) :
    wpAny (model prog w) A (call (.builtin "re.Pattern.sub") [.ref p, .bytes y u, .bytes x t]) Q E s := by
  subst hc
  have hT : s.TypeIs (.ref p) "re.Pattern" := ⟨_, hp, rfl⟩
  refine wpAny_call (codeAny_call_builtin FS.slot_sub.plain FS.entry_sub (FS.slot_sub.check _ _ _ _ _ _ _ _ hT (FS.args_sub _ _ _) ?_))
  refine entry_bytes hy (fun A E Q hQ => whole_bytes hp ha hQ) ?_
  refine ⟨plainId_quiet FS.plain_sub_loop _, ?_⟩
  have O : SubOk prog w p (.bytes x t) (.bytes y u) ((items.map reRawOf).map (·.toNat)) (x.map (·.toNat)) 1 (fun h => h.get? p = some (patObj src fl a 1 tk d sl g) ∧ h.get? a = some ⟨c, d', .seq items n, sl'⟩) := {
    target := fun A E Q s hP hQ => whole_bytes hP.1 hP.2 hQ
    lit := fun A E Q s hQ => by
      have f0 : asStr? (.bytes y u) = pure none := rfl
      have f2 : isInstance (.bytes y u) (.type "bytes") = pure true := KBy.isInstance_eq
      unfold reLiteralCannotBeTurned
      rw [f0]
      refine wpAny_bind (wpAny_pure ?_)
      rw [if_pos (show (Option.isNone (none : Option Str)) = true from rfl), f2]
      refine wpAny_bind (wpAny_pure ?_)
      rw [if_neg (by simp)]
      exact wpAny_pure hQ
    some := rfl }
  have hr : IsP 1 (.bytes y u) (y.map (·.toNat)) := ⟨u, by
    unfold piece
    rw [if_neg (by decide), Array.map_map]
    have e : ((fun z : Nat => z.toUInt8) ∘ fun z : UInt8 => z.toNat) = id := by funext z; simp
    rw [e, Array.map_id]⟩
  have pa : p ≠ s.heap.objs.size := Nat.ne_of_lt (Heap.lt_size hp)
  have aa : a ≠ s.heap.objs.size := Nat.ne_of_lt (Heap.lt_size ha)
  refine sub_loop O hr (fun h h' hs hP => ⟨SameBut_keeps hs pa hP.1, SameBut_keeps hs aa hP.2⟩) (by rw [Array.size_map]; exact hx) ms 0 false 0 _ [] 0 hR ⟨Heap.get?_push_of_some _ hp, Heap.get?_push_of_some _ ha⟩ (Heap.get?_push_size _ rfl) (by simp; omega) (.inr (by rw [Array.size_map]; exact hne)) ?_
  intro h' n' tk tj ws hsb hD hpc
  rw [List.nil_append] at hD
  refine join_pieces (.inr rfl) hD hpc (piecesOf_ne (by rw [Array.size_map]; exact hne)) hz fun tk' k' => ?_
  exact h h' tk' k' (Grow_push hsb)
theorem sub_str {p a : Addr} {src fl c : Value} {tk g : Tok} {d d' : Option Addr} {sl sl' : Array (Option Value)} {items : Array Value} {n : Nat} {y x : Str} {u t : Tok} {ms : List (Nat × Nat)} {code : Array Nat} {Q : Value → Shared → Prop}
    (hp : s.heap.get? p = some (patObj src fl a 0 tk d sl g)) (ha : s.heap.get? a = some ⟨c, d', .seq items n, sl'⟩) (hc : (items.map reRawOf).map (·.toNat) = code) (hy : y.cps.contains 92 = false)
    (hR : Runs code x.cps 0 false ms) (hx : x.cps.size ≤ 2 ^ 20) (hm : ms.length ≤ 2 ^ 20) (hne : ms ≠ [] ∨ 0 < x.cps.size) (hz : (joinAll (piecesOf x.cps y.cps 0 ms)).length ≤ sizeLine)
    (h : ∀ h' tk k, (∀ b o, s.heap.get? b = some o → h'.get? b = some o) → Q (.str ⟨(joinAll (piecesOf x.cps y.cps 0 ms)).toArray⟩ tk) { s with heap := h', toks := k }) :
    wpAny (model prog w) A (call (.builtin "re.Pattern.sub") [.ref p, .str y u, .str x t]) Q E s := by
  subst hc
  have hT : s.TypeIs (.ref p) "re.Pattern" := ⟨_, hp, rfl⟩
  refine wpAny_call (codeAny_call_builtin FS.slot_sub.plain FS.entry_sub (FS.slot_sub.check _ _ _ _ _ _ _ _ hT (FS.args_sub _ _ _) ?_))
  refine entry_str hy (fun A E Q hQ => whole_str hp ha hQ) ?_
  refine ⟨plainId_quiet FS.plain_sub_loop _, ?_⟩
  have O : SubOk prog w p (.str x t) (.str y u) ((items.map reRawOf).map (·.toNat)) x.cps 0 (fun h => h.get? p = some (patObj src fl a 0 tk d sl g) ∧ h.get? a = some ⟨c, d', .seq items n, sl'⟩) := {
    target := fun A E Q s hP hQ => whole_str hP.1 hP.2 hQ
    lit := fun A E Q s hQ => by
      have f0 : asStr? (.str y u) = pure (some y) := rfl
      unfold reLiteralCannotBeTurned
      rw [f0]
      refine wpAny_bind (wpAny_pure ?_)
      rw [if_neg (by simp)]
      exact wpAny_pure hQ
    some := rfl }
  have hr : IsP 0 (.str y u) y.cps := ⟨u, by unfold piece; rw [if_pos (by decide)]⟩
  have pa : p ≠ s.heap.objs.size := Nat.ne_of_lt (Heap.lt_size hp)
  have aa : a ≠ s.heap.objs.size := Nat.ne_of_lt (Heap.lt_size ha)
  refine sub_loop O hr (fun h h' hs hP => ⟨SameBut_keeps hs pa hP.1, SameBut_keeps hs aa hP.2⟩) hx ms 0 false 0 _ [] 0 hR ⟨Heap.get?_push_of_some _ hp, Heap.get?_push_of_some _ ha⟩ (Heap.get?_push_size _ rfl) (by simp; omega) (.inr hne) ?_
  intro h' n' tk tj ws hsb hD hpc
  rw [List.nil_append] at hD
  refine join_pieces (.inl rfl) hD hpc (piecesOf_ne hne) hz fun tk' k' => ?_
  exact h h' tk' k' (Grow_push hsb)
end
end Mine
end

-- part P2
section
open PySem PySem.W PyProof.Rows PySem.Calls PySem.Builtin.Re
set_option Elab.async false
set_option maxRecDepth 100000
set_option maxHeartbeats 0
set_option linter.unusedVariables false
namespace Mine
/-! texts as lists of signs -/
theorem at_pre (pre x : List Nat) (i : Nat) : (pre ++ x).toArray.getD (pre.length + i) 0 = x.getD i 0 := by
  rw [Array.getD_eq_getD_getElem?, List.getElem?_toArray, List.getElem?_append_right (by omega), List.getD_eq_getElem?_getD]
  congr 2
  omega
theorem ext_pre (pre g x : List Nat) : (pre ++ (g ++ x)).toArray.extract pre.length (pre.length + g.length) = g.toArray := by
  apply Array.ext'
  simp
theorem joinAll_cons (a : Array Nat) (as : List (Array Nat)) : joinAll (a :: as) = a.toList ++ joinAll as := rfl
theorem joinAll_append (as bs : List (Array Nat)) : joinAll (as ++ bs) = joinAll as ++ joinAll bs := by simp [joinAll]
theorem pieces_hit (pre g m x : List Nat) (rp : Array Nat) (ms : List (Nat × Nat)) :
    joinAll (piecesOf (pre ++ (g ++ (m ++ x))).toArray rp pre.length ((pre.length + g.length, pre.length + g.length + m.length) :: ms)) =
      g ++ (rp.toList ++ joinAll (piecesOf (pre ++ (g ++ (m ++ x))).toArray rp (pre.length + g.length + m.length) ms)) := by
  rw [piecesOf, joinAll_append, joinAll_cons]
  congr 1
  by_cases h : pre.length < pre.length + g.length
  · rw [if_pos h, ext_pre]; simp [joinAll]
  · have : g = [] := List.eq_nil_of_length_eq_zero (by omega)
    rw [if_neg h, this]; rfl
theorem pieces_end (pre g : List Nat) (rp : Array Nat) : joinAll (piecesOf (pre ++ g).toArray rp pre.length []) = g := by
  have e : (pre ++ g).toArray.size = pre.length + g.length := by simp
  rw [piecesOf, e]
  by_cases h : pre.length < pre.length + g.length
  · have := ext_pre pre g []
    rw [List.append_nil] at this
    rw [if_pos h, this]; simp [joinAll]
  · have : g = [] := List.eq_nil_of_length_eq_zero (by omega)
    rw [if_neg h, this]; rfl
/-! line ends -/
def eolC (c : Nat) : Bool := c == 10 || c == 13
def noEol (g : List Nat) : Prop := ∀ c ∈ g, eolC c = false
/-- a line end and what follows it -/
structure RowE where
  e : List Nat
  p : List Nat
def RowE.ok (r : RowE) : Prop := (r.e = [10] ∨ r.e = [13] ∨ r.e = [13, 10]) ∧ r.p ≠ [] ∧ noEol r.p
def RowE.flat (r : RowE) : List Nat := r.e ++ r.p
def flatE (rs : List RowE) : List Nat := (rs.map RowE.flat).flatten
def msE (st : Nat) (g : List Nat) : List RowE → List (Nat × Nat)
  | [] => []
  | r :: rs => (st + g.length, st + g.length + r.e.length) :: msE (st + g.length + r.e.length) r.p rs
theorem mem_getD {g : List Nat} {P : Nat → Prop} (h : ∀ c ∈ g, P c) {i : Nat} (hi : i < g.length) : P (g.getD i 0) := by
  rw [List.getD_eq_getElem?_getD, List.getElem?_eq_getElem hi]
  exact h _ (List.getElem_mem hi)
theorem getD_left (g x : List Nat) {i : Nat} (hi : i < g.length) : (g ++ x).getD i 0 = g.getD i 0 := by
  rw [List.getD_eq_getElem?_getD, List.getElem?_append_left hi, List.getD_eq_getElem?_getD]
theorem getD_right (g x : List Nat) (i : Nat) : (g ++ x).getD (g.length + i) 0 = x.getD i 0 := by
  rw [List.getD_eq_getElem?_getD, List.getElem?_append_right (by omega), List.getD_eq_getElem?_getD]
  congr 2; omega
theorem runsE (T : List Nat) (hT : T.length ≤ 2 ^ 20) : ∀ (rs : List RowE) (pre g : List Nat) (must : Bool), T = pre ++ (g ++ flatE rs) → (∀ r ∈ rs, r.ok) → noEol g →
    Runs codeE T.toArray pre.length must (msE pre.length g rs)
  | [], pre, g, must, e, _, hg => by
    refine .nil ⟨200, by decide, searchE_miss _ _ _ (by rw [e]; simp) fun j h1 h2 => ?_⟩
    obtain ⟨i, rfl⟩ := Nat.exists_eq_add_of_le h1
    have hf : flatE [] = [] := rfl
    rw [hf, List.append_nil] at e
    subst e
    unfold eolAt
    rw [at_pre]
    have hi : i < g.length := by simp at h2; omega
    exact mem_getD (P := fun c => (c == 10 || c == 13) = false) hg hi
  | r :: rs, pre, g, must, e, ho, hg => by
    have hr := ho r (.head _)
    have hfl : flatE (r :: rs) = r.e ++ (r.p ++ flatE rs) := by simp [flatE, RowE.flat]
    rw [hfl] at e
    have hlt : T.length = pre.length + (g.length + (r.e.length + (r.p.length + (flatE rs).length))) := by rw [e]; simp
    have hp1 : 0 < r.p.length := List.length_pos_iff.mpr hr.2.1
    have he1 : 0 < r.e.length ∧ r.e.length ≤ 2 := by rcases hr.1 with h | h | h <;> rw [h] <;> decide
    have hat : ∀ i, T.toArray.getD (pre.length + (g.length + i)) 0 = (r.e ++ (r.p ++ flatE rs)).getD i 0 := fun i => by rw [e, at_pre, getD_right]
    have hp0 : eolC (r.p.getD 0 0) = false := mem_getD (P := fun c => eolC c = false) hr.2.2 hp1
    have hlen : eolLen T.toArray (pre.length + g.length) = r.e.length := by
      have h0 := hat 0
      have h1 := hat 1
      rw [Nat.add_zero] at h0
      have h1' : T.toArray.getD (pre.length + g.length + 1) 0 = (r.e ++ (r.p ++ flatE rs)).getD 1 0 := by rw [← h1]; congr 1
      unfold eolLen
      rw [h0, h1']
      rcases hr.1 with h | h | h
      · rw [h]; rfl
      · rw [h]
        have : ([13] ++ (r.p ++ flatE rs)).getD 1 0 = r.p.getD 0 0 := by
          rw [show (1 : Nat) = [13].length + 0 from rfl, getD_right, getD_left _ _ hp1]
        rw [this]
        have hne : (r.p.getD 0 0 == 10) = false := by unfold eolC at hp0; exact (Bool.or_eq_false_iff.mp hp0).1
        rw [hne, Bool.and_false]; rfl
      · rw [h] at hlt ⊢
        have hs : decide (pre.length + g.length + 1 < T.toArray.size) = true := by simp at hlt ⊢; omega
        show (if ((13 == 13 : Bool) && decide (pre.length + g.length + 1 < T.toArray.size) && (10 == 10 : Bool)) = true then 2 else 1) = 2
        rw [hs]; rfl
    have heol : eolAt T.toArray (pre.length + g.length) = true := by
      have h0 := hat 0
      rw [Nat.add_zero] at h0
      unfold eolAt
      rw [h0]
      rcases hr.1 with h | h | h <;> rw [h] <;> rfl
    refine .cons (b := pre.length + g.length) (e := pre.length + g.length + r.e.length) ⟨200, by decide, ?_⟩ (by omega) (by omega) (by simp; omega) ?_
    · rw [← hlen]
      refine searchE_hit _ _ (by simp; omega) heol _ _ (by omega) fun j h1 h2 => ?_
      obtain ⟨i, rfl⟩ := Nat.exists_eq_add_of_le h1
      unfold eolAt
      rw [e, at_pre, getD_left _ _ (by omega)]
      exact mem_getD (P := fun c => (c == 10 || c == 13) = false) hg (by omega)
    · have hq : (pre ++ (g ++ r.e)).length = pre.length + g.length + r.e.length := by simp; omega
      rw [← hq]
      exact runsE T hT rs (pre ++ (g ++ r.e)) r.p _ (by rw [e]; simp) (fun x hx => ho x (.tail _ hx)) hr.2.2
theorem piecesE (rp : Array Nat) (T : List Nat) : ∀ (rs : List RowE) (pre g : List Nat), T = pre ++ (g ++ flatE rs) →
    joinAll (piecesOf T.toArray rp pre.length (msE pre.length g rs)) = g ++ (rs.map fun r => rp.toList ++ r.p).flatten
  | [], pre, g, e => by
    have hf : flatE [] = [] := rfl
    rw [hf, List.append_nil] at e
    subst e
    rw [msE, pieces_end]; simp
  | r :: rs, pre, g, e => by
    have hfl : flatE (r :: rs) = r.e ++ (r.p ++ flatE rs) := by simp [flatE, RowE.flat]
    rw [hfl] at e
    rw [msE]
    have h1 := pieces_hit pre g r.e (r.p ++ flatE rs) rp (msE (pre.length + g.length + r.e.length) r.p rs)
    rw [← e] at h1
    rw [h1]
    have hq : (pre ++ (g ++ r.e)).length = pre.length + g.length + r.e.length := by simp; omega
    have ih := piecesE rp T rs (pre ++ (g ++ r.e)) r.p (by rw [e]; simp)
    rw [hq] at ih
    rw [ih]
    simp
/-! dots at the head of a line -/
def rowD (d : Nat) : List Nat := [13, 10] ++ (List.replicate d 46 ++ [34])
def flatD (ds : List Nat) : List Nat := (ds.map rowD).flatten
def msP (st : Nat) (g : List Nat) : List Nat → List (Nat × Nat)
  | [] => []
  | 0 :: ds => msP st (g ++ [13, 10, 34]) ds
  | (k + 1) :: ds => (st + (g ++ [13, 10]).length, st + (g ++ [13, 10]).length + [46].length) :: msP (st + (g ++ [13, 10]).length + [46].length) (List.replicate k 46 ++ [34]) ds
theorem dotAt_ne {t : Array Nat} {s : Nat} (h : t.getD s 0 ≠ 46) : dotAt t s = false := by
  unfold dotAt
  rw [show (t.getD s 0 == 46) = false by simpa using h, Bool.and_false]
theorem dotAt_prev {t : Array Nat} {s : Nat} (h0 : 0 < s) (h : t.getD (s - 1) 0 ≠ 10) : dotAt t s = false := by
  unfold dotAt
  have h1 : (s == 0) = false := by simp; omega
  have h2 : (t.getD (s - 1) 0 == 10) = false := by simpa using h
  rw [h1, h2]; rfl
theorem runsP (T : List Nat) (hT : T.length ≤ 2 ^ 20) : ∀ (ds : List Nat) (pre g : List Nat) (must : Bool), T = pre ++ (g ++ flatD ds) → (∀ i, i < g.length → dotAt T.toArray (pre.length + i) = false) →
    Runs codeP T.toArray pre.length must (msP pre.length g ds)
  | [], pre, g, must, e, hg => by
    have hf : flatD [] = [] := rfl
    rw [hf, List.append_nil] at e
    have hl : T.length = pre.length + g.length := by rw [e]; simp
    refine .nil ?_
    by_cases h : pre.length < T.toArray.size
    · refine ⟨40 * (g.length + 1), by omega, ?_⟩
      rw [startP _ _ _ h]
      refine searchP_miss _ g.length _ _ _ _ (by simp [hl]) fun j h1 h2 => ?_
      obtain ⟨i, rfl⟩ := Nat.exists_eq_add_of_le h1
      exact hg i (by simp [hl] at h2; omega)
    · have : pre.length = T.toArray.size := by simp at h ⊢; omega
      rw [this]
      exact ⟨400, by decide, startP_end _ _⟩
  | 0 :: ds, pre, g, must, e, hg => by
    have hfl : flatD (0 :: ds) = [13, 10, 34] ++ flatD ds := rfl
    rw [hfl] at e
    rw [msP]
    refine runsP T hT ds pre (g ++ [13, 10, 34]) must (by rw [e]; simp) fun i hi => ?_
    by_cases h : i < g.length
    · exact hg i h
    · obtain ⟨k, rfl⟩ := Nat.exists_eq_add_of_le (Nat.le_of_not_lt h)
      refine dotAt_ne ?_
      rw [e, at_pre, getD_right]
      have : k < 3 := by simp at hi; omega
      match k, this with
      | 0, _ => show (13 : Nat) ≠ 46; decide
      | 1, _ => show (10 : Nat) ≠ 46; decide
      | 2, _ => show (34 : Nat) ≠ 46; decide
  | (k + 1) :: ds, pre, g, must, e, hg => by
    have hfl : flatD ((k + 1) :: ds) = [13, 10] ++ ([46] ++ ((List.replicate k 46 ++ [34]) ++ flatD ds)) := by
      simp [flatD, rowD, List.replicate_succ]
    rw [hfl] at e
    have hl : T.length = pre.length + (g.length + (2 + (1 + ((k + 1) + (flatD ds).length)))) := by rw [e]; simp; omega
    have hat : ∀ i, T.toArray.getD (pre.length + (g.length + i)) 0 = ([13, 10] ++ ([46] ++ ((List.replicate k 46 ++ [34]) ++ flatD ds))).getD i 0 := fun i => by rw [e, at_pre, getD_right]
    have hgl : (g ++ [13, 10]).length = g.length + 2 := by simp
    rw [msP, hgl]
    refine .cons ⟨40 * (g.length + 2 + 1), by omega, ?_⟩ (by omega) (by omega) (by simp [hl]; omega) ?_
    · rw [startP _ _ _ (by simp [hl]; omega)]
      refine searchP_hit _ (pre.length + (g.length + 2)) ?_ (by simp [hl]; omega) (g.length + 2) _ _ _ _ rfl fun j h1 h2 => ?_
      · unfold dotAt
        have h2 := hat 2
        have h1 := hat 1
        have e1 : pre.length + (g.length + 2) - 1 = pre.length + (g.length + 1) := by omega
        rw [e1, h1, h2]
        have : (pre.length + (g.length + 2) == 0) = false := by simp
        rw [this]; rfl
      · obtain ⟨i, rfl⟩ := Nat.exists_eq_add_of_le h1
        by_cases h : i < g.length
        · exact hg i h
        · obtain ⟨m, rfl⟩ := Nat.exists_eq_add_of_le (Nat.le_of_not_lt h)
          refine dotAt_ne ?_
          rw [hat]
          have : m < 2 := by omega
          match m, this with
          | 0, _ => show (13 : Nat) ≠ 46; decide
          | 1, _ => show (10 : Nat) ≠ 46; decide
    · have hq : (pre ++ (g ++ [13, 10, 46])).length = pre.length + (g.length + 2) + [46].length := by simp; omega
      rw [← hq]
      refine runsP T hT ds (pre ++ (g ++ [13, 10, 46])) (List.replicate k 46 ++ [34]) _ (by rw [e]; simp) fun i hi => ?_
      have hpl : (pre ++ (g ++ [13, 10, 46])).length + i = pre.length + (g.length + (3 + i)) := by simp; omega
      rw [hpl]
      refine dotAt_prev (by omega) ?_
      have e1 : pre.length + (g.length + (3 + i)) - 1 = pre.length + (g.length + (2 + i)) := by omega
      rw [e1, hat]
      have hi' : i < k + 1 := by simpa using hi
      have : ([13, 10] ++ ([46] ++ ((List.replicate k 46 ++ [34]) ++ flatD ds))).getD (2 + i) 0 = (List.replicate (k + 1) 46 ++ ([34] ++ flatD ds)).getD i 0 := by
        rw [show (2 : Nat) = ([13, 10] : List Nat).length from rfl, getD_right]
        congr 1
        simp [List.replicate_succ]
      rw [this, getD_left _ _ (by simpa using hi'), List.getD_eq_getElem?_getD, List.getElem?_replicate, if_pos hi']
      decide
theorem piecesP (rp : Array Nat) (T : List Nat) : ∀ (ds : List Nat) (pre g : List Nat), T = pre ++ (g ++ flatD ds) →
    joinAll (piecesOf T.toArray rp pre.length (msP pre.length g ds)) = g ++ (ds.map fun d => [13, 10] ++ ((match d with | 0 => [] | k + 1 => rp.toList ++ List.replicate k 46) ++ [34])).flatten
  | [], pre, g, e => by
    have hf : flatD [] = [] := rfl
    rw [hf, List.append_nil] at e
    subst e
    rw [msP, pieces_end]; simp
  | 0 :: ds, pre, g, e => by
    have hfl : flatD (0 :: ds) = [13, 10, 34] ++ flatD ds := rfl
    rw [hfl] at e
    rw [msP, piecesP rp T ds pre (g ++ [13, 10, 34]) (by rw [e]; simp)]
    simp
  | (k + 1) :: ds, pre, g, e => by
    have hfl : flatD ((k + 1) :: ds) = [13, 10] ++ ([46] ++ ((List.replicate k 46 ++ [34]) ++ flatD ds)) := by
      simp [flatD, rowD, List.replicate_succ]
    rw [hfl] at e
    rw [msP]
    have h1 := pieces_hit pre (g ++ [13, 10]) [46] ((List.replicate k 46 ++ [34]) ++ flatD ds) rp (msP (pre.length + (g ++ [13, 10]).length + [46].length) (List.replicate k 46 ++ [34]) ds)
    have e' : T = pre ++ ((g ++ [13, 10]) ++ ([46] ++ ((List.replicate k 46 ++ [34]) ++ flatD ds))) := by rw [e]; simp
    rw [← e'] at h1
    rw [h1]
    have hq : (pre ++ (g ++ [13, 10, 46])).length = pre.length + (g ++ [13, 10]).length + [46].length := by simp; omega
    have ih := piecesP rp T ds (pre ++ (g ++ [13, 10, 46])) (List.replicate k 46 ++ [34]) (by rw [e]; simp)
    rw [hq] at ih
    rw [ih]
    simp
/-! between quotation marks -/
def clean (g : List Nat) : Prop := ∀ c ∈ g, (c == 34 || c == 92) = false
def textQ : List (List Nat) → List Nat
  | [] => []
  | [s] => s
  | s :: r => s ++ ([34] ++ textQ r)
def leftQ : List (List Nat) → List Nat
  | [] => []
  | [s] => s
  | [s, t] => s ++ ([34] ++ t)
  | s :: _ :: r => s ++ leftQ r
def msQ (st : Nat) : List (List Nat) → List (Nat × Nat)
  | s :: t :: u :: r => (st + s.length, st + s.length + ([34] ++ (t ++ [34])).length) :: msQ (st + s.length + ([34] ++ (t ++ [34])).length) (u :: r)
  | _ => []
theorem clean_at {g : List Nat} (h : clean g) {i : Nat} (hi : i < g.length) : (g.getD i 0 == 34 || g.getD i 0 == 92) = false := mem_getD (P := fun c => (c == 34 || c == 92) = false) h hi
theorem srchQ_miss (T : List Nat) (hT : T.length ≤ 2 ^ 20) (st : Nat) (must : Bool) (hst : st ≤ T.length)
    (h : ∀ i, st ≤ i → i < T.toArray.size → T.toArray.getD i 0 = 34 → ∀ j, i < j → j < T.toArray.size → (T.toArray.getD j 0 == 34 || T.toArray.getD j 0 == 92) = false) : Srch codeQ T.toArray st must Miss := by
  have hs : T.toArray.size = T.length := by simp
  by_cases h2 : st + 2 ≤ T.toArray.size
  · refine ⟨(T.length + 1) * (40 * T.length + 120), ?_, ?_⟩
    · exact Nat.le_trans (Nat.mul_le_mul (Nat.succ_le_succ hT) (Nat.add_le_add_right (Nat.mul_le_mul_left 40 hT) 120)) (by decide)
    · rw [startQ _ _ _ h2]
      have := triesQ_miss T.toArray (T.length - st) st must true (({} : Sre.Seen).add 14) (by rw [hs]; omega) h
      rw [hs] at this
      refine this.mono (Nat.mul_le_mul_right _ (by omega))
  · exact ⟨400, by decide, startQ_short _ _ _ (by omega)⟩
theorem runsQ (T : List Nat) (hT : T.length ≤ 2 ^ 20) : ∀ (n : Nat) (segs : List (List Nat)) (pre : List Nat) (must : Bool), segs.length ≤ n → T = pre ++ textQ segs → (∀ s ∈ segs, clean s) → Runs codeQ T.toArray pre.length must (msQ pre.length segs)
  | n, [], pre, must, _, e, hc => by
    rw [msQ]
    · refine .nil (srchQ_miss T hT _ _ (by rw [e]; simp) fun i h1 h2 => ?_)
      have : T.length = pre.length := by rw [e]; simp [textQ]
      simp at h2; omega
    all_goals (intros; simp_all)
  | n, [s], pre, must, _, e, hc => by
    rw [msQ]
    · refine .nil (srchQ_miss T hT _ _ (by rw [e]; simp) fun i h1 h2 h3 => ?_)
      obtain ⟨k, rfl⟩ := Nat.exists_eq_add_of_le h1
      rw [e, at_pre] at h3
      have hl : T.length = pre.length + s.length := by rw [e]; simp [textQ]
      have := clean_at (hc s (.head _)) (i := k) (by simp at h2; omega)
      have h3' : s.getD k 0 = 34 := h3
      rw [h3'] at this
      exact absurd this (by decide)
    all_goals (intros; simp_all)
  | n, [s, u], pre, must, _, e, hc => by
    rw [msQ]
    · have e' : T = pre ++ (s ++ ([34] ++ u)) := e
      have hl : T.length = pre.length + (s.length + (1 + u.length)) := by rw [e']; simp; omega
      refine .nil (srchQ_miss T hT _ _ (by omega) fun i h1 h2 h3 j h4 h5 => ?_)
      obtain ⟨k, rfl⟩ := Nat.exists_eq_add_of_le h1
      obtain ⟨m, rfl⟩ := Nat.exists_eq_add_of_le (Nat.le_of_lt (Nat.lt_of_le_of_lt h1 h4))
      rw [e', at_pre] at h3
      rw [e', at_pre]
      have hk : s.length ≤ k := by
        apply Nat.le_of_not_lt
        intro hk
        rw [getD_left _ _ hk] at h3
        have := clean_at (hc s (.head _)) hk
        rw [h3] at this
        exact absurd this (by decide)
      have hm : s.length + 1 ≤ m := by omega
      obtain ⟨q, rfl⟩ := Nat.exists_eq_add_of_le hm
      have hq : (s ++ ([34] ++ u)).getD (s.length + 1 + q) 0 = u.getD q 0 := by
        rw [Nat.add_assoc, getD_right, show (1 : Nat) = ([34] : List Nat).length from rfl, getD_right]
      rw [hq]
      exact clean_at (hc u (.tail _ (.head _))) (by simp at h5; omega)
    all_goals (intros; simp_all)
  | 0, s :: u :: v :: r, pre, must, hn, e, hc => by simp at hn
  | n + 1, s :: u :: v :: r, pre, must, hn, e, hc => by
    have e' : T = pre ++ (s ++ ([34] ++ (u ++ ([34] ++ textQ (v :: r))))) := e
    have hl : T.length = pre.length + (s.length + (1 + (u.length + (1 + (textQ (v :: r)).length)))) := by rw [e']; simp; omega
    have hat : ∀ i, T.toArray.getD (pre.length + (s.length + i)) 0 = ([34] ++ (u ++ ([34] ++ textQ (v :: r)))).getD i 0 := fun i => by rw [e', at_pre, getD_right]
    have hml : ([34] ++ (u ++ [34])).length = u.length + 2 := by simp
    rw [msQ, hml]
    have hcq : pre.length + s.length + (u.length + 2) = pre.length + (s.length + (u.length + 1)) + 1 := by omega
    refine .cons ⟨(s.length + 1) * (40 * T.length + 120), ?_, ?_⟩ (by omega) (by omega) (by simp [hl]; omega) ?_
    · exact Nat.le_trans (Nat.mul_le_mul (Nat.succ_le_succ (by omega : s.length ≤ 2 ^ 20)) (Nat.add_le_add_right (Nat.mul_le_mul_left 40 hT) 120)) (by decide)
    · rw [startQ _ _ _ (by simp [hl]; omega), hcq]
      have hs : T.toArray.size = T.length := by simp
      rw [← hs]
      have b0 := hat 0
      rw [Nat.add_zero] at b0
      refine triesQ_hit T.toArray (pre.length + s.length) (pre.length + (s.length + (u.length + 1))) b0 (by omega) (by simp [hl]; omega) ?_ ?_ s.length pre.length must true _ rfl ?_
      · rw [hat, Nat.add_comm u.length 1, show (1 : Nat) = ([34] : List Nat).length from rfl, getD_right]
        have := getD_right u ([34] ++ textQ (v :: r)) 0
        rw [Nat.add_zero] at this
        rw [this]; rfl
      · intro j h1 h2
        obtain ⟨k, rfl⟩ := Nat.exists_eq_add_of_le (show pre.length + (s.length + 1) ≤ j by omega)
        have hk : k < u.length := by omega
        have ej : pre.length + (s.length + 1) + k = pre.length + (s.length + (1 + k)) := by omega
        rw [ej, hat, show (1 : Nat) = ([34] : List Nat).length from rfl, getD_right, getD_left _ _ hk]
        exact clean_at (hc u (.tail _ (.head _))) hk
      · intro j h1 h2
        obtain ⟨k, rfl⟩ := Nat.exists_eq_add_of_le h1
        rw [e', at_pre, getD_left _ _ (by omega)]
        intro h3
        have := clean_at (hc s (.head _)) (i := k) (by omega)
        rw [h3] at this
        exact absurd this (by decide)
    · have hq : (pre ++ (s ++ ([34] ++ (u ++ [34])))).length = pre.length + s.length + (u.length + 2) := by simp; omega
      rw [← hq]
      exact runsQ T hT n (v :: r) (pre ++ (s ++ ([34] ++ (u ++ [34])))) _ (by simp at hn ⊢; omega) (by rw [e']; simp) fun x hx => hc x (.tail _ (.tail _ hx))
theorem piecesQ (T : List Nat) : ∀ (n : Nat) (segs : List (List Nat)) (pre : List Nat), segs.length ≤ n → T = pre ++ textQ segs → joinAll (piecesOf T.toArray #[] pre.length (msQ pre.length segs)) = leftQ segs
  | n, [], pre, _, e => by
    have e' : T = pre ++ [] := e
    rw [msQ]
    · rw [e', pieces_end]; rfl
    all_goals (intros; simp_all)
  | n, [s], pre, _, e => by
    have e' : T = pre ++ s := e
    rw [msQ]
    · rw [e', pieces_end]; rfl
    all_goals (intros; simp_all)
  | n, [s, u], pre, _, e => by
    have e' : T = pre ++ (s ++ ([34] ++ u)) := e
    rw [msQ]
    · rw [e', pieces_end]; rfl
    all_goals (intros; simp_all)
  | 0, s :: u :: v :: r, pre, hn, e => by simp at hn
  | n + 1, s :: u :: v :: r, pre, hn, e => by
    have e' : T = pre ++ (s ++ (([34] ++ (u ++ [34])) ++ textQ (v :: r))) := by rw [e]; simp [textQ]
    rw [msQ]
    have h1 := pieces_hit pre s ([34] ++ (u ++ [34])) (textQ (v :: r)) #[] (msQ (pre.length + s.length + ([34] ++ (u ++ [34])).length) (v :: r))
    rw [← e'] at h1
    rw [h1]
    have hq : (pre ++ (s ++ ([34] ++ (u ++ [34])))).length = pre.length + s.length + ([34] ++ (u ++ [34])).length := by simp; omega
    have ih := piecesQ T n (v :: r) (pre ++ (s ++ ([34] ++ (u ++ [34])))) (by simp at hn ⊢; omega) (by rw [e']; simp)
    rw [hq] at ih
    rw [ih]
    cases r <;> rfl
end Mine
end

-- part E1
section
open PySem PySem.W PyProof.Rows PySem.Calls PySem.Builtin.Re
set_option Elab.async false
set_option maxRecDepth 100000
set_option maxHeartbeats 0
set_option linter.unusedVariables false
namespace Mine
namespace FS
theorem attrs_pattern : PlainAttrs "re.Pattern" := ⟨⟨"object.__getattribute__", by rw [typeLookup_type, builtinLookup_eq_fast]; kernel_rfl, by decide +kernel⟩, by rw [typeLookup_type, builtinLookup_eq_fast]; kernel_rfl⟩
theorem ty_sub : typeOf (.builtin "re.Pattern.sub") = pure (.type "method_descriptor") := by show builtinType _ = _; rw [builtinType_eq_fast]; kernel_rfl
theorem slot_bytes_count : Slot "bytes" "count" "bytes.count" :=
  .of (owner := "bytes") (n := "count") (by rw [typeLookup_type, builtinLookup_eq_fast]; kernel_rfl) (by decide +kernel) (by decide +kernel) (by decide +kernel)
    (by first | exact .inl (by decide +kernel) | exact .inr (by decide +kernel)) (by rw [isSubtype_type]; kernel_rfl)
theorem type_bytes_count : typeOf (.builtin "bytes.count") = pure (.type "method_descriptor") := by show builtinType _ = _; rw [builtinType_eq_fast]; kernel_rfl
theorem entry_bytes_count : entryFor table "bytes.count" = some Builtin.«bytes.count» := entryFor_of_tree (by kernel_rfl)
theorem args_bytes_count_2 (a b : Value) : argsOk "bytes.count" ⟨[a, b], []⟩ := by unfold argsOk; kernel_rfl
end FS
section
variable {w : World} {A : Around} {E : Value → Shared → Prop} {s : Shared} {mg mb : Str → Option Value}
theorem get_sub {h : Heap} {p : Addr} {src fl : Value} {a : Addr} {tk g : Tok} {k : Int} {sl : Array (Option Value)} {M : Model} {pl : Sem Bool} {Q : Value × List Value → Shared → Prop} (hp : s.heap.get? p = some (patObj src fl a k tk none sl g)) (h : Q (.builtin "re.Pattern.sub", [.ref p]) s) :
    wpAny M A (getMethod (.ref p) "sub" pl) Q E s :=
  getMethod_builtin (T := "re.Pattern") ⟨_, hp, rfl⟩ FS.attrs_pattern FS.slot_sub FS.ty_sub (fun b e => by cases e; exact ⟨_, hp, rfl⟩) h
local macro_rules | `(tactic| walk_at "eval Name") => `(tactic| (k_dflt (refine' name_K ?F ?X ?T ?e ?_; (case F => k_asm); (case X => k_asm); (case T => k_asm); (case e => first | exact nm_quoted | exact nm_paren_depth | exact nm_twin_re_1 | exact nm_twin_re_2 | exact nm_law_numbers | exact nm_Accumulator | exact nm_law_sent | exact nm_byteswap | exact nm_Int2AP | exact nm_law_number_of_depths | exact nm_quote_periods | exact nm_fix_eols | exact nm_CRLF); k_whole)))
local macro_rules | `(tactic| walk_at "eval Name") => `(tactic| (k_dflt (refine' name_B ?F ?X ?T ?e ?v ?n ?_; (case F => k_asm); (case X => k_asm); (case T => k_asm); (case e => first | exact nb_enumerate | exact nb_range | exact nb_bytearray | exact nb_len | exact nb_bytes | exact nb_sum | exact nb_str | exact nb_int | exact nb_abs | exact nb_divmod | exact nb_super); (case v => boot_by_name); (case n => decide); k_whole)))

def IsPat (K : Frag) (p a : Addr) (k : Int) : Prop := ∃ src fl tk sl g, K.lookup p = some (patObj src fl a k tk none sl g)
def IsCodeT (K : Frag) (a : Addr) (code : Array Nat) : Prop := ∃ c d sl items n, K.lookup a = some ⟨c, d, .seq items n, sl⟩ ∧ (items.map reRawOf).map (·.toNat) = code
theorem get_subK {h₀ : Heap} {L : Addr} {m : Str → Option Value} {K : Frag} {p a : Addr} {k : Int} {M : Model} {pl : Sem Bool} {Q : Value × List Value → Shared → Prop} (F : Fr h₀ L s.heap m) (X : K.In h₀)
    (hp : IsPat K p a k) (h : Q (.builtin "re.Pattern.sub", [.ref p]) s) : wpAny M A (getMethod (.ref p) "sub" pl) Q E s := by
  obtain ⟨src, fl, tk, sl, g, hp⟩ := hp
  exact get_sub (h := h₀) (F.keep _ _ (X _ _ hp)) h
theorem pat145 : IsPat (Kf w) 145 144 1 := ⟨_, _, _, _, _, rfl⟩
theorem pat150 : IsPat (Kf w) 150 149 0 := ⟨_, _, _, _, _, rfl⟩
theorem pat43 : IsPat (Kf w) 43 42 1 := ⟨_, _, _, _, _, rfl⟩
theorem tup144 : IsCodeT (Kf w) 144 codeP := ⟨_, _, _, _, _, rfl, by kernel_rfl⟩
theorem tup149 : IsCodeT (Kf w) 149 codeE := ⟨_, _, _, _, _, rfl, by kernel_rfl⟩
theorem tup42 : IsCodeT (Kf w) 42 codeQ := ⟨_, _, _, _, _, rfl, by kernel_rfl⟩
theorem subB_K {prog : Program} {h₀ : Heap} {L : Addr} {m : Str → Option Value} {K : Frag} {p a : Addr} {code : Array Nat} {y x : Array UInt8} {u t : Tok} {ms : List (Nat × Nat)} {Q : Value → Shared → Prop} (F : Fr h₀ L s.heap m) (X : K.In h₀) (hp : IsPat K p a 1) (ha : IsCodeT K a code) (hy : y.contains 92 = false)
    (hR : Runs code (x.map (·.toNat)) 0 false ms) (hx : x.size ≤ 2 ^ 20) (hm : ms.length ≤ 2 ^ 20) (hne : ms ≠ [] ∨ 0 < x.size) {out : List Nat} (ho : joinAll (piecesOf (x.map (·.toNat)) (y.map (·.toNat)) 0 ms) = out) (hz : out.length ≤ sizeLine)
    (h : ∀ h' tk k, Grow s.heap h' → Q (.bytes (out.toArray.map (·.toUInt8)) tk) { s with heap := h', toks := k }) :
    wpAny (model prog w) A (call (.builtin "re.Pattern.sub") [.ref p, .bytes y u, .bytes x t]) Q E s := by
  obtain ⟨src, fl, tk, sl, g, hp⟩ := hp
  obtain ⟨c, d, sl', items, n, ha, hc⟩ := ha
  subst ho
  exact sub_bytes (F.keep _ _ (X _ _ hp)) (F.keep _ _ (X _ _ ha)) hc hy hR hx hm hne hz h
theorem subS_K {prog : Program} {h₀ : Heap} {L : Addr} {m : Str → Option Value} {K : Frag} {p a : Addr} {code : Array Nat} {y x : Str} {u t : Tok} {ms : List (Nat × Nat)} {Q : Value → Shared → Prop} (F : Fr h₀ L s.heap m) (X : K.In h₀) (hp : IsPat K p a 0) (ha : IsCodeT K a code) (hy : y.cps.contains 92 = false)
    (hR : Runs code x.cps 0 false ms) (hx : x.cps.size ≤ 2 ^ 20) (hm : ms.length ≤ 2 ^ 20) (hne : ms ≠ [] ∨ 0 < x.cps.size) {out : List Nat} (ho : joinAll (piecesOf x.cps y.cps 0 ms) = out) (hz : out.length ≤ sizeLine)
    (h : ∀ h' tk k, Grow s.heap h' → Q (.str ⟨out.toArray⟩ tk) { s with heap := h', toks := k }) :
    wpAny (model prog w) A (call (.builtin "re.Pattern.sub") [.ref p, .str y u, .str x t]) Q E s := by
  obtain ⟨src, fl, tk, sl, g, hp⟩ := hp
  obtain ⟨c, d, sl', items, n, ha, hc⟩ := ha
  subst ho
  exact sub_str (F.keep _ _ (X _ _ hp)) (F.keep _ _ (X _ _ ha)) hc hy hR hx hm hne hz h
local macro_rules | `(tactic| walk_at "getMethod ref") => `(tactic| (k_dflt (refine' get_subK ?F ?X ?e ?_; (case F => k_asm); (case X => k_asm); (case e => first | exact pat145 | exact pat150 | exact pat43); k_whole)))
/-- a row that was sent -/
def sentD (d : Nat) : Nat := if d = 0 then 0 else d + 1
theorem msP_len : ∀ (ds : List Nat) (st : Nat) (g : List Nat), (msP st g ds).length ≤ ds.length
  | [], _, _ => Nat.le_refl _
  | 0 :: ds, st, g => Nat.le_succ_of_le (msP_len ds _ _)
  | (k + 1) :: ds, st, g => Nat.succ_le_succ (msP_len ds _ _)
theorem flatD_len (ds : List Nat) : ds.length ≤ (flatD ds).length ∧ (flatD (ds.map sentD)).length ≤ (flatD ds).length + ds.length := by
  induction ds with
  | nil => exact ⟨Nat.le_refl _, Nat.le_refl _⟩
  | cons d ds ih =>
    have e : ∀ (d : Nat) ds, (flatD (d :: ds)).length = d + 3 + (flatD ds).length := fun d ds => by simp [flatD, rowD]; omega
    rw [List.map_cons, e, e, List.length_cons]
    have : sentD d ≤ d + 1 := by unfold sentD; split <;> omega
    omega
theorem sent_rows (ds : List Nat) : (ds.map fun d => [13, 10] ++ ((match d with | 0 => [] | k + 1 => [46, 46] ++ List.replicate k 46) ++ [34])).flatten = flatD (ds.map sentD) := by
  unfold flatD
  rw [List.map_map]
  congr 1
  refine List.map_congr_left fun d _ => ?_
  cases d with
  | zero => rfl
  | succ k => simp [rowD, sentD, List.replicate_succ]
theorem toU8 (l : List Nat) : (l.toArray.map (·.toUInt8)) = (l.map (·.toUInt8)).toArray := by simp
theorem quote_c {x : Array UInt8} {t : Tok} {ds : List Nat} {Q : Value → Shared → Prop} (G : Gd w mg mb s.heap) (hroom : A.depth < recursionLimit) (hx : x.map (·.toNat) = (flatD ds).toArray) (hl : (flatD ds).length ≤ 2 ^ 16) (hne : ds ≠ [])
    (h : ∀ h' tk k, Grow s.heap h' → Q (.bytes ((flatD (ds.map sentD)).toArray.map (·.toUInt8)) tk) { s with heap := h', toks := k }) :
  wpAny (model prg w) A (call (.ref 157) [.bytes x t]) Q E s := by
  refine wpAny_call ?_
  refine' enter G ?ho ?hcd hroom ?hb ?hl ?_ ?c1 ?c2 ?c3 ?c4
  case ho => exact rfl
  case hcd => rfl
  case hb => exact BindsTo.of_eq rfl
  case hl => exact locs rfl
  case c1 => exact rfl
  case c2 => exact rfl
  case c3 => exact rfl
  case c4 => decide
  intro L' h₁ F
  obtain ⟨X, T⟩ := G
  k_steps
  have hf := flatD_len ds
  have hs : x.size = (flatD ds).length := by rw [← Array.size_map (f := (·.toNat)), hx]; simp
  have hR := runsP (flatD ds) (by omega) ds [] [] false (by simp) (fun i hi => absurd hi (Nat.not_lt_zero _))
  have hP : joinAll (piecesOf (flatD ds).toArray #[46, 46] 0 (msP 0 [] ds)) = flatD (ds.map sentD) := (piecesP #[46, 46] (flatD ds) ds [] [] (by simp)).trans (sent_rows ds)
  have hm := msP_len ds 0 []
  have hd : 0 < ds.length := List.length_pos_iff.mpr hne
  refine subB_K F X pat145 tup144 (by decide +kernel) (by rw [hx]; exact hR) (by omega) (by exact Nat.le_trans hm (by omega)) (.inr (by omega)) (out := flatD (ds.map sentD)) (by rw [hx, show ((([46, 46] : List UInt8).toArray).map (·.toNat)) = #[46, 46] by decide +kernel]; exact hP) (by rw [sizeLine_eq]; omega) fun h' tk' k' g => ?_
  exact h h' tk' k' fun b o e => g _ _ (F.keep b o e)
theorem msE_len : ∀ (rs : List RowE) (st : Nat) (g : List Nat), (msE st g rs).length = rs.length
  | [], _, _ => rfl
  | r :: rs, st, g => congrArg (· + 1) (msE_len rs _ _)
theorem flatE_len (rs : List RowE) (h : ∀ r ∈ rs, r.ok) : rs.length ≤ (flatE rs).length ∧ ((rs.map fun r => [13, 10] ++ r.p).flatten).length ≤ (flatE rs).length + rs.length := by
  induction rs with
  | nil => exact ⟨Nat.le_refl _, Nat.le_refl _⟩
  | cons r rs ih =>
    have ih := ih fun x hx => h x (.tail _ hx)
    have e : (flatE (r :: rs)).length = r.e.length + (r.p.length + (flatE rs).length) := by simp [flatE, RowE.flat]; try omega
    have e' : (((r :: rs).map fun r => [13, 10] ++ r.p).flatten).length = 2 + (r.p.length + ((rs.map fun r => [13, 10] ++ r.p).flatten).length) := by simp; try omega
    have he1 : 0 < r.e.length := by rcases (h r (.head _)).1 with h | h | h <;> rw [h] <;> decide
    rw [e, e', List.length_cons]
    omega
theorem eols_c {x : Str} {t : Tok} {rs : List RowE} {Q : Value → Shared → Prop} (G : Gd w mg mb s.heap) (hroom : A.depth < recursionLimit) (hx : x.cps = (flatE rs).toArray) (ho : ∀ r ∈ rs, r.ok) (hl : (flatE rs).length ≤ 2 ^ 16) (hne : rs ≠ [])
    (h : ∀ h' tk k, Grow s.heap h' → Q (.str ⟨((rs.map fun r => [13, 10] ++ r.p).flatten).toArray⟩ tk) { s with heap := h', toks := k }) :
  wpAny (model prg w) A (call (.ref 164) [.str x t]) Q E s := by
  refine wpAny_call ?_
  refine' enter G ?ho ?hcd hroom ?hb ?hl ?_ ?c1 ?c2 ?c3 ?c4
  case ho => exact rfl
  case hcd => rfl
  case hb => exact BindsTo.of_eq rfl
  case hl => exact locs rfl
  case c1 => exact rfl
  case c2 => exact rfl
  case c3 => exact rfl
  case c4 => decide
  intro L' h₁ F
  obtain ⟨X, T⟩ := G
  k_steps
  have hf := flatE_len rs ho
  have hs : x.cps.size = (flatE rs).length := by rw [hx]; simp
  have hR := runsE (flatE rs) (by omega) rs [] [] false (by simp) ho (fun c hc => nomatch hc)
  have hP := piecesE #[13, 10] (flatE rs) rs [] [] (by simp)
  have hm := msE_len rs 0 []
  have hd : 0 < rs.length := List.length_pos_iff.mpr hne
  have hcr : (Str.ofString "\r\n").cps = #[13, 10] := by decide +kernel
  refine subS_K F X pat150 tup149 (by rw [hcr]; decide +kernel) (by rw [hx]; exact hR) (by omega) (by rw [show (msE ([] : List Nat).length [] rs).length = rs.length from hm]; omega) (.inr (by omega)) (out := (rs.map fun r => [13, 10] ++ r.p).flatten) (by rw [hx, hcr]; exact hP) (by rw [sizeLine_eq]; omega) fun h' tk' k' g => ?_
  exact h h' tk' k' fun b o e => g _ _ (F.keep b o e)
end
end Mine
end

-- part E2
section
open PySem PySem.W PyProof.Rows PySem.Calls
set_option Elab.async false
set_option maxRecDepth 100000
set_option maxHeartbeats 0
set_option linter.unusedVariables false
namespace Mine
theorem count_step (b : Array UInt8) (c : UInt8) : ∀ (l : List UInt8) (i : Nat) (acc : List Nat × Nat), acc.2 ≤ i → (∀ k, k < l.length → b.extract (i + k) (i + k + 1) = #[l.getD k 0]) →
    (((List.range' i l.length).foldl (fun (acc : List Nat × Nat) (j : Nat) => if j ≥ acc.2 && b.extract j (j + 1) == #[c] then (j :: acc.1, j + 1) else acc) acc).1).length = acc.1.length + l.count c
  | [], i, acc, _, _ => by simp
  | x :: l, i, acc, h, hb => by
    rw [List.length_cons, List.range'_succ, List.foldl_cons]
    have h0 := hb 0 (by simp)
    rw [Nat.add_zero] at h0
    have h1 : decide (i ≥ acc.2) = true := decide_eq_true h
    rw [h0, h1, Bool.true_and]
    have hx : ((x :: l).getD 0 0) = x := rfl
    rw [hx]
    have rest : ∀ k, k < l.length → b.extract (i + 1 + k) (i + 1 + k + 1) = #[l.getD k 0] := fun k hk => by
      have := hb (k + 1) (by simp; omega)
      rw [show i + 1 + k = i + (k + 1) by omega, this]
      rfl
    by_cases hc : x = c
    · subst hc
      rw [if_pos (by simp)]
      rw [count_step b x l (i + 1) (i :: acc.1, i + 1) (Nat.le_refl _) rest]
      simp; omega
    · rw [if_neg (by simpa using hc)]
      rw [count_step b c l (i + 1) acc (by omega) rest]
      rw [List.count_cons_of_ne hc]
theorem occ_count (b : Array UInt8) (c : UInt8) : (Builtin.Bytes.occurrences b #[c] 0 b.size).length = b.toList.count c := by
  unfold Builtin.Bytes.occurrences
  have e : (List.range (b.size + 1 - (0 + (#[c] : Array UInt8).size))).map (· + 0) = List.range' 0 b.toList.length := by
    rw [List.range_eq_range']
    simp
  dsimp only
  rw [e, List.length_reverse]
  have := count_step b c b.toList 0 ([], 0) (Nat.le_refl _) fun k hk => by
    rw [Nat.zero_add]
    apply Array.ext'
    have hk' : k < b.size := by simpa using hk
    simp [Array.toList_extract, List.extract, List.take_one, List.getD_eq_getElem?_getD, hk']
  simpa using this
section
variable {prog : Program} {w : World} {A : Around} {E : Value → Shared → Prop} {s : Shared}
theorem meets_count (b : Array UInt8) (c : UInt8) (t u : Tok) : Meets (Builtin.«bytes.count» ⟨[.bytes b t, .bytes #[c] u], []⟩) (fun _ R s => R (.ok (.ret (.int (b.toList.count c : Nat) s.toks))) { s with toks := s.toks + 1 }) := by
  refine .of_wp fun prog w A R s h => ?_
  obtain ⟨hp_, gs, dr, tks, os⟩ := s
  have f1 : ∀ id, Builtin.Bytes.buffer? id (.bytes #[c] u) = pure (some #[c]) := fun id => KBy.buffer_eq
  unfold Builtin.«bytes.count» Builtin.Bytes.countM Builtin.Bytes.searchArgs
  refine wpAny_bind ?_
  refine wpAny_bind (wpAny_of_eq (a := (.bytes b t, [.bytes #[c] u])) (by rfl) ?_)
  dsimp only
  refine wpAny_bind (wpAny_of_eq (a := none) (by rfl) ?_)
  refine wpAny_bind (wpAny_of_eq (a := none) (by rfl) ?_)
  refine wpAny_bind (wpAny_of_eq (f1 _) ?_)
  refine wpAny_bind (wpAny_of_eq (a := #[c]) (by rfl) ?_)
  refine wpAny_bind (wpAny_of_eq (a := b) (by rfl) ?_)
  refine wpAny_pure ?_
  have hw : Builtin.Bytes.window b.size none none = (0, (b.size : Int)) := by
    unfold Builtin.Bytes.window
    simp
    rw [if_neg (by omega)]
    omega
  dsimp only
  rw [hw]
  dsimp only
  by_cases hb : ((b.size : Int) - 0 < ((#[c] : Array UInt8).size : Int))
  · rw [if_pos hb]
    have h0 : b.size = 0 := by simp at hb; omega
    have : b = #[] := Array.eq_empty_of_size_eq_zero h0
    subst this
    exact wpAny_bind (wpAny_bind (wpAny_fresh (wpAny_pure (wpAny_pure ⟨_, rfl, h⟩))))
  · rw [if_neg hb]
    dsimp only
    rw [if_neg (by simp)]
    have e : (Builtin.Bytes.occurrences b #[c] (0 : Int).toNat (b.size : Int).toNat).length = b.toList.count c := occ_count b c
    rw [e]
    exact wpAny_bind (wpAny_bind (wpAny_fresh (wpAny_pure (wpAny_pure ⟨_, rfl, h⟩))))
theorem count_bytes {b : Array UInt8} {c : UInt8} {t u : Tok} {Q : Value → Shared → Prop} (h : Q (.int (b.toList.count c : Nat) s.toks) { s with toks := s.toks + 1 }) : wpAny (model prog w) A (call (.builtin "bytes.count") [.bytes b t, .bytes #[c] u]) Q E s :=
  call_meets FS.slot_bytes_count (type_bytes _ _ _) FS.entry_bytes_count (FS.args_bytes_count_2 _ _) (meets_count b c t u) h
theorem get_bytes {M : Model} {b : Array UInt8} {t : Tok} {name : Str} {id : String} {pl : Sem Bool} {Q : Value × List Value → Shared → Prop} (slot : Slot "bytes" name id) (ty : typeOf (.builtin id) = pure (.type "method_descriptor")) (h : Q (.builtin id, [.bytes b t]) s) : wpAny M A (getMethod (.bytes b t) name pl) Q E s :=
  getMethod_builtin (T := "bytes") (type_bytes _ _ _) FB.plainAttrs_bytes slot ty (fun a e => nomatch e) h
end
end Mine
end

-- part E3
section
open PySem PySem.W PyProof.Rows PySem.Calls PySem.Builtin.Re
set_option Elab.async false
set_option maxRecDepth 100000
set_option maxHeartbeats 0
set_option linter.unusedVariables false
namespace Mine
section
variable {w : World} {A : Around} {E : Value → Shared → Prop} {s : Shared} {mg mb : Str → Option Value}
local macro_rules | `(tactic| walk_at "eval Name") => `(tactic| (k_dflt (refine' name_K ?F ?X ?T ?e ?_; (case F => k_asm); (case X => k_asm); (case T => k_asm); (case e => first | exact nm_quoted | exact nm_paren_depth | exact nm_twin_re_1 | exact nm_twin_re_2 | exact nm_law_numbers | exact nm_Accumulator | exact nm_law_sent | exact nm_byteswap | exact nm_Int2AP | exact nm_law_number_of_depths | exact nm_quote_periods | exact nm_fix_eols | exact nm_CRLF); k_whole)))
local macro_rules | `(tactic| walk_at "eval Name") => `(tactic| (k_dflt (refine' name_B ?F ?X ?T ?e ?v ?n ?_; (case F => k_asm); (case X => k_asm); (case T => k_asm); (case e => first | exact nb_enumerate | exact nb_range | exact nb_bytearray | exact nb_len | exact nb_bytes | exact nb_sum | exact nb_str | exact nb_int | exact nb_abs | exact nb_divmod | exact nb_super); (case v => boot_by_name); (case n => decide); k_whole)))
local macro_rules | `(tactic| walk_at "getMethod ref") => `(tactic| (k_dflt (refine' get_subK ?F ?X ?e ?_; (case F => k_asm); (case X => k_asm); (case e => first | exact pat145 | exact pat150 | exact pat43); k_whole)))

local macro_rules | `(tactic| walk_at "getMethod bytes") => `(tactic| (refine get_bytes FS.slot_bytes_count FS.type_bytes_count ?_))
local macro_rules | `(tactic| walk_at "call builtin:bytes.count") => `(tactic| (refine count_bytes ?_))
theorem binds_dflt {K : Frag} {fd : FuncData} {args : Args} {binds : List (Str × Value)} {T : Addr} {o : Obj} {items : Array Value} {n : Nat} {k : Option (Array Value) → Sem (List (Str × Value))} (X : K.In s.heap) (hd : fd.defaults = .ref T) (ho : K.lookup T = some o) (hs : o.data = .seq items n)
    (h₁ : bindArgs fd args = seqItems? fd.defaults >>= k) (h₂ : k (some items) = pure binds) : BindsTo s fd args binds := binds_K X hd ho hs h₁ h₂
theorem msQ_len : ∀ (n : Nat) (segs : List (List Nat)) (st : Nat), segs.length ≤ n → (msQ st segs).length ≤ (textQ segs).length
  | n, [], st, _ => Nat.zero_le _
  | n, [s], st, _ => Nat.zero_le _
  | n, [s, u], st, _ => Nat.zero_le _
  | 0, s :: u :: v :: r, st, hn => by simp at hn
  | n + 1, s :: u :: v :: r, st, hn => by
    have ih := msQ_len n (v :: r) (st + s.length + ([34] ++ (u ++ [34])).length) (by simp at hn ⊢; omega)
    have e : (textQ (s :: u :: v :: r)).length = s.length + (1 + (u.length + (1 + (textQ (v :: r)).length))) := by simp [textQ]; omega
    show (msQ _ (v :: r)).length + 1 ≤ _
    rw [e]; omega
theorem leftQ_len : ∀ (n : Nat) (segs : List (List Nat)), segs.length ≤ n → (leftQ segs).length ≤ (textQ segs).length
  | n, [], _ => Nat.le_refl _
  | n, [s], _ => Nat.le_refl _
  | n, [s, u], _ => Nat.le_refl _
  | 0, s :: u :: v :: r, hn => by simp at hn
  | n + 1, s :: u :: v :: r, hn => by
    have ih := leftQ_len n (v :: r) (by simp at hn ⊢; omega)
    have e : (textQ (s :: u :: v :: r)).length = s.length + (1 + (u.length + (1 + (textQ (v :: r)).length))) := by simp [textQ]; omega
    have e' : (leftQ (s :: u :: v :: r)).length = s.length + (leftQ (v :: r)).length := by cases r <;> simp [leftQ]
    rw [e, e']; omega
def cntU (c : UInt8) (l : List Nat) : Nat := ((l.toArray.map (·.toUInt8)).toList.count c)
theorem depth_c1 {x : Array UInt8} {t : Tok} {segs : List (List Nat)} {Q : Value → Shared → Prop} (G : Gd w mg mb s.heap) (hroom : A.depth < recursionLimit) (hx : x.map (·.toNat) = (textQ segs).toArray) (hc : ∀ s ∈ segs, clean s) (hl : (textQ segs).length ≤ 2 ^ 16) (hne : 0 < (textQ segs).length)
    (h : ∀ h' tk k, Grow s.heap h' → Q (.int (0 + (cntU 40 (leftQ segs) : Nat) - (cntU 41 (leftQ segs) : Nat)) tk) { s with heap := h', toks := k }) :
  wpAny (model prg w) A (call (.ref 51) [.bytes x t]) Q E s := by
  refine wpAny_call ?_
  refine' enter G ?ho ?hcd hroom ?hb ?hl ?_ ?c1 ?c2 ?c3 ?c4
  case ho => exact rfl
  case hcd => rfl
  case hb => exact binds_dflt G.X rfl (by exact rfl) rfl rfl rfl
  case hl => exact locs rfl
  case c1 => exact rfl
  case c2 => exact rfl
  case c3 => exact rfl
  case c4 => decide
  intro L' h₁ F
  obtain ⟨X, T⟩ := G
  k_steps
  have hR := runsQ (textQ segs) (by omega) segs.length segs [] false (Nat.le_refl _) (by simp) hc
  have hP := piecesQ (textQ segs) segs.length segs [] (Nat.le_refl _) (by simp)
  have hs : x.size = (textQ segs).length := by rw [← Array.size_map (f := (·.toNat)), hx]; simp
  have hm := msQ_len segs.length segs 0 (Nat.le_refl _)
  have ho := leftQ_len segs.length segs (Nat.le_refl _)
  refine subB_K F X pat43 tup42 (by decide +kernel) (by rw [hx]; exact hR) (by omega) (Nat.le_trans hm (by omega)) (.inr (by omega)) (out := leftQ segs) (by rw [hx, show ((([] : List UInt8).toArray).map (·.toNat)) = #[] by simp]; exact hP) (by rw [sizeLine_eq]; omega) fun h' tk' k' g => ?_
  have F' := Fr.keeps F g
  k_steps
  rename Fr _ _ _ _ => F9
  exact h _ _ _ fun b o e => F9.keep b o e
theorem depth_c2 {x : Array UInt8} {t u : Tok} {d : Int} {segs : List (List Nat)} {Q : Value → Shared → Prop} (G : Gd w mg mb s.heap) (hroom : A.depth < recursionLimit) (hx : x.map (·.toNat) = (textQ segs).toArray) (hc : ∀ s ∈ segs, clean s) (hl : (textQ segs).length ≤ 2 ^ 16) (hne : 0 < (textQ segs).length)
    (h : ∀ h' tk k, Grow s.heap h' → Q (.int (d + (cntU 40 (leftQ segs) : Nat) - (cntU 41 (leftQ segs) : Nat)) tk) { s with heap := h', toks := k }) :
  wpAny (model prg w) A (call (.ref 51) [.bytes x t, .int d u]) Q E s := by
  refine wpAny_call ?_
  refine' enter G ?ho ?hcd hroom ?hb ?hl ?_ ?c1 ?c2 ?c3 ?c4
  case ho => exact rfl
  case hcd => rfl
  case hb => exact binds_dflt G.X rfl (by exact rfl) rfl rfl rfl
  case hl => exact locs rfl
  case c1 => exact rfl
  case c2 => exact rfl
  case c3 => exact rfl
  case c4 => decide
  intro L' h₁ F
  obtain ⟨X, T⟩ := G
  k_steps
  have hR := runsQ (textQ segs) (by omega) segs.length segs [] false (Nat.le_refl _) (by simp) hc
  have hP := piecesQ (textQ segs) segs.length segs [] (Nat.le_refl _) (by simp)
  have hs : x.size = (textQ segs).length := by rw [← Array.size_map (f := (·.toNat)), hx]; simp
  have hm := msQ_len segs.length segs 0 (Nat.le_refl _)
  have ho := leftQ_len segs.length segs (Nat.le_refl _)
  refine subB_K F X pat43 tup42 (by decide +kernel) (by rw [hx]; exact hR) (by omega) (Nat.le_trans hm (by omega)) (.inr (by omega)) (out := leftQ segs) (by rw [hx, show ((([] : List UInt8).toArray).map (·.toNat)) = #[] by simp]; exact hP) (by rw [sizeLine_eq]; omega) fun h' tk' k' g => ?_
  have F' := Fr.keeps F g
  k_steps
  rename Fr _ _ _ _ => F9
  exact h _ _ _ fun b o e => F9.keep b o e
end
end Mine
end

-- part E4
section
open PySem PySem.W PyProof.Rows PySem.Calls
set_option Elab.async false
set_option maxRecDepth 100000
set_option maxHeartbeats 0
set_option linter.unusedVariables false
namespace Mine
namespace FS
theorem args_str_encode_2 (a b : Value) : argsOk "str.encode" ⟨[a, b], []⟩ := by unfold argsOk; kernel_rfl
theorem args_bytes_decode_2 (a b : Value) : argsOk "bytes.decode" ⟨[a, b], []⟩ := by unfold argsOk; kernel_rfl
end FS
def asc (l : List Nat) : Prop := ∀ c ∈ l, c < 128
theorem foldl_bytes (l : List Nat) : ∀ acc : Array UInt8, l.foldl (fun acc y => acc ++ (Builtin._codecs.asciiCodec.bytesOf y).toArray) acc = acc ++ (l.map (·.toUInt8)).toArray := by
  induction l with
  | nil => intro acc; simp
  | cons c l ih => intro acc; rw [List.foldl_cons, ih]; apply Array.ext'; simp [Builtin._codecs.asciiCodec]
theorem forIn_once {β : Type} {n : Nat} (hn : 1 ≤ n) {s0 s1 : β} {f : Nat → β → Sem (ForInStep β)} (h0 : ∀ i, f i s0 = pure (.yield s1)) (h1 : ∀ i, f i s1 = pure (.done s1)) : (forIn [:n] s0 f : Sem β) = pure s1 := by
  rw [Std.Legacy.Range.forIn_eq_forIn_range']
  have e : Std.Legacy.Range.size [:n] = n := by simp [Std.Legacy.Range.size]
  rw [e]
  obtain ⟨k, rfl⟩ : ∃ k, n = k + 1 := ⟨n - 1, by omega⟩
  show forIn (List.range' 0 (k + 1)) s0 f = _
  rw [List.range'_succ, List.forIn_cons, h0, pure_bind]
  show forIn (List.range' (0 + 1) k) s1 f = _
  cases k with
  | zero => rfl
  | succ k => rw [List.range'_succ, List.forIn_cons, h1, pure_bind]
theorem narrow_ascii {id : String} {self : Value} {l : List Nat} (h : asc l) (hz : l.length ≤ sizeLine) (hne : l ≠ []) : Builtin._codecs.encodeNarrow id Builtin._codecs.asciiCodec none self ⟨l.toArray⟩ = pure (l.map (·.toUInt8)).toArray := by
  unfold Builtin._codecs.encodeNarrow
  have hb : ∀ c ∈ l, Builtin._codecs.asciiCodec.bad c = false := fun c hc => by
    have := h c hc
    show decide (c ≥ 128) = false
    simp; omega
  cases l with
  | nil => exact absurd rfl hne
  | cons c l =>
    dsimp only
    have hlen : 1 ≤ (⟨(c :: l).toArray⟩ : Str).length := by show 1 ≤ (c :: l).toArray.size; simp
    refine Eq.trans (congrArg (fun m => m >>= _) (forIn_once (s1 := ((c :: l).length, ((c :: l).map (·.toUInt8)).toArray, ({} : Builtin._codecs.Faults))) hlen (fun i => ?_) (fun i => ?_))) ?_
    · dsimp only
      rw [if_neg (by simp)]
      have h0 : (c :: l).toArray[0]? = some c := rfl
      rw [h0]
      dsimp only
      rw [hb c (.head _), if_pos (show (!false) = true from rfl)]
      have he : (c :: l).toArray.extract 0 (c :: l).toArray.size = (c :: l).toArray := by simp
      have hf : (c :: l).toArray.findIdx? Builtin._codecs.asciiCodec.bad = none := by
        rw [Array.findIdx?_eq_none_iff]
        intro x hx
        exact hb x (by simpa using hx)
      rw [he, hf]
      have he2 : (c :: l).toArray.extract 0 (Option.getD none (c :: l).toArray.size) = (c :: l).toArray := by simp
      rw [he2]
      have hfold : Array.foldl (fun acc y => acc ++ (Builtin._codecs.asciiCodec.bytesOf y).toArray) #[] (c :: l).toArray = ((c :: l).map (·.toUInt8)).toArray := by
        rw [List.foldl_toArray, foldl_bytes]; simp
      rw [hfold]
      simp
    · dsimp only
      rw [if_neg (by simp at hz ⊢; omega)]
      have h0 : (c :: l).toArray[(c :: l).length]? = none := by simp
      rw [h0]
    · rfl
theorem forIn_steps {β : Type} {n : Nat} {g : Nat → β} {f : Nat → β → Sem (ForInStep β)} (h : ∀ i k, k < n → f i (g k) = pure (.yield (g (k + 1)))) : (forIn [:n] (g 0) f : Sem β) = pure (g n) := by
  rw [Std.Legacy.Range.forIn_eq_forIn_range']
  have e : Std.Legacy.Range.size [:n] = n := by simp [Std.Legacy.Range.size]
  rw [e]
  have key : ∀ (m k a : Nat), k + m = n → (forIn (List.range' a m) (g k) f : Sem β) = pure (g n) := by
    intro m
    induction m with
    | zero => intro k a hk; rw [show n = k by omega]; rfl
    | succ m ih =>
      intro k a hk
      rw [List.range'_succ, List.forIn_cons, h a k (by omega), pure_bind]
      exact ih (k + 1) (a + 1) (by omega)
  exact key n 0 0 (by omega)
theorem run_ascii {id : String} {b : Array UInt8} {held : List Value} (h : ∀ c ∈ b.toList, c.toNat < 128) (hz : b.size ≤ sizeLine) : Builtin._codecs.runDecoder id Builtin._codecs.asciiDecoder none true b 0 held = pure (b.map (·.toNat), b.size) := by
  unfold Builtin._codecs.runDecoder
  dsimp only
  refine Eq.trans (congrArg (fun m => m >>= _) (forIn_steps (n := b.size) (g := fun k => (k, ((b.toList.take k).map (·.toNat)).toArray, ({ held } : Builtin._codecs.Faults))) (fun i k hk => ?_))) ?_
  · dsimp only
    rw [if_neg (by simp; omega), if_neg (by omega)]
    have hc : (b.getD k 0).toNat < 128 := by
      rw [Array.getD_eq_getD_getElem?, Array.getElem?_eq_getElem hk]
      exact h _ (by simp)
    have hf : Builtin._codecs.asciiDecoder.find true b k = .text [(b.getD k 0).toNat] (k + 1) := by
      show (if (b.getD k 0).toNat < 128 then Builtin._codecs.Found.char (b.getD k 0).toNat (k + 1) else .bad (k + 1) "ordinal not in range(128)" false) = _
      rw [if_pos hc]; rfl
    rw [hf]
    dsimp only
    congr 3
    have : b.toList.take (k + 1) = b.toList.take k ++ [b.getD k 0] := by
      rw [List.take_add_one, Array.getD_eq_getD_getElem?, Array.getElem?_eq_getElem hk]
      simp [hk]
    rw [this]
    simp
  · have : b.toList.take b.size = b.toList := List.take_of_length_le (by simp)
    rw [pure_bind, this]
    have e : (b.toList.map (·.toNat)).toArray = b.map (·.toNat) := by apply Array.ext'; simp
    rw [e]
section
variable {prog : Program} {w : World} {A : Around} {E : Value → Shared → Prop} {s : Shared}
theorem meets_encode {l : List Nat} {t u : Tok} (h : asc l) (hz : l.length ≤ sizeLine) (hne : l ≠ []) : Meets (Builtin.«str.encode» ⟨[.str ⟨l.toArray⟩ t, .str (Str.ofString "ascii") u], []⟩) (fun _ R s => R (.ok (.ret (.bytes (l.map (·.toUInt8)).toArray s.toks))) { s with toks := s.toks + 1 }) := by
  refine .of_wp fun prog w A R s h' => ?_
  unfold Builtin.«str.encode»
  refine wpAny_bind (wpAny_of_eq (a := (.str ⟨l.toArray⟩ t, ⟨l.toArray⟩, [.str (Str.ofString "ascii") u])) (by rfl) ?_)
  dsimp only
  refine wpAny_bind (wpAny_of_eq (a := [some (.str (Str.ofString "ascii") u), none]) (by rfl) ?_)
  dsimp only
  refine wpAny_bind (wpAny_of_eq (a := some (Str.ofString "ascii")) (by kernel_rfl) ?_)
  refine wpAny_bind (wpAny_of_eq (a := none) (by rfl) ?_)
  refine wpAny_bind ?_
  have e : ∀ id self, Builtin._codecs.encodeRoad id self ⟨l.toArray⟩ (Str.ofString "ascii") none = (Builtin._codecs.encodeNarrow id Builtin._codecs.asciiCodec none self ⟨l.toArray⟩ >>= mkBytes) := fun id self => by kernel_rfl
  show wpAny _ _ (Builtin._codecs.encodeRoad _ _ ⟨l.toArray⟩ (Str.ofString "ascii") none) _ _ _
  rw [e, narrow_ascii h hz hne]
  refine wpAny_bind (wpAny_pure ?_)
  unfold mkBytes
  rw [if_neg (by simp; omega)]
  exact wpAny_bind (wpAny_fresh (wpAny_pure (wpAny_pure ⟨_, rfl, h'⟩)))
theorem encode_c {l : List Nat} {t u : Tok} {Q : Value → Shared → Prop} (h : asc l) (hz : l.length ≤ sizeLine) (hne : l ≠ []) (hq : Q (.bytes (l.map (·.toUInt8)).toArray s.toks) { s with toks := s.toks + 1 }) : wpAny (model prog w) A (call (.builtin "str.encode") [.str ⟨l.toArray⟩ t, .str (Str.ofString "ascii") u]) Q E s :=
  call_meets PySem.F.slot_str_encode (typeIs_str _ _ _) PySem.F.entry_str_encode (FS.args_str_encode_2 _ _) (meets_encode h hz hne) hq
theorem dec_road {id : String} {b : Array UInt8} {held : List Value} : Builtin._codecs.decodeRoad id b (Str.ofString "ascii") none held = (Builtin._codecs.runDecoder id Builtin._codecs.asciiDecoder none true b 0 held >>= fun r => mkStr ⟨r.1⟩) := by kernel_rfl
theorem meets_dtext {b : Array UInt8} {t t1 t2 : Tok} {d : Str} (h : ∀ c ∈ b.toList, c.toNat < 128) (hz : b.size ≤ sizeLine) :
    Meets (Builtin.«_codecs.decode.text» ⟨[.bytes b t, .str (Str.ofString "ascii") t1, .none, .str d t2], []⟩) (fun _ R s => R (.ok (.ret (.str ⟨b.map (·.toNat)⟩ s.toks))) { s with toks := s.toks + 1 }) := by
  refine .of_wp fun prog w A R s hS => ?_
  show wpAny _ _ (Builtin.Bytes.bytesLike _ (.bytes b t) >>= fun r => _) _ _ s
  refine wpAny_bind (wpAny_of_eq KBd.like_eq ?_)
  refine wpAny_bind (wpAny_of_eq KBd.held_eq ?_)
  show wpAny _ _ (Builtin._codecs.decodeRoad _ b (Str.ofString "ascii") none [] >>= fun v => _) _ _ s
  rw [dec_road, run_ascii h hz]
  refine wpAny_bind (wpAny_bind (wpAny_pure ?_))
  exact wpAny_mkStr (wpAny_pure ⟨_, rfl, hS⟩) (by show (b.map (·.toNat)).size ≤ sizeLine; simpa using hz)
theorem dec_entry {c : UInt8} {cs : List UInt8} {t u : Tok} : Builtin.«bytes.decode» ⟨[.bytes (c :: cs).toArray t, .str (Str.ofString "ascii") u], []⟩ = (mkStr (Str.ofString "utf-8") >>= fun _ => mkStr (Str.ofString "ascii") >>= fun e => mkStr (Str.ofString "bytes.decode") >>= fun d =>
    call (.builtin "_codecs.decode.text") [.bytes (c :: cs).toArray t, e, .none, d] >>= fun v => ret v) := by kernel_rfl
theorem meets_dec {c : UInt8} {cs : List UInt8} {t u : Tok} (h : ∀ x ∈ c :: cs, x.toNat < 128) (hz : (c :: cs).length ≤ sizeLine) :
    Meets (Builtin.«bytes.decode» ⟨[.bytes (c :: cs).toArray t, .str (Str.ofString "ascii") u], []⟩) (fun _ R s => ∀ t' k, R (.ok (.ret (.str ⟨(c :: cs).toArray.map (·.toNat)⟩ t'))) { s with toks := k }) := by
  refine .of_wp fun prog w A R s hS => ?_
  rw [dec_entry]
  refine wpAny_bind (wpAny_mkStr ?_ (by decide))
  refine wpAny_bind (wpAny_mkStr ?_ (by decide))
  refine wpAny_bind (wpAny_mkStr ?_ (by decide))
  exact wpAny_bind (call_function_meets KBd.kind_text KBd.plain_text KBd.entry_text (KBd.args_text _ _ _ _) (meets_dtext (by simpa using h) (by simpa using hz)) (wpAny_pure ⟨_, rfl, hS _ _⟩))
theorem decode_c {b : List UInt8} {t u : Tok} {Q : Value → Shared → Prop} (h : ∀ x ∈ b, x.toNat < 128) (hz : b.length ≤ sizeLine) (hne : b ≠ []) (hq : ∀ t' k, Q (.str ⟨(b.map (·.toNat)).toArray⟩ t') { s with toks := k }) : wpAny (model prog w) A (call (.builtin "bytes.decode") [.bytes b.toArray t, .str (Str.ofString "ascii") u]) Q E s := by
  cases b with
  | nil => exact absurd rfl hne
  | cons c cs =>
    refine call_meets FB.slot_bytes_decode (type_bytes _ _ _) FB.entry_bytes_decode (FS.args_bytes_decode_2 _ _) (meets_dec h hz) fun t' k => ?_
    have e : (c :: cs).toArray.map (·.toNat) = ((c :: cs).map (·.toNat)).toArray := by simp
    rw [e]
    exact hq t' k
end
end Mine
end

-- part L1
section
open PySem PySem.W PyProof.Rows PySem.Calls PySem.Builtin.Re
set_option Elab.async false
set_option maxRecDepth 100000
set_option maxHeartbeats 0
set_option linter.unusedVariables false
namespace Mine
abbrev RowI := List Nat × Nat
def mkE (r : RowI) : RowE := ⟨r.1, List.replicate r.2 46 ++ [34]⟩
def flatR (rs : List RowI) : List Nat := flatE (rs.map mkE)
def okI (r : RowI) : Prop := r.1 = [10] ∨ r.1 = [13] ∨ r.1 = [13, 10]
def send1 (r : RowI) : RowI := ([13, 10], sentD r.2)
def rowsAfter : Nat → List RowI → List RowI
  | 0, rs => rs
  | n + 1, rs => (rowsAfter n rs).map send1
theorem flatD_eq (rs : List RowI) : ((rs.map mkE).map fun r => [13, 10] ++ r.p).flatten = flatD (rs.map (·.2)) := by
  unfold flatD
  rw [List.map_map, List.map_map]
  rfl
theorem flatR_sent (rs : List RowI) : flatD ((rs.map (·.2)).map sentD) = flatR (rs.map send1) := by
  unfold flatD flatR flatE
  rw [List.map_map, List.map_map, List.map_map, List.map_map]
  congr 1
def okRows (B : Nat) (rs : List RowI) : Prop := rs ≠ [] ∧ rs.length ≤ 8 ∧ ∀ r ∈ rs, okI r ∧ r.2 ≤ B
theorem okRows.send {B : Nat} {rs : List RowI} (h : okRows B rs) : okRows (B + 1) (rs.map send1) := by
  refine ⟨by simpa using h.1, by simpa using h.2.1, fun r hr => ?_⟩
  obtain ⟨q, hq, rfl⟩ := List.mem_map.mp hr
  have := (h.2.2 q hq).2
  refine ⟨.inr (.inr rfl), ?_⟩
  show sentD q.2 ≤ B + 1
  unfold sentD; split <;> omega
theorem okRows.after {B : Nat} {rs : List RowI} (h : okRows B rs) : ∀ n, okRows (B + n) (rowsAfter n rs)
  | 0 => h
  | n + 1 => (h.after n).send
theorem okRows.ok {B : Nat} {rs : List RowI} (h : okRows B rs) : ∀ r ∈ rs.map mkE, r.ok := fun r hr => by
  obtain ⟨q, hq, rfl⟩ := List.mem_map.mp hr
  refine ⟨(h.2.2 q hq).1, by simp [mkE], fun c hc => ?_⟩
  simp only [mkE, List.mem_append, List.mem_replicate, List.mem_singleton] at hc
  rcases hc with ⟨_, rfl⟩ | rfl <;> rfl
theorem flatR_len {B : Nat} : ∀ {rs : List RowI}, (∀ r ∈ rs, okI r ∧ r.2 ≤ B) → (flatR rs).length ≤ rs.length * (B + 3) ∧ (flatD (rs.map (·.2))).length ≤ rs.length * (B + 3)
  | [], _ => ⟨Nat.zero_le _, Nat.zero_le _⟩
  | r :: rs, h => by
    obtain ⟨i1, i2⟩ := flatR_len (B := B) (rs := rs) fun x hx => h x (.tail _ hx)
    have hr := h r (.head _)
    have he : r.1.length ≤ 2 := by rcases hr.1 with h | h | h <;> rw [h] <;> decide
    have e1 : (flatR (r :: rs)).length = r.1.length + (r.2 + 1) + (flatR rs).length := by simp [flatR, flatE, RowE.flat, mkE]; omega
    have e2 : (flatD ((r :: rs).map (·.2))).length = r.2 + 3 + (flatD (rs.map (·.2))).length := by simp [flatD, rowD]; omega
    rw [e1, e2, List.length_cons, Nat.succ_mul]
    have := hr.2
    omega
theorem okRows.len {B : Nat} {rs : List RowI} (h : okRows B rs) (hB : B ≤ 100) : (flatR rs).length ≤ 1000 ∧ (flatD (rs.map (·.2))).length ≤ 1000 := by
  have := flatR_len h.2.2
  have h1 : rs.length * (B + 3) ≤ 8 * 103 := Nat.mul_le_mul h.2.1 (by omega)
  omega
theorem asc_flatD (ds : List Nat) : asc (flatD ds) := by
  intro c hc
  unfold flatD at hc
  obtain ⟨l, hl, hc⟩ := List.mem_flatten.mp hc
  obtain ⟨d, _, rfl⟩ := List.mem_map.mp hl
  simp only [rowD, List.mem_append, List.mem_cons, List.not_mem_nil, or_false, List.mem_replicate] at hc
  omega
theorem u8_back {l : List Nat} (h : asc l) : (l.map (·.toUInt8)).toArray.map (·.toNat) = l.toArray := by
  apply Array.ext'
  simp only [Array.toList_map, List.map_map]
  conv => rhs; rw [← List.map_id l]
  refine List.map_congr_left fun c hc => ?_
  have := h c hc
  show (c.toUInt8).toNat = c
  simp [Nat.toUInt8]
  omega
theorem u8_list {l : List Nat} (h : asc l) : (l.map (·.toUInt8)).map (·.toNat) = l := by
  have := congrArg Array.toList (u8_back h)
  simpa using this
theorem u8_small {l : List Nat} (h : asc l) : ∀ x ∈ l.map (·.toUInt8), x.toNat < 128 := by
  intro x hx
  have h2 := u8_list h
  have : x.toNat ∈ (l.map (·.toUInt8)).map (·.toNat) := List.mem_map_of_mem hx
  rw [h2] at this
  exact h _ this
theorem flatD_ne {ds : List Nat} (h : ds ≠ []) : flatD ds ≠ [] := by
  cases ds with
  | nil => exact absurd rfl h
  | cons d ds => simp [flatD, rowD]
section
variable {w : World} {A : Around} {E : Value → Shared → Prop} {s : Shared} {mg mb : Str → Option Value}
local macro_rules | `(tactic| walk_at "eval Name") => `(tactic| (k_dflt (refine' name_K ?F ?X ?T ?e ?_; (case F => k_asm); (case X => k_asm); (case T => k_asm); (case e => first | exact nm_quoted | exact nm_paren_depth | exact nm_twin_re_1 | exact nm_twin_re_2 | exact nm_law_numbers | exact nm_Accumulator | exact nm_law_sent | exact nm_byteswap | exact nm_Int2AP | exact nm_law_number_of_depths | exact nm_quote_periods | exact nm_fix_eols | exact nm_CRLF); k_whole)))
local macro_rules | `(tactic| walk_at "eval Name") => `(tactic| (k_dflt (refine' name_B ?F ?X ?T ?e ?v ?n ?_; (case F => k_asm); (case X => k_asm); (case T => k_asm); (case e => first | exact nb_enumerate | exact nb_range | exact nb_bytearray | exact nb_len | exact nb_bytes | exact nb_sum | exact nb_str | exact nb_int | exact nb_abs | exact nb_divmod | exact nb_super); (case v => boot_by_name); (case n => decide); k_whole)))
local macro_rules | `(tactic| walk_at "getMethod ref") => `(tactic| (k_dflt (refine' get_subK ?F ?X ?e ?_; (case F => k_asm); (case X => k_asm); (case e => first | exact pat145 | exact pat150 | exact pat43); k_whole)))
local macro_rules | `(tactic| walk_at "callWith ref") => `(tactic| (k_dflt (first
  | (refine' callWith_K ?k1 ?k2 ?_; (case k1 => k_asm); (case k2 => rfl); k_whole)
  | (refine' callWith_K0 ?k1 ?k2 ?_; (case k1 => k_in); (case k2 => rfl); k_whole))))
local macro_rules | `(tactic| walk_at "getMethod bytes") => `(tactic| (refine get_bytes FB.slot_bytes_decode FB.type_bytes_decode ?_))
theorem get_str {M : Model} {x : Str} {t : Tok} {name : Str} {id : String} {pl : Sem Bool} {Q : Value × List Value → Shared → Prop} (slot : Slot "str" name id) (ty : typeOf (.builtin id) = pure (.type "method_descriptor")) (h : Q (.builtin id, [.str x t]) s) : wpAny M A (getMethod (.str x t) name pl) Q E s :=
  getMethod_builtin (T := "str") (typeIs_str _ _ _) F.plainAttrs_str slot ty (fun a e => nomatch e) h
local macro_rules | `(tactic| walk_at "getMethod str") => `(tactic| (refine get_str PySem.F.slot_str_encode PySem.F.type_str_encode ?_))
theorem sent_c {x : Str} {t u : Tok} {n : Nat} {rs : List RowI} {Q : Value → Shared → Prop} (G : Gd w mg mb s.heap) (hroom : A.depth + 1 < recursionLimit) (hh : A.handled = none) (hn : n ≤ 8) (hx : x.cps = (flatR rs).toArray) (ho : okRows 8 rs)
    (h : ∀ h' t' k, Grow s.heap h' → Q (.str ⟨(flatR (rowsAfter n rs)).toArray⟩ t') { s with heap := h', toks := k }) :
  wpAny (model prg w) A (call (.ref 185) [.str x t, .int n u]) Q E s := by
  have hroom' : A.depth < recursionLimit := by omega
  refine wpAny_call ?_
  refine' enter G ?ho ?hcd hroom' ?hb ?hl ?_ ?c1 ?c2 ?c3 ?c4
  case ho => exact rfl
  case hcd => rfl
  case hb => exact BindsTo.of_eq rfl
  case hl => exact locs rfl
  case c1 => exact rfl
  case c2 => exact rfl
  case c3 => exact rfl
  case c4 => decide
  intro L' h₁ F
  obtain ⟨X, T⟩ := G
  have N0 : News s.heap L' h₁ [] := News.nil
  k_steps
  rename IsRange _ _ _ _ _ _ _ _ => R
  rename News _ _ _ _ => N
  rename Fr _ _ _ _ => F
  refine range_V hh R (by omega) F N (fun i m => i ≤ n ∧ ∃ t, m (Str.ofString "mail") = some (.str ⟨(flatR (rowsAfter i rs)).toArray⟩ t)) ⟨Nat.zero_le _, t, (by show some (Value.str x t) = _; rw [show x = ⟨x.cps⟩ from rfl, hx]; rfl)⟩ ?_ ?_
  · rintro i ti m₁ h tk own hi ⟨_, tm, hm⟩ F₁ N₁
    rw [form hm] at F₁
    k_steps
    have hok := ho.after i
    have hlen := hok.len (by omega)
    have hne : (rowsAfter i rs).map (·.2) ≠ [] := by simpa using hok.1
    refine eols_c (rs := (rowsAfter i rs).map mkE) ⟨X.keeps F₁.keep, T.keeps F₁.keep⟩ hroom rfl hok.ok (Nat.le_trans hlen.1 (by decide)) (by simpa using hok.1) fun h2 t2 k2 g2 => ?_
    have F2 := Fr.keeps F₁ g2
    have N2 := News.keepsAll N₁ g2
    rw [flatD_eq]
    k_steps
    refine encode_c (asc_flatD _) (Nat.le_trans hlen.2 (by rw [sizeLine_eq]; decide)) (flatD_ne hne) ?_
    k_steps
    refine quote_c ⟨X.keeps F2.keep, T.keeps F2.keep⟩ hroom (u8_back (asc_flatD _)) (Nat.le_trans hlen.2 (by decide)) hne fun h3 t3 k3 g3 => ?_
    have F3 := Fr.keeps F2 g3
    have N3 := News.keepsAll N2 g3
    rw [toU8]
    k_steps
    refine decode_c (u8_small (asc_flatD _)) (by rw [List.length_map, flatR_sent]; exact Nat.le_trans (hok.send.len (by omega)).1 (by rw [sizeLine_eq]; decide)) (by simpa using flatD_ne (by simpa using hne)) fun t4 k4 => ?_
    rw [u8_list (asc_flatD _), flatR_sent]
    k_steps
    rename News _ _ _ _ => N9
    rename Fr _ _ _ _ => F9
    exact TurnEnd.intro F9 N9 ⟨hi, t4, rfl⟩
  · rintro h' tk m' F' N' ⟨_, tm, hm⟩
    rw [form hm] at F'
    k_steps
    exact h _ _ _ fun b o e => F'.keep b o e
end
end Mine
end

-- part S1
section
open PySem PySem.W PyProof.Rows PySem.Calls
set_option Elab.async false
set_option maxRecDepth 100000
set_option maxHeartbeats 0
set_option linter.unusedVariables false
namespace Mine
section
variable {M : Model} {A : Around} {E : Value → Shared → Prop} {s : Shared} {env : Env}
theorem wpS.ite_false {α : Type} {c : Bool} {a b : Sem α} {Q : α → Shared → Prop} (hc : c = false) (h : wpS M A b Q E s) : wpS M A (if c = true then a else b) Q E s := by subst hc; exact h
theorem wpS.ite_true {α : Type} {c : Bool} {a b : Sem α} {Q : α → Shared → Prop} (hc : c = true) (h : wpS M A a Q E s) : wpS M A (if c = true then a else b) Q E s := by subst hc; exact h
theorem wpS.keep {α : Type} {vs : List Value} {m : Sem α} {Q : α → Shared → Prop} (h : wpS M A m Q E s) : wpS M A (m.keep vs) Q E s :=
  fun Γ p hΓ hc => by rw [Sem.wp_keep]; exact h Γ p hΓ hc
theorem wpS.of_eq {α : Type} {m : Sem α} {a : α} {Q : α → Shared → Prop} (e : m = Pure.pure a) (h : Q a s) : wpS M A m Q E s := e ▸ .pure h
theorem wpS.attempt {m : Sem Value} {Q : Except Value Value → Shared → Prop} (h : wpS M A m (fun v s' => Q (.ok v) s') (fun _ _ => False) s) : wpS M A m.attempt Q E s := fun Γ p hΓ hc => by
  have h0 := h Γ p hΓ hc
  first
    | (rw [Sem.wp_attempt]; exact Sem.wp_mono M Γ m (fun _ _ _ h' => h') (fun _ _ _ h' => h'.elim) p s h0)
theorem S_execs_cons {st rest} {Q : Flow → Shared → Prop}
    (h : wpS M A (exec st env) (fun f s' => match f with | .next => wpS M A (execs rest env) Q E s' | f => Q f s') E s) :
    wpS M A (execs (st :: rest) env) Q E s := fun Γ p hΓ hc => by
  rw [execs_cons, Sem.wp_bind']
  refine Sem.wp_mono M Γ _ (fun f p' s' h' => ?_) (fun _ _ _ h' => h') _ _ (h Γ p hΓ hc)
  cases f <;> first | exact h' Γ p' hΓ hc | exact h'
theorem S_execs_cons' {st rest} {Q : Flow → Shared → Prop}
    (h : wpAny M A (exec st env) (fun f s' => match f with | .next => wpS M A (execs rest env) Q E s' | f => Q f s') E s) :
    wpS M A (execs (st :: rest) env) Q E s := S_execs_cons (.of h)
theorem S_Assign {x pos' value pos} {Q : Flow → Shared → Prop} (hs : swapsWith value (some (.Name x pos')) pos.line env = pure false)
    (h : wpS M A (eval value env) (fun v s₁ => wpAny M A (storeName env x v) (fun _ s₂ => Q .next s₂) E s₁) E s) : wpS M A (exec (.Assign [.Name x pos'] value pos) env) Q E s := by
  rw [exec_Assign_Name env x pos' value pos hs]
  refine .bindA (wpAny_standAt (.bind (h.mono (fun v s₁ h₁ => .of ?_) fun _ _ x => x)))
  exact wpAny_bind (wpAny_standAt (wpAny_bind (wpAny_bindName (wpAny_mono h₁ (fun _ s₂ h₂ => wpAny_pure h₂) fun _ _ x => x))))
theorem S_spliced_cons {x : Sem Value} {rest : List (Bool × Sem Value)} {Q : List Value → Shared → Prop}
    (h : wpS M A x (fun v s₁ => wpAny M A (spliced rest) (fun vs s₂ => Q (v :: vs) s₂) E s₁) E s) : wpS M A (spliced ((false, x) :: rest)) Q E s := by
  rw [spliced]
  refine .bind (h.mono (fun v s₁ h₁ => .of ?_) fun _ _ x => x)
  simp only [Bool.false_eq_true, if_false]
  exact wpAny_bind (wpAny_pure (wpAny_bind (wpAny_holding (wpAny_mono h₁ (fun vs s₂ h₂ => wpAny_pure h₂) fun _ _ x => x))))
theorem S_evalArgs_plain {f : Value} {x : Sem Value} {rest : List (Bool × Sem Value)} {Q : Args → Shared → Prop}
    (h : wpS M A (spliced ((false, x) :: rest)) (fun vs s' => Q ⟨vs, []⟩ s') E s) : wpS M A (evalArgs f true ((false, x) :: rest) []) Q E s := by
  unfold evalArgs
  show wpS M A (spliced ((false, x) :: rest) >>= _) Q E s
  refine .bind (h.mono (fun vs s' h' => ?_) fun _ _ x => x)
  refine .holding (.of ?_)
  exact wpAny_bind (wpAny_pure (wpAny_bind (wpAny_pure (wpAny_pure h'))))
theorem S_callWith_of {pos : Pos} {f : Value} {first : List Value} {P : Heap → Prop} {args : List (Bool × Sem Value)} {keywords : List (Option Str × Sem Value)} {Q : Value → Shared → Prop} (hplain : (args.any (·.1) || keywords.any (·.1.isNone)) = false)
    (hk : ∀ h, P h → ∃ k, (k = Keeper.frame ∨ k = Keeper.machine ∨ k = Keeper.boundFrame) ∧ Looks M h (keeperOf f) k)
    (h : wpS M A (evalArgs f true args keywords) (fun a s₁ => P s₁.heap ∧ wpS M A (call f (first ++ a.pos) a.kw) Q E s₁) E s) : wpS M A (callWith pos f first args keywords) Q E s := by
  unfold callWith
  refine .bind (.holding (h.mono (fun a s₁ h₁ => .bindA (wpAny_standAt ?_)) fun _ _ x => x))
  obtain ⟨k, hk', L⟩ := hk _ h₁.1
  simp only [hplain]
  refine .bindA (L.here ?_)
  have tail : ∀ {t : Sem Value}, wpS M A t Q E s₁ → wpS M A (t >>= fun r => holding [r] point >>= fun _ => pure r) Q E s₁ :=
    fun ht => .bind (ht.mono (fun r s₂ hr => .of (wpAny_bind (wpAny_holding (wpAny_point (wpAny_pure hr))))) fun _ _ x => x)
  have marked (mk : Value) : wpS M A (callMarked mk f (first ++ a.pos) a.kw) Q E s₁ := by unfold callMarked; exact .keep h₁.2
  rcases hk' with rfl | rfl | rfl <;> dsimp only <;> first | exact tail h₁.2 | (split <;> first | exact tail h₁.2 | exact tail (marked _))
theorem S_callWith_K {K : Frag} {pos : Pos} {f : Value} {first : List Value} {Q : Value → Shared → Prop} {e : Expr} {rest : List Expr} (hk : keepIn K f = true) (h : wpS M A (spliced (backTo pos (starEach (e :: rest) env))) (fun vs s₁ => K.In s₁.heap ∧ wpS M A (call f (first ++ vs)) Q E s₁) E s)
    (he : starEach (e :: rest) env = (false, eval e env) :: starEach rest env := by rfl) (hplain : (backTo pos (starEach rest env)).any (·.1) = false := by rfl) :
    wpS M A (callWith pos f first (backTo pos (starEach (e :: rest) env)) []) Q E s := by
  rw [he] at h ⊢
  exact S_callWith_of (by show ((false || (backTo pos (starEach rest env)).any (·.1)) || false) = false; rw [hplain]; rfl) (keeps_K hk) (S_evalArgs_plain h)
theorem S_callWith_type {pos : Pos} {T : String} {first : List Value} {args : List (Bool × Sem Value)} {Q : Value → Shared → Prop}
    (hplain : args.any (·.1) = false)
    (h : wpAny M A (evalArgs (.type T) true args []) (fun a s₁ => wpS M A (call (.type T) (first ++ a.pos) a.kw) Q E s₁) E s) :
    wpS M A (callWith pos (.type T) first args []) Q E s := by
  unfold callWith
  refine .bindA (wpAny_holding (wpAny_mono h (fun a s₁ h₁ => .bindA (wpAny_standAt ?_)) fun _ _ x => x))
  simp only [hplain, List.any_nil, Bool.or_false]
  refine .bindA (wpAny_pure ?_)
  exact .bind (h₁.mono (fun r s₂ hr => .of (wpAny_bind (wpAny_holding (wpAny_point (wpAny_pure hr))))) fun _ _ x => x)
theorem S_runOwn {c : Code} {h : Option Value} {Q : Flow → Shared → Prop}
    (hc : codeS M (A.mark h) c (fun r s' => match r with | .ok f => Q f s' | .error e => False) s) (hnb : h ≠ some byPass := by intro x; cases x) :
    wpS M A (runOwn c env h) Q E s := by
  unfold runOwn
  exact .onRaise (.run (hc.mono fun r s' hr => hr) hnb)
theorem S_For {target iter body orelse pos} {Q : Flow → Shared → Prop}
    (h : wpAny M A (eval iter env) (fun x s₁ => wpAny M A (pyIter x) (fun it s₂ =>
      codeS M A (.forLoop target it body orelse env) (fun r s' => match r with | .ok f => Q f s' | .error e => False) s₂) E s₁) E s)
    (hs : ∀ x, foldedSetIterable iter env x = pure x := by intro _; rfl) :
    wpS M A (exec (.For target iter body orelse pos) env) Q E s := by
  rw [exec_For]
  exact .bindA (wpAny_standAt (.bindA (wpAny_mono h (fun x s₁ h₁ => .bindA (wpAny_of_eq (hs x) (.bindA (wpAny_standAt (.bindA (wpAny_holding
    (wpAny_mono h₁ (fun it s₂ h₂ => S_runOwn h₂) fun _ _ h' => h'))))))) fun _ _ h' => h')))
end
section
variable {prog : Program} {w : World} {A : Around} {E : Value → Shared → Prop} {s : Shared}
theorem codeS_loop {c : Code} {R : Result → Shared → Prop} (hc : calm c = true) (hq : c.quiet = true) (I : Nat → Shared → Prop)
    (turn : ∀ n s, I n s → wpS (model prog w) (A.under c) ((model prog w).den c)
      (fun fin s' => match fin with
        | .done f => R (.ok f) s'
        | .again c' => (c' = c ∧ ∃ m, m < n ∧ I m s') ∨ (c'.quiet = true ∧ codeS (model prog w) A c' R s')) (fun e s' => R (.error e) s') s)
    (n : Nat) (h : I n s) : codeS (model prog w) A c R s := by
  induction n using Nat.strongRecOn generalizing s with
  | ind n ih =>
    refine codeS_of_tree hc ((turn n s h).mono (fun fin s' hf => ?_) fun _ _ h' => h')
    cases fin with
    | done f => exact hf
    | again c' =>
      rcases hf with ⟨rfl, m, hm, hI⟩ | hf
      · exact ⟨hq, ih m hm hI⟩
      · exact hf
theorem codeS_forLoop {R : Result → Shared → Prop} {target it body env} (I : Nat → Shared → Prop)
    (turn : ∀ n s, I n s → wpAny (model prog w) A (pyNext it) (fun r s₁ => match r with
      | none => R (.ok .next) s₁
      | some v => wpAny (model prog w) A (assign target env v) (fun _ s₂ => wpS (model prog w) A (execs body env) (fun f s₃ => match f with
          | .next | .cont => ∃ m, m < n ∧ I m s₃
          | .brk => R (.ok .next) s₃
          | .ret v => R (.ok (.ret v)) s₃) (fun _ _ => False) s₂) (fun _ _ => False) s₁) (fun _ _ => False) s)
    (n : Nat) (h : I n s) (ht : ∀ v, letOwnedTupleGo target it v = pure () := by intro _; rfl) : codeS (model prog w) A (.forLoop target it body [] env) R s := by
  refine codeS_loop rfl rfl I (fun n s hI => ?_) n h
  show wpS _ _ ((forTurn target it body [] env).onRaise (fun x => do noteFrame x env; theTreesLotGoes x)) _ _ s
  refine .onRaise ?_
  simp only [forTurn]
  refine .bindA (wpAny_standAt (.bindA (wpAny_onRaise (wpAny_mono (turn n s hI) (fun r s₁ h₁ => ?_) fun _ _ h' => h'.elim))))
  cases r with
  | none => exact .pure (.inr ⟨rfl, .of (codeAny_block (wpAny_execs_nil h₁))⟩)
  | some v =>
    refine .bindA (wpAny_of_eq (ht v) ?_)
    refine .bindA (wpAny_mono h₁ (fun _ s₂ h₂ => .bind (h₂.mono (fun f s₃ h₃ => ?_) fun _ _ h' => h')) fun _ _ h' => h')
    cases f with
    | next => exact .pure (.inl ⟨rfl, h₃⟩)
    | cont => exact .pure (.inl ⟨rfl, h₃⟩)
    | brk => exact .pure h₃
    | ret v => exact .pure h₃
theorem codeS_func {body env} {R : Result → Shared → Prop}
    (h : wpS (model prog w) (A.deeper env) (execs body env) (fun f s' => R (.ok (.ret (match f with | .ret v => v | _ => .none))) s') (fun _ _ => False) s) :
    codeS (model prog w) A (.func body env) R s := by
  refine codeS_of_tree rfl ?_
  show wpS _ (A.deeper env) (do point; match ← (execs body env).onRaise (leaving env) with | .ret v => ret v | _ => ret .none) _ _ s
  refine .bindA (wpAny_point (.bind (.onRaise (h.mono (fun f s' h' => ?_) fun _ _ h' => h'))))
  cases f <;> exact .pure h'
theorem codeS_call_def {R : Result → Shared → Prop} {a : Addr} {o : Obj} {fd : FuncData} {body : List Stmt} {args : Args} {binds : List (Str × Value)}
    (hroom : A.depth < recursionLimit) (ho : s.heap.get? a = some o) (hdata : o.data = .func fd) (hlim : s.heap.NoLimit) (hcd : s.heap.CodeRec fd.code fd.qualname)
    (hbody : fd.body = .stmts body) (hbind : BindsTo s fd args binds)
    (hcell : ∀ x ∈ fd.scope.names, x.2 ≠ .cell) (hloc : ∀ x ∈ binds, fd.scope.names.lookup x.1 = some .local)
    (h : ∀ h₀, h₀.Ns s.heap.objs.size (fun x => binds.reverse.lookup x) → (∀ b o, s.heap.get? b = some o → h₀.get? b = some o) →
      wpS (model prog w) (A.deeper (callEnv fd s.heap.objs.size a)) (execs body (callEnv fd s.heap.objs.size a)) (fun f s' => R (.ok (.ret (match f with | .ret v => v | _ => .none))) s')
        (fun _ _ => False)
        { s with heap := h₀, toks := s.toks + binds.length })
    (hco : fd.scope.isCoroutine = false := by rfl) (hgen : fd.scope.isGenerator = false := by rfl) (hk : fd.scope.kind = .function := by rfl) :
    codeS (model prog w) A (.call (.ref a) args) R s := by
  refine codeS_of_tree rfl (.of ?_)
  show wpAny _ A.in1 (callAny (.ref a) args) _ _ s
  simp only [callAny]
  refine wpAny_bind (wpAny_load ho ?_)
  obtain ⟨c, oc, vs, tq, hc, hoc, hdc, hq⟩ := hcd
  simp only [hdata, callFunction, hco, hgen, hbody, hc]
  refine wpAny_bind (m := field (.ref c) 1) (wpAny_field hoc hdc hq (wpAny_bind (wpAny_pure ?_)))
  refine wpAny_bind (hbind _ _ _ _ ?_)
  rw [← hc]
  refine wpAny_bind (wpAny_newFunctionEnv hcell hloc (fun h₀ hns₀ hsb₀ => ?_) hk)
  have hlim₀ : h₀.NoLimit := hlim.fresh _ hsb₀
  refine wpAny_bind (wpAny_enterFrame hlim₀ hroom (wpAny_pure (And.intro rfl (codeS_func (h h₀ hns₀ fun b o e => ?_)))))
  exact hsb₀.extBut b o (Nat.ne_of_lt (Heap.lt_size e)) (Heap.get?_push_of_some _ e)
theorem enterS {mg mb : Str → Option Value} {R : Result → Shared → Prop} {name qual : Str} {params : Arguments} {body : List Stmt} {scope : Scope} {dV kV doc pm cdv ct oc : Value} {an od : Option Addr} {osl : Array (Option Value)} {f : Addr} {args : Args} {binds : List (Str × Value)}
    (G : Gd w mg mb s.heap) (ho : (Kf w).lookup f = some ⟨oc, od, .func (fnOf name qual params body scope dV kV doc pm an cdv ct), osl⟩) (hcd : codeIn (Kf w) cdv qual = true) (hroom : A.depth < recursionLimit)
    (hbind : BindsTo s (fnOf name qual params body scope dV kV doc pm an cdv ct) args binds) (hloc : ∀ y ∈ binds, scope.names.lookup y.1 = some .local)
    (h : ∀ L' h₁, Fr s.heap L' h₁ (fun y => binds.reverse.lookup y) →
      wpS (model prog w) (A.deeper (envOf qual scope L' f cdv)) (execs body (envOf qual scope L' f cdv))
        (fun fl s' => R (.ok (.ret (match fl with | .ret v => v | _ => .none))) s')
        (fun _ _ => False)
        { s with heap := h₁, toks := s.toks + binds.length })
    (hco : scope.isCoroutine = false) (hgen : scope.isGenerator = false) (hk : scope.kind = .function)
    (hcell : ∀ x ∈ scope.names, x.2 ≠ .cell) : codeS (model prog w) A (.call (.ref f) args) R s := by
  refine codeS_call_def (fd := fnOf name qual params body scope dV kV doc pm an cdv ct) (body := body) (binds := binds) hroom (G.X _ _ ho) rfl G.T.nolimit (codeRec_of G.X hcd) rfl hbind hcell hloc (fun h₁ hns hk₁ => ?_) hco hgen hk
  exact h _ h₁ ⟨hns, hk₁, Nat.le_refl _⟩
end
end Mine
end

-- part B0
section
open PySem PySem.W PyProof.Rows PySem.Calls
set_option Elab.async false
set_option maxRecDepth 100000
set_option maxHeartbeats 0
set_option linter.unusedVariables false
namespace Mine
namespace FA
theorem mro : mroOf (.type "bytearray") = pure [.type "bytearray", .type "object"] := by rw [mroOf_type]; kernel_rfl
theorem lookup_new : typeLookup (.type "bytearray") "__new__" = pure (some (.builtin "bytearray.__new__")) := by rw [typeLookup_type, builtinLookup_eq_fast]; kernel_rfl
theorem slot_init : Slot "bytearray" "__init__" "bytearray.__init__" :=
  .of (owner := "bytearray") (n := "__init__") (by rw [typeLookup_type, builtinLookup_eq_fast]; kernel_rfl) (by decide +kernel) (by decide +kernel) (by decide +kernel)
    (by first | exact .inl (by decide +kernel) | exact .inr (by decide +kernel)) (by rw [isSubtype_type]; kernel_rfl)
theorem called : TypeCalled "bytearray" "bytearray.__new__" "bytearray.__init__" :=
  ⟨by decide +kernel, by decide +kernel, ⟨_, _, mro⟩, madeBy_type mro lookup_new (by decide +kernel), by decide +kernel, by rw [isSubtype_type]; kernel_rfl, slot_init⟩
theorem typeCall (a : Value) : checkTypeCall "bytearray" ⟨[a], []⟩ = pure () := by kernel_rfl
theorem newCall (a : Value) : checkBuiltinCall "bytearray.__new__" ⟨[.type "bytearray", a], []⟩ = pure () := by kernel_rfl
theorem plain_new : plainId "bytearray.__new__" = true := by decide +kernel
theorem entry_new : entryFor table "bytearray.__new__" = some Builtin.«list.__new__» := entryFor_alias (id' := "list.__new__") (by kernel_rfl) (by decide +kernel) (by decide +kernel) (by kernel_rfl)
theorem entry_init : entryFor table "bytearray.__init__" = some Builtin.«bytearray.__init__» := by first | exact entryFor_of_tree (by kernel_rfl) | exact entryFor_of_fast (by kernel_rfl)
theorem bind (v : Value) : Builtin.Bytes.bindOptional "bytearray.__init__" "bytearray" ["source", "encoding", "errors"] [v] [] = pure [some v, none, none] := by kernel_rfl
set_option maxRecDepth 1000000 in
theorem owner_new : ("bytearray.__new__".splitOn ".__new__").headD "" = "bytearray" := by simp +decide [String.splitOn, String.splitOnAux]
theorem look_release : typeLookup (.type "bytearray") "__release_buffer__" = pure (some (.builtin "bytearray.__release_buffer__")) := by rw [typeLookup_type, builtinLookup_eq_fast]; kernel_rfl
theorem args_init (a b : Value) : argsOk "bytearray.__init__" ⟨[a, b], []⟩ := by
  first
    | (show Bind.checkArgs _ _ _ = _; kernel_rfl)
    | kernel_rfl
end FA
section
variable {prog : Program} {w : World} {A : Around} {E : Value → Shared → Prop} {s : Shared}
theorem code_bytearray_new (a : Value) {Q₁ : Value → Shared → Prop}
    (h : Q₁ (.ref s.heap.objs.size) { s with heap := s.heap.push { cls := .type "bytearray", data := .bytearray #[] } }) :
    codeAny (model prog w) A (.call (.builtin "bytearray.__new__") ⟨[.type "bytearray", a], []⟩) (wants Q₁ E) s := by
  refine codeAny_of_tree ?_
  show wpAny _ A.in1 (do checkBuiltinCall "bytearray.__new__" ⟨[.type "bytearray", a], []⟩; again (.builtin "bytearray.__new__" ⟨[.type "bytearray", a], []⟩)) _ _ s
  refine wpAny_bind (wpAny_of_eq (FA.newCall a) (wpAny_pure ⟨plainId_quiet FA.plain_new _, codeAny_builtin_stack FA.entry_new rfl fun p st => ?_⟩))
  rw [Around.under_plainId FA.plain_new _]
  have hsub := PySem.F.isi_self_bytearray
  have hown := FA.owner_new
  obtain ⟨hp, g, d, tk, os⟩ := s
  simp only [hown]
  wp_walk
  exact h
end
end Mine
end

-- part B1
section
open PySem PySem.W PyProof.Rows PySem.Calls
set_option Elab.async false
set_option maxRecDepth 100000
set_option maxHeartbeats 0
set_option linter.unusedVariables false
namespace Mine
section
variable {prog : Program} {w : World} {A : Around} {E : Value → Shared → Prop} {s : Shared}
theorem calm_not {id : String} {l : List Value} {kw : List (Str × Value)} (h : calm (.builtin id ⟨l, kw⟩) = true) : holders.contains id = false := by
  simpa [calm] using h
theorem exported_calm {Q : Bool → Shared → Prop} {self : Value} (h : Q false s) : wpS (model prog w) A (Builtin.Bytes.exported self) Q E s := fun Γ p hΓ hc => by
  unfold Builtin.Bytes.exported
  show Sem.wp _ Γ (Sem.bind stack _) _ _ p s
  unfold stack
  rw [Sem.wp_bind, Sem.wp_stack]
  have key : ∀ x ∈ ((Γ.code, p) :: Γ.below), calm x.1 = true := by
    intro x hx
    rcases List.mem_cons.mp hx with rfl | hx
    · exact hc.1
    · exact hc.2 x hx
  have hz : ∀ b, b = false → Q b s := fun b e => e ▸ h
  refine hz _ ?_
  · show List.any ((Γ.code, p) :: Γ.below) _ = false
    refine List.any_eq_false.mpr fun x hx hh => ?_
    have hk := key x hx
    revert hh
    split
    case h_6 id v l kw p' _ _ _ _ _ =>
      intro hh
      have h1 : holders.contains id = false := calm_not hk
      simp only [holders, List.contains_eq_mem, List.mem_append, decide_eq_false_iff_not, not_or] at h1
      simp only [List.contains_eq_mem, Bool.and_eq_true, decide_eq_true_eq] at hh
      exact h1.1 hh.2
    case h_7 => intro hh; cases hh
    all_goals (intro hh; have h1 := calm_not hk; revert h1; decide)
end
end Mine
end

-- part B2
section
open PySem PySem.W PyProof.Rows PySem.Calls
set_option Elab.async false
set_option maxRecDepth 100000
set_option maxHeartbeats 0
set_option linter.unusedVariables false
namespace Mine
namespace FA
end FA
section
variable {prog : Program} {w : World} {A : Around} {E : Value → Shared → Prop} {s : Shared}
def byteObj (b : Array UInt8) : Obj := { cls := .type "bytearray", data := .bytearray b }
theorem updateBytearray_ {a : Addr} {b : Array UInt8} {f : Array UInt8 → Array UInt8} {Q : Unit → Shared → Prop} (ho : s.heap.get? a = some (byteObj b)) (hz : (f b).size ≤ sizeLine)
    (h : (s.heap.update a (Obj.mapBytearray f)).get? a = some (byteObj (f b)) → Q () { s with heap := s.heap.update a (Obj.mapBytearray f) }) : wpAny (model prog w) A (updateBytearray a f) Q E s := by
  unfold updateBytearray
  refine wpAny_bind (wpAny_load ho ?_)
  show wpAny _ _ (update a (Obj.mapBytearray f) >>= fun _ => lookBehind a) _ _ _
  refine wpAny_bind (wpAny_update ho ?_)
  have hS := Heap.get?_update_self (Obj.mapBytearray f) ho rfl
  refine wpAny_lookBehind hS ?_ (h hS)
  show (if (f b).size > sizeLine then some "bytearray:memory" else none) = none
  rw [if_neg (by omega)]
theorem codeS_builtin {id : String} {args : Args} {b : Builtin} {R : Result → Shared → Prop} (hc : holders.contains id = false) (hb : entryFor table id = some b)
    (h : wpS (model prog w) (A.under (.builtin id args)) (b args)
      (fun fin s' => match fin with | .done f => R (.ok f) s' | .again c' => c'.quiet = true ∧ codeS (model prog w) A c' R s') (fun e s' => R (.error e) s') s) :
    codeS (model prog w) A (.builtin id args) R s := by
  refine codeS_of_tree (by show (!holders.contains id) = true; rw [hc]; rfl) ?_
  show wpS _ _ (match entryFor table id with | some b => b args | none => unsupported ((withoutEnding? id "#data").getD id)) _ _ s
  rw [hb]; exact h
theorem init_S {a : Addr} {n : Nat} {t : Tok} {R : Result → Shared → Prop} (hS : s.heap.get? a = some (byteObj #[])) (hn : n ≤ sizeLine) (hp : 0 < n)
    (h : ∀ h', Heap.SameBut a s.heap h' → h'.get? a = some (byteObj (Array.replicate n 0)) → R (.ok (.ret .none)) { s with heap := h' }) :
    codeS (model prog w) A (.call (.builtin "bytearray.__init__") ⟨[.ref a, .int n t], []⟩) R s := by
  have hT : s.TypeIs (.ref a) "bytearray" := ⟨_, hS, rfl⟩
  refine codeS_of_tree rfl ?_
  show wpS _ A.in1 (do checkBuiltinCall "bytearray.__init__" ⟨[.ref a, .int n t], []⟩; again (.builtin "bytearray.__init__" ⟨[.ref a, .int n t], []⟩)) _ _ s
  refine .bindA (FA.slot_init.check _ _ _ _ _ _ _ _ hT (FA.args_init _ _) (.pure ⟨plainId_quiet FA.slot_init.plain _, codeS_builtin (by decide +kernel) FA.entry_init ?_⟩))
  rw [Around.under_plainId FA.slot_init.plain _]
  unfold Builtin.«bytearray.__init__»
  refine .bindA ?_
  · unfold Builtin.Bytes.ownRelease Builtin.Bytes.slotIsOwn
    refine wpAny_bind (wpAny_bind (wpAny_specialOf hT FA.look_release ?_))
    dsimp only
    refine bm_if_false (by decide +kernel) ?_
    rw [show ("bytearray.__release_buffer__".dropRight ("__release_buffer__".length + 1)) = "bytearray" from by decide +kernel]
    refine wpAny_isInstance hT PySem.F.isi_self_bytearray (wpAny_pure ?_)
    refine .ite_false rfl ?_
    refine .bindA (wpAny_of_eq (FA.bind _) ?_)
    refine .bindA (wpAny_of_eq (a := ()) rfl ?_)
    refine .bindA (wpAny_of_eq (a := ()) rfl ?_)
    refine .bind ?_
    show wpS _ _ (Builtin.Bytes.exported (.ref a) >>= _) _ _ _
    refine .bind (exported_calm ?_)
    refine .of ?_
    show wpAny _ _ ((do return (← Builtin.Bytes.exportsOf (.ref a)) > 0) : Sem Bool) _ _ _
    unfold Builtin.Bytes.exportsOf
    refine wpAny_bind (wpAny_bind (wpAny_load hS ?_))
    refine wpAny_pure (wpAny_pure ?_)
    refine .of ?_
    refine bm_if_false rfl ?_
    refine wpAny_bind ?_
    show wpAny _ _ (updateBytearray a fun _ => #[]) _ _ _
    refine updateBytearray_ hS (Nat.zero_le _) fun hS1 => ?_
    dsimp only
    refine wpAny_bind ?_
    have e0 : asStr? (.int n t) = pure none := rfl
    rw [e0]
    refine wpAny_pure ?_
    simp only [Option.isSome_none, Bool.false_eq_true, if_false, pure_bind]
    refine wpAny_bind ?_
    have hT2 := typeIs_int { s with heap := s.heap.update a (Obj.mapBytearray fun x => #[]) } n t
    have hX := fun Q h => wpAny_specialOf (M := model prog w) (A := A.in1) (E := fun e s' => R (Except.error e) s') (Q := Q) hT2 PySem.int_index h
    refine hX _ ?_
    clear hX
    simp only [Option.isSome_some, if_true]
    have e1 : asIndex (.int n t) = pure (n : Int) := rfl
    rw [e1]
    refine wpAny_bind ?_
    refine wpAny_attempt ?_
    refine wpAny_pure ?_
    dsimp only
    have c1 : Builtin.Bytes.fitsIndex (n : Int) = true := by
      rw [sizeLine_eq] at hn
      unfold Builtin.Bytes.fitsIndex
      simp only [Bool.and_eq_true, decide_eq_true_eq]; omega
    have c2 : ¬ ((n : Int) < 0) := by omega
    have c3 : ((n : Int) == 2 ^ 63 - 1) = false := by
      rw [sizeLine_eq] at hn
      rw [beq_eq_false_iff_ne]; omega
    have c4 : Builtin.Bytes.tooLong ((n : Int).toNat) = false := by
      unfold Builtin.Bytes.tooLong
      simp only [Int.toNat_natCast, decide_eq_false_iff_not]; omega
    have c5 : (n : Int) > 0 := by omega
    simp only [c1, c2, c3, c4, c5, Bool.not_true, Bool.false_eq_true, if_false, if_true]
    refine wpAny_bind (wpAny_rule ?_)
    refine wpAny_bind ?_
    show wpAny _ _ (updateBytearray a fun _ => Array.replicate (n : Int).toNat 0) _ _ _
    refine updateBytearray_ hS1 (by simpa using hn) fun hS2 => ?_
    refine wpAny_pure (h _ ?_ (by simpa using hS2))
    exact (Heap.SameBut.update ..).trans (Heap.SameBut.update ..)

theorem call_bytearray {n : Nat} {t : Tok} {Q : Value → Shared → Prop} (hn : n ≤ sizeLine) (hp : 0 < n)
    (h : ∀ h', (∀ b o, s.heap.get? b = some o → h'.get? b = some o) → h'.get? s.heap.objs.size = some (byteObj (Array.replicate n 0)) → Q (.ref s.heap.objs.size) { s with heap := h' }) :
    wpS (model prog w) A (call (.type "bytearray") [.int n t]) Q E s := by
  obtain ⟨c, tl, hmro⟩ := FA.called.mro
  have hmade := FA.called.made
  have hsub := FA.called.sub
  refine .call (codeS_of_tree rfl ?_)
  show wpS _ _ (callAny (.type "bytearray") _) _ _ _
  refine .pure ⟨Code.quiet_builtin _ (by decide +kernel), codeS_builtin (by decide +kernel) F.entry_type_call ?_⟩
  rw [Around.under_plain (weight_type_call_type "bytearray" [.int n t] []) rfl]
  have h1 := FA.called.notType
  have h2 := FA.called.canCreate
  have hct := FA.typeCall (.int n t)
  unfold Builtin.«type.__call__»
  simp only [h1, h2, Bool.false_eq_true, if_false, hct, hmro, hmade, pure_bind]
  refine .ite_false rfl ?_
  refine .bindA (wpAny_holding (wpAny_call (code_bytearray_new (.int n t) ?_)))
  have hS : (s.heap.push (byteObj #[])).get? s.heap.objs.size = some (byteObj #[]) := Heap.get?_push_size _ rfl
  have hT : ({ s with heap := s.heap.push (byteObj #[]) } : Shared).TypeIs (.ref s.heap.objs.size) "bytearray" := ⟨_, hS, rfl⟩
  refine .bindA (wpAny_isInstance hT PySem.F.isi_self_bytearray ?_)
  refine .ite_false rfl ?_
  refine .bind (.holding ?_)
  simp only [callSpecial?]
  refine .bindA (wpAny_specialOf hT FA.slot_init.lookup ?_)
  simp only [FA.slot_init.bind]
  refine .holding (.bindA (wpAny_pure (.bind (.call ?_))))
  refine init_S hS hn hp fun h' hsb hget => ?_
  refine .of (wpAny_pure ?_)
  refine .ite_false rfl (.pure ?_)
  refine h h' (fun b o e => ?_) hget
  exact hsb.extBut b o (Nat.ne_of_lt (Heap.lt_size e)) (Heap.get?_push_of_some _ e)
end
end Mine
end

-- part B3
section
open PySem PySem.W PyProof.Rows PySem.Calls
set_option Elab.async false
set_option maxRecDepth 100000
set_option maxHeartbeats 0
set_option linter.unusedVariables false
namespace Mine
section
variable {w : World} {A : Around} {E : Value → Shared → Prop} {s : Shared} {mg mb : Str → Option Value}
local macro_rules | `(tactic| walk_at "eval Name") => `(tactic| (k_dflt (refine' name_K ?F ?X ?T ?e ?_; (case F => k_asm); (case X => k_asm); (case T => k_asm); (case e => first | exact nm_quoted | exact nm_paren_depth | exact nm_twin_re_1 | exact nm_twin_re_2 | exact nm_law_numbers | exact nm_Accumulator | exact nm_law_sent | exact nm_byteswap | exact nm_Int2AP | exact nm_law_number_of_depths | exact nm_quote_periods | exact nm_fix_eols | exact nm_CRLF); k_whole)))
local macro_rules | `(tactic| walk_at "eval Name") => `(tactic| (k_dflt (refine' name_B ?F ?X ?T ?e ?v ?n ?_; (case F => k_asm); (case X => k_asm); (case T => k_asm); (case e => first | exact nb_enumerate | exact nb_range | exact nb_bytearray | exact nb_len | exact nb_bytes | exact nb_sum | exact nb_str | exact nb_int | exact nb_abs | exact nb_divmod | exact nb_super); (case v => boot_by_name); (case n => decide); k_whole)))
local macro_rules | `(tactic| walk_at "getMethod ref") => `(tactic| (k_dflt (refine' get_subK ?F ?X ?e ?_; (case F => k_asm); (case X => k_asm); (case e => first | exact pat145 | exact pat150 | exact pat43); k_whole)))
local macro_rules | `(tactic| walk_at "callWith ref") => `(tactic| (k_dflt (first
  | (refine' callWith_K ?k1 ?k2 ?_; (case k1 => k_asm); (case k2 => rfl); k_whole)
  | (refine' callWith_K0 ?k1 ?k2 ?_; (case k1 => k_in); (case k2 => rfl); k_whole))))
def part (b : Array UInt8) : Nat → Array UInt8
  | 0 => Array.replicate b.size 0
  | j + 1 => (part b j).setIfInBounds (b.size - 1 - j) (b.getD j 0)
theorem part_size (b : Array UInt8) : ∀ j, (part b j).size = b.size
  | 0 => by simp [part]
  | j + 1 => by simp [part, part_size b j]
theorem part_get (b : Array UInt8) (k : Nat) (hk : k < b.size) : ∀ j, j ≤ b.size → (part b j)[k]? = some (if b.size - j ≤ k then b.getD (b.size - 1 - k) 0 else 0)
  | 0, _ => by
    rw [if_neg (by omega)]
    simp [part, hk]
  | j + 1, hj => by
    have ih := part_get b k hk j (by omega)
    rw [part, Array.getElem?_setIfInBounds]
    by_cases e : b.size - 1 - j = k
    · subst e
      rw [if_pos rfl, if_pos (by rw [part_size]; omega), if_pos (by omega)]
      congr 2
      omega
    · rw [if_neg e, ih]
      congr 1
      by_cases h1 : b.size - j ≤ k
      · rw [if_pos h1, if_pos (by omega)]
      · rw [if_neg h1, if_neg (by omega)]
theorem part_all (b : Array UInt8) : part b b.size = b.reverse := by
  apply Array.ext_getElem?
  intro k
  by_cases hk : k < b.size
  · rw [part_get b k hk b.size (Nat.le_refl _), if_pos (by omega), Array.getElem?_eq_getElem (by simpa using hk), Array.getElem_reverse]
    simp [Array.getD, show b.size - 1 - k < b.size by omega]
  · rw [Array.getElem?_eq_none (by rw [part_size]; omega), Array.getElem?_eq_none (by simp; omega)]
theorem size_nn (n : Nat) (hp : 0 < n) : Builtin.Range.rangeSize 0 n n = ((1 : Nat) : Int) := by
  unfold Builtin.Range.rangeSize
  rw [if_pos (by omega), if_pos (by omega)]
  have : ((n : Int) - 0 - 1) / n = 0 := Int.ediv_eq_zero_of_lt (by omega) (by omega)
  omega
theorem small_nn (n : Nat) (h : n ≤ 2 ^ 20) (hp : 0 < n) : Builtin.Range.small 0 n n = true := by
  have f : ∀ k : Int, -1 ≤ k → k ≤ 2 ^ 30 → Builtin.Range.rangeFitsLong k = true := fun k h1 h2 => by
    unfold Builtin.Range.rangeFitsLong
    simp
    omega
  unfold Builtin.Range.small
  rw [size_nn n hp]
  simp only [Bool.and_eq_true, Bool.or_eq_true, decide_eq_true_eq]
  have f1 := f n (by omega) (by omega)
  refine ⟨⟨⟨⟨f 0 (by omega) (by omega), f1⟩, f1⟩, f _ (by omega) (by omega)⟩, .inr ?_⟩
  rw [if_pos (by omega)]
  exact f _ (by omega) (by omega)
theorem S_callWith_T {M : Model} {env : Env} {pos : Pos} {T : String} {first : List Value} {Q : Value → Shared → Prop} {e : Expr} {rest : List Expr} (h : wpAny M A (spliced (backTo pos (starEach (e :: rest) env))) (fun vs s₁ => wpS M A (call (.type T) (first ++ vs)) Q E s₁) E s)
    (he : starEach (e :: rest) env = (false, eval e env) :: starEach rest env := by rfl) (hplain : (backTo pos (starEach rest env)).any (·.1) = false := by rfl) :
    wpS M A (callWith pos (.type T) first (backTo pos (starEach (e :: rest) env)) []) Q E s := by
  rw [he] at h ⊢
  exact S_callWith_type (by show (false || (backTo pos (starEach rest env)).any (·.1)) = false; rw [hplain]; rfl) (evalArgs_plain h)
namespace FA
theorem slot_setitem : Slot "bytearray" "__setitem__" "bytearray.__setitem__" :=
  .of (owner := "bytearray") (n := "__setitem__") (by rw [typeLookup_type, builtinLookup_eq_fast]; kernel_rfl) (by decide +kernel) (by decide +kernel) (by decide +kernel)
    (by first | exact .inl (by decide +kernel) | exact .inr (by decide +kernel)) (by rw [isSubtype_type]; kernel_rfl)
theorem entry_setitem : entryFor table "bytearray.__setitem__" = some Builtin.«bytearray.__setitem__» := by first | exact entryFor_of_tree (by kernel_rfl) | exact entryFor_of_fast (by kernel_rfl)
theorem args_setitem (a b c : Value) : argsOk "bytearray.__setitem__" ⟨[a, b, c], []⟩ := by
  first
    | (show Bind.checkArgs _ _ _ = _; kernel_rfl)
    | kernel_rfl
end FA
theorem setItem_byte {prog : Program} {D : Addr} {b : Array UInt8} {k : Nat} {c : Nat} {i x : Int} {t u : Tok} {Q : Unit → Shared → Prop} (ho : s.heap.get? D = some (byteObj b)) (hz : b.size ≤ sizeLine) (hi : i = (k : Int)) (hk : k < b.size) (hx : x = (c : Int)) (hc : c < 256)
    (hQ : ∀ h', h'.get? D = some (byteObj (b.setIfInBounds k c.toUInt8)) → Heap.SameBut D s.heap h' → Q () { s with heap := h' }) :
    wpAny (model prog w) A (setItem (.ref D) (.int i t) (.int x u)) Q E s := by
  subst hi hx
  have hT : s.TypeIs (.ref D) "bytearray" := ⟨_, ho, rfl⟩
  unfold setItem
  try with_reducible refine wpAny_holding ?_
  first | refine wpAny_bind (wpAny_pure ?_) | skip
  refine wpAny_bind (wpAny_sequenceKey hT (by decide) ?_)
  refine wpAny_bind (wpAny_callSpecial?_slot (name := Str.ofString "__setitem__") hT FA.slot_setitem
    (wpAny_call_entry FA.slot_setitem hT FA.entry_setitem ?_ (FA.args_setitem _ _ _)))
  unfold Builtin.«bytearray.__setitem__»
  dsimp only
  have c1 : Builtin.Bytes.fitsIndex (k : Int) = true := by
    rw [sizeLine_eq] at hz
    unfold Builtin.Bytes.fitsIndex
    simp only [Bool.and_eq_true, decide_eq_true_eq]; omega
  simp only [List.isEmpty_nil, Bool.not_true, Bool.false_eq_true, if_false]
  have hT2 := typeIs_int s k t
  refine wpAny_bind ?_
  unfold Builtin.Bytes.subscript?
  have hX := fun E Q h => wpAny_specialOf (M := model prog w) (A := A.in1) (E := E) (Q := Q) hT2 PySem.int_index h
  refine wpAny_bind ?_
  refine hX _ _ ?_
  clear hX
  simp only [Option.isNone_some, Bool.false_eq_true, if_false]
  have e1 : asIndex (.int k t) = pure (k : Int) := rfl
  rw [e1]
  simp only [pure_bind, c1, Bool.not_true, Bool.false_eq_true, if_false]
  refine wpAny_pure ?_
  dsimp only
  unfold Builtin.Bytes.byteValue
  have e2 : asIndex (.int c u) = pure (c : Int) := rfl
  rw [e2]
  simp only [pure_bind]
  rw [if_neg (by simp; omega)]
  simp only [pure_bind]
  unfold Builtin.Bytes.payload Builtin.Bytes.payload?
  refine wpAny_bind (wpAny_bind (wpAny_bind (wpAny_load ho ?_)))
  refine wpAny_pure (wpAny_pure ?_)
  have e3 : seqIndex? (k : Int) b.size = some k := by
    have c0 : ¬ ((k : Int) < 0) := by omega
    unfold seqIndex?
    simp [c0, hk]
  show wpAny _ _ (match seqIndex? (k : Int) b.size with | some k => _ | none => _) _ _ _
  rw [e3]
  refine wpAny_bind ?_
  show wpAny _ _ (updateBytearray D fun x => x.setIfInBounds k c.toUInt8) _ _ _
  refine updateBytearray_ ho (by simpa using hz) fun hS => ?_
  refine wpAny_pure ⟨.none, rfl, wpAny_pure (hQ _ hS (Heap.SameBut.update ..))⟩
namespace FA
theorem no_bytes : typeLookup (.type "bytearray") "__bytes__" = pure none := by rw [typeLookup_type, builtinLookup_eq_fast]; kernel_rfl
theorem no_idx : typeLookup (.type "bytearray") "__index__" = pure none := by rw [typeLookup_type, builtinLookup_eq_fast]; kernel_rfl
theorem look_buffer : typeLookup (.type "bytearray") "__buffer__" = pure (some (.builtin "bytearray.__buffer__")) := by rw [typeLookup_type, builtinLookup_eq_fast]; kernel_rfl
end FA
theorem own_slot {prog : Program} {D : Addr} {name id : String} {Q : Bool → Shared → Prop} (hT : s.TypeIs (.ref D) "bytearray") (hl : typeLookup (.type "bytearray") (name : Str) = pure (some (.builtin id))) (h1 : (!id.endsWith ("." ++ name)) = false) (h2 : id.dropRight (name.length + 1) = "bytearray")
    (h : Q true s) : wpAny (model prog w) A (Builtin.Bytes.slotIsOwn (.ref D) name) Q E s := by
  unfold Builtin.Bytes.slotIsOwn
  refine wpAny_bind (wpAny_specialOf hT hl ?_)
  dsimp only
  refine bm_if_false h1 ?_
  rw [h2]
  exact wpAny_isInstance hT PySem.F.isi_self_bytearray h
theorem bytes_of_byte {prog : Program} {D : Addr} {b : Array UInt8} {Q : Value → Shared → Prop} (ho : s.heap.get? D = some (byteObj b)) (hz : b.size ≤ sizeLine)
    (h : ∀ t k, Q (.bytes b t) { s with toks := k }) : wpAny (model prog w) A (call (.type "bytes") [.ref D]) Q E s := by
  have hT : s.TypeIs (.ref D) "bytearray" := ⟨_, ho, rfl⟩
  refine callType_codes (Q₁ := fun obj s₁ => s₁.TypeIs obj "bytes" ∧ Q obj s₁) F.bm_called (F.bm_typeCall _) F.entry_object_init ?_ fun obj s₁ h₁ => ?_
  · refine codeAny_of_tree ?_
    show wpAny _ _ (do checkBuiltinCall "bytes.__new__" ⟨[.type "bytes", .ref D], []⟩; again (.builtin "bytes.__new__" ⟨[.type "bytes", .ref D], []⟩)) _ _ s
    refine wpAny_bind (wpAny_of_eq (F.bm_newCall _) (wpAny_pure ⟨plainId_quiet F.bm_plain _, codeAny_builtin F.bm_entry ?_⟩))
    rw [Around.under_plainId F.bm_plain _]
    unfold Builtin.«bytes.__new__»
    refine wpAny_bind (wpAny_of_eq (a := true) rfl ?_)
    refine bm_if_false rfl ?_
    refine wpAny_bind (wpAny_of_eq F.bm_sub ?_)
    refine bm_if_false rfl ?_
    refine wpAny_bind (wpAny_of_eq (F.bm_bind _) ?_)
    refine wpAny_bind (wpAny_of_eq (a := ()) rfl ?_)
    refine wpAny_bind (wpAny_of_eq (a := ()) rfl ?_)
    refine bm_if_false rfl ?_
    refine wpAny_bind (wpAny_specialOf hT FA.no_bytes ?_)
    refine wpAny_bind (wpAny_bind ?_)
    show wpAny _ _ (load D >>= _) _ _ _
    refine wpAny_bind (wpAny_load ho ?_)
    refine wpAny_pure (wpAny_pure ?_)
    refine bm_if_false rfl ?_
    refine wpAny_bind (wpAny_specialOf hT FA.no_idx ?_)
    refine bm_if_true rfl ?_
    first
      | show wpAny _ _ (Builtin.Bytes.buffer? "bytes.__new__" (.ref D) true >>= _) _ _ _
      | (refine wpAny_bind ?_; show wpAny _ _ (Builtin.Bytes.buffer? "bytes.__new__" (.ref D) true >>= _) _ _ _)
    refine wpAny_bind ?_
    unfold Builtin.Bytes.buffer?
    refine wpAny_bind (wpAny_specialOf hT FA.look_buffer ?_)
    refine wpAny_bind (own_slot hT FA.look_buffer (by decide +kernel) (by decide +kernel) ?_)
    refine bm_if_false rfl ?_
    refine wpAny_bind (wpAny_specialOf hT FA.look_buffer ?_)
    dsimp only
    refine wpAny_bind ?_
    unfold Builtin.Bytes.ownRelease
    refine wpAny_bind (own_slot hT FA.look_release (by decide +kernel) (by decide +kernel) (wpAny_pure ?_))
    refine bm_if_false rfl ?_
    unfold Builtin.Bytes.payload Builtin.Bytes.payload?
    refine wpAny_bind (wpAny_bind (wpAny_bind (wpAny_load ho ?_)))
    refine wpAny_pure (wpAny_pure (wpAny_pure ?_))
    dsimp only
    refine wpAny_bind ?_
    refine wpAny_rule ?_
    refine wpAny_bind ?_
    refine wpAny_mkBytes ?_ hz
    show wpAny _ _ (if (Value.type "bytes" == Value.type "bytes") = true then _ else _) _ _ _
    refine bm_if_true (by decide) ?_
    first
      | exact wpAny_pure ⟨PySem.W.typeIs_bytes _ _ _, h _ _⟩
      | exact wpAny_bind (wpAny_pure (wpAny_pure ⟨PySem.W.typeIs_bytes _ _ _, h _ _⟩))
  · exact ⟨h₁.1, F.args_object_init_2 obj _, object_init_meets F.bm_called.init.lookup F.bm_called.made (by decide) prog w A.in1 _ s₁ ⟨h₁.1, rfl, h₁.2⟩⟩
theorem swap_c {l : List UInt8} {t u : Tok} {Q : Value → Shared → Prop} (G : Gd w mg mb s.heap) (hroom : A.depth < recursionLimit) (hh : A.handled = none) (hn : l.length ≤ 2 ^ 20) (hp : 0 < l.length)
    (h : ∀ h' t' k, Grow s.heap h' → Q (.bytes l.reverse.toArray t') { s with heap := h', toks := k }) :
  wpS (model prg w) A (call (.ref 171) [.bytes l.toArray t, .int l.length u]) Q E s := by
  refine .call ?_
  refine' enterS G ?ho ?hcd hroom ?hb ?hl ?_ ?c1 ?c2 ?c3 ?c4
  case ho => exact rfl
  case hcd => rfl
  case hb => exact BindsTo.of_eq rfl
  case hl => exact locs rfl
  case c1 => exact rfl
  case c2 => exact rfl
  case c3 => exact rfl
  case c4 => decide
  intro L' h₁ F
  obtain ⟨X, T⟩ := G
  have N0 : News s.heap L' h₁ [] := News.nil
  refine S_execs_cons ?_
  refine S_Assign rfl ?_
  refine .bindA ?_
  k_steps
  refine S_callWith_T ?_
  k_steps
  have hn' : l.length ≤ sizeLine := by rw [sizeLine_eq]; omega
  refine call_bytearray hn' hp fun h₂ g₂ hB => ?_
  have F2 := Fr.keeps F g₂
  have N2 := news_pushed F N0 g₂ hB rfl
  k_steps
  refine .of ?_
  k_steps
  rename IsRange _ _ _ _ _ _ _ _ => R
  rename News _ _ _ _ => N
  rename Fr _ _ _ _ => F
  refine range_VN [h₁.objs.size] hh R (small_nn _ hn hp) (size_nn _ hp) F N (fun i m n1 => m (Str.ofString "data") = some (.bytes l.toArray t) ∧ m (Str.ofString "width") = some (.int l.length u) ∧ m (Str.ofString "swapped_data") = some (.ref h₁.objs.size) ∧ n1 = [(h₁.objs.size, byteObj (part l.toArray (i * l.length)))]) ?_ ?_ ?_ ?_
  · rintro i m n1 ⟨_, _, _, rfl⟩; rfl
  · refine ⟨rfl, rfl, rfl, by rw [Nat.zero_mul]; rfl⟩
  · rintro i ti m₁ n1 h3 tk3 own hi ⟨e1, e2, e3, rfl⟩ hsep F₁ N₁
    obtain rfl : i = 0 := by omega
    rw [form e1] at F₁
    rw [form e2] at F₁
    rw [form e3] at F₁
    k_steps
    rename IsRange _ _ _ _ _ _ _ _ => R2
    rename News _ _ _ _ => N2
    rename Fr _ _ _ _ => F2
    refine range_VN (own.map (·.1) ++ [h₁.objs.size]) hh R2 (range_small _ (by omega)) (range_size _) F2 N2 (fun j m n1 => m (Str.ofString "data") = some (.bytes l.toArray t) ∧ m (Str.ofString "width") = some (.int l.length u) ∧ m (Str.ofString "swapped_data") = some (.ref h₁.objs.size) ∧ (∃ ti, m (Str.ofString "i") = some (.int 0 ti)) ∧ n1 = own ++ [(h₁.objs.size, byteObj (part l.toArray j))]) ?_ ?_ ?_ ?_
    · rintro j m n1 ⟨_, _, _, _, rfl⟩; simp
    · refine ⟨rfl, rfl, rfl, ⟨ti, ?_⟩, by rw [Nat.zero_mul]⟩
      show some (Value.int _ ti) = _
      simp
    · rintro j tj m₂ n1 h4 tk4 own2 hj ⟨d1, d2, d3, ⟨ti', d4⟩, rfl⟩ hsep2 F₃ N₃
      rw [form d1] at F₃
      rw [form d2] at F₃
      rw [form d3] at F₃
      rw [form d4] at F₃
      k_steps
      have hDm : (h₁.objs.size, byteObj (part l.toArray j)) ∈ own2 ++ (own ++ [(h₁.objs.size, byteObj (part l.toArray j))]) := by simp
      have hDo := N₃ _ hDm
      refine setItem_byte (k := l.length - 1 - j) (c := (l.getD j 0).toNat) hDo.1 ?g1 ?g2 ?g3 ?g4 ?g5 fun h5 hS hsb => ?_
      case g1 => rw [part_size]; simpa using hn'
      case g2 => omega
      case g3 => rw [part_size]; simp; omega
      case g4 =>
        congr 3
        omega
      case g5 => exact UInt8.toNat_lt _
      have F5 := F₃.change hsb hDo.2.1 hDo.2.2
      have N5 := news_set (pre := own2 ++ own) (post := []) (o' := byteObj (part l.toArray (j + 1))) (by simpa using N₃) (fun p hp => ?_) (fun p hp => nomatch hp) hsb ?_
      rotate_left
      · rcases List.mem_append.mp hp with hp | hp
        · exact hsep2 p hp (_, byteObj (part l.toArray j)) (by simp)
        · exact hsep p hp _ (.head _)
      · rw [hS, part]
        congr 2
        simp [Nat.toUInt8]
      k_steps
      exact TurnN.intro F5 (by simpa using N5) ⟨rfl, rfl, rfl, ⟨_, rfl⟩, rfl⟩
    · rintro h4 tk4 m₄ n4 F₄ N₄ ⟨d1, d2, d3, d4, rfl⟩
      k_steps
      exact TurnN.intro F₄ N₄ ⟨d1, d2, d3, by rw [Nat.zero_add, Nat.one_mul]⟩
  · rintro h4 tk4 m₄ n4 F₄ N₄ ⟨d1, d2, d3, rfl⟩
    rw [form d3] at F₄
    k_steps
    have hDo := N₄ _ (.head _)
    refine bytes_of_byte hDo.1 (by rw [part_size]; simpa using hn') fun t9 k9 => ?_
    rw [Nat.one_mul, show part l.toArray l.length = l.reverse.toArray from by
      have := part_all l.toArray
      rw [List.size_toArray, List.reverse_toArray] at this
      exact this]
    exact h _ _ _ fun b o e => F₄.keep b o e
end
end Mine
end

-- part N1
section
open PySem PySem.W PyProof.Rows PySem.Calls
set_option Elab.async false
set_option maxRecDepth 100000
set_option maxHeartbeats 0
set_option linter.unusedVariables false
namespace Mine
section
variable {prog : Program} {w : World} {A : Around} {E : Value → Shared → Prop} {s : Shared} {env : Env} {h₀ : Heap} {m : Str → Option Value} {news : List (Addr × Obj)}
theorem ints_set : ∀ {vs : List Value} {ms : List Int} (i : Nat) (n : Int) (t : Tok), IntsAre vs ms → IntsAre (vs.set i (.int n t)) (ms.set i n)
  | _, _, _, _, _, .nil => .nil
  | _, _, 0, _, _, .cons _ _ r => .cons _ _ r
  | _, _, i + 1, n, t, .cons _ _ r => .cons _ _ (ints_set i n t r)
theorem enum_V {xi xc : Str} {body : List Stmt} {Q : Flow → Shared → Prop} {Dl : Addr} {ws : List Value} {c : Nat} {ks : List Int} (hh : A.handled = none) (F : Fr h₀ env.locals s.heap m) (N : News h₀ env.locals s.heap ((Dl, W.listOf ws.toArray c) :: news)) (hsep : ∀ q ∈ news, q.1 ≠ Dl) (iW : IntsAre ws ks)
    (J : Nat → (Str → Option Value) → List (Addr × Obj) → Prop) (j0 : J 0 m news)
    (step : ∀ (i : Nat) k t t' m₁ news₁ h tk own, ks[i]? = some k → J i m₁ news₁ → news₁.map (·.1) = news.map (·.1) → (∀ p ∈ own, ∀ q ∈ news, p.1 ≠ q.1) →
      Fr h₀ env.locals h (fun y => if y = xc then some (.int k t') else if y = xi then some (.int i t) else m₁ y) → News h₀ env.locals h (own ++ news₁) →
      wpAny (model prog w) A (execs body env) (LoopStep3 h₀ env.locals own news₁ (J (i + 1)) { s with heap := h, toks := tk } (fun v s' => Q (.ret v) s') fun s' => Q .next s') E { s with heap := h, toks := tk })
    (done : ∀ h' tk m' news', Fr h₀ env.locals h' m' → News h₀ env.locals h' news' → news'.map (·.1) = news.map (·.1) → J ks.length m' news' → Q .next { s with heap := h', toks := tk }) :
    wpAny (model prog w) A (call (.type "enumerate") [.ref Dl]) (fun xv s₁ => wpAny (model prog w) A (pyIter xv) (fun it s₂ => PairAt3 prog w A h₀ env xi xc body Q E it s₂) E s₁) E s := by
  have hD := N _ (.head _)
  have hls : s.heap.IsList Dl ws.toArray := ⟨_, hD.1, rfl, c, rfl⟩
  have hDs : Dl < s.heap.objs.size := Heap.lt_size hD.1
  have hLs : env.locals < s.heap.objs.size := F.ns.lt
  have hab : h₀.objs.size ≤ env.locals := F.above
  refine call_enumerate_list hls fun h' he hit hsz hk => ?_
  have F' : Fr h₀ env.locals h' m := ⟨F.ns.keeps hk, fun b o e => hk b o (F.keep b o e), F.above⟩
  have N' : News h₀ env.locals h' news := fun p hp => ⟨hk _ _ (N p (.tail _ hp)).1, (N p (.tail _ hp)).2⟩
  have S : PairSrc prog w A E h₀ env ItemKind.int ks (.ref (s.heap.objs.size + 1)) { s with heap := h' } m news := by
    refine enumSrc (Draws.list (A := A.in1) hh s.heap.objs.size Dl (Nat.ne_of_lt hDs) ws.toArray) he ⟨hit, hls.at fun o e => hk Dl o e⟩ (Nat.succ_ne_self _) ?_ (by simp) ?_
      (Heap.get?_none_of_le (Nat.le_trans hab (Nat.le_of_lt (Nat.lt_succ_of_lt hLs)))) (Heap.get?_none_of_le (Nat.le_trans hab (Nat.le_of_lt hLs))) ?_ (by simp [iW.length]) (fun i x hx => ?_) F' N'
    · intro hm
      rcases List.mem_cons.mp hm with e | hm
      · exact Nat.succ_ne_self _ e
      · exact Nat.ne_of_gt (Nat.lt_succ_of_lt hDs) (List.mem_singleton.mp hm)
    · intro hm
      rcases List.mem_cons.mp hm with e | hm
      · exact Nat.ne_of_lt (Nat.lt_succ_of_lt hLs) e
      · rcases List.mem_cons.mp hm with e | hm
        · exact Nat.ne_of_lt hLs e
        · exact hD.2.1 (List.mem_singleton.mp hm).symm
    · intro b hb q hq e
      have hq1 : q.1 < s.heap.objs.size := Heap.lt_size (N q (.tail _ hq)).1
      rcases List.mem_cons.mp hb with e1 | hb
      · exact Nat.ne_of_gt (Nat.lt_succ_of_lt hq1) (e1.symm.trans e)
      · rcases List.mem_cons.mp hb with e1 | hb
        · exact Nat.ne_of_gt hq1 (e1.symm.trans e)
        · exact hsep q hq (e.symm.trans (List.mem_singleton.mp hb))
    · obtain ⟨n, t, rfl, hn⟩ := IntsAre.at iW i x (by simpa using hx)
      exact ⟨n, hn, t, rfl⟩
  refine S xi xc body Q J j0 ?_ ?_
  · rintro i k t v m₁ news₁ s₁ own ⟨hp, tk, rfl⟩ hik ⟨t', rfl⟩ hj ha hs F₁ N₁
    exact step i k t t' m₁ news₁ hp tk own hik hj ha hs F₁ N₁
  · intro h' tk m' n' F' N' ha hj
    exact done h' tk m' n' F' N' ha hj
end
section
variable {w : World} {A : Around} {E : Value → Shared → Prop} {s : Shared} {mg mb : Str → Option Value}
local macro_rules | `(tactic| walk_at "eval Name") => `(tactic| (k_dflt (refine' name_K ?F ?X ?T ?e ?_; (case F => k_asm); (case X => k_asm); (case T => k_asm); (case e => first | exact nm_quoted | exact nm_paren_depth | exact nm_twin_re_1 | exact nm_twin_re_2 | exact nm_law_numbers | exact nm_Accumulator | exact nm_law_sent | exact nm_byteswap | exact nm_Int2AP | exact nm_law_number_of_depths | exact nm_quote_periods | exact nm_fix_eols | exact nm_CRLF); k_whole)))
local macro_rules | `(tactic| walk_at "eval Name") => `(tactic| (k_dflt (refine' name_B ?F ?X ?T ?e ?v ?n ?_; (case F => k_asm); (case X => k_asm); (case T => k_asm); (case e => first | exact nb_enumerate | exact nb_range | exact nb_bytearray | exact nb_len | exact nb_bytes | exact nb_sum | exact nb_str | exact nb_int | exact nb_abs | exact nb_divmod | exact nb_super); (case v => boot_by_name); (case n => decide); k_whole)))
local macro_rules | `(tactic| walk_at "getMethod ref") => `(tactic| (k_dflt (refine' get_subK ?F ?X ?e ?_; (case F => k_asm); (case X => k_asm); (case e => first | exact pat145 | exact pat150 | exact pat43); k_whole)))
local macro_rules | `(tactic| walk_at "callWith ref") => `(tactic| (k_dflt (first
  | (refine' callWith_K ?k1 ?k2 ?_; (case k1 => k_asm); (case k2 => rfl); k_whole)
  | (refine' callWith_K0 ?k1 ?k2 ?_; (case k1 => k_in); (case k2 => rfl); k_whole))))

theorem numbers_c {l : Addr} {vs : List Value} {ns : List Int} {Q : Value → Shared → Prop} (G : Gd w mg mb s.heap) (hroom : A.depth < recursionLimit) (hh : A.handled = none) (hl : s.heap.IsList l vs.toArray) (hi : IntsAre vs ns) (hn : ns.length ≤ 63)
    (h : ∀ h' D its c k ms, Grow s.heap h' → h'.get? D = some (listOf its c) → IntsAre its.toList ms → ms.length = 5 → (∀ n ∈ ms, 0 ≤ n ∧ n ≤ 1000000000) → s.heap.get? D = none → Q (.ref D) { s with heap := h', toks := k }) :
  wpAny (model prg w) A (call (.ref 178) [.ref l]) Q E s := by
  refine wpAny_call ?_
  refine' enter G ?ho ?hcd hroom ?hb ?hl ?_ ?c1 ?c2 ?c3 ?c4
  case ho => exact rfl
  case hcd => rfl
  case hb => exact BindsTo.of_eq rfl
  case hl => exact locs rfl
  case c1 => exact rfl
  case c2 => exact rfl
  case c3 => exact rfl
  case c4 => decide
  intro L' h₁ F
  obtain ⟨X, T⟩ := G
  have N0 : News s.heap L' h₁ [] := News.nil
  k_steps
  refine For_pair3 s.heap hh rfl rfl rfl ?_ (fun _ => rfl)
  k_steps
  rename _ < _ => lt1
  rename IntsAre _ (List.take 63 ns) => iW
  rename News _ _ _ _ => N
  rename Fr _ _ _ _ => F
  refine enum_V hh F N (fun q hq e => ?_) iW (fun i m n1 => ∃ Dn its c ms, m (Str.ofString "numbers") = some (.ref Dn) ∧ n1 = [(Dn, W.listOf its c)] ∧ IntsAre its.toList ms ∧ ms.length = 5 ∧ ∀ n ∈ ms, 0 ≤ n ∧ n ≤ 8 + (i : Int) * 1000000) ?_ ?_ ?_
  · rw [List.mem_singleton.mp hq] at e
    exact absurd lt1 (e ▸ Nat.lt_irrefl _)
  · refine ⟨_, _, _, [1, 3, 8, 4, 5], rfl, rfl, ?_, rfl, ?_⟩
    · exact .cons _ _ (.cons _ _ (.cons _ _ (.cons _ _ (.cons _ _ .nil))))
    · decide
  · rintro i k t t' m₁ _ hq tk own hk ⟨Dn, its, c, ms, hm, rfl, iM, hlen, hb⟩ ha hsep F₁ N₁
    rw [form hm] at F₁
    k_steps
    have hDm : (Dn, W.listOf its c) ∈ own ++ [(Dn, W.listOf its c)] := by simp
    have hDo := N₁ _ hDm
    have hsz : its.size = 5 := by rw [← Array.length_toList, iM.length, hlen]
    have hf : (i : Int).fmod 5 = ((i % 5 : Nat) : Int) := by rw [Int.fmod_eq_emod_of_nonneg _ (by decide)]; omega
    rw [hf]
    have hj : i % 5 < 5 := Nat.mod_lt _ (by decide)
    have hk5 : k.fmod ((10 : Int) ^ 6) = k % 1000000 := Int.fmod_eq_emod_of_nonneg _ (by decide)
    refine ki_setAt hDo.1 (by omega) (by omega) (by rw [hsz]; omega) ?_
    have ne1 : ∀ p ∈ own, p.1 ≠ Dn := fun p hp => by
      have hx : Dn ∈ List.map (·.1) [(Dn, W.listOf its c)] := by simp
      rw [ha] at hx
      obtain ⟨q, hq, e2⟩ := List.mem_map.mp hx
      exact e2 ▸ hsep p hp q hq
    k_steps
    refine LoopStep2.intro (F₁.change (Heap.SameBut.update ..) hDo.2.1 hDo.2.2) (ki_turn _ (pre := own) (post := []) N₁ ne1 (fun p hp => nomatch hp) rfl rfl) rfl ⟨Dn, _, _, ms.set (i % 5) (ms.getD (i % 5) 0 + k % 1000000), rfl, rfl, ?_, ?_, ?_⟩
    · rw [Array.toList_setIfInBounds, ← hk5]
      exact ints_set _ _ _ iM
    · rw [List.length_set, hlen]
    · intro n hnm
      rcases List.mem_or_eq_of_mem_set hnm with h1 | rfl
      · have := hb n h1
        constructor
        · exact this.1
        · push_cast
          omega
      · have h2 := hb (ms.getD (i % 5) 0) (by
          simp [List.getD, List.getElem?_eq_getElem (show i % 5 < ms.length by omega)])
        push_cast
        omega
  · rintro hp tk m' n1 F' N' ha ⟨Dn, its, c, ms, hm, rfl, iM, hlen, hb⟩
    rw [form hm] at F'
    k_steps
    have hDo := N' _ (.head _)
    refine h hp Dn its c _ ms (fun b o e => F'.keep b o e) hDo.1 iM hlen (fun n hn1 => ?_) hDo.2.2
    have := hb n hn1
    have hl : (List.take 63 ns).length ≤ 63 := by simp; omega
    omega
end
end Mine
end

-- part T1
section
open PySem PySem.W PyProof.Rows PySem.Calls
set_option Elab.async false
set_option maxRecDepth 100000
set_option maxHeartbeats 0
set_option linter.unusedVariables false
namespace Mine
namespace FS
theorem slot_bytes_rjust : Slot "bytes" "rjust" "bytes.rjust" :=
  .of (owner := "bytes") (n := "rjust") (by rw [typeLookup_type, builtinLookup_eq_fast]; kernel_rfl) (by decide +kernel) (by decide +kernel) (by decide +kernel)
    (by first | exact .inl (by decide +kernel) | exact .inr (by decide +kernel)) (by rw [isSubtype_type]; kernel_rfl)
theorem type_bytes_rjust : typeOf (.builtin "bytes.rjust") = pure (.type "method_descriptor") := by show builtinType _ = _; rw [builtinType_eq_fast]; kernel_rfl
theorem entry_bytes_rjust : entryFor table "bytes.rjust" = some Builtin.«bytes.rjust» := entryFor_of_tree (by kernel_rfl)
theorem args_bytes_rjust_3 (a b c : Value) : argsOk "bytes.rjust" ⟨[a, b, c], []⟩ := by unfold argsOk; kernel_rfl
end FS
section
variable {prog : Program} {w : World} {A : Around} {E : Value → Shared → Prop} {s : Shared}
theorem rjust_eq (b : Array UInt8) (i : Int) (c : UInt8) (t u v : Tok) : Builtin.«bytes.rjust» ⟨[.bytes b t, .int i u, .bytes #[c] v], []⟩ =
    (Builtin.Bytes.countArg "bytes.rjust" (.int i u) >>= fun width =>
      if width ≤ b.size then (do rule "bytes.rjust.unchanged"; ret (.bytes b t))
      else do
        if Builtin.Bytes.tooLong width.toNat then unsupported "bytes.rjust:memory"
        ret (← Builtin.Bytes.Kind.bytes.new (Array.replicate (width.toNat - b.size) c ++ b ++ Array.replicate (width.toNat - b.size - (width.toNat - b.size)) c))) := by
  kernel_rfl
theorem meets_rjust (b : Array UInt8) (n : Nat) (i : Int) (hi : i = (n : Int)) (c : UInt8) (t u v : Tok) (hn : n ≤ 1000) (hb : b.size ≤ n) : Meets (Builtin.«bytes.rjust» ⟨[.bytes b t, .int i u, .bytes #[c] v], []⟩) (fun _ R s => ∀ t' k, R (.ok (.ret (.bytes (Array.replicate (n - b.size) c ++ b) t'))) { s with toks := k }) := by
  rw [rjust_eq]
  refine Meets.of_wp ?_
  intro prog w A R s h
  obtain ⟨hp_, gs, dr, tks, os⟩ := s
  have fits : Builtin.Bytes.fitsIndex i = true := by
    unfold Builtin.Bytes.fitsIndex
    simp only [Bool.and_eq_true, decide_eq_true_eq]; omega
  have e0 : ∀ id, Builtin.Bytes.countArg id (.int i u) = pure i := fun id => by
    unfold Builtin.Bytes.countArg
    have e1 : asIndex (.int i u) = pure i := rfl
    rw [e1]
    simp only [pure_bind, fits, Bool.not_true, Bool.false_eq_true, if_false]
  rw [e0, pure_bind]
  have hin : i.toNat = n := by omega
  rw [hin]
  by_cases e : b.size = n
  · rw [if_pos (by omega)]
    refine wpAny_bind (wpAny_rule ?_)
    refine wpAny_pure ⟨_, rfl, ?_⟩
    have := h t tks
    rw [e, Nat.sub_self] at this
    simpa using this
  · rw [if_neg (by omega)]
    have htl : Builtin.Bytes.tooLong n = false := by
      unfold Builtin.Bytes.tooLong
      rw [sizeLine_eq]; simp; omega
    rw [htl, Nat.sub_self]
    simp only [Bool.false_eq_true, if_false]
    refine wpAny_bind ?_
    show wpAny _ _ (mkBytes _) _ _ _
    refine wpAny_mkBytes (hb := by rw [sizeLine_eq]; simp; omega) ?_
    refine wpAny_pure ⟨_, rfl, ?_⟩
    have := h tks (tks + 1)
    simpa using this
theorem rjust_bytes {b : Array UInt8} {n : Nat} {i : Int} {c : UInt8} {t u v : Tok} {Q : Value → Shared → Prop} (hi : i = (n : Int)) (hn : n ≤ 1000) (hb : b.size ≤ n) (h : ∀ t' k, Q (.bytes (Array.replicate (n - b.size) c ++ b) t') { s with toks := k }) : wpAny (model prog w) A (call (.builtin "bytes.rjust") [.bytes b t, .int i u, .bytes #[c] v]) Q E s := by
  have M := meets_rjust b n i hi c t u v hn hb
  generalize Array.replicate (n - b.size) c ++ b = z at M h
  exact call_meets FS.slot_bytes_rjust (type_bytes _ _ _) FS.entry_bytes_rjust (FS.args_bytes_rjust_3 _ _ _) M h
end
end Mine
end

-- part Z0
section
open PySem PySem.W PyProof.Rows PySem.Calls
set_option Elab.async false
set_option maxRecDepth 100000
set_option maxHeartbeats 0
set_option linter.unusedVariables false
namespace Mine
noncomputable def lawFd (w : World) : FuncData := match (Kf w).lookup 197 with
  | some ⟨_, _, .func fd, _⟩ => fd
  | _ => default
noncomputable def lawB (w : World) : List Stmt := match (lawFd w).body with | .stmts b => b | _ => []
noncomputable def lawFor (w : World) (k : Nat) : List Stmt := match (lawB w)[k]? with | some (.For _ _ b _ _) => b | _ => []
noncomputable def lawEnv (w : World) (L : Addr) : Env := envOf (Str.ofString "law") (lawFd w).scope L 197 (.ref 196)
/-- the ring, its dict, the table of codes: the ledger's end -/
abbrev led (x d : Addr) (its : Array Value) (c n : Nat) (es : List DictEntry) (ps : Array Value) : List (Addr × Obj) := [(x, ringO d its c), (d, dictOf es n), (106, tabObj ps)]
def plainO (o : Obj) : Prop := o.cls = .type "list" ∨ o.cls = .type "tuple" ∨ o.cls = .type "list_iterator" ∨ o.cls = .type "range_iterator" ∨ o.cls = .type "range" ∨ o.cls = .type "slice"
section
variable {w : World} {B h h' : Heap} {L x d : Addr} {m : Str → Option Value} {its its' : Array Value} {c n : Nat} {es : List DictEntry} {ps : Array Value} {pre news : List (Addr × Obj)}
theorem xd_ne (hx : h.get? x = some (ringO d its c)) (hd : h.get? d = some (dictOf es n)) : x ≠ d := by
  rintro rfl
  rw [hx] at hd; cases hd
theorem rg_of (F : Fr B L h m) (N : News B L h news) (hx : (x, ringO d its c) ∈ news) (hd : (d, dictOf es n) ∈ news) (he : initEs es) : Rg B h x d its :=
  ⟨F.keep, Nat.le_of_lt (Nat.lt_of_le_of_lt F.above F.ns.lt), (N _ hx).2.2, (N _ hd).2.2, xd_ne (N _ hx).1 (N _ hd).1, ⟨c, (N _ hx).1⟩, ⟨es, n, (N _ hd).1, he⟩⟩
theorem plain_ne {p : Addr × Obj} (hp : h.get? p.1 = some p.2) (ho : plainO p.2) (hx : h.get? x = some (ringO d its c)) (hd : h.get? d = some (dictOf es n)) : p.1 ≠ x ∧ p.1 ≠ d := by
  obtain ⟨a, o⟩ := p
  constructor
  · rintro rfl
    rw [hx] at hp
    cases hp
    rcases ho with h | h | h | h | h | h <;> cases h
  · rintro rfl
    rw [hd] at hp
    have e : o = dictOf es n := (Option.some.inj hp).symm
    subst e
    rcases ho with h | h | h | h | h | h <;> exact absurd (Value.type.inj h) (by decide)
/-- behind a call of the ring's -/
theorem led_ring (F : Fr B L h m) (N : News B L h (pre ++ led x d its c n es ps)) (hpre : ∀ p ∈ pre, plainO p.2) (b : But2 x d h h') (r : Rg B h' x d its') :
    Fr B L h' m ∧ ∃ c' n' es', initEs es' ∧ News B L h' (pre ++ led x d its' c' n' es' ps) := by
  have hx := N (x, ringO d its c) (by simp)
  have hd := N (d, dictOf es n) (by simp)
  have ht := N (106, tabObj ps) (by simp)
  obtain ⟨c', hx'⟩ := r.at_
  obtain ⟨es', n', hd', he'⟩ := r.dict
  refine ⟨⟨F.ns.at' fun o e => b L o (Ne.symm hx.2.1) (Ne.symm hd.2.1) e, r.keep, F.above⟩, c', n', es', he', fun p hp => ?_⟩
  rcases List.mem_append.mp hp with hp | hp
  · have hq := N p (List.mem_append_left _ hp)
    have := plain_ne hq.1 (hpre p hp) hx.1 hd.1
    exact ⟨b _ _ this.1 this.2 hq.1, hq.2⟩
  · rcases List.mem_cons.mp hp with rfl | hp
    · exact ⟨hx', hx.2⟩
    rcases List.mem_cons.mp hp with rfl | hp
    · exact ⟨hd', hd.2⟩
    rw [List.mem_singleton.mp hp]
    refine ⟨b _ _ ?_ ?_ ht.1, ht.2⟩
    · rintro rfl
      rw [hx.1] at ht; cases ht.1
    · rintro rfl
      have := hd.1.symm.trans ht.1
      cases this
end
def TopAt (w : World) (mg mb : Str → Option Value) (B : Heap) : Prop := (Kf w).In B ∧ TopRead hd.view_39 loose mg mb B
section
variable {w : World} {A : Around} {E : Value → Shared → Prop} {s : Shared} {mg mb : Str → Option Value}
local macro_rules | `(tactic| walk_at "eval Name") => `(tactic| (k_dflt (refine' name_K ?F ?X ?T ?e ?_; (case F => k_asm); (case X => k_asm); (case T => k_asm); (case e => first | exact nm_quoted | exact nm_paren_depth | exact nm_twin_re_1 | exact nm_twin_re_2 | exact nm_law_numbers | exact nm_Accumulator | exact nm_law_sent | exact nm_byteswap | exact nm_Int2AP | exact nm_law_number_of_depths | exact nm_quote_periods | exact nm_fix_eols | exact nm_CRLF); k_whole)))
local macro_rules | `(tactic| walk_at "eval Name") => `(tactic| (k_dflt (refine' name_B ?F ?X ?T ?e ?v ?n ?_; (case F => k_asm); (case X => k_asm); (case T => k_asm); (case e => first | exact nb_enumerate | exact nb_range | exact nb_bytearray | exact nb_len | exact nb_bytes | exact nb_sum | exact nb_str | exact nb_int | exact nb_abs | exact nb_divmod | exact nb_super); (case v => boot_by_name); (case n => decide); k_whole)))
local macro_rules | `(tactic| walk_at "getMethod ref") => `(tactic| (k_dflt (refine' get_subK ?F ?X ?e ?_; (case F => k_asm); (case X => k_asm); (case e => first | exact pat145 | exact pat150 | exact pat43); k_whole)))
local macro_rules | `(tactic| walk_at "callWith ref") => `(tactic| (k_dflt (first
  | (refine' callWith_K ?k1 ?k2 ?_; (case k1 => k_asm); (case k2 => rfl); k_whole)
  | (refine' callWith_K0 ?k1 ?k2 ?_; (case k1 => k_in); (case k2 => rfl); k_whole))))

def endS (e : Nat) : Str := if e = 0 then Str.ofString "\n" else if e = 1 then Str.ofString "\r" else Str.ofString "\r\n"
theorem end_item (t0 t1 t2 : Tok) : ∀ e, e < 3 → ∃ t, (#[Value.str (Str.ofString "\n") t0, .str (Str.ofString "\r") t1, .str (Str.ofString "\r\n") t2] : Array Value)[e]? = some (.str (endS e) t)
  | 0, _ => ⟨_, rfl⟩
  | 1, _ => ⟨_, rfl⟩
  | 2, _ => ⟨_, rfl⟩
theorem tail_strs {prog : Program} {value slice : Expr} {l : Addr} {its : Array Value} {c : Nat} {i : Int} {k : Nat} {u : Tok} {y : Str} {Q : Value → Shared → Prop} (hl : s.heap.get? l = some (listOf its c)) (hi : i = k) (hk : k < 2 ^ 62) (hx : ∃ t, its[k]? = some (.str y t)) (h : ∀ t, Q (.str y t) s)
    (hs : subscripted slice false (.ref l) (.int i u) = operate [.ref l, .int i u] (getItem (.ref l) (.int i u)) := by with_unfolding_all rfl) : wpAny (model prog w) A (subscriptTail value slice (.ref l) (.int i u)) Q E s := by
  have hL : s.heap.IsList l its := ⟨_, hl, rfl, c, rfl⟩
  obtain ⟨t, hx⟩ := hx
  exact tail_any hL.typeIs slot_list_getitem.lookup (wpAny_getItem_list hL (by omega) (by omega) (by rw [hi, Int.toNat_natCast]; exact hx) (h t)) hs
theorem div3 (k : Nat) : (k : Int).fdiv 3 = ((k / 3 : Nat) : Int) := by rw [Int.fdiv_eq_ediv_of_nonneg _ (by omega)]; omega
theorem mod3 (k : Nat) : (k : Int).fmod 3 = ((k % 3 : Nat) : Int) := by rw [Int.fmod_eq_emod_of_nonneg _ (by omega)]; omega
section
variable {M : Model} {env : Env}
theorem Expr_h {e : Expr} {pos : Pos} {Q : Flow → Shared → Prop} (h : wpAny M A (eval e env) (fun v s' => v = .none ∧ Q .next s') E s) (hi : interactive env = false := by rfl) (hs : swapsWith e none pos.line env = pure false := by rfl) :
    wpAny M A (exec (.Expr e pos) env) Q E s := by
  refine wpAny_Expr ?_ hi hs
  refine wpAny_mono h (fun v s' hv => ?_) fun _ _ x => x
  obtain ⟨rfl, q⟩ := hv
  exact q
theorem Meth_h {o : Expr} {name : Str} {apos pos : Pos} {args : List Expr} {pl : Sem Bool} {Q : Value → Shared → Prop}
    (h : wpAny M A (eval o env) (fun ov s₁ => Hold (wpAny M A (getMethod ov name pl) (fun fx s₂ => wpAny M A (callWith pos fx.1 fx.2 (backTo pos (starEach args env)) []) Q E s₂) E s₁)) E s)
    (he : eval (.Call (.Attribute o name apos) args [] pos) env = (do
      let ov ← eval o env
      standAt apos.atName
      let (f, first) ← holding [ov] (getMethod ov name pl)
      callWith pos f first (backTo pos (starEach args env)) []) := by rfl) :
    wpAny M A (eval (.Call (.Attribute o name apos) args [] pos) env) Q E s := MethodCall_ h he
theorem callK_h {K : Frag} {h₀ : Heap} {f : Value} {pos : Pos} {first : List Value} {e : Expr} {rest : List Expr} {Q : Value → Shared → Prop} (X : K.In h₀) (hk : keepIn K f = true) (h : wpAny M A (spliced (backTo pos (starEach (e :: rest) env))) (fun vs s₁ => Hold (K.In s₁.heap ∧ wpAny M A (call f (first ++ vs)) Q E s₁)) E s)
    (he : starEach (e :: rest) env = (false, eval e env) :: starEach rest env := by rfl) (hplain : (backTo pos (starEach rest env)).any (·.1) = false := by rfl) :
    wpAny M A (callWith pos f first (backTo pos (starEach (e :: rest) env)) []) Q E s := callWith_K X hk h he hplain
theorem callB_h {pos : Pos} {id : String} {first : List Value} {e : Expr} {rest : List Expr} {Q : Value → Shared → Prop}
    (h : wpAny M A (spliced (backTo pos (starEach (e :: rest) env))) (fun vs s₁ => Hold (wpAny M A (call (.builtin id) (first ++ vs)) Q E s₁)) E s)
    (he : starEach (e :: rest) env = (false, eval e env) :: starEach rest env := by rfl)
    (hplain : (backTo pos (starEach rest env)).any (·.1) = false := by rfl) :
    wpAny M A (callWith pos (.builtin id) first (backTo pos (starEach (e :: rest) env)) []) Q E s := callWith_method1 h he hplain
end
end
end Mine
end

-- part Z0t
section
open PySem PySem.W PyProof.Rows PySem.Calls
set_option Elab.async false
set_option maxRecDepth 100000
set_option maxHeartbeats 0
set_option linter.unusedVariables false
namespace Mine
section
variable {w : World} {A : Around} {E : Value → Shared → Prop} {s : Shared} {mg mb : Str → Option Value}
local macro_rules | `(tactic| walk_at "eval Name") => `(tactic| (k_dflt (refine' name_K ?F ?X ?T ?e ?_; (case F => k_asm); (case X => k_asm); (case T => k_asm); (case e => first | exact nm_quoted | exact nm_paren_depth | exact nm_twin_re_1 | exact nm_twin_re_2 | exact nm_law_numbers | exact nm_Accumulator | exact nm_law_sent | exact nm_byteswap | exact nm_Int2AP | exact nm_law_number_of_depths | exact nm_quote_periods | exact nm_fix_eols | exact nm_CRLF); k_whole)))
local macro_rules | `(tactic| walk_at "eval Name") => `(tactic| (k_dflt (refine' name_B ?F ?X ?T ?e ?v ?n ?_; (case F => k_asm); (case X => k_asm); (case T => k_asm); (case e => first | exact nb_enumerate | exact nb_range | exact nb_bytearray | exact nb_len | exact nb_bytes | exact nb_sum | exact nb_str | exact nb_int | exact nb_abs | exact nb_divmod | exact nb_super); (case v => boot_by_name); (case n => decide); k_whole)))
local macro_rules | `(tactic| walk_at "getMethod ref") => `(tactic| (k_dflt (refine' get_subK ?F ?X ?e ?_; (case F => k_asm); (case X => k_asm); (case e => first | exact pat145 | exact pat150 | exact pat43); k_whole)))
local macro_rules | `(tactic| walk_at "callWith ref") => `(tactic| (k_dflt (first
  | (refine' callWith_K ?k1 ?k2 ?_; (case k1 => k_asm); (case k2 => rfl); k_whole)
  | (refine' callWith_K0 ?k1 ?k2 ?_; (case k1 => k_in); (case k2 => rfl); k_whole))))


def dtS (g : Nat) : Str := ⟨(List.replicate g 46).toArray⟩
def dqS (g : Nat) : Str := ⟨(List.replicate g 46 ++ [34]).toArray⟩
def rowS (e : Str) (g : Nat) : Str := ⟨(e.cps.toList ++ (List.replicate g 46 ++ [34])).toArray⟩
def dotZ (g tm : Nat) : Nat := if g = 0 then 0 else g + tm
def outE (tm e : Nat) : Str := if tm = 0 then endS e else Str.ofString "\r\n"
theorem str_ext {x y : Str} (h : x.cps.toList = y.cps.toList) : x = y := by
  cases x; cases y
  simp only at h
  rw [Array.toList_inj.mp h]
theorem rep_fold : ∀ (g : Nat) (acc : Array Nat), (List.replicate g (#[46] : Array Nat)).foldl (· ++ ·) acc = acc ++ (List.replicate g 46).toArray
  | 0, acc => by simp
  | g + 1, acc => by
    rw [List.replicate_succ, List.foldl_cons, rep_fold g, List.replicate_succ]
    apply Array.toList_inj.mp
    simp
theorem dq_add (g : Nat) : dtS g ++ Str.ofString "\"" = dqS g := by
  refine str_ext ?_
  show ((List.replicate g 46).toArray ++ (Str.ofString "\"").cps).toList = _
  rw [show (Str.ofString "\"").cps = #[34] from by decide]
  simp [dqS]
theorem row_add (e : Str) (g : Nat) : (e ++ dtS g) ++ Str.ofString "\"" = rowS e g := by
  refine str_ext ?_
  show ((e.cps ++ (List.replicate g 46).toArray) ++ (Str.ofString "\"").cps).toList = _
  rw [show (Str.ofString "\"").cps = #[34] from by decide]
  simp [rowS]
theorem endS_len (e : Nat) : (endS e).length ≤ 2 := by
  unfold endS; split
  · decide
  · split <;> decide
theorem outE_len (tm e : Nat) : (outE tm e).length ≤ 2 := by
  unfold outE; split
  · exact endS_len e
  · decide
theorem dtS_len (g : Nat) : (dtS g).length = g := by show (List.replicate g 46).toArray.size = g; simp
theorem q_len : (Str.ofString "\"").length = 1 := by decide
theorem dots_mul {prog : Program} {i : Int} {g : Nat} {t u : Tok} {Q : Value → Shared → Prop} (hi : i = g) (hg : g ≤ 1000) (h : ∀ t' k, Q (.str (dtS g) t') { s with toks := k }) : wpAny (model prog w) A (binaryOp .Mult (.str (Str.ofString ".") t) (.int i u)) Q E s := by
  have e : Txt.mul (Str.ofString ".") i = dtS g := by
    subst hi
    unfold Txt.mul
    by_cases h1 : (g : Int) < 1
    · rw [if_pos h1]
      have : g = 0 := by omega
      subst this; rfl
    · rw [if_neg h1]
      by_cases h2 : g = 1
      · subst h2; rfl
      · rw [if_neg (by
          have h3 : ((g : Int) == 1) = false := by simp; omega
          rw [h3]; decide)]
        rw [Int.toNat_natCast, show (Str.ofString ".").cps = #[46] from by decide, rep_fold]
        exact str_ext (by simp [dtS])
  have hok : MulOk (Str.ofString ".") i := by
    subst hi
    have hl : (Str.ofString ".").length = 1 := by decide
    refine ⟨by simp; omega, fun h1 h2 => ?_, fun h1 h2 => ?_⟩
    · rw [hl]
      have : (2 ^ 63 - 1) / (g : Int) ≥ 1 := by
        rw [ge_iff_le, Int.le_ediv_iff_mul_le (by omega)]
        omega
      omega
    · first
        | (rw [hl]; unfold Builtin.Str.tooLong; rw [sizeLine_eq]; simp; omega)
        | (unfold tooLong; rw [hl, sizeLine_eq]; simp; omega)
        | (simp [hl, sizeLine_eq]; omega)
  refine SB.mul hok fun t' k => ?_
  rw [e]
  exact h t' k
theorem add_dq {prog : Program} {g : Nat} {t u : Tok} {Q : Value → Shared → Prop} (hg : g ≤ 1000) (h : ∀ t' k, Q (.str (dqS g) t') { s with toks := k }) : wpAny (model prog w) A (binaryOp .Add (.str (dtS g) t) (.str (Str.ofString "\"") u)) Q E s := by
  have e := dq_add g
  generalize hz : dtS g ++ Str.ofString "\"" = z at e
  subst e
  exact PyProof.Rows.add_str (fun t' k => hz ▸ h t' k) (by rw [dtS_len, q_len, sizeLine_eq]; omega)
theorem add_row {prog : Program} {e : Str} {g : Nat} {t u : Tok} {Q : Value → Shared → Prop} (hg : g ≤ 1000) (he : e.length ≤ 1000) (h : ∀ t' k, Q (.str (rowS e g) t') { s with toks := k }) : wpAny (model prog w) A (binaryOp .Add (.str (e ++ dtS g) t) (.str (Str.ofString "\"") u)) Q E s := by
  have e1 := row_add e g
  generalize hz : e ++ dtS g ++ Str.ofString "\"" = z at e1
  subst e1
  have hl : (e ++ dtS g).length = e.length + g := by
    show (e.cps ++ (List.replicate g 46).toArray).size = e.cps.size + g
    simp
  exact PyProof.Rows.add_str (fun t' k => hz ▸ h t' k) (by rw [hl, q_len, sizeLine_eq]; omega)
end
end Mine
end

-- part Z1b
section
open PySem PySem.W PyProof.Rows PySem.Calls
set_option Elab.async false
set_option maxRecDepth 100000
set_option maxHeartbeats 0
set_option linter.unusedVariables false
namespace Mine
section
variable {w : World} {A : Around} {E : Value → Shared → Prop} {s : Shared} {mg mb : Str → Option Value}
local macro_rules | `(tactic| walk_at "eval Name") => `(tactic| (k_dflt (refine' name_K ?F ?X ?T ?e ?_; (case F => k_asm); (case X => k_asm); (case T => k_asm); (case e => first | exact nm_quoted | exact nm_paren_depth | exact nm_twin_re_1 | exact nm_twin_re_2 | exact nm_law_numbers | exact nm_Accumulator | exact nm_law_sent | exact nm_byteswap | exact nm_Int2AP | exact nm_law_number_of_depths | exact nm_quote_periods | exact nm_fix_eols | exact nm_CRLF); k_whole)))
local macro_rules | `(tactic| walk_at "eval Name") => `(tactic| (k_dflt (refine' name_B ?F ?X ?T ?e ?v ?n ?_; (case F => k_asm); (case X => k_asm); (case T => k_asm); (case e => first | exact nb_enumerate | exact nb_range | exact nb_bytearray | exact nb_len | exact nb_bytes | exact nb_sum | exact nb_str | exact nb_int | exact nb_abs | exact nb_divmod | exact nb_super); (case v => boot_by_name); (case n => decide); k_whole)))
local macro_rules | `(tactic| walk_at "getMethod ref") => `(tactic| (k_dflt (refine' get_subK ?F ?X ?e ?_; (case F => k_asm); (case X => k_asm); (case e => first | exact pat145 | exact pat150 | exact pat43); k_whole)))
local macro_rules | `(tactic| walk_at "callWith ref") => `(tactic| (k_dflt (first
  | (refine' callWith_K ?k1 ?k2 ?_; (case k1 => k_asm); (case k2 => rfl); k_whole)
  | (refine' callWith_K0 ?k1 ?k2 ?_; (case k1 => k_in); (case k2 => rfl); k_whole))))


theorem news_up {B h : Heap} {L : Addr} {q : Addr × Obj} {news : List (Addr × Obj)} (N : News B L h news) (hq : h.get? q.1 = some q.2) (hL : q.1 ≠ L) (hB : B.get? q.1 = none) : News B L h (q :: news) := fun p hp => by
  rcases List.mem_cons.mp hp with rfl | hp
  · exact ⟨hq, hL, hB⟩
  · exact N p hp
theorem none_of {B h : Heap} {T : Addr} (k : Grow B h) (hn : h.get? T = none) : B.get? T = none := by
  cases e : B.get? T with
  | none => rfl
  | some o => rw [k _ _ e] at hn; cases hn
/-- behind a call of the ring's -/
theorem led_ring2 {B h h' : Heap} {L x d : Addr} {m : Str → Option Value} {its its' : Array Value} {c n : Nat} {es : List DictEntry} {ps : Array Value} {news : List (Addr × Obj)} (F : Fr B L h m) (N : News B L h news) (hx0 : (x, ringO d its c) ∈ news) (hd0 : (d, dictOf es n) ∈ news) (ht0 : (106, tabObj ps) ∈ news) (b : But2 x d h h') (r : Rg B h' x d its') :
    Fr B L h' m ∧ ∃ c' n' es', initEs es' ∧ ∀ pre, (∀ p ∈ pre, p ∈ news ∧ plainO p.2) → News B L h' (pre ++ led x d its' c' n' es' ps) := by
  have hx := N _ hx0
  have hd := N _ hd0
  have ht := N _ ht0
  obtain ⟨F', c', n', es', he', N'⟩ := led_ring (pre := []) F (fun p hp => N p (by
    rcases List.mem_cons.mp hp with rfl | hp
    · exact hx0
    rcases List.mem_cons.mp hp with rfl | hp
    · exact hd0
    rw [List.mem_singleton.mp hp]; exact ht0)) (fun p hp => nomatch hp) b r
  refine ⟨F', c', n', es', he', fun pre hpre p hp => ?_⟩
  rcases List.mem_append.mp hp with hp | hp
  · obtain ⟨h1, h2⟩ := hpre p hp
    have hq := N p h1
    have := plain_ne hq.1 h2 hx.1 hd.1
    exact ⟨b _ _ this.1 this.2 hq.1, hq.2⟩
  · exact N' p hp

/-- evaluates to y, with new tokens alone -/
def Evs (M : Model) (A : Around) (E : Value → Shared → Prop) (t : Sem Value) (y : Tok → Value) (s : Shared) : Prop := ∀ Q : Value → Shared → Prop, (∀ t' k', Q (y t') { s with toks := k' }) → wpAny M A t Q E s
theorem evs {M : Model} {t : Sem Value} {Q : Value → Shared → Prop} (y : Tok → Value) (h1 : Evs M A E t y s) (h2 : ∀ t' k', Q (y t') { s with toks := k' }) : wpAny M A t Q E s := h1 Q h2
theorem tail_last {prog : Program} {value slice : Expr} {l : Addr} {its : Array Value} {c : Nat} {u : Tok} {v : Value} {Q : Value → Shared → Prop} (hl : s.heap.get? l = some (listOf (its.push v) c)) (hz : its.size < 1000) (h : Q v s)
    (hs : subscripted slice false (.ref l) (.int (-1) u) = operate [.ref l, .int (-1) u] (getItem (.ref l) (.int (-1) u)) := by with_unfolding_all rfl) : wpAny (model prog w) A (subscriptTail value slice (.ref l) (.int (-1) u)) Q E s := by
  have hL : s.heap.IsList l (its.push v) := ⟨_, hl, rfl, c, rfl⟩
  refine tail_any hL.typeIs slot_list_getitem.lookup (wpAny_getItem_list_neg hL (by decide) (by rw [Array.size_push]; omega) (by decide) ?_ h) hs
  rw [show ((-1 : Int) + ((its.push v).size : Int)).toNat = its.size from by rw [Array.size_push]; omega]
  exact Array.getElem?_push_size
theorem ite_t {c : Bool} {P R : Prop} (hc : c = true) (h : P) : if c = true then P else R := by rw [if_pos hc]; exact h
theorem ite_f {c : Bool} {P R : Prop} (hc : c = false) (h : R) : if c = true then P else R := by rw [hc]; exact h
theorem turn1b {body : List Stmt} {env : Env} {B : Heap} {L R D : Addr} {rws dts : Array Value} {c1 c2 : Nat} {news : List (Addr × Obj)} {m1 : Str → Option Value} {k tm : Nat} {tk tt te : Tok} {Q : Flow → Shared → Prop}
    (hX : (Kf w).In B) (hT : TopRead hd.view_39 loose mg mb B) (hh : A.handled = none)
    (F : Fr B L s.heap m1) (N : News B L s.heap news) (hR : (R, listOf rws c1) ∈ news) (hD : (D, listOf dts c2) ∈ news)
    (hRD : R ≠ D) (z2 : rws.size < 100) (z3 : dts.size < 100) (htm : tm ≤ 10)
    (e0 : m1 (Str.ofString "n") = some (.int k tk)) (e1 : m1 (Str.ofString "times") = some (.int tm tt)) (e2 : m1 (Str.ofString "end") = some (.str (endS (k / 3 % 3)) te)) (e3 : m1 (Str.ofString "dots") = some (.ref D)) (e4 : m1 (Str.ofString "rows") = some (.ref R)) 
    (h : ∀ h' k' t1 t2, Fr B L h' m1 → (∀ b o, b ≠ R → b ≠ D → s.heap.get? b = some o → h'.get? b = some o) → h'.get? R = some (listOf (rws.push (.str (rowS (outE tm (k / 3 % 3)) (dotZ (k % 3) tm)) t1)) (c1 + 1)) → h'.get? D = some (listOf (dts.push (.int (dotZ (k % 3) tm : Nat) t2)) (c2 + 1)) → Q .next { s with heap := h', toks := k' })
    (hbody : body = (lawFor w 6).drop 2) (henv : env = lawEnv w L) :
    wpAny (model prg w) A (execs body env) Q E s := by
  subst hbody henv
  conv in (lawFor w 6).drop 2 => whnf
  unfold lawEnv
  conv in (lawFd w).scope => whnf
  refine execs_hold ?_
  refine Expr_h ?_
  refine Meth_h ?_
  refine ld F e3 ?_
  refine unhold ?_
  refine listMethod_K N hD PySem.F.slot_list_append PySem.F.type_list_append ?_
  refine callB_h ?_
  refine spliced_cons ?_
  refine evs (fun t => .int (dotZ (k % 3) tm : Nat) t) ?_ fun t5 k5 => ?_
  · intro Q' hq
    refine wpAny_IfExp (pos := ⟨0, 0, 0, 0⟩) ?_
    refine isTrue_plain ?_
    refine wpAny_BinOp ?_
    refine ld F e0 ?_
    refine wpAny_Constant_int ?_
    refine mod_int' (by decide) ?_
    refine PyProof.Rows.truthy_int ?_
    by_cases hg : k % 3 = 0
    · refine ite_f (by rw [mod3, hg]; rfl) ?_
      refine wpAny_Constant_int ?_
      have e : dotZ (k % 3) tm = 0 := by unfold dotZ; rw [if_pos hg]
      rw [e] at hq
      exact hq _ _
    · refine ite_t (by rw [mod3]; simp; omega) ?_
      refine wpAny_BinOp ?_
      refine wpAny_BinOp ?_
      refine ld F e0 ?_
      refine wpAny_Constant_int ?_
      refine mod_int' (by decide) ?_
      refine ld F e1 ?_
      refine add_int ?_
      have e : dotZ (k % 3) tm = k % 3 + tm := by unfold dotZ; rw [if_neg hg]
      rw [e, Int.natCast_add, ← mod3] at hq
      exact hq _ _
  refine spliced_nil ?_
  refine unhold ?_
  have hD0 := N _ hD
  have hR0 := N _ hR
  show wpAny _ _ (call (.builtin "list.append") [.ref D, _]) _ _ _
  refine append_at hD0.1 (fun h1 hs1 ho1 => ?_) (by rw [sizeLine_eq]; omega)
  have F1 := F.change hs1 hD0.2.1 hD0.2.2
  have hR1 := hs1.extBut R _ hRD hR0.1
  refine ⟨rfl, unhold ?_⟩
  refine execs_hold ?_
  refine Expr_h ?_
  refine Meth_h ?_
  refine ld F1 e4 ?_
  refine unhold ?_
  refine listMethod_K (news := [(R, listOf rws c1)]) (h₀ := B) (L := L) (fun p hp => by rw [List.mem_singleton.mp hp]; exact ⟨hR1, hR0.2⟩) (.head _) PySem.F.slot_list_append PySem.F.type_list_append ?_
  refine callB_h ?_
  refine spliced_cons ?_
  refine evs (fun t => .str (rowS (outE tm (k / 3 % 3)) (dotZ (k % 3) tm)) t) ?_ fun t6 k6 => ?_
  · intro Q' hq
    refine wpAny_BinOp ?_
    refine wpAny_BinOp ?_
    refine evs (fun t => .str (outE tm (k / 3 % 3)) t) ?_ fun t7 k7 => ?_
    · intro Q2 hq2
      refine wpAny_IfExp ?_
      refine isTrue_plain ?_
      refine ld F1 e1 ?_
      refine PyProof.Rows.truthy_int ?_
      by_cases hg : tm = 0
      · refine ite_f (by rw [hg]; rfl) ?_
        refine ld F1 e2 ?_
        have e : outE tm (k / 3 % 3) = endS (k / 3 % 3) := by unfold outE; rw [if_pos hg]
        rw [e] at hq2
        exact hq2 _ _
      · refine ite_t (by simp; omega) ?_
        refine wpAny_Constant_str ?_
        have e : outE tm (k / 3 % 3) = Str.ofString "\r\n" := by unfold outE; rw [if_neg hg]
        rw [e] at hq2
        exact hq2 _ _
    refine wpAny_BinOp ?_
    refine wpAny_Constant_str ?_
    refine Subscript_ ?_
    refine ld F1 e3 ?_
    refine wpAny_UnaryOp ?_
    refine wpAny_Constant_int ?_
    refine PyProof.Rows.neg_int ?_
    refine tail_last ho1 (by omega) ?_
    have hdz : dotZ (k % 3) tm ≤ 100 := by unfold dotZ; split <;> omega
    refine dots_mul (g := dotZ (k % 3) tm) rfl (by omega) fun t8 k8 => ?_
    have hol := outE_len tm (k / 3 % 3)
    refine PyProof.Rows.add_str (fun t9 k9 => ?_) (by rw [dtS_len, sizeLine_eq]; omega)
    refine wpAny_Constant_str ?_
    refine add_row (by omega) (by omega) fun t10 k10 => ?_
    exact hq _ _
  refine spliced_nil ?_
  refine unhold ?_
  show wpAny _ _ (call (.builtin "list.append") [.ref R, _]) _ _ _
  refine append_at hR1 (fun h2 hs2 ho2 => ?_) (by rw [sizeLine_eq]; omega)
  refine ⟨rfl, unhold ?_⟩
  refine wpAny_execs_nil ?_
  exact h h2 _ _ _ (F1.change hs2 hR0.2.1 hR0.2.2) (fun b o n1 n2 e => hs2.extBut b o n1 (hs1.extBut b o n2 e)) ho2 (hs2.extBut D _ (Ne.symm hRD) ho1)
end
end Mine
end

-- part Z1
section
open PySem PySem.W PyProof.Rows PySem.Calls
set_option Elab.async false
set_option maxRecDepth 100000
set_option maxHeartbeats 0
set_option linter.unusedVariables false
namespace Mine
section
variable {w : World} {A : Around} {E : Value → Shared → Prop} {s : Shared} {mg mb : Str → Option Value}
local macro_rules | `(tactic| walk_at "eval Name") => `(tactic| (k_dflt (refine' name_K ?F ?X ?T ?e ?_; (case F => k_asm); (case X => k_asm); (case T => k_asm); (case e => first | exact nm_quoted | exact nm_paren_depth | exact nm_twin_re_1 | exact nm_twin_re_2 | exact nm_law_numbers | exact nm_Accumulator | exact nm_law_sent | exact nm_byteswap | exact nm_Int2AP | exact nm_law_number_of_depths | exact nm_quote_periods | exact nm_fix_eols | exact nm_CRLF); k_whole)))
local macro_rules | `(tactic| walk_at "eval Name") => `(tactic| (k_dflt (refine' name_B ?F ?X ?T ?e ?v ?n ?_; (case F => k_asm); (case X => k_asm); (case T => k_asm); (case e => first | exact nb_enumerate | exact nb_range | exact nb_bytearray | exact nb_len | exact nb_bytes | exact nb_sum | exact nb_str | exact nb_int | exact nb_abs | exact nb_divmod | exact nb_super); (case v => boot_by_name); (case n => decide); k_whole)))
local macro_rules | `(tactic| walk_at "getMethod ref") => `(tactic| (k_dflt (refine' get_subK ?F ?X ?e ?_; (case F => k_asm); (case X => k_asm); (case e => first | exact pat145 | exact pat150 | exact pat43); k_whole)))
local macro_rules | `(tactic| walk_at "callWith ref") => `(tactic| (k_dflt (first
  | (refine' callWith_K ?k1 ?k2 ?_; (case k1 => k_asm); (case k2 => rfl); k_whole)
  | (refine' callWith_K0 ?k1 ?k2 ?_; (case k1 => k_in); (case k2 => rfl); k_whole))))

/-- what a turn makes of the ledger -/
theorem turn1 {body : List Stmt} {env : Env} {B : Heap} {L x d R D : Addr} {its rws dts : Array Value} {c n c1 c2 : Nat} {es : List DictEntry} {ps : Array Value} {pre : List (Addr × Obj)} {m1 : Str → Option Value} {k tm : Nat} {tk tt : Tok} {Q : Flow → Shared → Prop}
    (hX : (Kf w).In B) (hT : TopRead hd.view_39 loose mg mb B) (hh : A.handled = none) (hroom : A.depth < recursionLimit)
    (F : Fr B L s.heap m1) (N : News B L s.heap (pre ++ ((R, listOf rws c1) :: (D, listOf dts c2) :: led x d its c n es ps))) (hpre : ∀ p ∈ pre, plainO p.2) (hi : initEs es)
    (hRD : R ≠ D) (hpn : ∀ p ∈ pre, p.1 ≠ R ∧ p.1 ≠ D) (z1 : its.size < 100) (z2 : rws.size < 100) (z3 : dts.size < 100) (htm : tm ≤ 10) (hk : k ≤ 1000000000)
    (e0 : m1 (Str.ofString "n") = some (.int k tk)) (e1 : m1 (Str.ofString "times") = some (.int tm tt)) (e2 : m1 (Str.ofString "ring") = some (.ref x)) (e3 : m1 (Str.ofString "dots") = some (.ref D)) (e4 : m1 (Str.ofString "rows") = some (.ref R))
    (h : ∀ h' m' T o te tb t1 t2 k' c' n' es', Fr B L h' m' → (∀ y, y ≠ Str.ofString "end" → m' y = m1 y) → (∀ p ∈ pre, T ≠ p.1) → T ≠ R → T ≠ D → o.cls = .type "tuple" → (∃ nn, o.data = .seq #[.str (endS (k / 3 % 3)) te, .str (dqS (k % 3)) tb] nn) → initEs es' →
      News B L h' ((T, o) :: (pre ++ ((R, listOf (rws.push (.str (rowS (outE tm (k / 3 % 3)) (dotZ (k % 3) tm)) t1)) (c1 + 1)) :: (D, listOf (dts.push (.int (dotZ (k % 3) tm : Nat) t2)) (c2 + 1)) :: led x d (its.push (.ref T)) c' n' es' ps))) → Q .next { s with heap := h', toks := k' })
    (hbody : body = lawFor w 6) (henv : env = lawEnv w L) :
    wpAny (model prg w) A (execs body env) Q E s := by
  subst hbody henv
  have mR : ∀ {a b} {r : List (Addr × Obj)}, (R, a) ∈ pre ++ (R, a) :: b :: r := List.mem_append_right pre (.head _)
  have mD : ∀ {a b} {r : List (Addr × Obj)}, (D, b) ∈ pre ++ a :: (D, b) :: r := List.mem_append_right pre (.tail _ (.head _))
  have mx : ∀ {a b o} {r : List (Addr × Obj)}, (x, o) ∈ pre ++ a :: b :: (x, o) :: r := List.mem_append_right pre (.tail _ (.tail _ (.head _)))
  have md : ∀ {a b e o} {r : List (Addr × Obj)}, (d, o) ∈ pre ++ a :: b :: e :: (d, o) :: r := List.mem_append_right pre (.tail _ (.tail _ (.tail _ (.head _))))
  conv in lawFor w 6 => whnf
  unfold lawEnv
  conv in (lawFd w).scope => whnf
  refine execs_hold ?_
  refine wpAny_Assign_Name ?_
  refine Subscript_ ?_
  refine List_ ?_
  refine spliced_cons ?_
  refine wpAny_Constant_str (k := 0) (pos := ⟨0, 0, 0, 0⟩) ?_
  refine spliced_cons ?_
  refine wpAny_Constant_str (k := 0) (pos := ⟨0, 0, 0, 0⟩) ?_
  refine spliced_cons ?_
  refine wpAny_Constant_str (k := 0) (pos := ⟨0, 0, 0, 0⟩) ?_
  refine spliced_nil ?_
  refine newList_K (s := ⟨_, _, _, _, _⟩) F N (fun l h2 F2 N2 l2 => ?_) (by rw [sizeLine_eq]; show (3 : Nat) ≤ _; decide)
  refine wpAny_BinOp ?_
  refine wpAny_BinOp ?_
  refine ld F2 e0 ?_
  refine wpAny_Constant_int ?_
  refine floordiv_int (by decide) ?_ (.inl (PyProof.noPylong_small (by omega)))
  refine wpAny_Constant_int ?_
  refine mod_int' (by decide) ?_
  refine tail_strs (k := k / 3 % 3) (N2 _ (.head _)).1 (by rw [div3, mod3]) (by omega) (end_item _ _ _ _ (Nat.mod_lt _ (by decide))) fun te => ?_
  refine wpAny_storeName_local rfl F2.ns (fun h3 hn3 hs3 => ?_) rfl
  have F3 := F2.set hn3 hs3
  have N3 := News.tail' (News.set N2 hs3)
  clear N N2 F2 hn3 hs3
  refine unhold ?_
  have hx3 := N3 (x, ringO d its c) mx
  have hd3 := N3 (d, dictOf es n) md
  refine execs_hold ?_
  refine Expr_h ?_
  refine Meth_h ?_
  refine ld F3 e2 ?_
  refine unhold ?_
  refine ring_get (hX.keeps F3.keep) hx3.1 hd3.1 hi (by decide) (FR.f_push w) (looks_typeIn (hX.keeps F3.keep) (FR.t_82 w)) (by decide) ?_
  refine callK_h hX (by rfl) ?_
  refine spliced_cons ?_
  refine ld F3 rfl ?_
  refine spliced_cons ?_
  refine wpAny_BinOp ?_
  refine wpAny_BinOp ?_
  refine wpAny_Constant_str ?_
  refine wpAny_BinOp ?_
  refine ld F3 e0 ?_
  refine wpAny_Constant_int ?_
  refine mod_int' (by decide) ?_
  refine dots_mul (g := k % 3) (mod3 k) (by omega) fun t5 k5 => ?_
  refine wpAny_Constant_str ?_
  refine add_dq (by omega) fun t6 k6 => ?_
  refine spliced_nil ?_
  refine unhold ?_
  refine ⟨hX.keeps F3.keep, ?_⟩
  show wpAny _ _ (call (.ref 82) [.ref x, _, _]) _ _ _
  refine push_c (its := its) ⟨hX, hT⟩ (rg_of (x := x) (d := d) (c := c) (n := n) (es := es) F3 N3 mx md hi) (by exact hroom) (by omega) fun h7 T7 k7 b7 r7 tup7 fr7 => ?_
  have mt' : (106, tabObj ps) ∈ pre ++ (R, listOf rws c1) :: (D, listOf dts c2) :: led x d its c n es ps := List.mem_append_right pre (.tail _ (.tail _ (.tail _ (.tail _ (.head _)))))
  have nT : T7 ≠ L := fun e => by
    rw [e] at fr7
    obtain ⟨oL, _, _, hL, _⟩ := F3.ns
    rw [hL] at fr7; cases fr7
  have nB : B.get? T7 = none := none_of F3.keep fr7
  have nR : T7 ≠ R := fun e => by
    have := (N3 (R, listOf rws c1) mR).1
    rw [show (R, listOf rws c1).1 = T7 from e.symm, fr7] at this; cases this
  have nD : T7 ≠ D := fun e => by
    have := (N3 (D, listOf dts c2) mD).1
    rw [show (D, listOf dts c2).1 = T7 from e.symm, fr7] at this; cases this
  have nS : ∀ p ∈ pre, T7 ≠ p.1 := fun p hp e => by
    have := (N3 p (List.mem_append_left _ hp)).1
    rw [← e, fr7] at this; cases this
  have q1 := led_ring2 (x := x) (d := d) (its := its) (c := c) (n := n) (es := es) (ps := ps) F3 N3 mx md mt' b7 r7
  clear F3 hx3 hd3
  obtain ⟨F7, c7, n7, es7, he7, N7⟩ := q1
  replace N7 := N7 (pre ++ [(R, listOf rws c1), (D, listOf dts c2)]) (fun p hp => by
    rcases List.mem_append.mp hp with hp | hp
    · exact ⟨List.mem_append_left _ hp, hpre p hp⟩
    · rcases List.mem_cons.mp hp with rfl | hp
      · exact ⟨mR, .inl rfl⟩
      · rw [List.mem_singleton.mp hp]; exact ⟨mD, .inl rfl⟩)
  rw [List.append_assoc] at N7
  obtain ⟨oT, hoT, hcT, nn, hdT⟩ := tup7
  refine ⟨rfl, unhold ?_⟩
  have hm : ∀ y, y ≠ Str.ofString "end" → (fun y => if y = Str.ofString "end" then some (Value.str (endS (k / 3 % 3)) te) else m1 y) y = m1 y := fun y hy => if_neg hy
  refine turn1b (w := w) (mg := mg) (mb := mb) (s := ⟨h7, _, _, _, _⟩) (k := k) (tm := tm) hX hT hh F7 N7 (R := R) (D := D) (c1 := c1) (c2 := c2) mR mD hRD z2 z3 htm ((hm _ (by decide)).trans e0) ((hm _ (by decide)).trans e1) rfl ((hm _ (by decide)).trans e3) ((hm _ (by decide)).trans e4) (fun h9 k9 t1 t2 F9 kp hR9 hD9 => ?_) (by kernel_rfl) (by kernel_rfl)
  refine h h9 _ T7 oT te t6 t1 t2 k9 c7 n7 es7 F9 hm nS nR nD hcT ⟨nn, hdT⟩ he7 ?_
  refine news_up (q := (T7, oT)) (fun p hp => ?_) (kp _ _ nR nD hoT) nT nB
  rcases List.mem_append.mp hp with hp | hp
  · have q := N7 p (List.mem_append_left _ hp)
    exact ⟨kp _ _ (hpn p hp).1 (hpn p hp).2 q.1, q.2⟩
  · have qR := N7 (R, listOf rws c1) mR
    have qD := N7 (D, listOf dts c2) mD
    rcases List.mem_cons.mp hp with rfl | hp
    · exact ⟨hR9, qR.2⟩
    rcases List.mem_cons.mp hp with rfl | hp
    · exact ⟨hD9, qD.2⟩
    have q := N7 p (List.mem_append_right pre (.tail _ (.tail _ hp)))
    have h7x := N7 (x, ringO d (its.push (.ref T7)) c7) mx
    have h7d := N7 (d, dictOf es7 n7) md
    have pR := plain_ne (p := (R, listOf rws c1)) qR.1 (.inl rfl) h7x.1 h7d.1
    have pD := plain_ne (p := (D, listOf dts c2)) qD.1 (.inl rfl) h7x.1 h7d.1
    have ht := N7 (106, tabObj ps) (List.mem_append_right pre (.tail _ (.tail _ (.tail _ (.tail _ (.head _))))))
    refine ⟨kp _ _ ?_ ?_ q.1, q.2⟩
    · rcases List.mem_cons.mp hp with rfl | hp
      · exact Ne.symm pR.1
      rcases List.mem_cons.mp hp with rfl | hp
      · exact Ne.symm pR.2
      rw [List.mem_singleton.mp hp]
      intro e
      have := qR.1
      rw [show (R, listOf rws c1).1 = 106 from e.symm, show h7.get? 106 = _ from ht.1] at this
      cases this
    · rcases List.mem_cons.mp hp with rfl | hp
      · exact Ne.symm pD.1
      rcases List.mem_cons.mp hp with rfl | hp
      · exact Ne.symm pD.2
      rw [List.mem_singleton.mp hp]
      intro e
      have := qD.1
      rw [show (D, listOf dts c2).1 = 106 from e.symm, show h7.get? 106 = _ from ht.1] at this
      cases this
end
end Mine
end

-- part Z2
section
open PySem PySem.W PyProof.Rows PySem.Calls
set_option Elab.async false
set_option maxRecDepth 100000
set_option maxHeartbeats 0
set_option linter.unusedVariables false
namespace Mine
section
variable {w : World} {A : Around} {E : Value → Shared → Prop} {s : Shared} {mg mb : Str → Option Value}
local macro_rules | `(tactic| walk_at "eval Name") => `(tactic| (k_dflt (refine' name_K ?F ?X ?T ?e ?_; (case F => k_asm); (case X => k_asm); (case T => k_asm); (case e => first | exact nm_quoted | exact nm_paren_depth | exact nm_twin_re_1 | exact nm_twin_re_2 | exact nm_law_numbers | exact nm_Accumulator | exact nm_law_sent | exact nm_byteswap | exact nm_Int2AP | exact nm_law_number_of_depths | exact nm_quote_periods | exact nm_fix_eols | exact nm_CRLF); k_whole)))
local macro_rules | `(tactic| walk_at "eval Name") => `(tactic| (k_dflt (refine' name_B ?F ?X ?T ?e ?v ?n ?_; (case F => k_asm); (case X => k_asm); (case T => k_asm); (case e => first | exact nb_enumerate | exact nb_range | exact nb_bytearray | exact nb_len | exact nb_bytes | exact nb_sum | exact nb_str | exact nb_int | exact nb_abs | exact nb_divmod | exact nb_super); (case v => boot_by_name); (case n => decide); k_whole)))
local macro_rules | `(tactic| walk_at "getMethod ref") => `(tactic| (k_dflt (refine' get_subK ?F ?X ?e ?_; (case F => k_asm); (case X => k_asm); (case e => first | exact pat145 | exact pat150 | exact pat43); k_whole)))
local macro_rules | `(tactic| walk_at "callWith ref") => `(tactic| (k_dflt (first
  | (refine' callWith_K ?k1 ?k2 ?_; (case k1 => k_asm); (case k2 => rfl); k_whole)
  | (refine' callWith_K0 ?k1 ?k2 ?_; (case k1 => k_in); (case k2 => rfl); k_whole))))


noncomputable def lawSt (w : World) (k : Nat) : Stmt := match (lawB w)[k]? with | some s => s | none => .Pass ⟨0, 0, 0, 0⟩
def TupO (k : Nat) (o : Obj) : Prop := o.cls = .type "tuple" ∧ ∃ te tb nn, o.data = .seq #[.str (endS (k / 3 % 3)) te, .str (dqS (k % 3)) tb] nn
def rowOf (tm k : Nat) : Str := rowS (outE tm (k / 3 % 3)) (dotZ (k % 3) tm)
def dotOf (tm k : Nat) : Int := (dotZ (k % 3) tm : Nat)
/-- the ring, the rows and the dots behind j turns -/
structure Mid (ks : List Nat) (tm j : Nat) (tl : List (Addr × Obj)) (its rws dts : Array Value) : Prop where
  len : tl.length = j
  its : its.toList = tl.map fun p => Value.ref p.1
  tup : ∀ (i k : Nat) (p : Addr × Obj), ks[i]? = some k → tl[i]? = some p → TupO k p.2
  rows : StrsAre rws.toList ((ks.take j).map (rowOf tm))
  dots : IntsAre dts.toList ((ks.take j).map (dotOf tm))
theorem Mid.nil {ks : List Nat} {tm : Nat} : Mid ks tm 0 [] #[] #[] #[] := ⟨rfl, rfl, fun i k p _ h => by simp at h, .nil, .nil⟩
theorem Mid.more {ks : List Nat} {tm j k : Nat} {tl : List (Addr × Obj)} {its rws dts : Array Value} {T : Addr} {o : Obj} {t1 t2 : Tok} (M : Mid ks tm j tl its rws dts) (hk : ks[j]? = some k) (ho : TupO k o) :
    Mid ks tm (j + 1) (tl ++ [(T, o)]) (its.push (.ref T)) (rws.push (.str (rowOf tm k) t1)) (dts.push (.int (dotOf tm k) t2)) where
  len := by simp [M.len]
  its := by simp [M.its]
  tup := fun i k' p h1 h2 => by
    by_cases hi : i < tl.length
    · rw [List.getElem?_append_left hi] at h2
      exact M.tup i k' p h1 h2
    · rw [List.getElem?_append_right (by omega)] at h2
      have e : i = tl.length := by
        by_cases e : i - tl.length = 0
        · omega
        · rw [List.getElem?_eq_none (by simp; omega)] at h2; cases h2
      subst e
      rw [M.len, hk] at h1
      cases h1
      simp at h2
      rw [← h2]; exact ho
  rows := by
    rw [Array.toList_push, List.take_add_one, hk, List.map_append]
    exact M.rows.append' (.cons _ _ .nil)
  dots := by
    rw [Array.toList_push, List.take_add_one, hk, List.map_append]
    exact M.dots.append (.cons _ _ .nil)
theorem slice_upto {vs : List Value} {n : Nat} (h : n ≤ vs.length) : slicePick vs.toArray none (some (n : Int)) none = (vs.take n).toArray := by
  have e := slicePick_upto' vs.toArray n
  simpa using e
/-- the first loop's source -/
theorem loop1_src {B : Heap} {L Nn : Addr} {m : Str → Option Value} {news : List (Addr × Obj)} {vs : List Value} {sz : Nat} {ts : Tok} {Q : Value → Shared → Prop} {p1 p2 p3 p4 : Pos}
    (F : Fr B L s.heap m) (N : News B L s.heap news) (hN : s.heap.IsList Nn vs.toArray) (hv : vs.length = 5) (hs : sz ≤ 5) (e1 : m (Str.ofString "numbers") = some (.ref Nn)) (e2 : m (Str.ofString "size") = some (.int sz ts))
    (h : ∀ D h', Fr B L h' m → News B L h' ((D, listOf (vs.take sz).toArray 0) :: news) → (∀ p ∈ news, p.1 < D) → Q (.ref D) { s with heap := h' }) :
    wpAny (model prg w) A (eval (.Subscript (.Name (Str.ofString "numbers") p1) (.Slice none (some (.Name (Str.ofString "size") p2)) none p3) p4) (envOf (Str.ofString "law") (lawFd w).scope L 197 (.ref 196))) Q E s := by
  conv in (lawFd w).scope => whnf
  refine Subscript_ ?_
  refine ld F e1 ?_
  refine wpAny_Slice ?_
  refine evalPart_none_step ?_
  refine evalPart_some_step ?_
  refine ld F e2 ?_
  refine evalPart_none_step ?_
  refine kmk_slice F N hN .none (.int _ _) (fun D h' F' N' l' => ?_) (by with_unfolding_all rfl) (by intro _; with_unfolding_all rfl) (by rw [sizeLine_eq]; simp; omega)
  rw [slice_upto (by omega)] at N'
  exact h D h' F' N' l'
theorem dict_ne {h : Heap} {a d : Addr} {its : Array Value} {c n : Nat} {es : List DictEntry} (ha : h.get? a = some (listOf its c)) (hd : h.get? d = some (dictOf es n)) : a ≠ d := by
  rintro rfl
  have e : Value.type "list" = Value.type "dict" := congrArg Obj.cls (Option.some.inj (ha.symm.trans hd))
  exact absurd e (by decide)
/-- the first loop -/
theorem loop1 {stmt : Stmt} {env : Env} {B : Heap} {L x d R D Nn : Addr} {c n : Nat} {es : List DictEntry} {ps : Array Value} {m : Str → Option Value} {vs : List Value} {ns ks : List Nat} {sz tm : Nat} {tt ts : Tok} {Q : Flow → Shared → Prop}
    (hX : (Kf w).In B) (hT : TopRead hd.view_39 loose mg mb B) (hh : A.handled = none) (hroom : A.depth < recursionLimit)
    (F : Fr B L s.heap m) (N : News B L s.heap ((R, listOf #[] 0) :: (D, listOf #[] 0) :: led x d #[] c n es ps)) (hi : initEs es) (hRD : R ≠ D)
    (hN : s.heap.IsList Nn vs.toArray) (hv : vs.length = 5) (iv : IntsAre vs (ns.map fun k : Nat => (k : Int))) (hks : ks = ns.take sz) (hs : sz ≤ 5) (htm : tm ≤ 10) (hb : ∀ k ∈ ns, k ≤ 1000000000)
    (e0 : m (Str.ofString "numbers") = some (.ref Nn)) (e1 : m (Str.ofString "times") = some (.int tm tt)) (e2 : m (Str.ofString "ring") = some (.ref x)) (e3 : m (Str.ofString "dots") = some (.ref D)) (e4 : m (Str.ofString "rows") = some (.ref R)) (e5 : m (Str.ofString "size") = some (.int sz ts))
    (h : ∀ h' m' tl its rws dts c' c1 c2 n' es' k', Fr B L h' m' → Mid ks tm ks.length tl its rws dts → m' (Str.ofString "times") = some (.int tm tt) → m' (Str.ofString "ring") = some (.ref x) → m' (Str.ofString "dots") = some (.ref D) → m' (Str.ofString "rows") = some (.ref R) → m' (Str.ofString "size") = some (.int sz ts) → initEs es' →
      News B L h' (tl ++ (R, listOf rws c1) :: (D, listOf dts c2) :: led x d its c' n' es' ps) → (∀ p ∈ tl, plainO p.2 ∧ p.1 ≠ R ∧ p.1 ≠ D) → Q .next { s with heap := h', toks := k' })
    (hstmt : stmt = lawSt w 6) (henv : env = lawEnv w L) :
    wpS (model prg w) A (exec stmt env) Q E s := by
  subst hstmt henv
  conv in lawSt w 6 => whnf
  refine S_For ?_ (fun _ => rfl)
  unfold lawEnv
  refine loop1_src F N hN hv hs e0 e5 fun SL h1 F1 N1 l1 => ?_
  have hsl := N1 _ (.head _)
  have hSL : h1.IsList SL (vs.take sz).toArray := ⟨_, hsl.1, rfl, 0, rfl⟩
  refine wpAny_pyIter_list hSL ?_
  have lx := l1 (x, ringO d #[] c) (.tail _ (.tail _ (.head _)))
  have ld' := l1 (d, dictOf es n) (.tail _ (.tail _ (.tail _ (.head _))))
  have l6 := l1 (106, tabObj ps) (.tail _ (.tail _ (.tail _ (.tail _ (.head _)))))
  have lR := l1 (R, listOf #[] 0) (.head _)
  have lD := l1 (D, listOf #[] 0) (.tail _ (.head _))
  have lS : SL < h1.objs.size := Heap.lt_size hsl.1
  have iw : IntsAre (vs.take sz) (ks.map fun k : Nat => (k : Int)) := by rw [hks, List.map_take]; exact iv.take sz
  have hbk : ∀ k ∈ ks, k ≤ 1000000000 := fun k hk => hb k (List.mem_of_mem_take (hks ▸ hk))
  have hlen : ks.length ≤ 5 := by rw [hks, List.length_take]; omega
  generalize hI : h1.objs.size = I at *
  have F2 := F1.push { cls := .type "list_iterator", data := .fields #[.ref SL, .int 0 0] }
  have N2 := News.push F1 N1 { cls := .type "list_iterator", data := .fields #[.ref SL, .int 0 0] }
  rw [hI] at N2
  refine codeS_forLoop (fun r s' => ∃ j hp tk m' oI tl its rws dts c' c1 c2 n' es', r = ks.length - j ∧ j ≤ ks.length ∧ s' = { s with heap := hp, toks := tk } ∧ Fr B L hp m' ∧
    (m' (Str.ofString "times") = some (.int tm tt) ∧ m' (Str.ofString "ring") = some (.ref x) ∧ m' (Str.ofString "dots") = some (.ref D) ∧ m' (Str.ofString "rows") = some (.ref R) ∧ m' (Str.ofString "size") = some (.int sz ts)) ∧
    oI.cls = .type "list_iterator" ∧ oI.data = .fields #[.ref SL, .int (j : Nat) 0] ∧ News B L hp ((I, oI) :: (SL, listOf (vs.take sz).toArray 0) :: (tl ++ (R, listOf rws c1) :: (D, listOf dts c2) :: led x d its c' n' es' ps)) ∧ initEs es' ∧ Mid ks tm j tl its rws dts ∧
    ∀ p ∈ tl, plainO p.2 ∧ p.1 ≠ R ∧ p.1 ≠ D ∧ p.1 ≠ I) ?_ ks.length ?_ (fun _ => rfl)
  · rintro r s' ⟨j, hp, tk, m', oI, tl, its, rws, dts, c', c1, c2, n', es', rfl, hj, rfl, F3, ⟨f1, f2, f3, f4, f5⟩, hcI, hdI, N3, he3, M3, hp3⟩
    have qI := N3 _ (.head _)
    have qS := N3 _ (.tail _ (.head _))
    have hit : hp.IsListIter I SL j := ⟨oI, qI.1, hcI, hdI⟩
    have hsl3 : hp.IsList SL (vs.take sz).toArray := ⟨_, qS.1, rfl, 0, rfl⟩
    have hlw : (vs.take sz).length = ks.length := by rw [iw.length]; simp
    by_cases hlt : j < ks.length
    · obtain ⟨v, hv0⟩ : ∃ v, (vs.take sz)[j]? = some v := ⟨_, List.getElem?_eq_getElem (by omega)⟩
      obtain ⟨kz, tk0, rfl, hkz⟩ := iw.at j v hv0
      rw [List.getElem?_map] at hkz
      obtain ⟨k, hk, hkz2⟩ := Option.map_eq_some_iff.mp hkz
      subst hkz2
      refine wpAny_pyNext_list_item hit hsl3 (x := .int (k : Nat) tk0) (by simpa using hv0) fun h5 hit5 sb5 => ?_
      obtain ⟨oI5, g1, g2, g3⟩ := hit5
      have hap : ∀ p ∈ ((SL, listOf (vs.take sz).toArray 0) :: (tl ++ (R, listOf rws c1) :: (D, listOf dts c2) :: led x d its c' n' es' ps)), p.1 ≠ I := fun p hp0 => by
        rcases List.mem_cons.mp hp0 with rfl | hp0
        · exact Nat.ne_of_lt lS
        rcases List.mem_append.mp hp0 with hp0 | hp0
        · exact (hp3 p hp0).2.2.2
        rcases List.mem_cons.mp hp0 with rfl | hp0
        · exact Nat.ne_of_lt (Nat.lt_trans lR lS)
        rcases List.mem_cons.mp hp0 with rfl | hp0
        · exact Nat.ne_of_lt (Nat.lt_trans lD lS)
        rcases List.mem_cons.mp hp0 with rfl | hp0
        · exact Nat.ne_of_lt (Nat.lt_trans lx lS)
        rcases List.mem_cons.mp hp0 with rfl | hp0
        · exact Nat.ne_of_lt (Nat.lt_trans ld' lS)
        rw [List.mem_singleton.mp hp0]
        exact Nat.ne_of_lt (Nat.lt_trans l6 lS)
      have F5 := F3.change sb5 qI.2.1 qI.2.2
      have N5 := News.setHead N3 hap sb5 g1
      clear F3 N3
      refine wpAny_assign_Name ?_
      refine wpAny_storeName_local rfl F5.ns (fun h6 hn6 hs6 => ?_) rfl
      have F6 := F5.set hn6 hs6
      have N6 := News.set N5 hs6
      clear F5 N5
      refine .of ?_
      have z0 : its.size = j := by rw [← Array.length_toList, M3.its, List.length_map, M3.len]
      have z2 : rws.size = j := by rw [← Array.length_toList, M3.rows.length, List.length_map, List.length_take]; omega
      have z3 : dts.size = j := by rw [← Array.length_toList, M3.dots.length, List.length_map, List.length_take]; omega
      have hm : ∀ y, y ≠ Str.ofString "n" → (fun y => if y = Str.ofString "n" then some (Value.int (k : Nat) tk0) else m' y) y = m' y := fun y hy => if_neg hy
      refine turn1 (pre := (I, oI5) :: (SL, listOf (vs.take sz).toArray 0) :: tl) (k := k) (tm := tm) hX hT hh hroom F6 N6 ?_ he3 hRD ?_ (by omega) (by omega) (by omega) htm (hbk k (List.mem_of_getElem? hk)) rfl ((hm _ (by decide)).trans f1) ((hm _ (by decide)).trans f2) ((hm _ (by decide)).trans f3) ((hm _ (by decide)).trans f4) ?_ (by kernel_rfl) rfl
      · intro p hp0
        rcases List.mem_cons.mp hp0 with rfl | hp0
        · exact .inr (.inr (.inl g2))
        rcases List.mem_cons.mp hp0 with rfl | hp0
        · exact .inl rfl
        exact (hp3 p hp0).1
      · intro p hp0
        rcases List.mem_cons.mp hp0 with rfl | hp0
        · exact ⟨Ne.symm (hap (R, listOf rws c1) (.tail _ (List.mem_append_right tl (.head _)))), Ne.symm (hap (D, listOf dts c2) (.tail _ (List.mem_append_right tl (.tail _ (.head _)))))⟩
        rcases List.mem_cons.mp hp0 with rfl | hp0
        · exact ⟨Nat.ne_of_gt lR, Nat.ne_of_gt lD⟩
        exact ⟨(hp3 p hp0).2.1, (hp3 p hp0).2.2.1⟩
      · intro h9 m9 T o te tb t1 t2 k9 c9 n9 es9 F9 hm9 nP nR nD hcT hdT he9 N9
        have g : ∀ y, y ≠ Str.ofString "n" → y ≠ Str.ofString "end" → m9 y = m' y := fun y a b => (hm9 y b).trans (hm y a)
        obtain ⟨nn, hdT⟩ := hdT
        refine ⟨ks.length - (j + 1), by omega, j + 1, h9, k9, m9, oI5, tl ++ [(T, o)], _, _, _, c9, c1 + 1, c2 + 1, n9, es9, rfl, hlt, rfl, F9, ⟨(g _ (by decide) (by decide)).trans f1, (g _ (by decide) (by decide)).trans f2, (g _ (by decide) (by decide)).trans f3, (g _ (by decide) (by decide)).trans f4, (g _ (by decide) (by decide)).trans f5⟩, g2, g3, ?_, he9,
          M3.more (t1 := t1) (t2 := t2) hk ⟨hcT, te, tb, nn, hdT⟩, ?_⟩
        · refine News.perm N9 fun p hp0 => ?_
          rcases List.mem_cons.mp hp0 with rfl | hp0
          · exact .tail _ (.head _)
          rcases List.mem_cons.mp hp0 with rfl | hp0
          · exact .tail _ (.tail _ (.head _))
          rcases List.mem_append.mp hp0 with hp0 | hp0
          · rcases List.mem_append.mp hp0 with hp0 | hp0
            · exact .tail _ (.tail _ (.tail _ (List.mem_append_left _ hp0)))
            · rw [List.mem_singleton.mp hp0]; exact .head _
          · exact .tail _ (.tail _ (.tail _ (List.mem_append_right _ hp0)))
        · intro p hp0
          rcases List.mem_append.mp hp0 with hp0 | hp0
          · exact hp3 p hp0
          · rw [List.mem_singleton.mp hp0]
            exact ⟨.inr (.inl hcT), nR, nD, nP (I, oI5) (.head _)⟩
    · have hje : j = ks.length := by omega
      refine wpAny_pyNext_list_end hh hit hsl3 (Array.getElem?_eq_none (by rw [List.size_toArray, hlw]; omega)) fun h5 eb => ?_
      have F5 : Fr B L h5 m' := ⟨F3.ns.at' fun o e => eb L o (Ne.symm qI.2.1) e, fun b o e => eb b o (fun q => by rw [q, qI.2.2] at e; cases e) (F3.keep b o e), F3.above⟩
      subst hje
      refine h h5 m' tl its rws dts c' c1 c2 n' es' tk F5 M3 f1 f2 f3 f4 f5 he3 (fun p hp0 => ?_) fun p hp0 => ⟨(hp3 p hp0).1, (hp3 p hp0).2.1, (hp3 p hp0).2.2.1⟩
      have q := N3 p (.tail _ (.tail _ hp0))
      refine ⟨eb _ _ ?_ q.1, q.2⟩
      rcases List.mem_append.mp hp0 with hp0 | hp0
      · exact (hp3 p hp0).2.2.2
      rcases List.mem_cons.mp hp0 with rfl | hp0
      · exact Nat.ne_of_lt (Nat.lt_trans lR lS)
      rcases List.mem_cons.mp hp0 with rfl | hp0
      · exact Nat.ne_of_lt (Nat.lt_trans lD lS)
      rcases List.mem_cons.mp hp0 with rfl | hp0
      · exact Nat.ne_of_lt (Nat.lt_trans lx lS)
      rcases List.mem_cons.mp hp0 with rfl | hp0
      · exact Nat.ne_of_lt (Nat.lt_trans ld' lS)
      rw [List.mem_singleton.mp hp0]
      exact Nat.ne_of_lt (Nat.lt_trans l6 lS)
  · exact ⟨0, _, _, m, _, [], #[], #[], #[], c, 0, 0, n, es, by simp, Nat.zero_le _, rfl, F2, ⟨e1, e2, e3, e4, e5⟩, rfl, rfl, N2, hi, .nil, fun p hp => nomatch hp⟩
end
end Mine
end

-- part Z3
section
open PySem PySem.W PyProof.Rows PySem.Calls
set_option Elab.async false
set_option maxRecDepth 100000
set_option maxHeartbeats 0
set_option linter.unusedVariables false
namespace Mine
section
variable {w : World} {A : Around} {E : Value → Shared → Prop} {s : Shared} {mg mb : Str → Option Value}
local macro_rules | `(tactic| walk_at "eval Name") => `(tactic| (k_dflt (refine' name_K ?F ?X ?T ?e ?_; (case F => k_asm); (case X => k_asm); (case T => k_asm); (case e => first | exact nm_quoted | exact nm_paren_depth | exact nm_twin_re_1 | exact nm_twin_re_2 | exact nm_law_numbers | exact nm_Accumulator | exact nm_law_sent | exact nm_byteswap | exact nm_Int2AP | exact nm_law_number_of_depths | exact nm_quote_periods | exact nm_fix_eols | exact nm_CRLF); k_whole)))
local macro_rules | `(tactic| walk_at "eval Name") => `(tactic| (k_dflt (refine' name_B ?F ?X ?T ?e ?v ?n ?_; (case F => k_asm); (case X => k_asm); (case T => k_asm); (case e => first | exact nb_enumerate | exact nb_range | exact nb_bytearray | exact nb_len | exact nb_bytes | exact nb_sum | exact nb_str | exact nb_int | exact nb_abs | exact nb_divmod | exact nb_super); (case v => boot_by_name); (case n => decide); k_whole)))
local macro_rules | `(tactic| walk_at "getMethod ref") => `(tactic| (k_dflt (refine' get_subK ?F ?X ?e ?_; (case F => k_asm); (case X => k_asm); (case e => first | exact pat145 | exact pat150 | exact pat43); k_whole)))
local macro_rules | `(tactic| walk_at "callWith ref") => `(tactic| (k_dflt (first
  | (refine' callWith_K ?k1 ?k2 ?_; (case k1 => k_asm); (case k2 => rfl); k_whole)
  | (refine' callWith_K0 ?k1 ?k2 ?_; (case k1 => k_in); (case k2 => rfl); k_whole))))


theorem sum_cast : ∀ ks : List Nat, (ks.map fun k : Nat => (k : Int)).sum = ((ks.sum : Nat) : Int)
  | [] => rfl
  | k :: ks => by
    rw [List.map_cons, List.sum_cons, sum_cast ks, List.sum_cons]
    omega
theorem toNats {ms : List Int} (h : ∀ n ∈ ms, 0 ≤ n) : (ms.map Int.toNat).map (fun k : Nat => (k : Int)) = ms := by
  rw [List.map_map]
  conv => rhs; rw [← List.map_id ms]
  refine List.map_congr_left fun n hn => ?_
  have := h n hn
  show ((n.toNat : Nat) : Int) = n
  omega
theorem int_to {M : Model} {env : Env} {x : Str} {a b : Int} {t : Tok} {Q : Unit → Shared → Prop} (e : a = b) (h : wpAny M A (storeName env x (.int b t)) Q E s) : wpAny M A (storeName env x (.int a t)) Q E s := by subst e; exact h
/-- the law's first six statements -/
theorem head_c {env : Env} {body : List Stmt} {B : Heap} {L l : Addr} {m : Str → Option Value} {vs : List Value} {sc : List Int} {Q : Flow → Shared → Prop}
    (hX : (Kf w).In B) (hT : TopRead hd.view_39 loose mg mb B) (hh : A.handled = none) (hroom : A.depth + 1 < recursionLimit)
    (F : Fr B L s.heap m) (N : News B L s.heap [(106, tabObj #[])]) (hl : s.heap.IsList l vs.toArray) (hi : IntsAre vs sc) (hn : sc.length ≤ 63) (e0 : m (Str.ofString "script") = some (.ref l))
    (h : ∀ h' m' Nn ws (ns : List Nat) x d R D c n es k' t1 t2, 1 ≤ k' → Fr B L h' m' → News B L h' ((R, listOf #[] 0) :: (D, listOf #[] 0) :: led x d #[] c n es #[]) → initEs es → R ≠ D → h'.IsList Nn (List.toArray ws) → ws.length = 5 → IntsAre ws (ns.map fun k : Nat => (k : Int)) → (∀ k ∈ ns, k ≤ 1000000000) →
      m' (Str.ofString "numbers") = some (.ref Nn) → m' (Str.ofString "times") = some (.int ((ns.sum / 3 % 3 : Nat) : Int) t1) → m' (Str.ofString "ring") = some (.ref x) → m' (Str.ofString "dots") = some (.ref D) → m' (Str.ofString "rows") = some (.ref R) → m' (Str.ofString "size") = some (.int ((3 + ns.sum % 3 : Nat) : Int) t2) →
      wpS (model prg w) A (execs ((lawB w).drop 6) (lawEnv w L)) Q E { s with heap := h', toks := k' })
    (hbody : body = lawB w) (henv : env = lawEnv w L) :
    wpS (model prg w) A (execs body env) Q E s := by
  subst hbody henv
  conv in lawB w => whnf
  refine S_execs_cons' ?_
  unfold lawEnv
  conv in (lawFd w).scope => whnf
  refine wpAny_Assign_Name ?_
  refine Call_ ?_
  refine name_K F hX hT nm_law_numbers ?_
  refine callK_h hX (by rfl) ?_
  refine args_cons ?_
  refine ld F e0 ?_
  refine args_nil ?_
  refine unhold ⟨hX.keeps F.keep, ?_⟩
  show wpAny _ _ (call (.ref 178) [.ref l]) _ _ _
  refine numbers_c ⟨hX.keeps F.keep, hT.keeps F.keep⟩ (by omega) hh hl hi hn fun h1 Nn its cN k1 ms g1 hN1 iN hlen hb hfr => ?_
  generalize hns : ms.map Int.toNat = ns
  have hms : ns.map (fun k : Nat => (k : Int)) = ms := by rw [← hns]; exact toNats fun n hn => (hb n hn).1
  have hsum : ms.sum = ((ns.sum : Nat) : Int) := by rw [← hms]; exact sum_cast ns
  have e1 : (3 : Int) + ms.sum.fmod 3 = ((3 + ns.sum % 3 : Nat) : Int) := by rw [hsum, mod3]; omega
  have e2 : (ms.sum.fdiv 3).fmod 3 = ((ns.sum / 3 % 3 : Nat) : Int) := by rw [hsum, div3, mod3]
  have hbn : ∀ k ∈ ns, k ≤ 1000000000 := fun k hk => by
    have := (hb (k : Int) (by rw [← hms]; exact List.mem_map_of_mem hk)).2
    omega
  have F1 := F.keeps g1
  have N1 := news_up (q := (Nn, listOf its cN)) (News.keepsAll N g1) hN1 (fun e => by
    obtain ⟨oL, _, _, hL, _⟩ := F.ns
    rw [show Nn = L from e] at hfr
    rw [hL] at hfr; cases hfr) (none_of F.keep hfr)
  refine wpAny_storeName_local rfl F1.ns (fun h2 hn2 hs2 => ?_) rfl
  have F2 := F1.set hn2 hs2
  have N2 := News.set N1 hs2
  clear F F1 N N1
  -- size
  refine S_execs_cons' ?_
  refine wpAny_Assign_Name ?_
  refine wpAny_BinOp ?_
  refine wpAny_Constant_int ?_
  refine wpAny_BinOp ?_
  refine Call_ ?_
  refine name_B F2 hX hT nb_sum (by boot_by_name) (by decide) ?_
  refine callB_h ?_
  refine args_cons ?_
  refine ld F2 rfl ?_
  refine args_nil ?_
  refine unhold ?_
  show wpAny _ _ (call (.builtin "sum") [.ref Nn]) _ _ _
  refine sumK (vs := its.toList) hh F2 N2 ⟨_, (N2 _ (.head _)).1, rfl, cN, rfl⟩ iN fun h3 k3 t3 F3 N3 => ?_
  refine wpAny_Constant_int ?_
  refine mod_int' (by decide) ?_
  refine add_int ?_
  refine int_to e1 ?_
  refine wpAny_storeName_local rfl F3.ns (fun h4 hn4 hs4 => ?_) rfl
  have F4 := F3.set hn4 hs4
  have N4 := News.set N3 hs4
  clear F2 F3 N2 N3
  -- times
  refine S_execs_cons' ?_
  refine wpAny_Assign_Name ?_
  refine wpAny_BinOp ?_
  refine wpAny_BinOp ?_
  refine Call_ ?_
  refine name_B F4 hX hT nb_sum (by boot_by_name) (by decide) ?_
  refine callB_h ?_
  refine args_cons ?_
  refine ld F4 rfl ?_
  refine args_nil ?_
  refine unhold ?_
  show wpAny _ _ (call (.builtin "sum") [.ref Nn]) _ _ _
  refine sumK (vs := its.toList) hh F4 N4 ⟨_, (N4 _ (.head _)).1, rfl, cN, rfl⟩ iN fun h5 k5 t5 F5 N5 => ?_
  refine wpAny_Constant_int ?_
  refine floordiv_int (by decide) ?_ (.inl (PyProof.noPylong_small (by omega)))
  refine wpAny_Constant_int ?_
  refine mod_int' (by decide) ?_
  refine int_to e2 ?_
  refine wpAny_storeName_local rfl F5.ns (fun h6 hn6 hs6 => ?_) rfl
  have F6 := F5.set hn6 hs6
  have N6 := News.set N5 hs6
  clear F4 F5 N4 N5
  -- ring
  refine S_execs_cons' (wpAny_with_toks (n := 1) (Nat.le_add_left 1 _) ?_)
  refine wpAny_Assign_Name ?_
  refine Call_ ?_
  refine name_K F6 hX hT nm_Accumulator ?_
  refine callWith_K0 (hX.keeps F6.keep) (by rfl) ?_
  show wpAny _ _ (call (.ref 136) []) _ _ _
  refine ring_new (h₀ := B) ⟨hX, hT⟩ F6.keep (Nat.le_of_lt (Nat.lt_of_le_of_lt F6.above F6.ns.lt)) hroom hh fun h7 x d k7 g7 r7 lx ld7 => ?_
  refine Exists.elim r7.at_ fun cx hx7 => ?_
  refine Exists.elim r7.dict fun es q1 => ?_
  refine Exists.elim q1 fun nd q2 => ?_
  have hd7 := q2.1
  have he7 := q2.2
  have F7 := F6.keeps g7
  have L6 : L < h6.objs.size := F6.ns.lt
  have nL : ∀ {a : Addr}, h6.objs.size ≤ a → a ≠ L := fun {a} q e => by
    rw [e] at q
    exact absurd L6 (Nat.not_lt.mpr q)
  have N7 := news_up (q := (x, ringO d #[] cx)) (news_up (q := (d, dictOf es nd)) (News.keepsAll N6 g7) hd7 (nL ld7) r7.d0) hx7 (nL lx) r7.x0
  clear F6 N6
  refine wpAny_storeName_local rfl F7.ns (fun h8 hn8 hs8 => ?_) rfl
  intro hk8
  have F8 := F7.set hn8 hs8
  have N8 := News.set N7 hs8
  clear F7 N7
  -- rows
  refine S_execs_cons' (wpAny_with_toks (n := 1) hk8 ?_)
  refine wpAny_Assign_Name ?_
  refine List_ ?_
  refine args_nil ?_
  refine newList_K (s := ⟨_, _, _, _, _⟩) F8 N8 (fun R h9 F9 N9 l9 => ?_) (by rw [sizeLine_eq]; show (0 : Nat) ≤ _; decide)
  refine wpAny_storeName_local rfl F9.ns (fun h10 hn10 hs10 => ?_) rfl
  intro hk10
  have F10 := F9.set hn10 hs10
  have N10 := News.set N9 hs10
  clear F8 F9 N8 N9
  -- dots
  refine S_execs_cons' (wpAny_with_toks (n := 1) hk10 ?_)
  refine wpAny_Assign_Name ?_
  refine List_ ?_
  refine args_nil ?_
  refine newList_K (s := ⟨_, _, _, _, _⟩) F10 N10 (fun D h11 F11 N11 l11 => ?_) (by rw [sizeLine_eq]; show (0 : Nat) ≤ _; decide)
  refine wpAny_storeName_local rfl F11.ns (fun h12 hn12 hs12 => ?_) rfl
  intro hk12
  have F12 := F11.set hn12 hs12
  have N12 := News.set N11 hs12
  clear F10 F11 N10 N11
  have qN := N12 (Nn, listOf its cN) (.tail _ (.tail _ (.tail _ (.tail _ (.head _)))))
  refine h h12 _ Nn its.toList ns x d R D cx nd es _ _ _ hk12 F12 (News.perm N12 fun p hp => ?_) he7 (Nat.ne_of_lt (l11 (R, listOf #[] 0) (.head _))) ⟨_, qN.1, rfl, cN, by simp⟩ (by rw [iN.length, hlen]) (by rw [hms]; exact iN) hbn rfl rfl rfl rfl rfl rfl
  rcases List.mem_cons.mp hp with rfl | hp
  · exact .tail _ (.head _)
  rcases List.mem_cons.mp hp with rfl | hp
  · exact .head _
  rcases List.mem_cons.mp hp with rfl | hp
  · exact .tail _ (.tail _ (.head _))
  rcases List.mem_cons.mp hp with rfl | hp
  · exact .tail _ (.tail _ (.tail _ (.head _)))
  rw [List.mem_singleton.mp hp]
  exact .tail _ (.tail _ (.tail _ (.tail _ (.tail _ (.head _)))))
end
end Mine
end

-- part T2
section
open PySem PySem.W PyProof.Rows PySem.Calls
set_option Elab.async false
set_option maxRecDepth 100000
set_option maxHeartbeats 0
set_option linter.unusedVariables false
namespace Mine

open PySem.Builtin PySem.Builtin.Str in
theorem repl_join (c e : Nat) : ∀ parts : List Str, (∀ p ∈ parts, c ∉ p.cps.toList) → (Str.join ⟨#[c]⟩ parts).cps.toList.map (fun k => if k = c then e else k) = (Str.join ⟨#[e]⟩ parts).cps.toList
  | [], _ => rfl
  | [p], h => by
    have h1 := h p (List.mem_singleton.mpr rfl)
    show p.cps.toList.map _ = p.cps.toList
    conv => rhs; rw [← List.map_id p.cps.toList]
    exact List.map_congr_left fun k hk => if_neg fun (q : k = c) => h1 (q ▸ hk)
  | p :: q :: r, h => by
    have ih := repl_join c e (q :: r) fun a ha => h a (List.mem_cons_of_mem _ ha)
    have h1 := h p (List.mem_cons_self ..)
    show (p ++ ⟨#[c]⟩ ++ Str.join ⟨#[c]⟩ (q :: r)).cps.toList.map _ = (p ++ ⟨#[e]⟩ ++ Str.join ⟨#[e]⟩ (q :: r)).cps.toList
    simp only [Str.cps_append, Array.toList_append, List.map_append]
    rw [ih]
    have e1 : p.cps.toList.map (fun k => if k = c then e else k) = p.cps.toList := by
      conv => rhs; rw [← List.map_id p.cps.toList]
      exact List.map_congr_left fun k hk => if_neg fun (q : k = c) => h1 (q ▸ hk)
    rw [e1]
    simp
theorem repl_map (x : Str) (c e : Nat) : (Txt.replace x ⟨#[c]⟩ ⟨#[e]⟩).cps.toList = x.cps.toList.map (fun k => if k = c then e else k) := by
  rw [StrLaws.replace_one, ← repl_join c e _ (StrLaws.split_free x c), StrLaws.join_split]
theorem join0 : ∀ ys : List Str, (Str.join ⟨#[]⟩ ys).cps.toList = (ys.map (·.cps.toList)).flatten
  | [] => rfl
  | [x] => by simp [Str.join]
  | x :: y :: r => by
    have ih := join0 (y :: r)
    show (x ++ ⟨#[]⟩ ++ Str.join ⟨#[]⟩ (y :: r)).cps.toList = _
    simp only [Str.cps_append, Array.toList_append]
    rw [ih]
    simp
theorem joinE (ys : List Str) : (Txt.join (Str.ofString "") ys).cps.toList = (ys.map (·.cps.toList)).flatten := by
  have e : Str.ofString "" = ⟨#[]⟩ := by decide
  rw [e, ← join0]
  show (Builtin.Str.glued _ _).cps.toList = _
  rw [StrLaws.glued_eq_join]
def rowI (k : Nat) : RowI := ((endS (k / 3 % 3)).cps.toList, k % 3)
def outI (tm k : Nat) : RowI := ((outE tm (k / 3 % 3)).cps.toList, dotZ (k % 3) tm)
theorem out_sent (ks : List Nat) : ∀ tm, rowsAfter tm (ks.map rowI) = ks.map (outI tm)
  | 0 => by
    show ks.map rowI = _
    refine List.map_congr_left fun k _ => ?_
    show ((endS (k / 3 % 3)).cps.toList, k % 3) = ((outE 0 (k / 3 % 3)).cps.toList, dotZ (k % 3) 0)
    have e1 : outE 0 (k / 3 % 3) = endS (k / 3 % 3) := by unfold outE; rw [if_pos rfl]
    have e2 : dotZ (k % 3) 0 = k % 3 := by unfold dotZ; split <;> omega
    rw [e1, e2]
  | tm + 1 => by
    show (rowsAfter tm (ks.map rowI)).map send1 = _
    rw [out_sent ks tm, List.map_map]
    refine List.map_congr_left fun k _ => ?_
    show ([13, 10], sentD (dotZ (k % 3) tm)) = ((outE (tm + 1) (k / 3 % 3)).cps.toList, dotZ (k % 3) (tm + 1))
    have e1 : outE (tm + 1) (k / 3 % 3) = Str.ofString "\r\n" := by unfold outE; rw [if_neg (Nat.succ_ne_zero _)]
    have e2 : sentD (dotZ (k % 3) tm) = dotZ (k % 3) (tm + 1) := by
      unfold sentD dotZ
      by_cases h : k % 3 = 0
      · simp [h]
      · simp [h]; omega
    rw [e1, e2]
    rfl
theorem ring_text (rk : List Nat) : Txt.join (Str.ofString "") (rk.map fun k => Txt.join (Str.ofString "") [endS (k / 3 % 3), dqS (k % 3)]) = ⟨(flatR (rk.map rowI)).toArray⟩ := by
  refine str_ext ?_
  rw [joinE]
  show _ = flatR (rk.map rowI)
  unfold flatR flatE
  rw [List.map_map, List.map_map, List.map_map]
  congr 1
  refine List.map_congr_left fun k _ => ?_
  show (Txt.join (Str.ofString "") [endS (k / 3 % 3), dqS (k % 3)]).cps.toList = (mkE (rowI k)).e ++ (mkE (rowI k)).p
  rw [joinE]
  simp [mkE, rowI, dqS]
theorem rows_text (tm : Nat) (rk : List Nat) : Txt.join (Str.ofString "") (rk.map (rowOf tm)) = ⟨(flatR (rk.map (outI tm))).toArray⟩ := by
  refine str_ext ?_
  rw [joinE]
  show _ = flatR (rk.map (outI tm))
  unfold flatR flatE
  rw [List.map_map, List.map_map, List.map_map]
  congr 1
theorem rowI_ok (k : Nat) : okI (rowI k) ∧ (rowI k).2 ≤ 2 := by
  refine ⟨?_, by show k % 3 ≤ 2; omega⟩
  show (endS (k / 3 % 3)).cps.toList = [10] ∨ (endS (k / 3 % 3)).cps.toList = [13] ∨ (endS (k / 3 % 3)).cps.toList = [13, 10]
  unfold endS
  split
  · exact .inl (by decide)
  · split
    · exact .inr (.inl (by decide))
    · exact .inr (.inr (by decide))
theorem rows_ok {rk : List Nat} (h0 : rk ≠ []) (h : rk.length ≤ 8) : okRows 8 (rk.map rowI) := by
  refine ⟨by simpa using h0, by simpa using h, fun r hr => ?_⟩
  obtain ⟨k, _, rfl⟩ := List.mem_map.mp hr
  exact ⟨(rowI_ok k).1, Nat.le_trans (rowI_ok k).2 (by decide)⟩
/-- the segments between the quotation marks -/
def segI (tm k : Nat) : List Nat := (outE tm (k / 3 % 3)).cps.toList ++ List.replicate (dotZ (k % 3) tm) 40
def brak (k : Nat) : Nat := if k = 46 then 40 else k
theorem textQ_end : ∀ ss : List (List Nat), textQ (ss ++ [[]]) = (ss.map fun s => s ++ [34]).flatten
  | [] => rfl
  | [s] => by simp [textQ]
  | s :: u :: r => by
    have ih := textQ_end (u :: r)
    show s ++ ([34] ++ textQ ((u :: r) ++ [[]])) = _
    rw [ih]
    simp
theorem end_brak (e : Nat) : (endS e).cps.toList.map brak = (endS e).cps.toList := by
  unfold endS
  split
  · decide
  · split <;> decide
theorem out_brak (tm e : Nat) : (outE tm e).cps.toList.map brak = (outE tm e).cps.toList := by
  unfold outE
  split
  · exact end_brak e
  · decide
theorem brak_text (tm : Nat) (rk : List Nat) : (flatR (rk.map (outI tm))).map brak = textQ (rk.map (segI tm) ++ [[]]) := by
  rw [textQ_end]
  unfold flatR flatE
  rw [List.map_map, List.map_map, List.map_flatten, List.map_map, List.map_map]
  congr 1
  refine List.map_congr_left fun k _ => ?_
  show ((outE tm (k / 3 % 3)).cps.toList ++ (List.replicate (dotZ (k % 3) tm) 46 ++ [34])).map brak = segI tm k ++ [34]
  rw [List.map_append, List.map_append, out_brak, List.map_replicate]
  unfold segI
  rw [List.append_assoc]
  rfl
end Mine
end

-- part T3
section
open PySem PySem.W PyProof.Rows PySem.Calls
set_option Elab.async false
set_option maxRecDepth 100000
set_option maxHeartbeats 0
set_option linter.unusedVariables false
namespace Mine

theorem cntU_append (c : UInt8) (a b : List Nat) : cntU c (a ++ b) = cntU c a + cntU c b := by
  unfold cntU
  simp [List.count_append]
theorem cntU_nil (c : UInt8) : cntU c [] = 0 := by simp [cntU]
theorem cntU_rev (c : UInt8) (a : List Nat) : cntU c a.reverse = cntU c a := by
  unfold cntU
  simp only [List.map_toArray, List.map_reverse]
  exact List.count_reverse
theorem cntU_rep40 (n : Nat) : cntU 40 (List.replicate n 40) = n := by
  unfold cntU
  simp only [List.map_toArray, List.map_replicate]
  exact List.count_replicate_self
theorem cntU_rep41 (n : Nat) : cntU 41 (List.replicate n 40) = 0 := by
  unfold cntU
  simp only [List.map_toArray, List.map_replicate]
  rw [List.count_replicate]
  rfl
theorem cnt_end (e : Nat) : cntU 40 (endS e).cps.toList = 0 ∧ cntU 41 (endS e).cps.toList = 0 := by
  unfold endS
  split
  · decide +kernel
  · split <;> decide +kernel
theorem cnt_out (tm e : Nat) : cntU 40 (outE tm e).cps.toList = 0 ∧ cntU 41 (outE tm e).cps.toList = 0 := by
  unfold outE
  split
  · exact cnt_end e
  · decide +kernel
abbrev dz (tm k : Nat) : Nat := dotZ (k % 3) tm
theorem cnt_seg (tm k : Nat) : cntU 40 (segI tm k) = dz tm k ∧ cntU 41 (segI tm k) = 0 := by
  show cntU 40 (segI tm k) = dotZ (k % 3) tm ∧ _
  unfold segI
  rw [cntU_append, cntU_append, (cnt_out tm _).1, (cnt_out tm _).2, cntU_rep40, cntU_rep41]
  omega
theorem cnt_q : cntU 40 [34] = 0 ∧ cntU 41 [34] = 0 := by decide +kernel
def segs (tm : Nat) (rk : List Nat) : List (List Nat) := rk.map (segI tm) ++ [[]]
def segsR (tm : Nat) (rk : List Nat) : List (List Nat) := (segs tm rk).reverse.map List.reverse
def thereV (tm : Nat) : List Nat → Nat
  | [a, _, c] => dz tm a + dz tm c
  | [a, _, c, _] => dz tm a + dz tm c
  | [a, _, c, _, f] => dz tm a + dz tm c + dz tm f
  | _ => 0
def backV (tm : Nat) : List Nat → Nat
  | [a, b, _] => dz tm b + dz tm a
  | [a, _, c, _] => dz tm c + dz tm a
  | [a, b, _, e, _] => dz tm e + dz tm b + dz tm a
  | _ => 0
def fit (rk : List Nat) : Prop := (∃ a b c, rk = [a, b, c]) ∨ (∃ a b c e, rk = [a, b, c, e]) ∨ ∃ a b c e f, rk = [a, b, c, e, f]
theorem fit_of {rk : List Nat} (h3 : 3 ≤ rk.length) (h5 : rk.length ≤ 5) : fit rk := by
  rcases rk with _ | ⟨a, _ | ⟨b, _ | ⟨c, _ | ⟨e, _ | ⟨f, _ | ⟨g, r⟩⟩⟩⟩⟩⟩
  · simp at h3
  · simp at h3
  · simp at h3
  · exact .inl ⟨a, b, c, rfl⟩
  · exact .inr (.inl ⟨a, b, c, e, rfl⟩)
  · exact .inr (.inr ⟨a, b, c, e, f, rfl⟩)
  · simp at h5
theorem there_cnt (tm : Nat) {rk : List Nat} (h : fit rk) : cntU 40 (leftQ (segs tm rk)) = thereV tm rk ∧ cntU 41 (leftQ (segs tm rk)) = 0 := by
  have q := cnt_q
  rcases h with ⟨a, b, c, rfl⟩ | ⟨a, b, c, e, rfl⟩ | ⟨a, b, c, e, f, rfl⟩
  · have ha := cnt_seg tm a; have hc := cnt_seg tm c
    show cntU 40 (segI tm a ++ (segI tm c ++ ([34] ++ []))) = dz tm a + dz tm c ∧ cntU 41 (segI tm a ++ (segI tm c ++ ([34] ++ []))) = 0
    simp only [cntU_append, cntU_nil]; omega
  · have ha := cnt_seg tm a; have hc := cnt_seg tm c
    show cntU 40 (segI tm a ++ (segI tm c ++ [])) = dz tm a + dz tm c ∧ cntU 41 (segI tm a ++ (segI tm c ++ [])) = 0
    simp only [cntU_append, cntU_nil]; omega
  · have ha := cnt_seg tm a; have hc := cnt_seg tm c; have hf := cnt_seg tm f
    show cntU 40 (segI tm a ++ (segI tm c ++ (segI tm f ++ ([34] ++ [])))) = dz tm a + dz tm c + dz tm f ∧ cntU 41 (segI tm a ++ (segI tm c ++ (segI tm f ++ ([34] ++ [])))) = 0
    simp only [cntU_append, cntU_nil]; omega
theorem back_cnt (tm : Nat) {rk : List Nat} (h : fit rk) : cntU 40 (leftQ (segsR tm rk)) = backV tm rk ∧ cntU 41 (leftQ (segsR tm rk)) = 0 := by
  have q := cnt_q
  rcases h with ⟨a, b, c, rfl⟩ | ⟨a, b, c, e, rfl⟩ | ⟨a, b, c, e, f, rfl⟩
  · have ha := cnt_seg tm a; have hb := cnt_seg tm b
    show cntU 40 ([] ++ ((segI tm b).reverse ++ ([34] ++ (segI tm a).reverse))) = dz tm b + dz tm a ∧ cntU 41 ([] ++ ((segI tm b).reverse ++ ([34] ++ (segI tm a).reverse))) = 0
    simp only [cntU_append, cntU_nil, cntU_rev]; omega
  · have ha := cnt_seg tm a; have hc := cnt_seg tm c
    show cntU 40 ([] ++ ((segI tm c).reverse ++ (segI tm a).reverse)) = dz tm c + dz tm a ∧ cntU 41 ([] ++ ((segI tm c).reverse ++ (segI tm a).reverse)) = 0
    simp only [cntU_append, cntU_nil, cntU_rev]; omega
  · have ha := cnt_seg tm a; have hb := cnt_seg tm b; have he := cnt_seg tm e
    show cntU 40 ([] ++ ((segI tm e).reverse ++ ((segI tm b).reverse ++ ([34] ++ (segI tm a).reverse)))) = dz tm e + dz tm b + dz tm a ∧ cntU 41 ([] ++ ((segI tm e).reverse ++ ((segI tm b).reverse ++ ([34] ++ (segI tm a).reverse)))) = 0
    simp only [cntU_append, cntU_nil, cntU_rev]; omega
theorem textQ_snoc : ∀ (ss : List (List Nat)) (t : List Nat), ss ≠ [] → textQ (ss ++ [t]) = textQ ss ++ ([34] ++ t)
  | [], _, h => absurd rfl h
  | [s], t, _ => rfl
  | s :: u :: r, t, _ => by
    have ih := textQ_snoc (u :: r) t (by simp)
    show s ++ ([34] ++ textQ ((u :: r) ++ [t])) = (s ++ ([34] ++ textQ (u :: r))) ++ ([34] ++ t)
    rw [ih]
    simp
theorem textQ_rev : ∀ ss : List (List Nat), (textQ ss).reverse = textQ (ss.reverse.map List.reverse)
  | [] => rfl
  | [s] => rfl
  | s :: u :: r => by
    have ih := textQ_rev (u :: r)
    rw [List.reverse_cons, List.map_append]
    show (s ++ ([34] ++ textQ (u :: r))).reverse = textQ (((u :: r).reverse.map List.reverse) ++ [s.reverse])
    rw [textQ_snoc _ _ (by simp), ← ih]
    simp
theorem clean_out (tm e : Nat) : clean (outE tm e).cps.toList := by
  unfold outE
  split
  · unfold endS
    split
    · unfold clean; decide
    · split <;> (unfold clean; decide)
  · unfold clean; decide
theorem clean_seg (tm k : Nat) : clean (segI tm k) := fun c hc => by
  rcases List.mem_append.mp hc with hc | hc
  · exact clean_out tm _ c hc
  · rw [(List.mem_replicate.mp hc).2]; rfl
theorem clean_segs (tm : Nat) (rk : List Nat) : ∀ s ∈ segs tm rk, clean s := fun s hs => by
  rcases List.mem_append.mp hs with hs | hs
  · obtain ⟨k, _, rfl⟩ := List.mem_map.mp hs
    exact clean_seg tm k
  · rw [List.mem_singleton.mp hs]; exact fun c hc => nomatch hc
theorem clean_segsR (tm : Nat) (rk : List Nat) : ∀ s ∈ segsR tm rk, clean s := fun s hs => by
  obtain ⟨t, ht, rfl⟩ := List.mem_map.mp hs
  exact fun c hc => clean_segs tm rk t (List.mem_reverse.mp ht) c (List.mem_reverse.mp hc)
/-- what the octets are -/
def octs (tm : Nat) (rk : List Nat) : List Nat := textQ (segs tm rk)
theorem dz_le {tm k : Nat} (h : tm ≤ 2) : dz tm k ≤ 4 := by
  show dotZ (k % 3) tm ≤ 4
  unfold dotZ
  split <;> omega
theorem octs_len {tm : Nat} (h : tm ≤ 2) : ∀ rk : List Nat, (octs tm rk).length ≤ 7 * rk.length := fun rk => by
  unfold octs segs
  rw [textQ_end]
  induction rk with
  | nil => exact Nat.le_refl _
  | cons k rk ih =>
    simp only [List.map_cons, List.flatten_cons, List.length_append, List.length_cons] at ih ⊢
    have h1 := dz_le (k := k) h
    have h2 := outE_len tm (k / 3 % 3)
    have h3 : (segI tm k).length = (outE tm (k / 3 % 3)).length + dz tm k := by
      unfold segI
      rw [List.length_append, List.length_replicate]
      rfl
    rw [h3]
    simp only [List.length_nil] at ih ⊢
    omega
theorem asc_out (tm e : Nat) : ∀ c ∈ (outE tm e).cps.toList, c < 128 := by
  unfold outE
  split
  · unfold endS
    split
    · decide
    · split <;> decide
  · decide
theorem octs_asc (tm : Nat) (rk : List Nat) : asc (octs tm rk) := fun c hc => by
  unfold octs segs at hc
  rw [textQ_end] at hc
  obtain ⟨l, hl, hc⟩ := List.mem_flatten.mp hc
  obtain ⟨k', hk', rfl⟩ := List.mem_map.mp hl
  obtain ⟨k, _, rfl⟩ := List.mem_map.mp hk'
  rcases List.mem_append.mp hc with hc | hc
  · rcases List.mem_append.mp hc with hc | hc
    · exact asc_out tm _ c hc
    · rw [(List.mem_replicate.mp hc).2]; decide
  · rw [List.mem_singleton.mp hc]; decide
theorem octs_pos (tm : Nat) {rk : List Nat} (h : rk ≠ []) : 0 < (octs tm rk).length := by
  cases rk with
  | nil => exact absurd rfl h
  | cons k rk =>
    unfold octs segs
    rw [textQ_end]
    simp
    omega
theorem octs_rev (tm : Nat) (rk : List Nat) : (octs tm rk).reverse = textQ (segsR tm rk) := textQ_rev _
theorem home_eq (tm : Nat) {rk : List Nat} (h : fit rk) : thereV tm rk + backV tm rk = if rk.length % 2 = 0 then 2 * thereV tm rk else (rk.map (dz tm)).sum + dz tm (rk.getD 0 0) := by
  rcases h with ⟨a, b, c, rfl⟩ | ⟨a, b, c, e, rfl⟩ | ⟨a, b, c, e, f, rfl⟩
  · rw [if_neg (by simp)]
    simp only [thereV, backV, List.map_cons, List.map_nil, List.sum_cons, List.sum_nil, List.getD_cons_zero]
    omega
  · rw [if_pos (by simp)]
    simp only [thereV, backV]
    omega
  · rw [if_neg (by simp)]
    simp only [thereV, backV, List.map_cons, List.map_nil, List.sum_cons, List.sum_nil, List.getD_cons_zero]
    omega
end Mine
end

-- part Z4
section
open PySem PySem.W PyProof.Rows PySem.Calls
set_option Elab.async false
set_option maxRecDepth 100000
set_option maxHeartbeats 0
set_option linter.unusedVariables false
namespace Mine
section
variable {w : World} {A : Around} {E : Value → Shared → Prop} {s : Shared} {mg mb : Str → Option Value}
local macro_rules | `(tactic| walk_at "eval Name") => `(tactic| (k_dflt (refine' name_K ?F ?X ?T ?e ?_; (case F => k_asm); (case X => k_asm); (case T => k_asm); (case e => first | exact nm_quoted | exact nm_paren_depth | exact nm_twin_re_1 | exact nm_twin_re_2 | exact nm_law_numbers | exact nm_Accumulator | exact nm_law_sent | exact nm_byteswap | exact nm_Int2AP | exact nm_law_number_of_depths | exact nm_quote_periods | exact nm_fix_eols | exact nm_CRLF); k_whole)))
local macro_rules | `(tactic| walk_at "eval Name") => `(tactic| (k_dflt (refine' name_B ?F ?X ?T ?e ?v ?n ?_; (case F => k_asm); (case X => k_asm); (case T => k_asm); (case e => first | exact nb_enumerate | exact nb_range | exact nb_bytearray | exact nb_len | exact nb_bytes | exact nb_sum | exact nb_str | exact nb_int | exact nb_abs | exact nb_divmod | exact nb_super); (case v => boot_by_name); (case n => decide); k_whole)))
local macro_rules | `(tactic| walk_at "getMethod ref") => `(tactic| (k_dflt (refine' get_subK ?F ?X ?e ?_; (case F => k_asm); (case X => k_asm); (case e => first | exact pat145 | exact pat150 | exact pat43); k_whole)))
local macro_rules | `(tactic| walk_at "callWith ref") => `(tactic| (k_dflt (first
  | (refine' callWith_K ?k1 ?k2 ?_; (case k1 => k_asm); (case k2 => rfl); k_whole)
  | (refine' callWith_K0 ?k1 ?k2 ?_; (case k1 => k_in); (case k2 => rfl); k_whole))))


structure Bs (w : World) (mg mb : Str → Option Value) (B : Heap) : Prop where
  X : (Kf w).In B
  T : TopRead hd.view_39 loose mg mb B
  B6 : B.get? 106 = none
  bm : ∃ bm ob, mg "__builtins__" = some (.ref bm) ∧ bm ≠ builtinsNs ∧ B.get? bm = some ob ∧ ob.cls = .type "module" ∧ ob.dict = some builtinsNs ∧ ob.data = .plain
/-- the law's frame within the second loop -/
structure Sta (B h : Heap) (L x d R D Th : Addr) (m : Str → Option Value) (pre : List (Addr × Obj)) (its rws dts ths : Array Value) : Prop where
  F : Fr B L h m
  N : ∃ c n es ps c1 c2 c3, initEs es ∧ TriplesOk ps.toList ∧ News B L h (pre ++ (Th, listOf ths c3) :: (R, listOf rws c1) :: (D, listOf dts c2) :: led x d its c n es ps)
  P : ∀ p ∈ pre, plainO p.2 ∧ p.1 ≠ Th
  ap : Th ≠ R ∧ Th ≠ D
section
variable {B h h' : Heap} {L x d R D Th : Addr} {m m' : Str → Option Value} {pre : List (Addr × Obj)} {its its' rws dts ths : Array Value}
theorem Sta.grow (S : Sta B h L x d R D Th m pre its rws dts ths) (g : Grow h h') : Sta B h' L x d R D Th m pre its rws dts ths where
  F := S.F.keeps g
  N := match S.N with | ⟨c, n, es, ps, c1, c2, c3, a, b, N⟩ => ⟨c, n, es, ps, c1, c2, c3, a, b, N.keepsAll g⟩
  P := S.P
  ap := S.ap
theorem Sta.set (S : Sta B h L x d R D Th m pre its rws dts ths) {y : Str} {v : Value} (hn : h'.Ns L (fun z => if z = y then some v else m z)) (hs : Heap.SameBut L h h') : Sta B h' L x d R D Th (fun z => if z = y then some v else m z) pre its rws dts ths where
  F := S.F.set hn hs
  N := match S.N with | ⟨c, n, es, ps, c1, c2, c3, a, b, N⟩ => ⟨c, n, es, ps, c1, c2, c3, a, b, N.set hs⟩
  P := S.P
  ap := S.ap
theorem Sta.inTh (S : Sta B h L x d R D Th m pre its rws dts ths) : ∃ c, h.get? Th = some (listOf ths c) ∧ Th ≠ L ∧ B.get? Th = none :=
  match S.N with | ⟨c, n, es, ps, c1, c2, c3, a, b, N⟩ => ⟨c3, N (Th, listOf ths c3) (List.mem_append_right _ (.head _))⟩
theorem Sta.inR (S : Sta B h L x d R D Th m pre its rws dts ths) : ∃ c, h.get? R = some (listOf rws c) :=
  match S.N with | ⟨c, n, es, ps, c1, c2, c3, a, b, N⟩ => ⟨c1, (N (R, listOf rws c1) (List.mem_append_right _ (.tail _ (.head _)))).1⟩
theorem Sta.inD (S : Sta B h L x d R D Th m pre its rws dts ths) : ∃ c, h.get? D = some (listOf dts c) :=
  match S.N with | ⟨c, n, es, ps, c1, c2, c3, a, b, N⟩ => ⟨c2, (N (D, listOf dts c2) (List.mem_append_right _ (.tail _ (.tail _ (.head _))))).1⟩
theorem Sta.inX (S : Sta B h L x d R D Th m pre its rws dts ths) : ∃ c es n, h.get? x = some (ringO d its c) ∧ h.get? d = some (dictOf es n) ∧ initEs es :=
  match S.N with | ⟨c, n, es, ps, c1, c2, c3, a, b, N⟩ => ⟨c, es, n, (N (x, ringO d its c) (List.mem_append_right _ (.tail _ (.tail _ (.tail _ (.head _)))))).1, (N (d, dictOf es n) (List.mem_append_right _ (.tail _ (.tail _ (.tail _ (.tail _ (.head _))))))).1, a⟩
theorem Sta.inP (S : Sta B h L x d R D Th m pre its rws dts ths) {p : Addr × Obj} (hp : p ∈ pre) : h.get? p.1 = some p.2 :=
  match S.N with | ⟨c, n, es, ps, c1, c2, c3, a, b, N⟩ => (N p (List.mem_append_left _ hp)).1
theorem Sta.in6 (S : Sta B h L x d R D Th m pre its rws dts ths) : ∃ ps, h.get? 106 = some (tabObj ps) ∧ TriplesOk ps.toList :=
  match S.N with | ⟨c, n, es, ps, c1, c2, c3, a, b, N⟩ => ⟨ps, (N (106, tabObj ps) (List.mem_append_right _ (.tail _ (.tail _ (.tail _ (.tail _ (.tail _ (.head _)))))))).1, b⟩
theorem Sta.rg (S : Sta B h L x d R D Th m pre its rws dts ths) : Rg B h x d its :=
  match S.N with | ⟨c, n, es, ps, c1, c2, c3, a, b, N⟩ => rg_of S.F N (List.mem_append_right _ (.tail _ (.tail _ (.tail _ (.head _))))) (List.mem_append_right _ (.tail _ (.tail _ (.tail _ (.tail _ (.head _)))))) a
theorem Sta.plain (S : Sta B h L x d R D Th m pre its rws dts ths) {c1 c2 c3 : Nat} : ∀ p ∈ pre ++ [(Th, listOf ths c3), (R, listOf rws c1), (D, listOf dts c2)], plainO p.2 := fun p hp => by
  rcases List.mem_append.mp hp with hp | hp
  · exact (S.P p hp).1
  rcases List.mem_cons.mp hp with rfl | hp
  · exact .inl rfl
  rcases List.mem_cons.mp hp with rfl | hp
  · exact .inl rfl
  rw [List.mem_singleton.mp hp]
  exact .inl rfl
theorem Sta.ring (S : Sta B h L x d R D Th m pre its rws dts ths) (b : But2 x d h h') (r : Rg B h' x d its') : Sta B h' L x d R D Th m pre its' rws dts ths :=
  match S.N with
  | ⟨c, n, es, ps, c1, c2, c3, a, b', N⟩ => by
    have N0 : News B L h ((pre ++ [(Th, listOf ths c3), (R, listOf rws c1), (D, listOf dts c2)]) ++ led x d its c n es ps) := by rw [List.append_assoc]; exact N
    obtain ⟨F1, c', n', es', he', N1⟩ := led_ring S.F N0 S.plain b r
    rw [List.append_assoc] at N1
    exact ⟨F1, ⟨c', n', es', ps, c1, c2, c3, he', b', N1⟩, S.P, S.ap⟩
theorem Sta.th (S : Sta B h L x d R D Th m pre its rws dts ths) {ths' : Array Value} {k : Nat} (hs : Heap.SameBut Th h h') (ho : h'.get? Th = some (listOf ths' k)) : Sta B h' L x d R D Th m pre its rws dts ths' :=
  match S.N with
  | ⟨c, n, es, ps, c1, c2, c3, a, b', N⟩ => by
    have z := N (Th, listOf ths c3) (List.mem_append_right _ (.head _))
    have hx := (N (x, ringO d its c) (List.mem_append_right _ (.tail _ (.tail _ (.tail _ (.head _)))))).1
    have hd := (N (d, dictOf es n) (List.mem_append_right _ (.tail _ (.tail _ (.tail _ (.tail _ (.head _))))))).1
    have h6 := (N (106, tabObj ps) (List.mem_append_right _ (.tail _ (.tail _ (.tail _ (.tail _ (.tail _ (.head _)))))))).1
    have q := plain_ne (p := (Th, listOf ths c3)) z.1 (.inl rfl) hx hd
    refine ⟨S.F.change hs z.2.1 z.2.2, ⟨c, n, es, ps, c1, c2, k, a, b', news_set N (fun p hp => (S.P p hp).2) (fun p hp => ?_) hs ho⟩, S.P, S.ap⟩
    rcases List.mem_cons.mp hp with rfl | hp
    · exact Ne.symm S.ap.1
    rcases List.mem_cons.mp hp with rfl | hp
    · exact Ne.symm S.ap.2
    rcases List.mem_cons.mp hp with rfl | hp
    · exact Ne.symm q.1
    rcases List.mem_cons.mp hp with rfl | hp
    · exact Ne.symm q.2
    rw [List.mem_singleton.mp hp]
    intro e
    have h1 := z.1
    rw [show (Th, listOf ths c3).1 = 106 from e.symm, h6] at h1
    cases h1
theorem Sta.tab (S : Sta B h L x d R D Th m pre its rws dts ths) (hB : B.get? 106 = none) (hk : ∀ b o, b ≠ 106 → h.get? b = some o → h'.get? b = some o) {ps' : Array Value} (h6 : h'.get? 106 = some (tabObj ps')) (ht : TriplesOk ps'.toList) : Sta B h' L x d R D Th m pre its rws dts ths :=
  match S.N with
  | ⟨c, n, es, ps, c1, c2, c3, a, b', N⟩ => by
    have z := N (106, tabObj ps) (List.mem_append_right _ (.tail _ (.tail _ (.tail _ (.tail _ (.tail _ (.head _)))))))
    have F' : Fr B L h' m := ⟨S.F.ns.at' fun o e => hk L o (Ne.symm z.2.1) e, fun b o e => hk b o (fun q => by rw [q, hB] at e; cases e) (S.F.keep b o e), S.F.above⟩
    have hp6 : ∀ p ∈ pre ++ [(Th, listOf ths c3), (R, listOf rws c1), (D, listOf dts c2)], p.1 ≠ 106 := fun p hp e => by
      have q := (N p (by
        rcases List.mem_append.mp hp with hp | hp
        · exact List.mem_append_left _ hp
        rcases List.mem_cons.mp hp with rfl | hp
        · exact List.mem_append_right _ (.head _)
        rcases List.mem_cons.mp hp with rfl | hp
        · exact List.mem_append_right _ (.tail _ (.head _))
        rw [List.mem_singleton.mp hp]; exact List.mem_append_right _ (.tail _ (.tail _ (.head _))))).1
      rw [e, z.1] at q
      have pl := S.plain p hp
      rw [← Option.some.inj q] at pl
      rcases pl with h | h | h | h | h | h <;> cases h
    have hx := N (x, ringO d its c) (List.mem_append_right _ (.tail _ (.tail _ (.tail _ (.head _)))))
    have hd := N (d, dictOf es n) (List.mem_append_right _ (.tail _ (.tail _ (.tail _ (.tail _ (.head _))))))
    refine ⟨F', ⟨c, n, es, ps', c1, c2, c3, a, ht, fun p hp => ?_⟩, S.P, S.ap⟩
    have hp' : p ∈ (pre ++ [(Th, listOf ths c3), (R, listOf rws c1), (D, listOf dts c2)]) ++ led x d its c n es ps' := by rw [List.append_assoc]; exact hp
    rcases List.mem_append.mp hp' with hp | hp
    · have hin : p ∈ pre ++ (Th, listOf ths c3) :: (R, listOf rws c1) :: (D, listOf dts c2) :: led x d its c n es ps := by
        rw [show pre ++ (Th, listOf ths c3) :: (R, listOf rws c1) :: (D, listOf dts c2) :: led x d its c n es ps = (pre ++ [(Th, listOf ths c3), (R, listOf rws c1), (D, listOf dts c2)]) ++ led x d its c n es ps from by rw [List.append_assoc]; rfl]
        exact List.mem_append_left _ hp
      exact ⟨hk _ _ (hp6 p hp) (N p hin).1, (N p hin).2⟩
    rcases List.mem_cons.mp hp with rfl | hp
    · refine ⟨hk _ _ ?_ hx.1, hx.2⟩
      intro e
      have h1 := hx.1
      rw [show (x, ringO d its c).1 = 106 from e, z.1] at h1
      cases h1
    rcases List.mem_cons.mp hp with rfl | hp
    · refine ⟨hk _ _ ?_ hd.1, hd.2⟩
      intro e
      have h1 := hd.1
      rw [show (d, dictOf es n).1 = 106 from e, z.1] at h1
      cases h1
    rw [List.mem_singleton.mp hp]
    exact ⟨h6, z.2⟩
end
end
end Mine
end

-- part Z5
section
open PySem PySem.W PyProof.Rows PySem.Calls
set_option Elab.async false
set_option maxRecDepth 100000
set_option maxHeartbeats 0
set_option linter.unusedVariables false
namespace Mine
section
variable {w : World} {A : Around} {E : Value → Shared → Prop} {s : Shared} {mg mb : Str → Option Value}
local macro_rules | `(tactic| walk_at "eval Name") => `(tactic| (k_dflt (refine' name_K ?F ?X ?T ?e ?_; (case F => k_asm); (case X => k_asm); (case T => k_asm); (case e => first | exact nm_quoted | exact nm_paren_depth | exact nm_twin_re_1 | exact nm_twin_re_2 | exact nm_law_numbers | exact nm_Accumulator | exact nm_law_sent | exact nm_byteswap | exact nm_Int2AP | exact nm_law_number_of_depths | exact nm_quote_periods | exact nm_fix_eols | exact nm_CRLF); k_whole)))
local macro_rules | `(tactic| walk_at "eval Name") => `(tactic| (k_dflt (refine' name_B ?F ?X ?T ?e ?v ?n ?_; (case F => k_asm); (case X => k_asm); (case T => k_asm); (case e => first | exact nb_enumerate | exact nb_range | exact nb_bytearray | exact nb_len | exact nb_bytes | exact nb_sum | exact nb_str | exact nb_int | exact nb_abs | exact nb_divmod | exact nb_super); (case v => boot_by_name); (case n => decide); k_whole)))
local macro_rules | `(tactic| walk_at "getMethod ref") => `(tactic| (k_dflt (refine' get_subK ?F ?X ?e ?_; (case F => k_asm); (case X => k_asm); (case e => first | exact pat145 | exact pat150 | exact pat43); k_whole)))
local macro_rules | `(tactic| walk_at "callWith ref") => `(tactic| (k_dflt (first
  | (refine' callWith_K ?k1 ?k2 ?_; (case k1 => k_asm); (case k2 => rfl); k_whole)
  | (refine' callWith_K0 ?k1 ?k2 ?_; (case k1 => k_in); (case k2 => rfl); k_whole))))


/-- the ring's items are the rows rk -/
structure Its (rk : List Nat) (tr : List (Addr × Obj)) (its : Array Value) (pre : List (Addr × Obj)) : Prop where
  len : tr.length = rk.length
  its : its.toList = tr.map fun p => Value.ref p.1
  mem : ∀ p ∈ tr, p ∈ pre
  tup : ∀ (i k : Nat) (p : Addr × Obj), rk[i]? = some k → tr[i]? = some p → TupO k p.2
theorem grow_tab {B h : Heap} (hB : B.get? 106 = none) (k : Grow B h) : Grow B (tabH h) := fun b o e => hideAll_get _ (k b o e) fun hm => by
  rw [List.mem_singleton.mp hm, hB] at e; cases e
theorem toks_of {rk : List Nat} {tr : List (Addr × Obj)} {its : Array Value} {pre : List (Addr × Obj)} (I : Its rk tr its pre) :
    ∃ f : Nat → Tok × Tok, ∀ j, j < rk.length → ∃ p nn, tr[j]? = some p ∧ p.2.cls = .type "tuple" ∧ p.2.data = .seq #[.str (endS (rk.getD j 0 / 3 % 3)) (f j).1, .str (dqS (rk.getD j 0 % 3)) (f j).2] nn := by
  have h : ∀ j, ∃ f : Tok × Tok, j < rk.length → ∃ p nn, tr[j]? = some p ∧ p.2.cls = .type "tuple" ∧ p.2.data = .seq #[.str (endS (rk.getD j 0 / 3 % 3)) f.1, .str (dqS (rk.getD j 0 % 3)) f.2] nn := fun j => by
    by_cases hj : j < rk.length
    · have hj2 : j < tr.length := by rw [I.len]; exact hj
      have h1 : tr[j]? = some tr[j] := List.getElem?_eq_getElem hj2
      have h2 : rk[j]? = some rk[j] := List.getElem?_eq_getElem hj
      obtain ⟨c, te, tb, nn, hd⟩ := I.tup j _ _ h2 h1
      refine ⟨(te, tb), fun _ => ⟨_, nn, h1, c, ?_⟩⟩
      rw [List.getD_eq_getElem?_getD, h2]
      exact hd
    · exact ⟨(0, 0), fun q => absurd q hj⟩
  exact ⟨fun j => (h j).choose, fun j => (h j).choose_spec⟩
theorem str_sta {B : Heap} {L x d R D Th : Addr} {m : Str → Option Value} {pre tr : List (Addr × Obj)} {its rws dts ths : Array Value} {rk : List Nat} {Q : Value → Shared → Prop}
    (b : Bs w mg mb B) (S : Sta B s.heap L x d R D Th m pre its rws dts ths) (I : Its rk tr its pre) (hl : rk.length ≤ 8) (hroom : A.depth + 2 < recursionLimit) (hh : A.handled = none) (hu : A.units + 2 < cLine) (hg : ∀ y ∈ s.gens, y.bare = true)
    (h : ∀ h' g' t' k', Sta B h' L x d R D Th m pre its rws dts ths → (∀ y ∈ g', y.bare = true) → Q (.str ⟨(flatR (rk.map rowI)).toArray⟩ t') { s with heap := h', gens := g', toks := k' }) :
    wpAny (model prg w) A (call (.type "str") [.ref x]) Q E s := by
  obtain ⟨c, es, n, hx, hd, he⟩ := S.inX
  obtain ⟨ps, h6, ht⟩ := S.in6
  obtain ⟨f, hf⟩ := toks_of I
  have g := grow_tab b.B6 S.F.keep
  have hsz : its.size = rk.length := by rw [← Array.length_toList, I.its, List.length_map, I.len]
  refine kso_call hu (b.X.keeps S.F.keep) (ringInst hx hd) (FR.f_str w) (by rfl) ?_
  have n6 : ∀ {a : Addr} {o : Obj}, s.heap.get? a = some o → o ≠ tabObj ps → a ≠ 106 := fun h1 h2 e => by
    subst e
    rw [h6] at h1
    exact h2 (Option.some.inj h1).symm
  refine str_c (x := x) (d := d) (its := its) (ps := ps) (Ts := fun j => (tr.getD j (0, emptyDict)).1) (a := fun j => (endS (rk.getD j 0 / 3 % 3), (f j).1)) (b := fun j => (dqS (rk.getD j 0 % 3), (f j).2)) (b.X.keeps g) (b.T.keeps g) (by exact hroom) (by exact hh) ⟨b.X.keeps S.F.keep, b.T.keeps S.F.keep⟩ ?_ h6 ht hx hd (by omega) ?_ ?_ ?_ ?_ ?_ ?_ (fun h' g' t' tk hbare hkeep hmore => ?_) hg
  · obtain ⟨bm, ob, b1, b2, b3, b4⟩ := b.bm
    exact ⟨bm, ob, b1, b2, g _ _ b3, b4⟩
  · intro j hj
    obtain ⟨p, nn, h1, _⟩ := hf j (hsz ▸ hj)
    have e : its[j]? = its.toList[j]? := by simp
    rw [e, I.its, List.getElem?_map, h1, List.getD_eq_getElem?_getD, h1]
    rfl
  · intro j hj
    obtain ⟨p, nn, h1, h2, h3⟩ := hf j (hsz ▸ hj)
    have e : (tr.getD j (0, emptyDict)) = p := by rw [List.getD_eq_getElem?_getD, h1]; rfl
    show s.heap.IsTuple (tr.getD j (0, emptyDict)).1 _
    rw [e]
    exact ⟨p.2, S.inP (I.mem p (List.mem_of_getElem? h1)), h2, nn, h3⟩
  · intro j hj
    exact ⟨Nat.le_trans (endS_len _) (by decide), by
      show (List.replicate _ 46 ++ [34]).toArray.size ≤ 1000
      simp
      omega⟩
  · exact n6 hx (by intro e; cases e)
  · exact n6 hd (by intro e; cases e)
  · intro j hj
    obtain ⟨p, nn, h1, h2, h3⟩ := hf j (hsz ▸ hj)
    have e : (tr.getD j (0, emptyDict)) = p := by rw [List.getD_eq_getElem?_getD, h1]; rfl
    show (tr.getD j (0, emptyDict)).1 ≠ 106
    rw [e]
    exact n6 (S.inP (I.mem p (List.mem_of_getElem? h1))) (by intro e; rw [e] at h2; cases h2)
  · obtain ⟨more, m1, m2⟩ := hmore
    have S' := S.tab b.B6 hkeep m1 m2
    have et : (List.range its.size).map (fun j => Txt.join (Str.ofString "") [endS (rk.getD j 0 / 3 % 3), dqS (rk.getD j 0 % 3)]) = rk.map fun k => Txt.join (Str.ofString "") [endS (k / 3 % 3), dqS (k % 3)] := by
      rw [hsz]
      apply List.ext_getElem?
      intro i
      by_cases hi : i < rk.length
      · rw [List.getElem?_map, List.getElem?_range hi, List.getElem?_map, List.getElem?_eq_getElem hi]
        have e3 : rk.getD i 0 = rk[i] := by rw [List.getD_eq_getElem?_getD, List.getElem?_eq_getElem hi]; rfl
        show some (Txt.join (Str.ofString "") [endS (rk.getD i 0 / 3 % 3), dqS (rk.getD i 0 % 3)]) = some (Txt.join (Str.ofString "") [endS (rk[i] / 3 % 3), dqS (rk[i] % 3)])
        rw [e3]
      · rw [List.getElem?_eq_none (by simp; omega), List.getElem?_eq_none (by simp; omega)]
    show Q (.str (Txt.join (Str.ofString "") ((List.range its.size).map (fun j => Txt.join (Str.ofString "") [endS (rk.getD j 0 / 3 % 3), dqS (rk.getD j 0 % 3)]))) t') _
    rw [et, ring_text]
    exact h h' g' t' tk S' hbare
end
end Mine
end

-- part Z6
section
open PySem PySem.W PyProof.Rows PySem.Calls
set_option Elab.async false
set_option maxRecDepth 100000
set_option maxHeartbeats 0
set_option linter.unusedVariables false
namespace Mine
section
variable {w : World} {A : Around} {E : Value → Shared → Prop} {s : Shared} {mg mb : Str → Option Value}
local macro_rules | `(tactic| walk_at "eval Name") => `(tactic| (k_dflt (refine' name_K ?F ?X ?T ?e ?_; (case F => k_asm); (case X => k_asm); (case T => k_asm); (case e => first | exact nm_quoted | exact nm_paren_depth | exact nm_twin_re_1 | exact nm_twin_re_2 | exact nm_law_numbers | exact nm_Accumulator | exact nm_law_sent | exact nm_byteswap | exact nm_Int2AP | exact nm_law_number_of_depths | exact nm_quote_periods | exact nm_fix_eols | exact nm_CRLF); k_whole)))
local macro_rules | `(tactic| walk_at "eval Name") => `(tactic| (k_dflt (refine' name_B ?F ?X ?T ?e ?v ?n ?_; (case F => k_asm); (case X => k_asm); (case T => k_asm); (case e => first | exact nb_enumerate | exact nb_range | exact nb_bytearray | exact nb_len | exact nb_bytes | exact nb_sum | exact nb_str | exact nb_int | exact nb_abs | exact nb_divmod | exact nb_super); (case v => boot_by_name); (case n => decide); k_whole)))
local macro_rules | `(tactic| walk_at "getMethod ref") => `(tactic| (k_dflt (refine' get_subK ?F ?X ?e ?_; (case F => k_asm); (case X => k_asm); (case e => first | exact pat145 | exact pat150 | exact pat43); k_whole)))
local macro_rules | `(tactic| walk_at "callWith ref") => `(tactic| (k_dflt (first
  | (refine' callWith_K ?k1 ?k2 ?_; (case k1 => k_asm); (case k2 => rfl); k_whole)
  | (refine' callWith_K0 ?k1 ?k2 ?_; (case k1 => k_in); (case k2 => rfl); k_whole))))


noncomputable def st2 (w : World) (k : Nat) : Stmt := match (lawFor w 8)[k]? with | some s => s | none => .Pass ⟨0, 0, 0, 0⟩
theorem callT_h {M : Model} {env : Env} {T : String} {pos : Pos} {e : Expr} {rest : List Expr} {Q : Value → Shared → Prop} (h : wpAny M A (spliced (backTo pos (starEach (e :: rest) env))) (fun vs s₁ => Hold (wpAny M A (call (.type T) vs) Q E s₁)) E s)
    (he : starEach (e :: rest) env = (false, eval e env) :: starEach rest env := by rfl) (hplain : (backTo pos (starEach rest env)).any (·.1) = false := by rfl) :
    wpAny M A (callWith pos (.type T) [] (backTo pos (starEach (e :: rest) env)) []) Q E s := by
  rw [he] at h ⊢
  exact PyProof.Rows.callWith_type (by show (false || (backTo pos (starEach rest env)).any (·.1)) = false; rw [hplain]; rfl) (evalArgs_plain h)
section
variable {B : Heap} {L x d R D Th : Addr} {m : Str → Option Value} {pre tr : List (Addr × Obj)} {its rws dts ths : Array Value} {rk : List Nat} {tm : Nat} {Q : Flow → Shared → Prop} {stmt : Stmt} {env : Env}
/-- mail = _law_sent(str(ring), times) -/
theorem b0_c {tt : Tok} (b : Bs w mg mb B) (S : Sta B s.heap L x d R D Th m pre its rws dts ths) (I : Its rk tr its pre) (h0 : rk ≠ []) (hl : rk.length ≤ 8) (htm : tm ≤ 2) (hroom : A.depth + 2 < recursionLimit) (hh : A.handled = none) (hu : A.units + 2 < cLine) (hg : ∀ y ∈ s.gens, y.bare = true)
    (e1 : m (Str.ofString "ring") = some (.ref x)) (e2 : m (Str.ofString "times") = some (.int tm tt))
    (h : ∀ h' g' t' k', Sta B h' L x d R D Th (fun y => if y = Str.ofString "mail" then some (.str ⟨(flatR (rk.map (outI tm))).toArray⟩ t') else m y) pre its rws dts ths → (∀ y ∈ g', y.bare = true) → Q .next { s with heap := h', gens := g', toks := k' })
    (hstmt : stmt = st2 w 0) (henv : env = lawEnv w L) : wpAny (model prg w) A (exec stmt env) Q E s := by
  subst hstmt henv
  conv in st2 w 0 => whnf
  unfold lawEnv
  conv in (lawFd w).scope => whnf
  refine wpAny_Assign_Name ?_
  refine Call_ ?_
  refine name_K S.F b.X b.T nm_law_sent ?_
  refine callK_h b.X (by rfl) ?_
  refine args_cons ?_
  refine Call_ ?_
  refine name_B S.F b.X b.T nb_str (by boot_by_name) (by decide) ?_
  refine callT_h ?_
  refine args_cons ?_
  refine ld S.F e1 ?_
  refine args_nil ?_
  refine unhold ?_
  refine str_sta b S I hl hroom hh hu hg fun h1 g1 t1 k1 S1 hg1 => ?_
  refine args_cons ?_
  refine ld S1.F e2 ?_
  refine args_nil ?_
  refine unhold ⟨b.X.keeps S1.F.keep, ?_⟩
  show wpAny _ _ (call (.ref 185) [.str _ _, .int _ _]) _ _ _
  refine sent_c (n := tm) (rs := rk.map rowI) ⟨b.X.keeps S1.F.keep, b.T.keeps S1.F.keep⟩ (by omega) hh (by omega) rfl (rows_ok h0 hl) fun h2 t2 k2 g2 => ?_
  have S2 := S1.grow g2
  refine wpAny_storeName_local rfl S2.F.ns (fun h3 hn3 hs3 => ?_) rfl
  have S3 := S2.set hn3 hs3
  have q := out_sent rk tm
  rw [q] at S3
  exact h h3 g1 t2 _ S3 hg1
end
end
end Mine
end

-- part Z7
section
open PySem PySem.W PyProof.Rows PySem.Calls
set_option Elab.async false
set_option maxRecDepth 100000
set_option maxHeartbeats 0
set_option linter.unusedVariables false
namespace Mine
section
variable {w : World} {A : Around} {E : Value → Shared → Prop} {s : Shared} {mg mb : Str → Option Value}
local macro_rules | `(tactic| walk_at "eval Name") => `(tactic| (k_dflt (refine' name_K ?F ?X ?T ?e ?_; (case F => k_asm); (case X => k_asm); (case T => k_asm); (case e => first | exact nm_quoted | exact nm_paren_depth | exact nm_twin_re_1 | exact nm_twin_re_2 | exact nm_law_numbers | exact nm_Accumulator | exact nm_law_sent | exact nm_byteswap | exact nm_Int2AP | exact nm_law_number_of_depths | exact nm_quote_periods | exact nm_fix_eols | exact nm_CRLF); k_whole)))
local macro_rules | `(tactic| walk_at "eval Name") => `(tactic| (k_dflt (refine' name_B ?F ?X ?T ?e ?v ?n ?_; (case F => k_asm); (case X => k_asm); (case T => k_asm); (case e => first | exact nb_enumerate | exact nb_range | exact nb_bytearray | exact nb_len | exact nb_bytes | exact nb_sum | exact nb_str | exact nb_int | exact nb_abs | exact nb_divmod | exact nb_super); (case v => boot_by_name); (case n => decide); k_whole)))
local macro_rules | `(tactic| walk_at "getMethod ref") => `(tactic| (k_dflt (refine' get_subK ?F ?X ?e ?_; (case F => k_asm); (case X => k_asm); (case e => first | exact pat145 | exact pat150 | exact pat43); k_whole)))
local macro_rules | `(tactic| walk_at "callWith ref") => `(tactic| (k_dflt (first
  | (refine' callWith_K ?k1 ?k2 ?_; (case k1 => k_asm); (case k2 => rfl); k_whole)
  | (refine' callWith_K0 ?k1 ?k2 ?_; (case k1 => k_in); (case k2 => rfl); k_whole))))


theorem grow_push {h : Heap} (o : Obj) : Grow h (h.push o) := fun _ _ e => Heap.get?_push_of_some _ e
theorem tail_slice {prog : Program} {value slice : Expr} {l : Addr} {items : Array Value} {vl vu : Value} {lo hi : Option Int} {Q : Value → Shared → Prop} (hl : s.heap.IsList l items) (pl : IsPart vl lo) (pu : IsPart vu hi) (hz : items.size ≤ sizeLine)
    (h : ∀ h' D, Grow s.heap h' → h'.get? D = some (listOf (slicePick items lo hi none) 0) → Q (.ref D) { s with heap := h' })
    (hs : subscripted slice false (.ref l) (.ref s.heap.objs.size) = operate [.ref s.heap.objs.size, .ref l] (getItem (.ref l) (.ref s.heap.objs.size)) := by with_unfolding_all rfl)
    (ht : ∀ r, letTemporaryGo value (.ref l) r = pure () := by intro _; with_unfolding_all rfl) :
    wpAny (model prog w) A (subscriptTail value slice (.ref l) (.ref s.heap.objs.size)) Q E { s with heap := s.heap.push { cls := .type "slice", data := .fields #[vl, vu, .none] } } := by
  refine subscriptTail_ops (Heap.IsList.typeIs (s := { s with heap := s.heap.push { cls := .type "slice", data := .fields #[vl, vu, .none] } }) (hl.push _)) list_getitem_lookup
    (wpAny_getItem_list_slice (hl.push _) (Heap.IsSliceOf.new ..) pl pu .none (by simp) ?_ hz) hs ht
  exact h _ _ (Grow.trans (grow_push _) (grow_push _)) (Heap.get?_push_size _ rfl)
theorem strs_rot {vs : List Value} {ys : List Str} (h : StrsAre vs ys) (k : Nat) : StrsAre (vs.drop k ++ vs.take k) (ys.drop k ++ ys.take k) := (h.drop' k).append' (h.take' k)
theorem sumlen_le {B : Nat} (ys : List Str) (h : ∀ y ∈ ys, y.length ≤ B) : (ys.map (·.length)).sum ≤ ys.length * B := sum_le h
theorem rowOf_len {tm : Nat} (h : tm ≤ 2) (k : Nat) : (rowOf tm k).length ≤ 10 := by
  have h1 := outE_len tm (k / 3 % 3)
  have h2 := dz_le (k := k) h
  show ((outE tm (k / 3 % 3)).cps.toList ++ (List.replicate (dotZ (k % 3) tm) 46 ++ [34])).toArray.size ≤ 10
  have h3 : (outE tm (k / 3 % 3)).cps.toList.length ≤ 2 := by rw [Array.length_toList]; exact h1
  have h4 : dotZ (k % 3) tm ≤ 4 := h2
  simp only [List.size_toArray, List.length_append, List.length_replicate, List.length_cons, List.length_nil]
  omega
section
variable {B : Heap} {L x d R D Th : Addr} {m : Str → Option Value} {pre tr : List (Addr × Obj)} {its rws dts ths : Array Value} {ks rk : List Nat} {tm : Nat} {Q : Flow → Shared → Prop} {stmt : Stmt} {env : Env}
/-- if mail != ''.join(rows[k:] + rows[:k]) -/
theorem b1_c {k : Nat} {tk t0 : Tok} (b : Bs w mg mb B) (S : Sta B s.heap L x d R D Th m pre its rws dts ths) (hr : StrsAre rws.toList (ks.map (rowOf tm))) (hk : k ≤ ks.length) (hl : ks.length ≤ 8) (htm : tm ≤ 2) (hrk : rk = ks.drop k ++ ks.take k)
    (e1 : m (Str.ofString "mail") = some (.str ⟨(flatR (rk.map (outI tm))).toArray⟩ t0)) (e2 : m (Str.ofString "rows") = some (.ref R)) (e3 : m (Str.ofString "k") = some (.int k tk))
    (h : ∀ h' k', Sta B h' L x d R D Th m pre its rws dts ths → Q .next { s with heap := h', toks := k' })
    (hstmt : stmt = st2 w 1) (henv : env = lawEnv w L) : wpAny (model prg w) A (exec stmt env) Q E s := by
  subst hstmt henv
  conv in st2 w 1 => whnf
  unfold lawEnv
  conv in (lawFd w).scope => whnf
  have hsz : rws.size = ks.length := by rw [← Array.length_toList, hr.length, List.length_map]
  refine wpAny_If ?_
  refine wpAny_isTrue_Compare1 ?_ (by with_unfolding_all rfl)
  refine ld S.F e1 ?_
  refine Meth_h ?_
  refine wpAny_Constant_str ?_
  refine unhold ?_
  with_reducible refine get_str2 PySem.F.slot_str_join PySem.F.type_str_join ?_
  refine callB_h ?_
  refine args_cons ?_
  refine wpAny_BinOp ?_
  refine Subscript_ ?_
  refine ld S.F e2 ?_
  refine wpAny_Slice ?_
  refine evalPart_some_step ?_
  refine ld S.F e3 ?_
  refine evalPart_none_step ?_
  refine evalPart_none_step ?_
  refine Exists.elim S.inR fun cR hR => ?_
  have hRl : s.heap.IsList R rws := ⟨_, hR, rfl, cR, rfl⟩
  refine tail_slice (s := ⟨_, _, _, _, _⟩) hRl (.int _ _) .none (by rw [sizeLine_eq]; omega) fun h1 D1 g1 hD1 => ?_
  have S1 := S.grow g1
  refine Subscript_ ?_
  refine ld S1.F e2 ?_
  refine wpAny_Slice ?_
  refine evalPart_none_step ?_
  refine evalPart_some_step ?_
  refine ld S1.F e3 ?_
  refine evalPart_none_step ?_
  refine tail_slice (s := ⟨_, _, _, _, _⟩) (hRl.at fun o e => g1 _ _ e) .none (.int _ _) (by rw [sizeLine_eq]; omega) fun h2 D2 g2 hD2 => ?_
  have S2 := S1.grow g2
  have f1 : slicePick rws (some (k : Int)) none none = (rws.toList.drop k).toArray := slicePick_from rws k (by omega)
  have f2 : slicePick rws none (some (k : Int)) none = (rws.toList.take k).toArray := slicePick_upto' rws k
  rw [f1] at hD1
  rw [f2] at hD2
  refine PySem.P.add_list (s := ⟨_, _, _, _, _⟩) (g2 _ _ hD1) hD2 ?_ (by rw [sizeLine_eq]; simp; omega)
  refine args_nil ?_
  refine unhold ?_
  have g3 : Grow h2 (h2.push { cls := .type "list", data := .seq ((rws.toList.drop k).toArray ++ (rws.toList.take k).toArray) }) := grow_push _
  have S3 := S2.grow g3
  have hJ : (h2.push { cls := .type "list", data := .seq ((rws.toList.drop k).toArray ++ (rws.toList.take k).toArray) }).IsList h2.objs.size ((rws.toList.drop k).toArray ++ (rws.toList.take k).toArray) := ⟨_, Heap.get?_push_size _ rfl, rfl, 0, rfl⟩
  have hS : StrsAre ((rws.toList.drop k).toArray ++ (rws.toList.take k).toArray).toList (rk.map (rowOf tm)) := by
    have := strs_rot hr k
    rw [← List.map_drop, ← List.map_take, ← List.map_append, ← hrk] at this
    simpa using this
  show wpAny _ _ (call (.builtin "str.join") [.str _ _, .ref _]) _ _ _
  refine join_list hJ hS ?_ fun t5 k5 => ?_
  · have h1 := sumlen_le (B := 10) (rk.map (rowOf tm)) fun y hy => by
      obtain ⟨q, _, rfl⟩ := List.mem_map.mp hy
      exact rowOf_len htm q
    have h2 : rk.length ≤ 8 := by rw [hrk, List.length_append, List.length_drop, List.length_take]; omega
    have e0 : (Str.ofString "").length = 0 := by decide
    rw [List.length_map] at h1 ⊢
    rw [e0]
    omega
  refine PySem.P.ne_str ?_
  refine wpAny_truthy_bool ?_
  refine ite_f (by rw [rows_text]; exact bne_self_eq_false _) ?_
  refine wpAny_execs_nil ?_
  exact h _ _ S3
end
end
end Mine
end

-- part Z8
section
open PySem PySem.W PyProof.Rows PySem.Calls
set_option Elab.async false
set_option maxRecDepth 100000
set_option maxHeartbeats 0
set_option linter.unusedVariables false
namespace Mine
section
variable {w : World} {A : Around} {E : Value → Shared → Prop} {s : Shared} {mg mb : Str → Option Value}
local macro_rules | `(tactic| walk_at "eval Name") => `(tactic| (k_dflt (refine' name_K ?F ?X ?T ?e ?_; (case F => k_asm); (case X => k_asm); (case T => k_asm); (case e => first | exact nm_quoted | exact nm_paren_depth | exact nm_twin_re_1 | exact nm_twin_re_2 | exact nm_law_numbers | exact nm_Accumulator | exact nm_law_sent | exact nm_byteswap | exact nm_Int2AP | exact nm_law_number_of_depths | exact nm_quote_periods | exact nm_fix_eols | exact nm_CRLF); k_whole)))
local macro_rules | `(tactic| walk_at "eval Name") => `(tactic| (k_dflt (refine' name_B ?F ?X ?T ?e ?v ?n ?_; (case F => k_asm); (case X => k_asm); (case T => k_asm); (case e => first | exact nb_enumerate | exact nb_range | exact nb_bytearray | exact nb_len | exact nb_bytes | exact nb_sum | exact nb_str | exact nb_int | exact nb_abs | exact nb_divmod | exact nb_super); (case v => boot_by_name); (case n => decide); k_whole)))
local macro_rules | `(tactic| walk_at "getMethod ref") => `(tactic| (k_dflt (refine' get_subK ?F ?X ?e ?_; (case F => k_asm); (case X => k_asm); (case e => first | exact pat145 | exact pat150 | exact pat43); k_whole)))
local macro_rules | `(tactic| walk_at "callWith ref") => `(tactic| (k_dflt (first
  | (refine' callWith_K ?k1 ?k2 ?_; (case k1 => k_asm); (case k2 => rfl); k_whole)
  | (refine' callWith_K0 ?k1 ?k2 ?_; (case k1 => k_in); (case k2 => rfl); k_whole))))


def oct8 (tm : Nat) (rk : List Nat) : List UInt8 := (octs tm rk).map (·.toUInt8)
theorem repl_octs (tm : Nat) (rk : List Nat) : Txt.replace ⟨(flatR (rk.map (outI tm))).toArray⟩ (Str.ofString ".") (Str.ofString "(") = ⟨(octs tm rk).toArray⟩ := by
  refine str_ext ?_
  rw [show Str.ofString "." = ⟨#[46]⟩ from by decide, show Str.ofString "(" = ⟨#[40]⟩ from by decide, repl_map]
  show (flatR (rk.map (outI tm))).map brak = octs tm rk
  rw [brak_text]
  rfl
theorem mail_len {tm : Nat} (h : tm ≤ 2) (rk : List Nat) : (flatR (rk.map (outI tm))).length ≤ 7 * rk.length := by
  have e : (flatR (rk.map (outI tm))).length = (octs tm rk).length := by
    have := congrArg List.length (brak_text tm rk)
    rw [List.length_map] at this
    exact this
  rw [e]
  exact octs_len h rk
theorem replace_c {prog : Program} {tm : Nat} {rk : List Nat} {t u v : Tok} {Q : Value → Shared → Prop} (htm : tm ≤ 2) (hl : rk.length ≤ 8) (hu : 1 ≤ u) (hv : v = u + 1) (h : ∀ t' k, Q (.str ⟨(octs tm rk).toArray⟩ t') { s with toks := k }) :
    wpAny (model prog w) A (call (.builtin "str.replace") [.str ⟨(flatR (rk.map (outI tm))).toArray⟩ t, .str (Str.ofString ".") u, .str (Str.ofString "(") v]) Q E s := by
  have e := repl_octs tm rk
  have h1 := mail_len htm rk
  have hu0 : u ≠ 0 := Nat.ne_of_gt hu
  have hv0 : v ≠ 0 := by rw [hv]; exact Nat.succ_ne_zero _
  have huv : u ≠ v := by rw [hv]; exact Nat.ne_of_lt (Nat.lt_succ_self _)
  refine SC.replaceW (x := ⟨(flatR (rk.map (outI tm))).toArray⟩) (y := Str.ofString ".") (z := Str.ofString "(") hu0 hv0 huv (by decide) (by show (flatR (rk.map (outI tm))).toArray.size ≤ 1048576; rw [List.size_toArray]; omega) (by decide) fun t' k => ?_
  rw [e]
  exact h t' k
theorem depth1 {tm : Nat} {rk : List Nat} {t : Tok} {Q : Value → Shared → Prop} (G : Gd w mg mb s.heap) (hroom : A.depth < recursionLimit) (hf : fit rk) (htm : tm ≤ 2) (hl : rk.length ≤ 8)
    (h : ∀ h' tk k, Grow s.heap h' → Q (.int (thereV tm rk : Nat) tk) { s with heap := h', toks := k }) :
    wpAny (model prg w) A (call (.ref 51) [.bytes (oct8 tm rk).toArray t]) Q E s := by
  have h0 : rk ≠ [] := by rcases hf with ⟨_, _, _, rfl⟩ | ⟨_, _, _, _, rfl⟩ | ⟨_, _, _, _, _, rfl⟩ <;> simp
  have hlen := octs_len htm rk
  refine depth_c1 (segs := segs tm rk) G hroom (u8_back (octs_asc tm rk)) (clean_segs tm rk) (Nat.le_trans hlen (by omega)) (octs_pos tm h0) fun h' tk k g => ?_
  have e : (0 : Int) + (cntU 40 (leftQ (segs tm rk)) : Nat) - (cntU 41 (leftQ (segs tm rk)) : Nat) = (thereV tm rk : Nat) := by rw [(there_cnt tm hf).1, (there_cnt tm hf).2]; omega
  rw [e]
  exact h h' tk k g
theorem depth2 {tm : Nat} {rk : List Nat} {t u : Tok} {Q : Value → Shared → Prop} (G : Gd w mg mb s.heap) (hroom : A.depth < recursionLimit) (hf : fit rk) (htm : tm ≤ 2) (hl : rk.length ≤ 8)
    (h : ∀ h' tk k, Grow s.heap h' → Q (.int (thereV tm rk + backV tm rk : Nat) tk) { s with heap := h', toks := k }) :
    wpAny (model prg w) A (call (.ref 51) [.bytes (oct8 tm rk).reverse.toArray t, .int (thereV tm rk : Nat) u]) Q E s := by
  have h0 : rk ≠ [] := by rcases hf with ⟨_, _, _, rfl⟩ | ⟨_, _, _, _, rfl⟩ | ⟨_, _, _, _, _, rfl⟩ <;> simp
  have hlen := octs_len htm rk
  have er : (oct8 tm rk).reverse = (octs tm rk).reverse.map (·.toUInt8) := by unfold oct8; rw [List.map_reverse]
  have ea : asc (octs tm rk).reverse := fun c hc => octs_asc tm rk c (List.mem_reverse.mp hc)
  rw [er]
  refine depth_c2 (segs := segsR tm rk) G hroom (by rw [u8_back ea, octs_rev]) (clean_segsR tm rk) (by rw [← octs_rev, List.length_reverse]; omega) (by rw [← octs_rev, List.length_reverse]; exact octs_pos tm h0) fun h' tk k g => ?_
  have e : ((thereV tm rk : Nat) : Int) + (cntU 40 (leftQ (segsR tm rk)) : Nat) - (cntU 41 (leftQ (segsR tm rk)) : Nat) = (thereV tm rk + backV tm rk : Nat) := by rw [(back_cnt tm hf).1, (back_cnt tm hf).2]; omega
  rw [e]
  exact h h' tk k g
section
variable {B : Heap} {L x d R D Th : Addr} {m : Str → Option Value} {pre tr : List (Addr × Obj)} {its rws dts ths : Array Value} {ks rk : List Nat} {tm : Nat} {Q : Flow → Shared → Prop} {stmt : Stmt} {env : Env}
/-- octets = mail.replace('.', '(').encode('ascii') -/
theorem b2_c {t0 : Tok} (htk : 1 ≤ s.toks) (b : Bs w mg mb B) (S : Sta B s.heap L x d R D Th m pre its rws dts ths) (h0 : rk ≠ []) (hl : rk.length ≤ 8) (htm : tm ≤ 2)
    (e1 : m (Str.ofString "mail") = some (.str ⟨(flatR (rk.map (outI tm))).toArray⟩ t0))
    (h : ∀ h' k' t', Sta B h' L x d R D Th (fun y => if y = Str.ofString "octets" then some (.bytes (oct8 tm rk).toArray t') else m y) pre its rws dts ths → Q .next { s with heap := h', toks := k' })
    (hstmt : stmt = st2 w 2) (henv : env = lawEnv w L) : wpAny (model prg w) A (exec stmt env) Q E s := by
  subst hstmt henv
  conv in st2 w 2 => whnf
  unfold lawEnv
  conv in (lawFd w).scope => whnf
  have hlen := octs_len htm rk
  have hpos := octs_pos tm h0
  refine wpAny_Assign_Name ?_
  refine Meth_h ?_
  refine Meth_h ?_
  refine ld S.F e1 ?_
  refine unhold ?_
  with_reducible refine get_str2 PySem.F.slot_str_replace PySem.F.type_str_replace ?_
  refine callB_h ?_
  refine args_cons ?_
  refine wpAny_Constant_str ?_
  refine args_cons ?_
  refine wpAny_Constant_str ?_
  refine args_nil ?_
  refine unhold ?_
  show wpAny _ _ (call (.builtin "str.replace") [.str _ _, .str _ _, .str _ _]) _ _ _
  refine replace_c htm hl htk rfl fun t5 k5 => ?_
  refine unhold ?_
  with_reducible refine get_str2 PySem.F.slot_str_encode PySem.F.type_str_encode ?_
  refine callB_h ?_
  refine args_cons ?_
  refine wpAny_Constant_str ?_
  refine args_nil ?_
  refine unhold ?_
  show wpAny _ _ (call (.builtin "str.encode") [.str _ _, .str _ _]) _ _ _
  refine encode_c (octs_asc tm rk) (by rw [sizeLine_eq]; omega) (List.ne_nil_of_length_pos hpos) ?_
  refine wpAny_storeName_local rfl S.F.ns (fun h3 hn3 hs3 => ?_) rfl
  exact h h3 _ _ (S.set hn3 hs3)
/-- there.append(_paren_depth(octets)) -/
theorem b3_c {t0 : Tok} (b : Bs w mg mb B) (S : Sta B s.heap L x d R D Th m pre its rws dts ths) (hf : fit rk) (hl : rk.length ≤ 8) (htm : tm ≤ 2) (hroom : A.depth < recursionLimit) (hz : ths.size < 100)
    (e1 : m (Str.ofString "octets") = some (.bytes (oct8 tm rk).toArray t0)) (e2 : m (Str.ofString "there") = some (.ref Th))
    (h : ∀ h' k' t', Sta B h' L x d R D Th m pre its rws dts (ths.push (.int (thereV tm rk : Nat) t')) → Q .next { s with heap := h', toks := k' })
    (hstmt : stmt = st2 w 3) (henv : env = lawEnv w L) : wpAny (model prg w) A (exec stmt env) Q E s := by
  subst hstmt henv
  conv in st2 w 3 => whnf
  unfold lawEnv
  conv in (lawFd w).scope => whnf
  refine Expr_h ?_
  refine Meth_h ?_
  refine ld S.F e2 ?_
  refine unhold ?_
  refine Exists.elim S.inTh fun c0 hT => ?_
  refine listMethod_K (news := [(Th, listOf ths c0)]) (h₀ := B) (L := L) (fun p hp => by rw [List.mem_singleton.mp hp]; exact hT) (.head _) PySem.F.slot_list_append PySem.F.type_list_append ?_
  refine callB_h ?_
  refine args_cons ?_
  refine Call_ ?_
  refine name_K S.F b.X b.T nm_paren_depth ?_
  refine callK_h b.X (by rfl) ?_
  refine args_cons ?_
  refine ld S.F e1 ?_
  refine args_nil ?_
  refine unhold ⟨b.X.keeps S.F.keep, ?_⟩
  show wpAny _ _ (call (.ref 51) [.bytes _ _]) _ _ _
  refine depth1 ⟨b.X.keeps S.F.keep, b.T.keeps S.F.keep⟩ hroom hf htm hl fun h1 t1 k1 g1 => ?_
  have S1 := S.grow g1
  refine args_nil ?_
  refine unhold ?_
  show wpAny _ _ (call (.builtin "list.append") [.ref Th, _]) _ _ _
  refine append_at (g1 _ _ hT.1) (fun h2 hs2 ho2 => ?_) (by rw [sizeLine_eq]; omega)
  exact ⟨rfl, h h2 _ t1 (S1.th hs2 ho2)⟩
end
end
end Mine
end

-- part Z9
section
open PySem PySem.W PyProof.Rows PySem.Calls
set_option Elab.async false
set_option maxRecDepth 100000
set_option maxHeartbeats 0
set_option linter.unusedVariables false
namespace Mine
section
variable {w : World} {A : Around} {E : Value → Shared → Prop} {s : Shared} {mg mb : Str → Option Value}
local macro_rules | `(tactic| walk_at "eval Name") => `(tactic| (k_dflt (refine' name_K ?F ?X ?T ?e ?_; (case F => k_asm); (case X => k_asm); (case T => k_asm); (case e => first | exact nm_quoted | exact nm_paren_depth | exact nm_twin_re_1 | exact nm_twin_re_2 | exact nm_law_numbers | exact nm_Accumulator | exact nm_law_sent | exact nm_byteswap | exact nm_Int2AP | exact nm_law_number_of_depths | exact nm_quote_periods | exact nm_fix_eols | exact nm_CRLF); k_whole)))
local macro_rules | `(tactic| walk_at "eval Name") => `(tactic| (k_dflt (refine' name_B ?F ?X ?T ?e ?v ?n ?_; (case F => k_asm); (case X => k_asm); (case T => k_asm); (case e => first | exact nb_enumerate | exact nb_range | exact nb_bytearray | exact nb_len | exact nb_bytes | exact nb_sum | exact nb_str | exact nb_int | exact nb_abs | exact nb_divmod | exact nb_super); (case v => boot_by_name); (case n => decide); k_whole)))
local macro_rules | `(tactic| walk_at "getMethod ref") => `(tactic| (k_dflt (refine' get_subK ?F ?X ?e ?_; (case F => k_asm); (case X => k_asm); (case e => first | exact pat145 | exact pat150 | exact pat43); k_whole)))
local macro_rules | `(tactic| walk_at "callWith ref") => `(tactic| (k_dflt (first
  | (refine' callWith_K ?k1 ?k2 ?_; (case k1 => k_asm); (case k2 => rfl); k_whole)
  | (refine' callWith_K0 ?k1 ?k2 ?_; (case k1 => k_in); (case k2 => rfl); k_whole))))


theorem S_Call {M : Model} {env : Env} {func : Expr} {args : List Expr} {pos : Pos} {Q : Value → Shared → Prop}
    (h : wpAny M A (eval func env) (fun f s₁ => wpS M A (callWith pos f [] (backTo pos (starEach args env)) []) Q E s₁) E s)
    (he : eval (.Call func args [] pos) env = (do callWith pos (← eval func env) [] (backTo pos (starEach args env)) (backToKw pos (keywordEach [] env))) := by rfl) :
    wpS M A (eval (.Call func args [] pos) env) Q E s := by
  rw [he]; exact .bindA h
theorem S_args_cons {M : Model} {env : Env} {e : Expr} {rest : List Expr} {pos : Pos} {Q : List Value → Shared → Prop}
    (h : wpS M A (eval e env) (fun v s₁ => wpAny M A (spliced (backTo pos (starEach rest env))) (fun vs s₂ => Q (v :: vs) s₂) E s₁) E s)
    (he : starEach (e :: rest) env = (false, eval e env) :: starEach rest env := by rfl) : wpS M A (spliced (backTo pos (starEach (e :: rest) env))) Q E s := by
  rw [he]
  exact S_spliced_cons h
theorem tail_item {prog : Program} {value slice : Expr} {l : Addr} {its : Array Value} {c : Nat} {i : Int} {k : Nat} {u : Tok} {v : Value} {Q : Value → Shared → Prop} (hl : s.heap.get? l = some (listOf its c)) (hi : i = k) (hk : k < 2 ^ 62) (hx : its[k]? = some v) (h : Q v s)
    (hs : subscripted slice false (.ref l) (.int i u) = operate [.ref l, .int i u] (getItem (.ref l) (.int i u)) := by with_unfolding_all rfl) : wpAny (model prog w) A (subscriptTail value slice (.ref l) (.int i u)) Q E s := by
  have hL : s.heap.IsList l its := ⟨_, hl, rfl, c, rfl⟩
  exact tail_any hL.typeIs slot_list_getitem.lookup (wpAny_getItem_list hL (by omega) (by omega) (by rw [hi, Int.toNat_natCast]; exact hx) h) hs
theorem sumG {prog : Program} {l : Addr} {vs : List Value} {ns : List Int} {Q : Value → Shared → Prop} (hh : A.handled = none) (hl : s.heap.IsList l vs.toArray) (hi : IntsAre vs ns)
    (h : ∀ h' tk t', Grow s.heap h' → Q (.int ns.sum t') { s with heap := h', toks := tk }) : wpAny (model prog w) A (call (.builtin "sum") [.ref l]) Q E s := by
  obtain ⟨xs, hx⟩ := hi.allInts.items
  have hn : numsOf vs.toArray.toList = ns := by rw [show vs.toArray.toList = vs from rfl, hi.numsOf]
  rw [hx] at hl hn
  rw [nums_intItems] at hn
  refine sum_intListG hh hl fun h' tk t' hk => ?_
  have := h h' tk t' hk
  rw [preSum_eq, List.take_of_length_le (by simp), hn]
  exact this
theorem rot_sum {α : Type} (f : α → Nat) (l : List α) (k : Nat) : ((l.drop k ++ l.take k).map f).sum = (l.map f).sum := by
  have e := List.take_append_drop k l
  conv => rhs; rw [← e]
  simp only [List.map_append, List.sum_append]
  omega
theorem rot_head {l : List Nat} {k : Nat} (hk : k < l.length) : (l.drop k ++ l.take k).getD 0 0 = l[k] := by
  rw [List.getD_eq_getElem?_getD, List.getElem?_append_left (by rw [List.length_drop]; omega), List.getElem?_drop]
  simp [List.getElem?_eq_getElem hk]
theorem dot_sum (tm : Nat) : ∀ ks : List Nat, (ks.map (dotOf tm)).sum = (((ks.map (dz tm)).sum : Nat) : Int)
  | [] => rfl
  | k :: ks => by
    rw [List.map_cons, List.sum_cons, dot_sum tm ks, List.map_cons, List.sum_cons]
    show ((dotZ (k % 3) tm : Nat) : Int) + _ = ((dotZ (k % 3) tm + _ : Nat) : Int)
    omega
section
variable {B : Heap} {L x d R D Th : Addr} {m : Str → Option Value} {pre tr : List (Addr × Obj)} {its rws dts ths : Array Value} {ks rk : List Nat} {tm : Nat} {Q : Flow → Shared → Prop} {stmt : Stmt} {env : Env}
/-- home = _paren_depth(_byteswap(octets, len(octets)), there[k]) -/
theorem b4_c {k : Nat} {t0 tk : Tok} (b : Bs w mg mb B) (S : Sta B s.heap L x d R D Th m pre its rws dts ths) (hf : fit rk) (hl : rk.length ≤ 8) (htm : tm ≤ 2) (hroom : A.depth < recursionLimit) (hh : A.handled = none) (hk : k < 100) (hx : ∃ t, ths[k]? = some (.int (thereV tm rk : Nat) t))
    (e1 : m (Str.ofString "octets") = some (.bytes (oct8 tm rk).toArray t0)) (e2 : m (Str.ofString "there") = some (.ref Th)) (e3 : m (Str.ofString "k") = some (.int k tk))
    (h : ∀ h' k' t', Sta B h' L x d R D Th (fun y => if y = Str.ofString "home" then some (.int (thereV tm rk + backV tm rk : Nat) t') else m y) pre its rws dts ths → Q .next { s with heap := h', toks := k' })
    (hstmt : stmt = st2 w 4) (henv : env = lawEnv w L) : wpS (model prg w) A (exec stmt env) Q E s := by
  subst hstmt henv
  conv in st2 w 4 => whnf
  unfold lawEnv
  conv in (lawFd w).scope => whnf
  have h0 : rk ≠ [] := by rcases hf with ⟨_, _, _, rfl⟩ | ⟨_, _, _, _, rfl⟩ | ⟨_, _, _, _, _, rfl⟩ <;> simp
  have hlen : (oct8 tm rk).length ≤ 7 * rk.length := by unfold oct8; rw [List.length_map]; exact octs_len htm rk
  have hpos : 0 < (oct8 tm rk).length := by unfold oct8; rw [List.length_map]; exact octs_pos tm h0
  refine S_Assign (by rfl) ?_
  refine S_Call ?_
  refine name_K S.F b.X b.T nm_paren_depth ?_
  refine S_callWith_K (K := Kf w) (by rfl) ?_
  refine S_args_cons ?_
  refine S_Call ?_
  refine name_K S.F b.X b.T nm_byteswap ?_
  refine S_callWith_K (K := Kf w) (by rfl) ?_
  refine .of ?_
  refine args_cons ?_
  refine ld S.F e1 ?_
  refine args_cons ?_
  refine Call_ ?_
  refine name_B S.F b.X b.T nb_len (by boot_by_name) (by decide) ?_
  refine callB_h ?_
  refine args_cons ?_
  refine ld S.F e1 ?_
  refine args_nil ?_
  refine unhold ?_
  show wpAny _ _ (call (.builtin "len") [.bytes _ _]) _ _ _
  refine len_bytes (by rw [List.size_toArray]; omega) ?_
  refine args_nil ?_
  refine ⟨b.X.keeps S.F.keep, ?_⟩
  show wpS _ _ (call (.ref 171) [.bytes _ _, .int _ _]) _ _ _
  refine swap_c (l := oct8 tm rk) ⟨b.X.keeps S.F.keep, b.T.keeps S.F.keep⟩ hroom hh (by omega) hpos fun h1 t1 k1 g1 => ?_
  have S1 := S.grow g1
  refine args_cons ?_
  refine Subscript_ ?_
  refine ld S1.F e2 ?_
  refine ld S1.F e3 ?_
  refine Exists.elim S1.inTh fun c0 hT => ?_
  refine Exists.elim hx fun tx hx => ?_
  refine tail_item hT.1 rfl (by omega) hx ?_
  refine args_nil ?_
  refine ⟨b.X.keeps S1.F.keep, .of ?_⟩
  show wpAny _ _ (call (.ref 51) [.bytes _ _, .int _ _]) _ _ _
  refine depth2 ⟨b.X.keeps S1.F.keep, b.T.keeps S1.F.keep⟩ hroom hf htm hl fun h2 t2 k2 g2 => ?_
  have S2 := S1.grow g2
  refine wpAny_storeName_local rfl S2.F.ns (fun h3 hn3 hs3 => ?_) rfl
  exact h h3 _ t2 (S2.set hn3 hs3)
end
end
end Mine
end

-- part Z10
section
open PySem PySem.W PyProof.Rows PySem.Calls
set_option Elab.async false
set_option maxRecDepth 100000
set_option maxHeartbeats 0
set_option linter.unusedVariables false
namespace Mine
section
variable {w : World} {A : Around} {E : Value → Shared → Prop} {s : Shared} {mg mb : Str → Option Value}
local macro_rules | `(tactic| walk_at "eval Name") => `(tactic| (k_dflt (refine' name_K ?F ?X ?T ?e ?_; (case F => k_asm); (case X => k_asm); (case T => k_asm); (case e => first | exact nm_quoted | exact nm_paren_depth | exact nm_twin_re_1 | exact nm_twin_re_2 | exact nm_law_numbers | exact nm_Accumulator | exact nm_law_sent | exact nm_byteswap | exact nm_Int2AP | exact nm_law_number_of_depths | exact nm_quote_periods | exact nm_fix_eols | exact nm_CRLF); k_whole)))
local macro_rules | `(tactic| walk_at "eval Name") => `(tactic| (k_dflt (refine' name_B ?F ?X ?T ?e ?v ?n ?_; (case F => k_asm); (case X => k_asm); (case T => k_asm); (case e => first | exact nb_enumerate | exact nb_range | exact nb_bytearray | exact nb_len | exact nb_bytes | exact nb_sum | exact nb_str | exact nb_int | exact nb_abs | exact nb_divmod | exact nb_super); (case v => boot_by_name); (case n => decide); k_whole)))
local macro_rules | `(tactic| walk_at "getMethod ref") => `(tactic| (k_dflt (refine' get_subK ?F ?X ?e ?_; (case F => k_asm); (case X => k_asm); (case e => first | exact pat145 | exact pat150 | exact pat43); k_whole)))
local macro_rules | `(tactic| walk_at "callWith ref") => `(tactic| (k_dflt (first
  | (refine' callWith_K ?k1 ?k2 ?_; (case k1 => k_asm); (case k2 => rfl); k_whole)
  | (refine' callWith_K0 ?k1 ?k2 ?_; (case k1 => k_in); (case k2 => rfl); k_whole))))


/-- evaluates to y, with new objects and tokens alone -/
def Evg (M : Model) (A : Around) (E : Value → Shared → Prop) (t : Sem Value) (y : Tok → Value) (s : Shared) : Prop := ∀ Q : Value → Shared → Prop, (∀ h' t' k', Grow s.heap h' → Q (y t') { s with heap := h', toks := k' }) → wpAny M A t Q E s
theorem evg {M : Model} {t : Sem Value} {Q : Value → Shared → Prop} (y : Tok → Value) (h1 : Evg M A E t y s) (h2 : ∀ h' t' k', Grow s.heap h' → Q (y t') { s with heap := h', toks := k' }) : wpAny M A t Q E s := h1 Q h2
section
variable {B : Heap} {L x d R D Th : Addr} {m : Str → Option Value} {pre tr : List (Addr × Obj)} {its rws dts ths : Array Value} {ks rk : List Nat} {tm : Nat} {Q : Flow → Shared → Prop} {stmt : Stmt} {env : Env}
/-- if home != (2 * there[k] if size % 2 == 0 else sum(dots) + dots[k]) -/
theorem b5_c {k : Nat} {t0 tk ts : Tok} (b : Bs w mg mb B) (S : Sta B s.heap L x d R D Th m pre its rws dts ths) (hf : fit rk) (hd : IntsAre dts.toList (ks.map (dotOf tm))) (hrk : rk = ks.drop k ++ ks.take k) (hh : A.handled = none) (hk : k < ks.length) (hl : ks.length ≤ 8) (hx : ∃ t, ths[k]? = some (.int (thereV tm rk : Nat) t))
    (e1 : m (Str.ofString "home") = some (.int (thereV tm rk + backV tm rk : Nat) t0)) (e2 : m (Str.ofString "there") = some (.ref Th)) (e3 : m (Str.ofString "k") = some (.int k tk)) (e4 : m (Str.ofString "size") = some (.int ks.length ts)) (e5 : m (Str.ofString "dots") = some (.ref D))
    (h : ∀ h' k', Sta B h' L x d R D Th m pre its rws dts ths → Q .next { s with heap := h', toks := k' })
    (hstmt : stmt = st2 w 5) (henv : env = lawEnv w L) : wpAny (model prg w) A (exec stmt env) Q E s := by
  subst hstmt henv
  conv in st2 w 5 => whnf
  unfold lawEnv
  conv in (lawFd w).scope => whnf
  have hlr : rk.length = ks.length := by rw [hrk, List.length_append, List.length_drop, List.length_take]; omega
  have hsum : (rk.map (dz tm)).sum = (ks.map (dz tm)).sum := by rw [hrk]; exact rot_sum _ _ _
  have hhd : rk.getD 0 0 = ks[k] := by rw [hrk]; exact rot_head hk
  have key := home_eq tm hf
  rw [hlr, hsum, hhd] at key
  refine wpAny_If ?_
  refine wpAny_isTrue_Compare1 ?_ (by with_unfolding_all rfl)
  refine ld S.F e1 ?_
  refine evg (fun t => .int (thereV tm rk + backV tm rk : Nat) t) ?_ fun h1 t1 k1 g1 => ?_
  · intro Q' hq
    refine wpAny_IfExp ?_
    refine wpAny_isTrue_Compare1 ?_ (by with_unfolding_all rfl)
    refine wpAny_BinOp ?_
    refine ld S.F e4 ?_
    refine wpAny_Constant_int ?_
    refine mod_int' (by decide) ?_
    refine wpAny_Constant_int ?_
    refine PySem.P.eq_int ?_
    refine wpAny_truthy_bool ?_
    have hmod : ((ks.length : Nat) : Int).fmod 2 = ((ks.length % 2 : Nat) : Int) := by rw [Int.fmod_eq_emod_of_nonneg _ (by decide)]; omega
    by_cases hp : ks.length % 2 = 0
    · refine ite_t (by rw [hmod, hp]; rfl) ?_
      rw [if_pos hp] at key
      refine wpAny_BinOp ?_
      refine wpAny_Constant_int ?_
      refine Subscript_ ?_
      refine ld S.F e2 ?_
      refine ld S.F e3 ?_
      refine Exists.elim S.inTh fun c0 hT => ?_
      refine Exists.elim hx fun tx hx => ?_
      refine tail_item hT.1 rfl (by omega) hx ?_
      refine mul_int ?_ (IntMulOk.of_left (by decide +kernel))
      have e : (2 : Int) * (thereV tm rk : Nat) = (thereV tm rk + backV tm rk : Nat) := by rw [key]; omega
      rw [e]
      exact hq _ _ _ (Grow.refl _)
    · refine ite_f (by rw [hmod]; simp; omega) ?_
      rw [if_neg hp] at key
      refine Exists.elim S.inD fun c2 hD => ?_
      refine wpAny_BinOp ?_
      refine Call_ ?_
      refine name_B S.F b.X b.T nb_sum (by boot_by_name) (by decide) ?_
      refine callB_h ?_
      refine args_cons ?_
      refine ld S.F e5 ?_
      refine args_nil ?_
      refine unhold ?_
      show wpAny _ _ (call (.builtin "sum") [.ref D]) _ _ _
      refine sumG (vs := dts.toList) hh ⟨_, hD, rfl, c2, rfl⟩ hd fun h2 k2 t2 g2 => ?_
      have S2 := S.grow g2
      refine Subscript_ ?_
      refine ld S2.F e5 ?_
      refine ld S2.F e3 ?_
      have hkd : (ks.map (dotOf tm))[k]? = some (dotOf tm ks[k]) := by rw [List.getElem?_map, List.getElem?_eq_getElem hk]; rfl
      refine Exists.elim (hd.get k _ hkd) fun td hdk => ?_
      refine tail_item (g2 _ _ hD) rfl (by omega) (by simpa using hdk) ?_
      refine add_int ?_
      have e : (ks.map (dotOf tm)).sum + dotOf tm ks[k] = (thereV tm rk + backV tm rk : Nat) := by
        rw [key, dot_sum]
        show _ + ((dotZ (ks[k] % 3) tm : Nat) : Int) = ((_ + dotZ (ks[k] % 3) tm : Nat) : Int)
        omega
      rw [e]
      exact hq _ _ _ g2
  refine PySem.P.ne_int ?_
  refine wpAny_truthy_bool ?_
  refine ite_f (bne_self_eq_false _) ?_
  refine wpAny_execs_nil ?_
  exact h h1 _ (S.grow g1)
/-- ring.reset(ring.pop_from(1) + ring.pop_from()) -/
theorem b6_c (b : Bs w mg mb B) (S : Sta B s.heap L x d R D Th m pre its rws dts ths) (hroom : A.depth < recursionLimit) (hh : A.handled = none) (h0 : 1 ≤ its.size) (hz : its.size < 100)
    (e1 : m (Str.ofString "ring") = some (.ref x))
    (h : ∀ h' k', Sta B h' L x d R D Th m pre ((its.toList.drop 1).toArray ++ (its.toList.take 1).toArray) rws dts ths → Q .next { s with heap := h', toks := k' })
    (hstmt : stmt = st2 w 6) (henv : env = lawEnv w L) : wpAny (model prg w) A (exec stmt env) Q E s := by
  subst hstmt henv
  conv in st2 w 6 => whnf
  unfold lawEnv
  conv in (lawFd w).scope => whnf
  refine Exists.elim S.inX fun c q1 => Exists.elim q1 fun es q2 => Exists.elim q2 fun n q => ?_
  refine Expr_h ?_
  refine Meth_h ?_
  refine ld S.F e1 ?_
  refine unhold ?_
  refine ring_get (b.X.keeps S.F.keep) q.1 q.2.1 q.2.2 (by decide) (FR.f_reset w) (looks_typeIn (b.X.keeps S.F.keep) (FR.t_119 w)) (by decide) ?_
  refine callK_h b.X (by rfl) ?_
  refine args_cons ?_
  refine wpAny_BinOp ?_
  refine Meth_h ?_
  refine ld S.F e1 ?_
  refine unhold ?_
  refine ring_get (b.X.keeps S.F.keep) q.1 q.2.1 q.2.2 (by decide) (FR.f_pop_from w) (looks_typeIn (b.X.keeps S.F.keep) (FR.t_90 w)) (by decide) ?_
  refine callK_h b.X (by rfl) ?_
  refine args_cons ?_
  refine wpAny_Constant_int ?_
  refine args_nil ?_
  refine unhold ⟨b.X.keeps S.F.keep, ?_⟩
  show wpAny _ _ (call (.ref 90) [.ref x, .int (1 : Nat) _]) _ _ _
  refine pop_c (.inl rfl) ⟨b.X, b.T⟩ S.rg hroom hh (by omega) h0 fun h1 D1 c1 k1 bt1 r1 hD1 hn1 => ?_
  have S1 := S.ring bt1 r1
  refine Exists.elim S1.inX fun c' q1' => Exists.elim q1' fun es' q2' => Exists.elim q2' fun n' q' => ?_
  refine Meth_h ?_
  refine ld S1.F e1 ?_
  refine unhold ?_
  refine ring_get (b.X.keeps S1.F.keep) q'.1 q'.2.1 q'.2.2 (by decide) (FR.f_pop_from w) (looks_typeIn (b.X.keeps S1.F.keep) (FR.t_90 w)) (by decide) ?_
  refine callWith_K0 (b.X.keeps S1.F.keep) (by rfl) ?_
  show wpAny _ _ (call (.ref 90) [.ref x]) _ _ _
  refine pop_c (i := 0) (t := 389) (.inr ⟨rfl, rfl, rfl⟩) ⟨b.X, b.T⟩ S1.rg hroom hh (by simp; omega) (Nat.zero_le _) fun h2 D2 c2 k2 bt2 r2 hD2 hn2 => ?_
  have S2 := S1.ring bt2 r2
  have nx : D1 ≠ x := fun e => by
    rw [e] at hD1
    have := q'.1.symm.trans hD1
    cases this
  have nd : D1 ≠ d := dict_ne hD1 q'.2.1
  have hD1' := bt2 D1 _ nx nd hD1
  refine PySem.P.add_list (s := ⟨_, _, _, _, _⟩) hD1' hD2 ?_ (by rw [sizeLine_eq]; simp; omega)
  refine args_nil ?_
  have g3 : Grow h2 (h2.push { cls := .type "list", data := .seq ((its.toList.drop 1).toArray ++ (((its.toList.take 1).toArray).toList.drop 0).toArray) }) := grow_push _
  have S3 := S2.grow g3
  refine unhold ⟨b.X.keeps S3.F.keep, ?_⟩
  show wpAny _ _ (call (.ref 119) [.ref x, .ref _]) _ _ _
  refine reset_c (cl := 0) ⟨b.X, b.T⟩ S3.rg hroom (Heap.get?_push_size _ rfl) (by simp; omega) fun h4 k4 bt4 r4 => ?_
  have S4 := S3.ring bt4 r4
  refine ⟨rfl, ?_⟩
  have e : (its.toList.drop 1).toArray ++ (((its.toList.take 1).toArray).toList.drop 0).toArray = (its.toList.drop 1).toArray ++ (its.toList.take 1).toArray := by simp
  rw [e] at S4
  exact h h4 k4 S4
end
end
end Mine
end

-- part Z11
section
open PySem PySem.W PyProof.Rows PySem.Calls
set_option Elab.async false
set_option maxRecDepth 100000
set_option maxHeartbeats 0
set_option linter.unusedVariables false
namespace Mine
section
variable {w : World} {A : Around} {E : Value → Shared → Prop} {s : Shared} {mg mb : Str → Option Value}
local macro_rules | `(tactic| walk_at "eval Name") => `(tactic| (k_dflt (refine' name_K ?F ?X ?T ?e ?_; (case F => k_asm); (case X => k_asm); (case T => k_asm); (case e => first | exact nm_quoted | exact nm_paren_depth | exact nm_twin_re_1 | exact nm_twin_re_2 | exact nm_law_numbers | exact nm_Accumulator | exact nm_law_sent | exact nm_byteswap | exact nm_Int2AP | exact nm_law_number_of_depths | exact nm_quote_periods | exact nm_fix_eols | exact nm_CRLF); k_whole)))
local macro_rules | `(tactic| walk_at "eval Name") => `(tactic| (k_dflt (refine' name_B ?F ?X ?T ?e ?v ?n ?_; (case F => k_asm); (case X => k_asm); (case T => k_asm); (case e => first | exact nb_enumerate | exact nb_range | exact nb_bytearray | exact nb_len | exact nb_bytes | exact nb_sum | exact nb_str | exact nb_int | exact nb_abs | exact nb_divmod | exact nb_super); (case v => boot_by_name); (case n => decide); k_whole)))
local macro_rules | `(tactic| walk_at "getMethod ref") => `(tactic| (k_dflt (refine' get_subK ?F ?X ?e ?_; (case F => k_asm); (case X => k_asm); (case e => first | exact pat145 | exact pat150 | exact pat43); k_whole)))
local macro_rules | `(tactic| walk_at "callWith ref") => `(tactic| (k_dflt (first
  | (refine' callWith_K ?k1 ?k2 ?_; (case k1 => k_asm); (case k2 => rfl); k_whole)
  | (refine' callWith_K0 ?k1 ?k2 ?_; (case k1 => k_in); (case k2 => rfl); k_whole))))


theorem wpS.with_toks {α : Type} {M : Model} {t : Sem α} {Q : α → Shared → Prop} {n : Nat} (hn : n ≤ s.toks) (h : wpS M A t (fun a s' => n ≤ s'.toks → Q a s') E s) : wpS M A t Q E s :=
  fun Γ p hΓ hc => Sem.wp_mono M Γ t (fun _ _ _ x => x.2 x.1) (fun _ _ _ x => x.2) p s (Sem.wp_toks M Γ n t _ _ p s hn (h Γ p hΓ hc))
def rot {α : Type} (j : Nat) (l : List α) : List α := l.drop j ++ l.take j
theorem rot_len {α : Type} {j : Nat} {l : List α} (h : j ≤ l.length) : (rot j l).length = l.length := by
  unfold rot; rw [List.length_append, List.length_drop, List.length_take]; omega
theorem rot_next {α : Type} {j : Nat} {l : List α} (h : j < l.length) : (rot j l).drop 1 ++ (rot j l).take 1 = rot (j + 1) l := by
  have e : l.drop j = l[j] :: l.drop (j + 1) := (List.drop_eq_getElem_cons h)
  unfold rot
  rw [e]
  show (l.drop (j + 1) ++ l.take j) ++ [l[j]] = _
  rw [List.append_assoc, List.take_add_one, List.getElem?_eq_getElem h]
  rfl
theorem rot_at {α : Type} (l : List α) {j i : Nat} : (rot j l)[i]? = if i < l.length - j then l[j + i]? else (l.take j)[i - (l.length - j)]? := by
  unfold rot
  by_cases h : i < l.length - j
  · rw [if_pos h, List.getElem?_append_left (by rw [List.length_drop]; exact h), List.getElem?_drop]
  · rw [if_neg h, List.getElem?_append_right (by rw [List.length_drop]; omega), List.length_drop]
theorem rot_map {α β : Type} (f : α → β) (j : Nat) (l : List α) : (rot j l).map f = rot j (l.map f) := by
  unfold rot; rw [List.map_append, List.map_drop, List.map_take]
theorem tup_rot {ks : List Nat} {tl : List (Addr × Obj)} (hl : tl.length = ks.length) (h : ∀ (i k : Nat) (p : Addr × Obj), ks[i]? = some k → tl[i]? = some p → TupO k p.2) (j : Nat) :
    ∀ (i k : Nat) (p : Addr × Obj), (rot j ks)[i]? = some k → (rot j tl)[i]? = some p → TupO k p.2 := fun i k p h1 h2 => by
  rw [rot_at] at h1 h2
  rw [hl] at h2
  by_cases hi : i < ks.length - j
  · rw [if_pos hi] at h1 h2
    exact h _ k p h1 h2
  · rw [if_neg hi] at h1 h2
    rw [List.getElem?_take] at h1 h2
    by_cases hq : i - (ks.length - j) < j
    · rw [if_pos hq] at h1 h2
      exact h _ k p h1 h2
    · rw [if_neg hq] at h1
      cases h1
/-- the names of the second loop -/
structure Nm (m : Str → Option Value) (x R D Th : Addr) (tm sz : Nat) : Prop where
  ring : m (Str.ofString "ring") = some (.ref x)
  times : ∃ t, m (Str.ofString "times") = some (.int tm t)
  rows : m (Str.ofString "rows") = some (.ref R)
  dots : m (Str.ofString "dots") = some (.ref D)
  size : ∃ t, m (Str.ofString "size") = some (.int sz t)
  there : m (Str.ofString "there") = some (.ref Th)
def inert (y : Str) : Prop := Str.ofString "ring" ≠ y ∧ Str.ofString "times" ≠ y ∧ Str.ofString "rows" ≠ y ∧ Str.ofString "dots" ≠ y ∧ Str.ofString "size" ≠ y ∧ Str.ofString "there" ≠ y
theorem Nm.set {m : Str → Option Value} {x R D Th : Addr} {tm sz : Nat} {y : Str} {v : Value} (h : Nm m x R D Th tm sz) (hy : inert y) : Nm (fun z => if z = y then some v else m z) x R D Th tm sz :=
  ⟨(if_neg hy.1).trans h.ring, h.times.imp fun _ e => (if_neg hy.2.1).trans e, (if_neg hy.2.2.1).trans h.rows, (if_neg hy.2.2.2.1).trans h.dots, h.size.imp fun _ e => (if_neg hy.2.2.2.2.1).trans e, (if_neg hy.2.2.2.2.2).trans h.there⟩
theorem setN {m : Str → Option Value} {y z : Str} {v : Option Value} {u : Value} (hy : z ≠ y) (e : m z = some u) : (fun a => if a = y then v else m a) z = some u := (if_neg hy).trans e
section
variable {B : Heap} {L x d R D Th : Addr} {m : Str → Option Value} {pre tr : List (Addr × Obj)} {its rws dts ths : Array Value} {ks rk : List Nat} {tm : Nat} {Q : Flow → Shared → Prop} {body : List Stmt} {env : Env}
/-- a turn of the second loop -/
theorem turn2 {k : Nat} {tk : Tok} (htk : 1 ≤ s.toks) (b : Bs w mg mb B) (S : Sta B s.heap L x d R D Th m pre its rws dts ths) (I : Its rk tr its pre) (hrk : rk = rot k ks) (hk : k < ks.length) (h3 : 3 ≤ ks.length) (h5 : ks.length ≤ 5) (htm : tm ≤ 2)
    (hr : StrsAre rws.toList (ks.map (rowOf tm))) (hd : IntsAre dts.toList (ks.map (dotOf tm))) (hth : ths.size = k) (hroom : A.depth + 2 < recursionLimit) (hh : A.handled = none) (hu : A.units + 2 < cLine) (hg : ∀ y ∈ s.gens, y.bare = true)
    (nm : Nm m x R D Th tm ks.length) (ek : m (Str.ofString "k") = some (.int k tk))
    (h : ∀ h' g' k' m' t', 1 ≤ k' → (∀ y ∈ g', y.bare = true) → Nm m' x R D Th tm ks.length → Sta B h' L x d R D Th m' pre ((its.toList.drop 1).toArray ++ (its.toList.take 1).toArray) rws dts (ths.push (.int (thereV tm rk : Nat) t')) → Q .next { s with heap := h', gens := g', toks := k' })
    (hbody : body = lawFor w 8) (henv : env = lawEnv w L) : wpS (model prg w) A (execs body env) Q E s := by
  subst hbody henv
  conv in lawFor w 8 => whnf
  have hlr : rk.length = ks.length := by rw [hrk]; exact rot_len (Nat.le_of_lt hk)
  have hf : fit rk := fit_of (by omega) (by omega)
  have h0 : rk ≠ [] := fun e => by rw [e] at hlr; simp at hlr; omega
  have hsz : its.size = rk.length := by rw [← Array.length_toList, I.its, List.length_map, I.len]
  refine Exists.elim nm.times fun tt et => ?_
  refine Exists.elim nm.size fun ts es => ?_
  refine S_execs_cons' (wpAny_with_toks htk ?_)
  refine b0_c (tr := tr) b S I h0 (by omega) htm hroom hh hu hg nm.ring et (fun h1 g1 t1 k1 S1 hg1 => ?_) (by kernel_rfl) rfl
  intro htk1
  have nm1 := nm.set (y := Str.ofString "mail") (v := .str ⟨(flatR (rk.map (outI tm))).toArray⟩ t1) (by unfold inert; decide)
  have ek1 := setN (y := Str.ofString "mail") (v := some (Value.str ⟨(flatR (rk.map (outI tm))).toArray⟩ t1)) (by decide) ek
  refine S_execs_cons' (wpAny_with_toks htk1 ?_)
  refine b1_c (ks := ks) (tm := tm) b S1 hr (Nat.le_of_lt hk) (by omega) htm hrk rfl nm1.rows ek1 (fun h2 k2 S2 => ?_) (by kernel_rfl) rfl
  intro htk2
  refine S_execs_cons' (wpAny_with_toks htk2 ?_)
  refine b2_c htk2 b S2 h0 (by omega) htm rfl (fun h3' k3 t3 S3 => ?_) (by kernel_rfl) rfl
  intro htk3
  have nm3 := nm1.set (y := Str.ofString "octets") (v := .bytes (oct8 tm rk).toArray t3) (by unfold inert; decide)
  have ek3 := setN (y := Str.ofString "octets") (v := some (Value.bytes (oct8 tm rk).toArray t3)) (by decide) ek1
  refine S_execs_cons' (wpAny_with_toks htk3 ?_)
  refine b3_c b S3 hf (by omega) htm (by omega) (by omega) rfl nm3.there (fun h4 k4 t4 S4 => ?_) (by kernel_rfl) rfl
  intro htk4
  have hx : ∃ t, (ths.push (.int (thereV tm rk : Nat) t4))[k]? = some (.int (thereV tm rk : Nat) t) := ⟨t4, by rw [← hth]; exact Array.getElem?_push_size⟩
  refine S_execs_cons (wpS.with_toks htk4 ?_)
  refine b4_c b S4 hf (by omega) htm (by omega) hh (by omega) hx rfl nm3.there ek3 (fun h5' k5 t5 S5 => ?_) (by kernel_rfl) rfl
  intro htk5
  have nm5 := nm3.set (y := Str.ofString "home") (v := .int (thereV tm rk + backV tm rk : Nat) t5) (by unfold inert; decide)
  have ek5 := setN (y := Str.ofString "home") (v := some (Value.int (thereV tm rk + backV tm rk : Nat) t5)) (by decide) ek3
  refine Exists.elim nm5.size fun ts5 es5 => ?_
  refine S_execs_cons' (wpAny_with_toks htk5 ?_)
  refine b5_c b S5 hf hd hrk hh hk (by omega) hx rfl nm5.there ek5 es5 nm5.dots (fun h6 k6 S6 => ?_) (by kernel_rfl) rfl
  intro htk6
  refine S_execs_cons' (wpAny_with_toks htk6 ?_)
  refine b6_c b S6 (by omega) hh (by omega) (by omega) nm5.ring (fun h7 k7 S7 => ?_) (by kernel_rfl) rfl
  intro htk7
  refine .of (wpAny_execs_nil ?_)
  exact h h7 g1 k7 _ t4 htk7 hg1 nm5 S7
end
end
end Mine
end

-- part Z12
section
open PySem PySem.W PyProof.Rows PySem.Calls
set_option Elab.async false
set_option maxRecDepth 100000
set_option maxHeartbeats 0
set_option linter.unusedVariables false
namespace Mine
section
variable {w : World} {A : Around} {E : Value → Shared → Prop} {s : Shared} {mg mb : Str → Option Value}
local macro_rules | `(tactic| walk_at "eval Name") => `(tactic| (k_dflt (refine' name_K ?F ?X ?T ?e ?_; (case F => k_asm); (case X => k_asm); (case T => k_asm); (case e => first | exact nm_quoted | exact nm_paren_depth | exact nm_twin_re_1 | exact nm_twin_re_2 | exact nm_law_numbers | exact nm_Accumulator | exact nm_law_sent | exact nm_byteswap | exact nm_Int2AP | exact nm_law_number_of_depths | exact nm_quote_periods | exact nm_fix_eols | exact nm_CRLF); k_whole)))
local macro_rules | `(tactic| walk_at "eval Name") => `(tactic| (k_dflt (refine' name_B ?F ?X ?T ?e ?v ?n ?_; (case F => k_asm); (case X => k_asm); (case T => k_asm); (case e => first | exact nb_enumerate | exact nb_range | exact nb_bytearray | exact nb_len | exact nb_bytes | exact nb_sum | exact nb_str | exact nb_int | exact nb_abs | exact nb_divmod | exact nb_super); (case v => boot_by_name); (case n => decide); k_whole)))
local macro_rules | `(tactic| walk_at "getMethod ref") => `(tactic| (k_dflt (refine' get_subK ?F ?X ?e ?_; (case F => k_asm); (case X => k_asm); (case e => first | exact pat145 | exact pat150 | exact pat43); k_whole)))
local macro_rules | `(tactic| walk_at "callWith ref") => `(tactic| (k_dflt (first
  | (refine' callWith_K ?k1 ?k2 ?_; (case k1 => k_asm); (case k2 => rfl); k_whole)
  | (refine' callWith_K0 ?k1 ?k2 ?_; (case k1 => k_in); (case k2 => rfl); k_whole))))


abbrev itO (x left : Int) : Obj := { cls := .type "range_iterator", dict := none, data := .fields #[rawInt x, rawInt left, rawInt 1], slots := #[] }
theorem Sta.head {B h h' : Heap} {L x d R D Th I : Addr} {m : Str → Option Value} {tl : List (Addr × Obj)} {its rws dts ths : Array Value} {a1 a2 b1 b2 : Int} (S : Sta B h L x d R D Th m ((I, itO a1 a2) :: tl) its rws dts ths) (ht : ∀ p ∈ tl, p.2.cls = .type "tuple")
    (hs : Heap.SameBut I h h') (ho : h'.get? I = some (itO b1 b2)) : Sta B h' L x d R D Th m ((I, itO b1 b2) :: tl) its rws dts ths :=
  match S.N with
  | ⟨c, n, es, ps, c1, c2, c3, a, b', N⟩ => by
    have z := N (I, itO a1 a2) (.head _)
    have ne : ∀ p ∈ tl ++ (Th, listOf ths c3) :: (R, listOf rws c1) :: (D, listOf dts c2) :: led x d its c n es ps, p.1 ≠ I := fun p hp e => by
      have q := (N p (.tail _ hp)).1
      rw [e, z.1] at q
      have q2 := Option.some.inj q
      rcases List.mem_append.mp hp with hp | hp
      · have := ht p hp
        rw [← q2] at this
        exact absurd (Value.type.inj this) (by decide)
      rcases List.mem_cons.mp hp with rfl | hp
      · exact absurd (Value.type.inj (congrArg Obj.cls q2)) (by decide)
      rcases List.mem_cons.mp hp with rfl | hp
      · exact absurd (Value.type.inj (congrArg Obj.cls q2)) (by decide)
      rcases List.mem_cons.mp hp with rfl | hp
      · exact absurd (Value.type.inj (congrArg Obj.cls q2)) (by decide)
      rcases List.mem_cons.mp hp with rfl | hp
      · cases q2
      rcases List.mem_cons.mp hp with rfl | hp
      · have := congrArg Obj.cls q2
        exact absurd (Value.type.inj this) (by decide)
      rw [List.mem_singleton.mp hp] at q2
      cases q2
    refine ⟨S.F.change hs z.2.1 z.2.2, ⟨c, n, es, ps, c1, c2, c3, a, b', News.setHead N ne hs ho⟩, fun p hp => ?_, S.ap⟩
    rcases List.mem_cons.mp hp with rfl | hp
    · exact ⟨.inr (.inr (.inr (.inl rfl))), (S.P (I, itO a1 a2) (.head _)).2⟩
    · exact S.P p (.tail _ hp)
theorem Sta.less {B h : Heap} {L x d R D Th : Addr} {m : Str → Option Value} {q : Addr × Obj} {tl : List (Addr × Obj)} {its rws dts ths : Array Value} (S : Sta B h L x d R D Th m (q :: tl) its rws dts ths) : Sta B h L x d R D Th m tl its rws dts ths where
  F := S.F
  N := match S.N with | ⟨c, n, es, ps, c1, c2, c3, a, b', N⟩ => ⟨c, n, es, ps, c1, c2, c3, a, b', News.tail' N⟩
  P := fun p hp => S.P p (.tail _ hp)
  ap := S.ap
theorem Sta.ends {B h h' : Heap} {L x d R D Th I : Addr} {m : Str → Option Value} {tl : List (Addr × Obj)} {its rws dts ths : Array Value} {a1 a2 : Int} (S : Sta B h L x d R D Th m ((I, itO a1 a2) :: tl) its rws dts ths) (ht : ∀ p ∈ tl, p.2.cls = .type "tuple")
    (hs : Heap.ExtBut I h h') : Sta B h' L x d R D Th m tl its rws dts ths :=
  match S.N with
  | ⟨c, n, es, ps, c1, c2, c3, a, b', N⟩ => by
    have z := N (I, itO a1 a2) (.head _)
    have ne : ∀ p ∈ tl ++ (Th, listOf ths c3) :: (R, listOf rws c1) :: (D, listOf dts c2) :: led x d its c n es ps, p.1 ≠ I := fun p hp e => by
      have q := (N p (.tail _ hp)).1
      rw [e, z.1] at q
      have q2 := Option.some.inj q
      rcases List.mem_append.mp hp with hp | hp
      · have := ht p hp
        rw [← q2] at this
        exact absurd (Value.type.inj this) (by decide)
      rcases List.mem_cons.mp hp with rfl | hp
      · exact absurd (Value.type.inj (congrArg Obj.cls q2)) (by decide)
      rcases List.mem_cons.mp hp with rfl | hp
      · exact absurd (Value.type.inj (congrArg Obj.cls q2)) (by decide)
      rcases List.mem_cons.mp hp with rfl | hp
      · exact absurd (Value.type.inj (congrArg Obj.cls q2)) (by decide)
      rcases List.mem_cons.mp hp with rfl | hp
      · cases q2
      rcases List.mem_cons.mp hp with rfl | hp
      · have := congrArg Obj.cls q2
        exact absurd (Value.type.inj this) (by decide)
      rw [List.mem_singleton.mp hp] at q2
      cases q2
    have F' : Fr B L h' m := ⟨S.F.ns.at' fun o e => hs L o (Ne.symm z.2.1) e, fun b o e => hs b o (fun q => by rw [q, z.2.2] at e; cases e) (S.F.keep b o e), S.F.above⟩
    exact ⟨F', ⟨c, n, es, ps, c1, c2, c3, a, b', fun p hp => ⟨hs _ _ (ne p hp) (N p (.tail _ hp)).1, (N p (.tail _ hp)).2⟩⟩, fun p hp => S.P p (.tail _ hp), S.ap⟩
section
variable {B : Heap} {L x d R D Th : Addr} {m : Str → Option Value} {tl : List (Addr × Obj)} {its rws dts : Array Value} {ks : List Nat} {tm : Nat} {Q : Flow → Shared → Prop} {stmt : Stmt} {env : Env}
/-- the second loop -/
theorem loop2 (htk : 1 ≤ s.toks) (b : Bs w mg mb B) (S : Sta B s.heap L x d R D Th m tl its rws dts #[]) (M : Mid ks tm ks.length tl its rws dts) (ht : ∀ p ∈ tl, p.2.cls = .type "tuple") (h3 : 3 ≤ ks.length) (h5 : ks.length ≤ 5) (htm : tm ≤ 2)
    (hroom : A.depth + 2 < recursionLimit) (hh : A.handled = none) (hu : A.units + 2 < cLine) (hg : ∀ y ∈ s.gens, y.bare = true) (nm : Nm m x R D Th tm ks.length)
    (h : ∀ h' g' k' m' ths, (∀ y ∈ g', y.bare = true) → Nm m' x R D Th tm ks.length → (∃ its', Sta B h' L x d R D Th m' tl its' rws dts ths) → IntsAre ths.toList ((List.range ks.length).map fun i => ((thereV tm (rot i ks) : Nat) : Int)) → Q .next { s with heap := h', gens := g', toks := k' })
    (hstmt : stmt = lawSt w 8) (henv : env = lawEnv w L) : wpS (model prg w) A (exec stmt env) Q E s := by
  subst hstmt henv
  conv in lawSt w 8 => whnf
  refine Exists.elim nm.size fun ts es => ?_
  refine S_For ?_ (fun _ => rfl)
  refine Call_ ?_
  refine name_B S.F b.X b.T nb_range (by boot_by_name) (by decide) ?_
  refine callT_h ?_
  refine args_cons ?_
  refine ld S.F es ?_
  refine args_nil ?_
  refine unhold ?_
  refine call_range_1 ?_
  have S1 := S.grow (grow_push { cls := .type "range", data := .fields #[.int 0 s.toks, .int ks.length ts, .int 1 (s.toks + 1)] })
  refine wpAny_pyIter_range (IsRange.new s.heap 0 ks.length 1 _ _ _) (range_small ks.length (by omega)) ?_
  rw [range_size]
  generalize hp0 : s.heap.push { cls := .type "range", data := .fields #[.int 0 s.toks, .int ks.length ts, .int 1 (s.toks + 1)] } = hp at S1
  have gi : Grow hp (hp.push (itO 0 ks.length)) := grow_push _
  have hI : (hp.push (itO 0 ks.length)).get? hp.objs.size = some (itO 0 ks.length) := Heap.get?_push_size _ rfl
  have S2 : Sta B (hp.push (itO 0 ks.length)) L x d R D Th m ((hp.objs.size, itO 0 ks.length) :: tl) its rws dts #[] := by
    have S1' := S1.grow gi
    refine ⟨S1'.F, ?_, fun p hp0 => ?_, S.ap⟩
    · match S1.N with
      | ⟨c, n, es, ps, c1, c2, c3, a, b', N⟩ => exact ⟨c, n, es, ps, c1, c2, c3, a, b', News.push S1.F N (itO 0 ks.length)⟩
    · rcases List.mem_cons.mp hp0 with rfl | hp0
      · refine ⟨.inr (.inr (.inr (.inl rfl))), fun e => ?_⟩
        refine Exists.elim S1.inTh fun c q => ?_
        have := Heap.lt_size q.1
        rw [show hp.objs.size = Th from e] at this
        exact Nat.lt_irrefl _ this
      · exact S.P p hp0
  generalize hp.objs.size = I at *
  refine codeS_forLoop (fun r s' => ∃ j hq g tk m' its' ths, r = ks.length - j ∧ j ≤ ks.length ∧ s' = { s with heap := hq, gens := g, toks := tk } ∧ 1 ≤ tk ∧ (∀ y ∈ g, y.bare = true) ∧ Nm m' x R D Th tm ks.length ∧
    Sta B hq L x d R D Th m' ((I, itO j (ks.length - j)) :: tl) its' rws dts ths ∧ its'.toList = (rot j tl).map (fun p => Value.ref p.1) ∧ IntsAre ths.toList ((List.range j).map fun i => ((thereV tm (rot i ks) : Nat) : Int))) ?_ ks.length ?_ (fun _ => rfl)
  · rintro r s' ⟨j, hq, g, tk, m', its', ths, rfl, hj, rfl, htk', hg', nm', S3, hits, hths⟩
    have hIq : IsRangeIter hq I (j : Int) ((ks.length : Int) - j) 1 := S3.inP (p := (I, itO j (ks.length - j))) (.head _)
    by_cases hlt : j < ks.length
    · refine wpAny_pyNext_range_item hIq (by omega) fun h5' hit5 sb5 => ?_
      have e1 : (j : Int) + 1 = ((j + 1 : Nat) : Int) := by omega
      have e2 : (ks.length : Int) - j - 1 = (ks.length : Int) - ((j + 1 : Nat) : Int) := by omega
      rw [e1, e2] at hit5
      have S5 := S3.head ht sb5 hit5
      refine wpAny_assign_Name ?_
      refine wpAny_storeName_local rfl S5.F.ns (fun h6 hn6 hs6 => ?_) rfl
      have S6 := S5.set hn6 hs6
      have hszt : ths.size = j := by rw [← Array.length_toList, hths.length, List.length_map, List.length_range]
      have I6 : Its (rot j ks) (rot j tl) its' ((I, itO (j + 1 : Nat) (ks.length - (j + 1 : Nat))) :: tl) :=
        ⟨by rw [rot_len (by rw [M.len]; exact hj), rot_len hj, M.len], hits, fun p hp => .tail _ (by
          rcases List.mem_append.mp hp with hp | hp
          · exact List.mem_of_mem_drop hp
          · exact List.mem_of_mem_take hp), tup_rot M.len M.tup j⟩
      refine turn2 (ks := ks) (rk := rot j ks) (k := j) (by first | (show 1 ≤ tk + 1; omega) | (show 1 ≤ tk + 1 + 1; omega)) b S6 I6 rfl hlt h3 h5 htm (by have := M.rows; rwa [List.take_length] at this) (by have := M.dots; rwa [List.take_length] at this) hszt hroom hh hu hg' (nm'.set (by unfold inert; decide)) rfl (fun h7 g7 k7 m7 t7 q1 q2 q3 q4 => ?_) (by kernel_rfl) rfl
      refine ⟨ks.length - (j + 1), by omega, j + 1, h7, g7, k7, m7, _, _, rfl, hlt, rfl, q1, q2, q3, q4, ?_, ?_⟩
      · have e3 := rot_next (l := tl) (j := j) (by rw [M.len]; exact hlt)
        show (((its'.toList.drop 1).toArray ++ (its'.toList.take 1).toArray).toList) = _
        rw [← e3, List.map_append, List.map_drop, List.map_take, ← hits]
        simp
      · rw [Array.toList_push, List.range_succ, List.map_append]
        exact hths.append (.cons _ _ .nil)
    · have hje : j = ks.length := by omega
      refine wpAny_pyNext_range_end hh hIq (by omega) fun h5' eb => ?_
      have S5 := S3.ends ht eb
      subst hje
      exact h h5' g tk m' ths hg' nm' ⟨its', S5⟩ hths
  · have em : (itO ((0 : Nat) : Int) (ks.length - ((0 : Nat) : Int))) = itO 0 ks.length := by
      show itO 0 ((ks.length : Int) - 0) = _
      rw [Int.sub_zero]
    refine ⟨0, _, _, _, m, its, #[], by simp, Nat.zero_le _, rfl, ?_, hg, nm, ?_, ?_, .nil⟩
    · exact Nat.le_succ_of_le (Nat.le_succ_of_le htk)
    · rw [em]; exact S2
    · rw [M.its]; simp [rot]
end
end
end Mine
end

-- part Z13
section
open PySem PySem.W PyProof.Rows PySem.Calls
set_option Elab.async false
set_option maxRecDepth 100000
set_option maxHeartbeats 0
set_option linter.unusedVariables false
namespace Mine
section
variable {w : World} {A : Around} {E : Value → Shared → Prop} {s : Shared} {mg mb : Str → Option Value}
local macro_rules | `(tactic| walk_at "eval Name") => `(tactic| (k_dflt (refine' name_K ?F ?X ?T ?e ?_; (case F => k_asm); (case X => k_asm); (case T => k_asm); (case e => first | exact nm_quoted | exact nm_paren_depth | exact nm_twin_re_1 | exact nm_twin_re_2 | exact nm_law_numbers | exact nm_Accumulator | exact nm_law_sent | exact nm_byteswap | exact nm_Int2AP | exact nm_law_number_of_depths | exact nm_quote_periods | exact nm_fix_eols | exact nm_CRLF); k_whole)))
local macro_rules | `(tactic| walk_at "eval Name") => `(tactic| (k_dflt (refine' name_B ?F ?X ?T ?e ?v ?n ?_; (case F => k_asm); (case X => k_asm); (case T => k_asm); (case e => first | exact nb_enumerate | exact nb_range | exact nb_bytearray | exact nb_len | exact nb_bytes | exact nb_sum | exact nb_str | exact nb_int | exact nb_abs | exact nb_divmod | exact nb_super); (case v => boot_by_name); (case n => decide); k_whole)))
local macro_rules | `(tactic| walk_at "getMethod ref") => `(tactic| (k_dflt (refine' get_subK ?F ?X ?e ?_; (case F => k_asm); (case X => k_asm); (case e => first | exact pat145 | exact pat150 | exact pat43); k_whole)))
local macro_rules | `(tactic| walk_at "callWith ref") => `(tactic| (k_dflt (first
  | (refine' callWith_K ?k1 ?k2 ?_; (case k1 => k_asm); (case k2 => rfl); k_whole)
  | (refine' callWith_K0 ?k1 ?k2 ?_; (case k1 => k_in); (case k2 => rfl); k_whole))))


theorem paired_ints {b : Array UInt8} : ∀ {vs ys : List Value}, vs.length = b.size → (∀ (j : Nat) (v : Value), vs[j]? = some v → ∃ (c : UInt8) (u : Tok), b[j]? = some c ∧ v = Value.int (c.toNat : Int) u) → Paired (fun v y => ∃ (n : Int) (u t : Tok), v = Value.int n u ∧ y = Value.int (n - 65) t) vs ys →
    IntsAre ys (b.toList.map fun c => (c.toNat : Int) - 65) := fun {vs ys} hl hP hF => by
  have e : vs.length = b.toList.length := by rw [hl, Array.length_toList]
  have hP' : ∀ (j : Nat) (v : Value), vs[j]? = some v → ∃ (c : UInt8) (u : Tok), b.toList[j]? = some c ∧ v = Value.int (c.toNat : Int) u := fun j v h => by
    obtain ⟨c, u, h1, h2⟩ := hP j v h
    exact ⟨c, u, by simpa using h1, h2⟩
  generalize b.toList = l at e hP'
  clear hP hl
  induction hF generalizing l with
  | nil =>
    cases l with
    | nil => exact .nil
    | cons c l => simp at e
  | cons h _ ih =>
    cases l with
    | nil => simp at e
    | cons c l =>
      obtain ⟨n, u, t, rfl, rfl⟩ := h
      obtain ⟨c', u', h1, h2⟩ := hP' 0 _ rfl
      simp at h1
      subst h1
      obtain ⟨rfl, _⟩ := Value.int.inj h2
      exact .cons _ _ (ih l (by simpa using e) fun j v hv => hP' (j + 1) v hv)
section
variable {B : Heap} {L Th : Addr} {m : Str → Option Value} {Q : Flow → Shared → Prop} {stmt : Stmt} {env : Env}
/-- return [sign - 65 for sign in word] == there -/
theorem last_c {ws : List UInt8} {t0 : Tok} {ths : List Value} {c : Nat} (b : Bs w mg mb B) (F : Fr B L s.heap m) (hT : s.heap.get? Th = some (listOf ths.toArray c)) (hw : ws.length ≤ 8) (hi : IntsAre ths (ws.map fun y => ((y.toNat : Int) - 65))) (hh : A.handled = none) (hroom : A.depth + 2 < recursionLimit) (hu : A.units + 64 < cLine)
    (e1 : m (Str.ofString "word") = some (.bytes ws.toArray t0)) (e2 : m (Str.ofString "there") = some (.ref Th))
    (h : ∀ h' k', Grow s.heap h' → Fr B L h' m → Q (.ret (.bool true)) { s with heap := h', toks := k' })
    (hstmt : stmt = lawSt w 10) (henv : env = lawEnv w L) : wpAny (model prg w) A (exec stmt env) Q E s := by
  subst hstmt henv
  conv in lawSt w 10 => whnf
  unfold lawEnv
  conv in (lawFd w).scope => whnf
  refine wpAny_Return_some ?_
  refine wpAny_Compare1 ?_ (by with_unfolding_all rfl)
  refine ListComp_rowsP (by decide) (by decide) rfl (by decide) rfl ?_ (fun _ => rfl)
  refine ld F e1 ?_
  refine KBw.pyIter_bytes ?_
  have gI : Grow s.heap (s.heap.push { cls := .type "bytes_iterator", data := .fields #[.bytes ws.toArray t0, .int 0 0] }) := grow_push _
  refine ⟨fun _ => true, fun v y => ∃ (n : Int) (u t : Tok), v = Value.int n u ∧ y = Value.int (n - 65) t, s.heap.objs.size, _, _, ws.toArray.size, _, _, rfl, KBw.walks hh s.heap.objs.size ws.toArray t0, by rw [sizeLine_eq, List.size_toArray]; omega, ⟨_, Heap.get?_push_size _ rfl, rfl, rfl⟩, ?_, ⟨?_, ?_⟩, ?_⟩
  · intro b' hb'
    rw [List.mem_singleton.mp hb', Heap.size_push]
    exact Nat.lt_succ_self _
  · intro C i v s₃ m₃ E' hP hn hx hk htk
    exact wpAny_pure ⟨rfl, s₃.heap, s₃.toks, rfl, fun _ _ e => e⟩
  · rintro C i v s₃ m₃ E' ⟨c', u', hc', rfl⟩ hp hn hx hk htk
    refine wpAny_BinOp ?_
    refine wpAny_Name (wpAny_loadName_local rfl rfl hn hx ?_) (by decide)
    refine wpAny_Constant_int ?_
    refine sub_int ?_
    exact ⟨⟨_, _, _, rfl, rfl⟩, _, _, rfl, fun _ _ e => e⟩
  · intro D h' tk ys vs hD hl hpl hlen hP hF hk
    have hkeep : Grow s.heap h' := fun b' o e => hk b' o (fun hm => by
      have := Heap.lt_size e
      rw [List.mem_singleton.mp hm] at this
      exact Nat.lt_irrefl _ this) (gI _ _ e)
    have F' := F.keeps hkeep
    refine ld F' e2 ?_
    have hfil : vs.filter (fun _ => true) = vs := List.filter_eq_self.mpr fun _ _ => rfl
    rw [hfil] at hF
    have iy := paired_ints hlen hP hF
    refine eq_intsK (vs := ys.toList) (us := ths) (by simpa using hl) iy ⟨_, hkeep _ _ hT, rfl, c, rfl⟩ hi hu ?_
    rw [decide_eq_true (by simp)]
    exact h h' _ hkeep F'
end
end
end Mine
end

-- part T4
section
open PySem PySem.W PyProof.Rows PySem.Calls
set_option Elab.async false
set_option maxRecDepth 100000
set_option maxHeartbeats 0
set_option linter.unusedVariables false
namespace Mine
section
variable {w : World} {A : Around} {E : Value → Shared → Prop} {s : Shared} {mg mb : Str → Option Value}
local macro_rules | `(tactic| walk_at "eval Name") => `(tactic| (k_dflt (refine' name_K ?F ?X ?T ?e ?_; (case F => k_asm); (case X => k_asm); (case T => k_asm); (case e => first | exact nm_quoted | exact nm_paren_depth | exact nm_twin_re_1 | exact nm_twin_re_2 | exact nm_law_numbers | exact nm_Accumulator | exact nm_law_sent | exact nm_byteswap | exact nm_Int2AP | exact nm_law_number_of_depths | exact nm_quote_periods | exact nm_fix_eols | exact nm_CRLF); k_whole)))
local macro_rules | `(tactic| walk_at "eval Name") => `(tactic| (k_dflt (refine' name_B ?F ?X ?T ?e ?v ?n ?_; (case F => k_asm); (case X => k_asm); (case T => k_asm); (case e => first | exact nb_enumerate | exact nb_range | exact nb_bytearray | exact nb_len | exact nb_bytes | exact nb_sum | exact nb_str | exact nb_int | exact nb_abs | exact nb_divmod | exact nb_super); (case v => boot_by_name); (case n => decide); k_whole)))
local macro_rules | `(tactic| walk_at "getMethod ref") => `(tactic| (k_dflt (refine' get_subK ?F ?X ?e ?_; (case F => k_asm); (case X => k_asm); (case e => first | exact pat145 | exact pat150 | exact pat43); k_whole)))
local macro_rules | `(tactic| walk_at "callWith ref") => `(tactic| (k_dflt (first
  | (refine' callWith_K ?k1 ?k2 ?_; (case k1 => k_asm); (case k2 => rfl); k_whole)
  | (refine' callWith_K0 ?k1 ?k2 ?_; (case k1 => k_in); (case k2 => rfl); k_whole))))


/-- a number by its figures to the base 16, the last one first -/
def ofR : List Nat → Nat
  | [] => 0
  | t :: r => 16 * ofR r + t
theorem apR : ∀ l : List Nat, (∀ t ∈ l, t < 16) → l.length ≤ 8 → ofR l < 16 ^ l.length ∧ (apL 8 (ofR l)).length ≤ l.length ∧ List.replicate (l.length - (apL 8 (ofR l)).length) (65 : UInt8) ++ apL 8 (ofR l) = l.reverse.map fun t => (65 + t).toUInt8
  | [], _, _ => ⟨by decide, Nat.le_refl _, rfl⟩
  | t :: r, h, hl => by
    obtain ⟨i1, i2, i3⟩ := apR r (fun x hx => h x (.tail _ hx)) (by simp at hl; omega)
    have ht := h t (.head _)
    have hv : ofR (t :: r) = 16 * ofR r + t := rfl
    have hp : 16 ^ (t :: r).length = 16 ^ r.length * 16 := by rw [List.length_cons, Nat.pow_succ]
    have hlt : ofR (t :: r) < 16 ^ (t :: r).length := by rw [hv, hp]; omega
    have h8 : ofR (t :: r) < 16 ^ 8 := Nat.lt_of_lt_of_le hlt (Nat.pow_le_pow_right (by decide) hl)
    refine ⟨hlt, ?_⟩
    by_cases h0 : ofR (t :: r) = 0
    · have m0 : ofR r = 0 := by rw [hv] at h0; omega
      have t0 : t = 0 := by rw [hv] at h0; omega
      rw [h0]
      rw [m0] at i3
      have e0 : apL 8 0 = [] := rfl
      rw [e0] at i3 ⊢
      refine ⟨Nat.zero_le _, ?_⟩
      rw [List.length_nil, Nat.sub_zero, List.append_nil] at i3 ⊢
      rw [List.reverse_cons, List.map_append, ← i3, List.length_cons, List.replicate_succ', t0]
      rfl
    · have e1 : ofR (t :: r) / 16 = ofR r := by rw [hv]; omega
      have e2 : ofR (t :: r) % 16 = t := by rw [hv]; omega
      have st := apL_step h8 h0
      rw [e1, e2] at st
      rw [st]
      refine ⟨by simp only [List.length_append, List.length_cons, List.length_nil]; omega, ?_⟩
      rw [List.reverse_cons, List.map_append, ← i3]
      have e3 : (t :: r).length - (apL 8 (ofR r) ++ [(65 + t).toUInt8]).length = r.length - (apL 8 (ofR r)).length := by
        simp only [List.length_append, List.length_cons, List.length_nil]; omega
      rw [e3, List.append_assoc]
      rfl
def thereL (tm : Nat) (ks : List Nat) : List Nat := (List.range ks.length).map fun i => thereV tm (rot i ks)
theorem there_lt {tm : Nat} (h : tm ≤ 2) {rk : List Nat} (hf : fit rk) : thereV tm rk < 16 := by
  rcases hf with ⟨a, b, c, rfl⟩ | ⟨a, b, c, e, rfl⟩ | ⟨a, b, c, e, f, rfl⟩
  · have := dz_le (k := a) h; have := dz_le (k := c) h
    show dz tm a + dz tm c < 16
    omega
  · have := dz_le (k := a) h; have := dz_le (k := c) h
    show dz tm a + dz tm c < 16
    omega
  · have := dz_le (k := a) h; have := dz_le (k := c) h; have := dz_le (k := f) h
    show dz tm a + dz tm c + dz tm f < 16
    omega
theorem there_all {tm : Nat} (h : tm ≤ 2) {ks : List Nat} (h3 : 3 ≤ ks.length) (h5 : ks.length ≤ 5) : ∀ t ∈ thereL tm ks, t < 16 := fun t ht => by
  obtain ⟨i, hi, rfl⟩ := List.mem_map.mp ht
  have hi := List.mem_range.mp hi
  have e := rot_len (l := ks) (Nat.le_of_lt hi)
  exact there_lt h (fit_of (by omega) (by omega))
theorem num3 {x y z : Nat} (hx : x ≤ 4) (hy : y ≤ 4) (hz : z ≤ 4) : (figF (([(x : Int), y, z] : List Int).sum) [(x : Int), y, z] * 241 * 2048).fmod 4095 = (ofR [z + y, y + x, x + z] : Nat) := by
  have e : figF (([(x : Int), y, z] : List Int).sum) [(x : Int), y, z] = 16 * (16 * (16 * 0 + x + (x + (y + (z + 0)))) + y + (x + (y + (z + 0)))) + z + (x + (y + (z + 0))) := rfl
  have e2 : ofR [z + y, y + x, x + z] = 16 * (16 * (16 * 0 + (x + z)) + (y + x)) + (z + y) := rfl
  rw [e, e2, Int.fmod_eq_emod_of_nonneg _ (by decide)]
  omega
theorem num4 {x y z u : Nat} : ((16 * ((x : Int) + z) + (y + u)) * 257) = (ofR [u + y, z + x, y + u, x + z] : Nat) := by
  have e2 : ofR [u + y, z + x, y + u, x + z] = 16 * (16 * (16 * (16 * 0 + (x + z)) + (y + u)) + (z + x)) + (u + y) := rfl
  rw [e2]
  omega
theorem num5 {x y z u v : Nat} (hx : x ≤ 4) (hy : y ≤ 4) (hz : z ≤ 4) (hu : u ≤ 4) (hv : v ≤ 4) : (figF (([(x : Int), y, z, u, v] : List Int).sum) [(x : Int), y, z, u, v] * 61681 * 524288).fmod 1048575 = (ofR [v + y + u, u + x + z, z + v + y, y + u + x, x + z + v] : Nat) := by
  have e : figF (([(x : Int), y, z, u, v] : List Int).sum) [(x : Int), y, z, u, v] = 16 * (16 * (16 * (16 * (16 * 0 + x + (x + (y + (z + (u + (v + 0)))))) + y + (x + (y + (z + (u + (v + 0)))))) + z + (x + (y + (z + (u + (v + 0)))))) + u + (x + (y + (z + (u + (v + 0)))))) + v + (x + (y + (z + (u + (v + 0))))) := rfl
  have e2 : ofR [v + y + u, u + x + z, z + v + y, y + u + x, x + z + v] = 16 * (16 * (16 * (16 * (16 * 0 + (x + z + v)) + (y + u + x)) + (z + v + y)) + (u + x + z)) + (v + y + u) := rfl
  rw [e, e2, Int.fmod_eq_emod_of_nonneg _ (by decide)]
  omega
/-- _law_number_of_depths(dots) -/
theorem nod_c {l : Addr} {vs : List Value} {tm : Nat} {ks : List Nat} {Q : Value → Shared → Prop} (G : Gd w mg mb s.heap) (hroom : A.depth < recursionLimit) (hh : A.handled = none) (hl : s.heap.IsList l vs.toArray) (hi : IntsAre vs (ks.map (dotOf tm))) (hf : fit ks) (htm : tm ≤ 2)
    (h : ∀ h' t' k, Grow s.heap h' → Q (.int (ofR (thereL tm ks).reverse : Nat) t') { s with heap := h', toks := k }) :
    wpAny (model prg w) A (call (.ref 192) [.ref l]) Q E s := by
  rcases hf with ⟨a, b, c, rfl⟩ | ⟨a, b, c, e, rfl⟩ | ⟨a, b, c, e, f, rfl⟩
  · refine nod3_c G hroom hh hl hi fun h' x t' k g ex => ?_
    have key := num3 (dz_le (k := a) htm) (dz_le (k := b) htm) (dz_le (k := c) htm)
    have : x = (ofR (thereL tm [a, b, c]).reverse : Nat) := ex.trans key
    rw [this]
    exact h h' t' k g
  · refine nod4_c G hroom hh hl hi fun h' x t' k g ex => ?_
    have key := num4 (x := dz tm a) (y := dz tm b) (z := dz tm c) (u := dz tm e)
    have : x = (ofR (thereL tm [a, b, c, e]).reverse : Nat) := ex.trans key
    rw [this]
    exact h h' t' k g
  · refine nod5_c G hroom hh hl hi fun h' x t' k g ex => ?_
    have key := num5 (dz_le (k := a) htm) (dz_le (k := b) htm) (dz_le (k := c) htm) (dz_le (k := e) htm) (dz_le (k := f) htm)
    have : x = (ofR (thereL tm [a, b, c, e, f]).reverse : Nat) := ex.trans key
    rw [this]
    exact h h' t' k g
end
end Mine
end

-- part Z14
section
open PySem PySem.W PyProof.Rows PySem.Calls
set_option Elab.async false
set_option maxRecDepth 100000
set_option maxHeartbeats 0
set_option linter.unusedVariables false
namespace Mine
section
variable {w : World} {A : Around} {E : Value → Shared → Prop} {s : Shared} {mg mb : Str → Option Value}
local macro_rules | `(tactic| walk_at "eval Name") => `(tactic| (k_dflt (refine' name_K ?F ?X ?T ?e ?_; (case F => k_asm); (case X => k_asm); (case T => k_asm); (case e => first | exact nm_quoted | exact nm_paren_depth | exact nm_twin_re_1 | exact nm_twin_re_2 | exact nm_law_numbers | exact nm_Accumulator | exact nm_law_sent | exact nm_byteswap | exact nm_Int2AP | exact nm_law_number_of_depths | exact nm_quote_periods | exact nm_fix_eols | exact nm_CRLF); k_whole)))
local macro_rules | `(tactic| walk_at "eval Name") => `(tactic| (k_dflt (refine' name_B ?F ?X ?T ?e ?v ?n ?_; (case F => k_asm); (case X => k_asm); (case T => k_asm); (case e => first | exact nb_enumerate | exact nb_range | exact nb_bytearray | exact nb_len | exact nb_bytes | exact nb_sum | exact nb_str | exact nb_int | exact nb_abs | exact nb_divmod | exact nb_super); (case v => boot_by_name); (case n => decide); k_whole)))
local macro_rules | `(tactic| walk_at "getMethod ref") => `(tactic| (k_dflt (refine' get_subK ?F ?X ?e ?_; (case F => k_asm); (case X => k_asm); (case e => first | exact pat145 | exact pat150 | exact pat43); k_whole)))
local macro_rules | `(tactic| walk_at "callWith ref") => `(tactic| (k_dflt (first
  | (refine' callWith_K ?k1 ?k2 ?_; (case k1 => k_asm); (case k2 => rfl); k_whole)
  | (refine' callWith_K0 ?k1 ?k2 ?_; (case k1 => k_in); (case k2 => rfl); k_whole))))


def wordL (tm : Nat) (ks : List Nat) : List UInt8 := (thereL tm ks).map fun t => (65 + t).toUInt8
theorem word_eq {tm : Nat} {ks : List Nat} (htm : tm ≤ 2) (h3 : 3 ≤ ks.length) (h5 : ks.length ≤ 5) : ofR (thereL tm ks).reverse < 16 ^ 8 ∧ (apL 8 (ofR (thereL tm ks).reverse)).length ≤ ks.length ∧
    Array.replicate (ks.length - (apL 8 (ofR (thereL tm ks).reverse)).toArray.size) (65 : UInt8) ++ (apL 8 (ofR (thereL tm ks).reverse)).toArray = (wordL tm ks).toArray := by
  have hl : (thereL tm ks).length = ks.length := by unfold thereL; rw [List.length_map, List.length_range]
  obtain ⟨i1, i2, i3⟩ := apR (thereL tm ks).reverse (fun t ht => there_all htm h3 h5 t (List.mem_reverse.mp ht)) (by rw [List.length_reverse, hl]; omega)
  rw [List.length_reverse, hl] at i1 i2 i3
  rw [List.reverse_reverse] at i3
  refine ⟨Nat.lt_of_lt_of_le i1 (Nat.pow_le_pow_right (by decide) (by omega)), i2, ?_⟩
  rw [List.size_toArray]
  unfold wordL
  rw [← i3]
  apply Array.toList_inj.mp
  simp
theorem word_ints {tm : Nat} {ks : List Nat} (htm : tm ≤ 2) (h3 : 3 ≤ ks.length) (h5 : ks.length ≤ 5) : ((wordL tm ks).map fun y => ((y.toNat : Int) - 65)) = (List.range ks.length).map fun i => ((thereV tm (rot i ks) : Nat) : Int) := by
  unfold wordL
  rw [List.map_map]
  have e : (List.range ks.length).map (fun i => ((thereV tm (rot i ks) : Nat) : Int)) = (thereL tm ks).map fun t : Nat => (t : Int) := by unfold thereL; rw [List.map_map]; rfl
  rw [e]
  refine List.map_congr_left fun t ht => ?_
  have := there_all htm h3 h5 t ht
  show (((65 + t).toUInt8.toNat : Nat) : Int) - 65 = (t : Int)
  have e2 : (65 + t).toUInt8.toNat = 65 + t := by
    simp [Nat.toUInt8]
    omega
  rw [e2]
  omega
section
variable {B : Heap} {L x d R D Th : Addr} {m : Str → Option Value} {pre : List (Addr × Obj)} {its rws dts ths : Array Value} {ks : List Nat} {tm : Nat} {Q : Flow → Shared → Prop} {stmt : Stmt} {env : Env}
/-- word = Int2AP(_law_number_of_depths(dots)).rjust(size, b'A') -/
theorem word_c (b : Bs w mg mb B) (S : Sta B s.heap L x d R D Th m pre its rws dts ths) (hd : IntsAre dts.toList (ks.map (dotOf tm))) (h3 : 3 ≤ ks.length) (h5 : ks.length ≤ 5) (htm : tm ≤ 2) (hroom : A.depth < recursionLimit) (hh : A.handled = none) (nm : Nm m x R D Th tm ks.length)
    (h : ∀ h' k' t', Sta B h' L x d R D Th (fun y => if y = Str.ofString "word" then some (.bytes (wordL tm ks).toArray t') else m y) pre its rws dts ths → Q .next { s with heap := h', toks := k' })
    (hstmt : stmt = lawSt w 9) (henv : env = lawEnv w L) : wpAny (model prg w) A (exec stmt env) Q E s := by
  subst hstmt henv
  conv in lawSt w 9 => whnf
  unfold lawEnv
  conv in (lawFd w).scope => whnf
  have hw := word_eq htm h3 h5
  refine Exists.elim nm.size fun ts es => ?_
  refine Exists.elim S.inD fun c2 hD => ?_
  refine wpAny_Assign_Name ?_
  refine Meth_h ?_
  refine Call_ ?_
  refine name_K S.F b.X b.T nm_Int2AP ?_
  refine callK_h b.X (by rfl) ?_
  refine args_cons ?_
  refine Call_ ?_
  refine name_K S.F b.X b.T nm_law_number_of_depths ?_
  refine callK_h b.X (by rfl) ?_
  refine args_cons ?_
  refine ld S.F nm.dots ?_
  refine args_nil ?_
  refine unhold ⟨b.X.keeps S.F.keep, ?_⟩
  show wpAny _ _ (call (.ref 192) [.ref D]) _ _ _
  refine nod_c (vs := dts.toList) (ks := ks) (tm := tm) ⟨b.X.keeps S.F.keep, b.T.keeps S.F.keep⟩ hroom hh ⟨_, hD, rfl, c2, rfl⟩ hd (fit_of h3 h5) htm fun h1 t1 k1 g1 => ?_
  have S1 := S.grow g1
  refine args_nil ?_
  refine unhold ⟨b.X.keeps S1.F.keep, ?_⟩
  show wpAny _ _ (call (.ref 58) [.int _ _]) _ _ _
  refine ap_c ⟨b.X.keeps S1.F.keep, b.T.keeps S1.F.keep⟩ hroom hh hw.1 fun h2 t2 k2 g2 => ?_
  have S2 := S1.grow g2
  refine unhold ?_
  with_reducible refine get_bytes FS.slot_bytes_rjust FS.type_bytes_rjust ?_
  refine callB_h ?_
  refine args_cons ?_
  refine ld S2.F es ?_
  refine args_cons ?_
  refine Constant_bytes ?_
  refine args_nil ?_
  refine unhold ?_
  show wpAny _ _ (call (.builtin "bytes.rjust") [.bytes _ _, .int _ _, .bytes #[65] _]) _ _ _
  refine rjust_bytes (n := ks.length) rfl (by omega) (by rw [List.size_toArray]; exact hw.2.1) fun t3 k3 => ?_
  rw [hw.2.2]
  refine wpAny_storeName_local rfl S2.F.ns (fun h3' hn3 hs3 => ?_) rfl
  exact h h3' _ t3 (S2.set hn3 hs3)
/-- there = [] -/
theorem there_c (b : Bs w mg mb B) {c n c1 c2 : Nat} {es : List DictEntry} {tl : List (Addr × Obj)} (F : Fr B L s.heap m) (N : News B L s.heap (tl ++ (R, listOf rws c1) :: (D, listOf dts c2) :: led x d its c n es #[])) (hi : initEs es) (hp : ∀ p ∈ tl, plainO p.2)
    (h : ∀ h' k' Th, Sta B h' L x d R D Th (fun y => if y = Str.ofString "there" then some (.ref Th) else m y) tl its rws dts #[] → Q .next { s with heap := h', toks := k' })
    (hstmt : stmt = lawSt w 7) (henv : env = lawEnv w L) : wpAny (model prg w) A (exec stmt env) Q E s := by
  subst hstmt henv
  conv in lawSt w 7 => whnf
  unfold lawEnv
  conv in (lawFd w).scope => whnf
  refine wpAny_Assign_Name ?_
  refine List_ ?_
  refine args_nil ?_
  refine newList_K (s := ⟨_, _, _, _, _⟩) F N (fun Th h1 F1 N1 l1 => ?_) (by rw [sizeLine_eq]; show (0 : Nat) ≤ _; decide)
  refine wpAny_storeName_local rfl F1.ns (fun h2 hn2 hs2 => ?_) rfl
  have F2 := F1.set hn2 hs2
  have N2 := News.set N1 hs2
  refine h h2 _ Th ⟨F2, ⟨c, n, es, #[], c1, c2, 0, hi, trivial, News.perm N2 fun p hp => ?_⟩, fun p hp0 => ⟨hp p hp0, Nat.ne_of_lt (l1 p (List.mem_append_left _ hp0))⟩, ⟨Nat.ne_of_gt (l1 (R, listOf rws c1) (List.mem_append_right _ (.head _))), Nat.ne_of_gt (l1 (D, listOf dts c2) (List.mem_append_right _ (.tail _ (.head _))))⟩⟩
  rcases List.mem_append.mp hp with hp | hp
  · exact .tail _ (List.mem_append_left _ hp)
  rcases List.mem_cons.mp hp with rfl | hp
  · exact .head _
  · exact .tail _ (List.mem_append_right _ hp)
end
end
end Mine
end

-- part Z15
section
open PySem PySem.W PyProof.Rows PySem.Calls
set_option Elab.async false
set_option maxRecDepth 100000
set_option maxHeartbeats 0
set_option linter.unusedVariables false
namespace Mine
section
variable {w : World} {A : Around} {E : Value → Shared → Prop} {s : Shared} {mg mb : Str → Option Value}
local macro_rules | `(tactic| walk_at "eval Name") => `(tactic| (k_dflt (refine' name_K ?F ?X ?T ?e ?_; (case F => k_asm); (case X => k_asm); (case T => k_asm); (case e => first | exact nm_quoted | exact nm_paren_depth | exact nm_twin_re_1 | exact nm_twin_re_2 | exact nm_law_numbers | exact nm_Accumulator | exact nm_law_sent | exact nm_byteswap | exact nm_Int2AP | exact nm_law_number_of_depths | exact nm_quote_periods | exact nm_fix_eols | exact nm_CRLF); k_whole)))
local macro_rules | `(tactic| walk_at "eval Name") => `(tactic| (k_dflt (refine' name_B ?F ?X ?T ?e ?v ?n ?_; (case F => k_asm); (case X => k_asm); (case T => k_asm); (case e => first | exact nb_enumerate | exact nb_range | exact nb_bytearray | exact nb_len | exact nb_bytes | exact nb_sum | exact nb_str | exact nb_int | exact nb_abs | exact nb_divmod | exact nb_super); (case v => boot_by_name); (case n => decide); k_whole)))
local macro_rules | `(tactic| walk_at "getMethod ref") => `(tactic| (k_dflt (refine' get_subK ?F ?X ?e ?_; (case F => k_asm); (case X => k_asm); (case e => first | exact pat145 | exact pat150 | exact pat43); k_whole)))
local macro_rules | `(tactic| walk_at "callWith ref") => `(tactic| (k_dflt (first
  | (refine' callWith_K ?k1 ?k2 ?_; (case k1 => k_asm); (case k2 => rfl); k_whole)
  | (refine' callWith_K0 ?k1 ?k2 ?_; (case k1 => k_in); (case k2 => rfl); k_whole))))


/-- the law's body -/
theorem body_c {body : List Stmt} {env : Env} {B : Heap} {L l : Addr} {m : Str → Option Value} {vs : List Value} {sc : List Int} {Q : Flow → Shared → Prop}
    (b : Bs w mg mb B) (hh : A.handled = none) (hroom : A.depth + 2 < recursionLimit) (hu : A.units + 64 < cLine) (hg : s.gens = #[])
    (F : Fr B L s.heap m) (N : News B L s.heap [(106, tabObj #[])]) (hl : s.heap.IsList l vs.toArray) (hi : IntsAre vs sc) (hn : sc.length ≤ 63) (e0 : m (Str.ofString "script") = some (.ref l))
    (h : ∀ h' g' k' m' ps, Fr B L h' m' → h'.get? 106 = some (tabObj ps) → (∀ y ∈ g', y.bare = true) → Q (.ret (.bool true)) { s with heap := h', gens := g', toks := k' })
    (hbody : body = lawB w) (henv : env = lawEnv w L) :
    wpS (model prg w) A (execs body env) Q E s := by
  refine head_c (l := l) b.X b.T hh (by omega) F N hl hi hn e0 (fun h1 m1 Nn ws ns x d R D c n es k1 t1 t2 hk1 F1 N1 he1 hRD hN hwl iw hb eN et er ed erw es1 => ?_) hbody henv
  conv in (lawB w).drop 6 => whnf
  have hsz : 3 + ns.sum % 3 ≤ 5 := by omega
  have hlen : ns.length = 5 := by have := iw.length; rw [List.length_map] at this; omega
  have hkl : (ns.take (3 + ns.sum % 3)).length = 3 + ns.sum % 3 := by rw [List.length_take]; omega
  have htm : ns.sum / 3 % 3 ≤ 2 := by omega
  -- the first loop
  refine S_execs_cons (wpS.with_toks (n := 1) hk1 ?_)
  refine loop1 (vs := ws) (ns := ns) (sz := 3 + ns.sum % 3) (tm := ns.sum / 3 % 3) b.X b.T hh (by omega) F1 N1 he1 hRD hN hwl iw rfl hsz (by omega) hb eN et er ed erw es1 (fun h2 m2 tl its rws dts c2 c3 c4 n2 es2 k2 F2 M2 f1 f2 f3 f4 f5 he2 N2 hp2 => ?_) (by kernel_rfl) rfl
  intro hk2
  -- there
  refine S_execs_cons' (wpAny_with_toks (n := 1) hk2 ?_)
  refine there_c b F2 N2 he2 (fun p hp => (hp2 p hp).1) (fun h3 k3 Th S3 => ?_) (by kernel_rfl) rfl
  intro hk3
  have tup : ∀ p ∈ tl, p.2.cls = .type "tuple" := fun p hp => by
    obtain ⟨i, hi', e⟩ := List.getElem_of_mem hp
    have hlt : i < (ns.take (3 + ns.sum % 3)).length := by rw [← M2.len]; exact hi'
    exact (M2.tup i _ p (List.getElem?_eq_getElem hlt) (e ▸ List.getElem?_eq_getElem hi')).1
  have nm : Nm (fun y => if y = Str.ofString "there" then some (.ref Th) else m2 y) x R D Th (ns.sum / 3 % 3) (ns.take (3 + ns.sum % 3)).length :=
    ⟨setN (by decide) f2, ⟨_, setN (by decide) f1⟩, setN (by decide) f4, setN (by decide) f3, ⟨t2, by rw [hkl]; exact setN (by decide) f5⟩, rfl⟩
  -- the second loop
  refine S_execs_cons ?_
  refine loop2 (ks := ns.take (3 + ns.sum % 3)) (tm := ns.sum / 3 % 3) hk3 b S3 M2 tup (by omega) (by omega) htm hroom hh (by omega) (by rw [hg]; exact fun y hy => by simp at hy) nm (fun h4 g4 k4 m4 ths hg4 nm4 hS4 hths => ?_) (by kernel_rfl) rfl
  refine Exists.elim hS4 fun its4 S4 => ?_
  -- word
  refine S_execs_cons' ?_
  refine word_c (ks := ns.take (3 + ns.sum % 3)) (tm := ns.sum / 3 % 3) b S4 (by have := M2.dots; rwa [List.take_length] at this) (by omega) (by omega) htm (by omega) hh nm4 (fun h5 k5 t5 S5 => ?_) (by kernel_rfl) rfl
  -- the last statement
  refine S_execs_cons' ?_
  have nm5 := nm4.set (y := Str.ofString "word") (v := .bytes (wordL (ns.sum / 3 % 3) (ns.take (3 + ns.sum % 3))).toArray t5) (by unfold inert; decide)
  refine Exists.elim S5.inTh fun cT hT5 => ?_
  refine Exists.elim S5.in6 fun ps q6 => ?_
  have hwi := word_ints (tm := ns.sum / 3 % 3) (ks := ns.take (3 + ns.sum % 3)) htm (by omega) (by omega)
  refine last_c (ws := wordL (ns.sum / 3 % 3) (ns.take (3 + ns.sum % 3))) (ths := ths.toList) (c := cT) b S5.F hT5.1 (by unfold wordL thereL; simp; omega) (by rw [hwi]; exact hths) hh hroom hu rfl nm5.there (fun h6 k6 g6 F6 => ?_) (by kernel_rfl) rfl
  exact h h6 g4 k6 _ ps F6 (g6 _ _ q6.1) hg4
end
end Mine
end

-- part Z16
section
open PySem PySem.W PyProof.Rows PySem.Calls
set_option Elab.async false
set_option maxRecDepth 100000
set_option maxHeartbeats 0
set_option linter.unusedVariables false
namespace Mine

theorem nm_law {w : World} : nsIn (Kf w) mainGlobals (Str.ofString "law") = some (some (.ref 197)) := by rfl
theorem lookup6 {w : World} : (Kf w).lookup 106 = none := by kernel_rfl
theorem topRead_tab {mg mb : Str → Option Value} {h : Heap} (T : TopRead hd.view_39 loose mg mb h) : TopRead hd.view_39 loose mg mb (tabH h) := by
  have k : ∀ a, a ∉ [106] → ∀ o, h.get? a = some o → (tabH h).get? a = some o := fun a ha o e => hideAll_get _ e ha
  exact ⟨T.g.at' (k _ (by decide)), T.b.at' (k _ (by decide)), T.nolimit.at (k _ (by decide)), T.builtins, T.free⟩
theorem law_holds : PySem.Challenge.rw_xo0008_01.Holds := by
  refine hd ?_
  intro w s₀ s₁ mg mb G Y fa o pm cd doc dV kV ho hd hcd hD hmg hg args vals as hpre hlay hrd hwl hlo
  have KX := km_in_of Y
  have hT8 := km_tabs_of Y
  clear Y
  have X := (Ground.X G).1
  have V := (Ground.X G).2
  refine Ground.open G ?_
  intro T B D TE TW
  refine Exists.elim (bmod_of_top T) fun bm1 q => Exists.elim q fun bm2 M => ?_
  clear hd hcd D hD
  wrow_args hpre hlay hrd hwl hlo
  rename IntsAre _ _ => hI
  rename Heap.IsList _ _ _ => hL
  rename ¬ _ < _ => hlen
  have TR : TopRead Mine.hd.view_39 loose mg mb s₁.heap := topRead_of T
  have hfa : fa = 197 := by
    have := mg_of KX TR.g (nm_law (w := w))
    have e : mg (Str.ofString "law") = some (.ref fa) := hmg
    rw [e] at this
    exact Value.ref.inj (Option.some.inj this)
  subst hfa
  have h6 := hT8 106 (.head _)
  have G1 : Gd w mg mb s₁.heap := ⟨KX, TR⟩
  have bX : (Kf w).In (tabH s₁.heap) := fun a o' e => hideAll_get _ (KX a o' e) fun hm => by
    rw [List.mem_singleton.mp hm] at e
    have e2 : (Kf w).lookup 106 = some o' := e
    rw [lookup6] at e2
    cases e2
  have hbm : (tabH s₁.heap).get? bm1 = some bm2 := hideAll_get _ M.obj fun hm => by
    have e := M.obj
    rw [List.mem_singleton.mp hm, h6] at e
    have e2 := M.cls
    rw [← Option.some.inj e] at e2
    cases e2
  have bs : Bs w mg mb (tabH s₁.heap) := ⟨bX, topRead_tab TR, hideAll_none _ (.head _), ⟨bm1, bm2, M.name, M.ne, hbm, M.cls, M.dict, M.data⟩⟩
  refine .call ?_
  refine' enterS G1 ?ho ?hcd ?hr ?hb ?hl ?_ ?c1 ?c2 ?c3 ?c4
  case ho => exact rfl
  case hcd => rfl
  case hr => decide
  case hb => exact BindsTo.of_eq rfl
  case hl => exact locs rfl
  case c1 => exact rfl
  case c2 => exact rfl
  case c3 => exact rfl
  case c4 => decide
  intro L' h₁ F0
  have lt6 : 106 < L' := Nat.lt_of_lt_of_le (Heap.lt_size h6) F0.above
  have F : Fr (tabH s₁.heap) L' h₁ _ := ⟨F0.ns, fun b' o' e => F0.keep b' o' (of_hideAll _ e), Nat.le_trans (Nat.le_of_eq (hideAll_size _ _)) F0.above⟩
  have N : News (tabH s₁.heap) L' h₁ [(106, tabObj #[])] := fun p hp => by
    rw [List.mem_singleton.mp hp]
    exact ⟨F0.keep _ _ h6, Nat.ne_of_lt lt6, hideAll_none _ (.head _)⟩
  refine body_c (l := _) (sc := _) bs rfl (show callerA.depth + 1 + 2 < recursionLimit by decide) (show callerA.units + 3 + 64 < cLine by decide) hg F N (hL.at fun o' e => F0.keep _ _ e) hI (by omega) rfl (fun h' g' k' m' ps F' hp' hg' => ?_) ?_ ?_
  · have hdh := codeHd_of_K KX (rfl : codeHdIn (Kf w) 110 106 = true)
    have hdh' := codeHd_of_K (bX.keeps F'.keep) (rfl : codeHdIn (Kf w) 110 106 = true)
    have hk : OldK s₁.heap h' := OldK.step_table (c₀ := 110) (c := 110) (P := 106) (ps₀ := #[]) (ps := #[]) (more := ps) (OldK.refl _) (hdh.tab h6) (hdh.tab h6) (hdh'.tab (by rw [Array.empty_append]; exact hp')) (fun b' o' hb e => F'.keep b' o' (hideAll_get _ e fun hm => hb (List.mem_singleton.mp hm))) (by decide)
    show GoodWG _ _ _ _ _ (.ok (.ret (.bool true))) _
    refine ⟨.inl ⟨_, _, [], rfl, fun _ => rfl, ReadsW.bool true, ?_, fun _ => ⟨List.nodup_nil, fun _ hm => nomatch hm⟩⟩, hk, rfl, hg'⟩
    first | rfl | wrow_post
  · kernel_rfl
  · rfl
end Mine
end

theorem PySem.Challenge.cw_xo0008_01_holds : PySem.Challenge.rw_xo0008_01.Holds :=
  Mine.law_holds
