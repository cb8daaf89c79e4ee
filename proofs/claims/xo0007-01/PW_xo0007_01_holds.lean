import PyProof.Rows.All
import Wide.All
import OpenK.AllK
import Wide.FinOn
import KE.KNestM
import KE.KSuper
import KE.BytesMake
import KE.KSortTup
import KE.KDictText
import KE.LcTurns
import KE.KLcTest
import PyProof.ListRange
import KE.KLam
import PyProof.StrLaws
import PyProof.PureStr
import PyProof.StrCalls
import PyProof.StrLawsChain
import PyProof.StrLawsTight
import Lean
import PySem.Challenge.RW_xo0007_01
set_option Elab.async false
set_option compiler.extract_closed false
section -- YC1
open PySem PySem.W PySem.Calls PyProof.Rows PyProof.V PySem.Spec
set_option maxRecDepth 100000
set_option maxHeartbeats 1000000
namespace Mine
/-- the codes that may hold a bytearray by a dangling name -/
noncomputable def isDec (c : Code) : Bool := match c with
  | .builtin id _ => Builtin.Bytes.decodersThatHold.contains id
  | _ => false
noncomputable def ClB (l : List (Code × Pos)) : Prop := ∀ x ∈ l, isDec x.1 = false
noncomputable def Cl (Γ : PySem.Ctx) : Prop := isDec Γ.code = false ∧ ClB Γ.below
noncomputable def wpC {α : Type} (M : Model) (A : Around) (t : Sem α) (Q : α → Shared → Prop) (E : Value → Shared → Prop) (s : Shared) : Prop :=
  ∀ Γ p, Γ.In A → Cl Γ → Sem.wp M Γ t (fun a _ s' => Q a s') (fun e _ s' => E e s') p s
noncomputable def codeC (M : Model) (A : Around) (c : Code) (R : Result → Shared → Prop) (s : Shared) : Prop :=
  ∀ Γ p, Γ.code = c → Γ.Below A → Cl Γ → wpCode M Γ R p s
section
variable {α β : Type} {M : Model} {A : Around} {E : Value → Shared → Prop} {s : Shared}
theorem wpC_any {t : Sem α} {Q : α → Shared → Prop} (h : wpAny M A t Q E s) : wpC M A t Q E s := fun Γ p hΓ _ => h Γ p hΓ
theorem codeC_any {c : Code} {R : Result → Shared → Prop} (h : codeAny M A c R s) : codeC M A c R s := fun Γ p hc hΓ _ => h Γ p hc hΓ
theorem wpC_mono {t : Sem α} {Q Q' : α → Shared → Prop} {E' : Value → Shared → Prop} (h : wpC M A t Q E s) (hQ : ∀ a s, Q a s → Q' a s) (hE : ∀ e s, E e s → E' e s) : wpC M A t Q' E' s :=
  fun Γ p hΓ hC => Sem.wp_mono M Γ t (fun a _ s => hQ a s) (fun e _ s => hE e s) p s (h Γ p hΓ hC)
theorem wpC_bind {m : Sem α} {f : α → Sem β} {Q : β → Shared → Prop} (h : wpC M A m (fun a s' => wpC M A (f a) Q E s') E s) : wpC M A (m >>= f) Q E s := fun Γ p hΓ hC => by
  rw [Sem.wp_bind']
  exact Sem.wp_mono M Γ m (fun a p' s' h' => h' Γ p' hΓ hC) (fun _ _ _ h' => h') p s (h Γ p hΓ hC)
theorem wpC_abind {m : Sem α} {f : α → Sem β} {Q : β → Shared → Prop} (h : wpAny M A m (fun a s' => wpC M A (f a) Q E s') E s) : wpC M A (m >>= f) Q E s := wpC_bind (wpC_any h)
theorem wpC_holding {vs : List Value} {m : Sem α} {Q : α → Shared → Prop} (h : wpC M A m Q E s) : wpC M A (holding vs m) Q E s :=
  fun Γ p hΓ hC => by rw [Sem.wp_holding]; exact h Γ p hΓ hC
theorem wpC_onRaise {m : Sem α} {k : Value → Sem Unit} {Q : α → Shared → Prop}
    (h : wpC M A m Q (fun e s' => wpC M A (k e) (fun _ s'' => E e s'') E s') s) : wpC M A (m.onRaise k) Q E s := fun Γ p hΓ hC => by
  rw [Sem.wp_onRaise]
  exact Sem.wp_mono M Γ m (fun _ _ _ h' => h') (fun e p' s' h' => h' Γ p' hΓ hC) p s (h Γ p hΓ hC)
theorem wpC_attempt {m : Sem α} {Q : Except Value α → Shared → Prop} (h : wpC M A m (fun a => Q (.ok a)) (fun e => Q (.error e)) s) :
    wpC M A m.attempt Q E s := fun Γ p hΓ hC => by rw [Sem.wp_attempt]; exact h Γ p hΓ hC
theorem wpC_runValue {c : Code} {Q : Value → Shared → Prop} (hd : isDec c = false)
    (hc : codeC M A c (fun r s' => match r with | .ok (.ret v) => Q v s' | .ok _ => False | .error e => E e s') s) :
    wpC M A (runValue c) Q E s := fun Γ p hΓ hC => by
  rw [Sem.wp_runValue]
  refine hc _ p rfl (hΓ.enter c none p (by intro x; cases x)) ⟨hd, fun x hx => ?_⟩
  rcases List.mem_cons.mp hx with rfl | hx
  · exact hC.1
  · exact hC.2 x hx
theorem wpC_call {f : Value} {pos : List Value} {kw : List (Str × Value)} {Q : Value → Shared → Prop}
    (hc : codeC M A (.call f ⟨pos, kw⟩) (fun r s' => match r with | .ok (.ret v) => Q v s' | .ok _ => False | .error e => E e s') s) : wpC M A (call f pos kw) Q E s := wpC_runValue rfl hc
theorem codeC_of_tree {c : Code} {R : Result → Shared → Prop}
    (h : wpC M (A.under c) (M.den c) (fun fin s' => match fin with | .done f => R (.ok f) s' | .again c' => c'.quiet = true ∧ isDec c' = false ∧ codeC M A c' R s')
      (fun e s' => R (.error e) s') s) : codeC M A c R s := fun Γ p hc hΓ hC => by
  rw [wpCode_iff_wp, hc]
  refine Sem.wp_mono M Γ _ (fun fin p' s' h' => ?_) (fun _ _ _ h' => h') p s (h Γ p (hc ▸ hΓ.in) hC)
  cases fin with
  | done f => exact h'
  | again c' => exact ⟨h'.1, h'.2.2 (Γ.goto c') p' rfl (hΓ.goto c') ⟨h'.2.1, hC.2⟩⟩
/-- no code on the stack holds this bytearray -/
theorem wpC_exported {a : Addr} {Q : Bool → Shared → Prop} (hg : A.guards = some []) (h : Q false s) : wpC M A (Builtin.Bytes.exported (.ref a)) Q E s := fun Γ p hΓ hC => by
  have hgu : guardsOf ((Γ.code, p) :: Γ.below) = [] := by rw [guardsOf_cons]; exact hΓ.2.2.2.1 _ hg
  have key : ∀ (f : Code × Pos → Bool), (∀ c q, c.isGuard = false → isDec c = false → f (c, q) = false) → ((Γ.code, p) :: Γ.below).any f = false := by
    intro f hf
    rw [List.any_eq_false]
    rintro ⟨c, q⟩ hx
    have hng : c.isGuard = false := by
      cases hq : c.isGuard with
      | false => rfl
      | true =>
        have : c ∈ guardsOf ((Γ.code, p) :: Γ.below) := List.mem_filter.mpr ⟨List.mem_map.mpr ⟨(c, q), hx, rfl⟩, hq⟩
        rw [hgu] at this; cases this
    have hnd : isDec c = false := by
      rcases List.mem_cons.mp hx with e | hx
      · cases e; exact hC.1
      · exact hC.2 _ hx
    rw [hf c q hng hnd]
    simp
  unfold Builtin.Bytes.exported
  show Sem.wp M Γ (stack >>= fun st => pure (st.any _)) _ _ p s
  rw [Sem.wp_bind']
  show Q (((Γ.code, p) :: Γ.below).any _) s
  rw [key _ fun c q hng hnd => ?_]
  · exact h
  · cases c
    case builtin id args =>
      obtain ⟨pos, kw⟩ := args
      have hng : guardIds.contains id = false := hng
      have hnd' : Builtin.Bytes.decodersThatHold.contains id = false := hnd
      delta Builtin.Bytes.exported.match_1
      have n0 : ∀ x : String, guardIds.contains x = true → id ≠ x := fun x hx e => by rw [e, hx] at hng; cases hng
      show dite _ _ _ = false
      rw [dif_neg (n0 _ (by decide +kernel)), dif_neg (n0 _ (by decide +kernel)), dif_neg (n0 _ (by decide +kernel)), dif_neg (n0 _ (by decide +kernel)), dif_neg (n0 _ (by decide +kernel))]
      cases pos with
      | nil => rfl
      | cons v r =>
        show (_ && Builtin.Bytes.decodersThatHold.contains id) = false
        rw [hnd', Bool.and_false]
    all_goals rfl
end
end Mine
end
section -- YC2
open PySem PySem.W PySem.Calls PyProof.Rows PyProof.V PySem.Spec
set_option maxRecDepth 100000
set_option maxHeartbeats 1000000
namespace Mine
theorem caller_Cl : Cl (⟨.builtin "claim.caller" {}, none, none, [], none⟩ : _root_.PySem.Ctx) := ⟨by decide +kernel, fun _ hx => by cases hx⟩
theorem thread_ends_C {prog : Program} {w : World} {t : Sem PySem.Fin} {s : Shared} {R : Result → Shared → Prop} (hreg : s.asleep)
    (h : wpC (model prog w) callerA t (fun fin s' => ∃ f, fin = .done f ∧ (R (.ok f) s' ∧ leftWithCleanup s'.gens = false)) (fun e s' => R (.error e) s' ∧ leftWithCleanup s'.gens = false) s) :
    ∃ n r s' s'', runN (denote table) prog w n s ⟨t, .builtin "claim.caller" {}, default, []⟩ = .halted (outcomeOf r) s' ∧
      schedN (denote table) prog w n (.single s ⟨t, .builtin "claim.caller" {}, default, []⟩) = .halted (outcomeOf r) s' ∧ s'.forget = s''.forget ∧ R r s'' := by
  obtain ⟨n, r, s₁, s₂, hs, hn, hfo, hR⟩ := wp_halts_full (M := model prog w) (R := R) hreg
    (Sem.wp_mono _ _ t (fun fin p' s' h' => by obtain ⟨f, rfl, hf⟩ := h'; exact hf) (fun _ _ _ h' => h') default s (h _ default caller_in caller_Cl))
  exact ⟨n, r, s₂, s₁, hn, hs, hfo, hR⟩
theorem callFrom_C {c : ClaimW} {tree : List Value → Sem Fin} {w : World} {s : Shared} {free : Addr → Prop} {gens : Prop} {kept : Heap → Prop} (hz : s.asleep) (hgens : s.gens = #[])
    (hspec : ∀ args : List WData, c.pre args = true → WData.layableAll args = true →
      ∀ ord : List DictEntry → List DictEntry, (∀ l, (ord l).Perm l) →
      ∃ vs s₁, layAllW c.records (classAt s.heap) w.params ord args s = some (vs, s₁) ∧
        wpC (model c.prog w) callerA (tree vs) (fun fin s' => ∃ f, fin = .done f ∧ (c.Ends s args vs s₁ (.ok f) s' ∧ s'.os = s.os ∧ AllBare s'.gens ∧ kept s'.heap))
          (fun e s' => c.Ends s args vs s₁ (.error e) s' ∧ s'.os = s.os ∧ AllBare s'.gens ∧ kept s'.heap) s₁) :
    c.CallFrom (fun vs => ⟨tree vs, .builtin "claim.caller" {}, default, []⟩) w free gens kept s := by
  intro args hpre hlay ord hord
  obtain ⟨vs, s₁, hlaid, hcode⟩ := hspec args hpre hlay ord hord
  have hal := layAllW_rest _ _ _ hlaid
  obtain ⟨k, r, s', s'', hrun, hsched, hfo, hcase, hos, hkp⟩ := thread_ends_C (prog := c.prog) (w := w) (t := tree vs) (s := s₁)
    (R := fun r s' => c.Ends s args vs s₁ r s' ∧ s'.os = s.os ∧ kept s'.heap)
    (Shared.asleep_of_life hal.2.2.2 hz)
    (wpC_mono hcode (by
      rintro fin s' ⟨f, e, h1, h2, h3, h4⟩
      exact ⟨f, e, ⟨h1, h2, h4⟩, leftWithCleanup_false_of_bare h3⟩) (by
      rintro e s' ⟨h1, h2, h3, h4⟩
      exact ⟨⟨h1, h2, h4⟩, leftWithCleanup_false_of_bare h3⟩))
  obtain ⟨eh, _, _, eo, _⟩ := Shared.forget_eq hfo
  have hcase := hcase.congr eh
  have hkp : kept s'.heap := by first | exact eh ▸ hkp | (rw [eh] at hkp; exact hkp) | (rw [← eh] at hkp; exact hkp)
  rw [← eo] at hos
  have hlife : s'.heap.life = s.heap.life := (runN_life _ _ _ hrun).trans hal.2.2.2
  refine ⟨vs, s₁, hlaid, k, _, s', hsched, ?_, (fun _ i x hx => by rw [hgens] at hx; simp at hx), hkp, by rw [hlife], Shared.rest_eq hos⟩
  rcases hcase with ⟨v, rfl, d1, d2, d3, d4, d5⟩ | ⟨e, ob, cls, rfl, d1, d2, d3, d4, d5⟩
  · exact .inl ⟨v, rfl, d1, d2, d3, fun b o y _ => d4 b o y, d5⟩
  · exact .inr ⟨e, ob, cls, rfl, d1, d2, d3, d4, fun b o y _ => d5 b o y⟩

theorem open_any_C {r : RowW} {run : Value → List Value → Sem Value} {tree : List Value → Sem Fin} {q : Program} {loose defs kps : List Str} {writes : Bool} {Xt : Shared → Bool} {XP : (Str → Option Value) → Heap → Prop} {α : Type} {Yf : Shared → α} {Ya : World → α} {YP : World → Heap → Prop} {N : Nat}
    (left : LeftO r.prog q loose Xt Yf Ya N) (hY : ∀ w s, Yf s = Ya w → YP w s.heap) (hYk : ∀ w h h', YP w h → (∀ b o, h.get? b = some o → h'.get? b = some o) → YP w h') (hX : ∀ s, Xt s = true → XP (s.heap.nsMap mainGlobals) s.heap) (hXk : ∀ mg h h', XP mg h → (∀ b o, h.get? b = some o → h'.get? b = some o) → XP mg h')
    (hRf : ∀ s, Xt s = true → RecFacts r.records s.heap) (hwr : (!writes || r.records.isEmpty) = true) (ok : (chainsOk q && opensWell r.prog && (frees r && r.within.isEmpty)) = true) (hb : r.prog.bare) (hw : r.promised)
    (ht : ∀ vs (w : World) (s : Shared) mg f (Q : Fin → Shared → Prop) (E : Value → Shared → Prop), s.heap.Ns mainGlobals mg → mg r.name = some f → wpC (model r.prog w) callerA (run f vs) (fun v s' => Q (.done (.ret v)) s') E s → wpC (model r.prog w) callerA (tree vs) Q E s)
    (pin : ∀ w s, s.heap.isNs mainGlobals = true → Ground q loose [] XP w s (s.heap.nsMap mainGlobals) (s.heap.nsMap builtinsNs) s.heap → ∀ n ∈ defs, isTheDefsW r.prog s.heap n)
    (call : ∀ (w : World) (s₀ s₁ : Shared) (mg mb : Str → Option Value), Ground q loose r.records XP w s₀ mg mb s₁.heap → YP w s₁.heap → ∀ (args : List WData) (vs : List Value) (as : List Addr),
      r.claim.pre args = true → WData.layableAll args = true → Laid r.records w s₀ s₁ args vs as → sysModules < s₀.heap.objs.size → ∃ f, mg r.name = some f ∧
        wpC (model r.prog w) callerA (run f vs) (fun v s' => GoodWG r.claim (classAt s₀.heap) (ExcName.means s₀.heap) args s₁ (.ok (.ret v)) s')
          (fun e s' => GoodWG r.claim (classAt s₀.heap) (ExcName.means s₀.heap) args s₁ (.error e) s') s₁) : r.claim.HoldsOpenBy (fun vs => ⟨tree vs, .builtin "claim.caller" {}, default, []⟩) defs kps writes := by
  obtain ⟨ok, k5⟩ := Bool.and_eq_true_iff.mp ok
  obtain ⟨hch, o1⟩ := Bool.and_eq_true_iff.mp ok
  obtain ⟨k5, k6⟩ := Bool.and_eq_true_iff.mp k5
  obtain ⟨hsame, hu, ha, hap, hm⟩ := frees_parts k5
  refine ⟨⟨hb, o1, by show r.makers.map _ = []; rw [hm]; rfl⟩, hw.witness, fun w => ⟨(left.behind hX hch w).1, fun s' hs' => ?_⟩⟩
  obtain ⟨s₀, hf, hg0, s, hT, hz, hgens, hg, G00, y⟩ := (left.behind (XP := fun mg h => XP mg h ∧ RecFacts r.records h) (fun s hs => ⟨hX s hs, hRf s hs⟩) hch w).2 s' hs'
  have G0 : Ground q loose [] XP w s (s.heap.nsMap mainGlobals) (s.heap.nsMap builtinsNs) s.heap := ⟨G00.T, G00.B, G00.D, G00.TE, G00.TD, G00.W, G00.X.1, G00.cls, G00.has, G00.apart, G00.once, G00.K⟩
  have RF := G00.X.2
  have hT' := hT
  refine ⟨s₀, hf, hg0, s, hT, pin w s hg G0, RF.1, RF.2.1, ?_⟩
  have hgens : s.gens = #[] := Array.eq_empty_of_size_eq_zero (beq_iff_eq.mp hgens)
  have G : Ground q loose r.records XP w s _ _ s.heap := RF.ground G0
  refine callFrom_C (c := r.claim) hz hgens fun args hpre hlay ord hord => ?_
  obtain ⟨⟨vs, s₁⟩, hlaid⟩ := Option.isSome_iff_exists.mp (layAllW_isSome (P := w.params) (ord := ord) G.has args r.args s (pre_splitW hpre).1)
  have keeps := layAllW_keeps _ _ _ hlaid
  have hal := layAllW_rest _ _ _ hlaid
  obtain ⟨as, hrd, hin, hold⟩ := reads_layAllW hord _ _ _ hlaid hlay s₁.heap (fun _ _ e => e)
  have L : Laid r.records w s s₁ args vs as := ⟨⟨ord, hord, hlaid⟩, hrd, hin, hold, keeps, hal.1.trans hgens, hal.2.2.1⟩
  have G₁ := G.keeps hXk keeps
  obtain ⟨f, hf, h⟩ := call w s s₁ _ _ G₁ (hYk _ _ _ (hY w s y) keeps) args vs as hpre hlay L G.low
  have hi := ident_freeW hu ha hap
  have hwi : r.claim.within = [] := List.isEmpty_iff.mp k6
  exact ⟨vs, s₁, hlaid, ht vs w s₁ _ f _ _ G₁.T.g hf (wpC_mono h (fun v s' g => ⟨_, rfl, have z := g.laid (c := r.claim) hsame hwi hi L; ⟨z.1, z.2.1, z.2.2, fun q => ⟨namesKept_of hT' hg kps keeps g.2.1.old, noTable hwr q⟩⟩⟩) fun e s' g => have z := g.laid (c := r.claim) hsame hwi hi L; ⟨z.1, z.2.1, z.2.2, fun q => ⟨namesKept_of hT' hg kps keeps g.2.1.old, noTable hwr q⟩⟩)⟩

noncomputable abbrev WalkC (q : Program) (loose : List Str) (XP : (Str → Option Value) → Heap → Prop) (YP : World → Heap → Prop) (r : RowW) (d : DefRec) (kwd : List (Str × Expr)) (run : Value → List Value → Sem Value) : Prop :=
  ∀ (w : World) (s₀ s₁ : Shared) (mg mb : Str → Option Value), Ground q loose r.records XP w s₀ mg mb s₁.heap → YP w s₁.heap → ∀ (a : Addr) (o : Obj) (pm cd doc dV kV : Value), s₁.heap.get? a = some o →
    o.data = .func { docDef d.name d.params d.body d.scope pm cd doc with defaults := dV, kwdefaults := kV } → s₁.heap.CodeRec cd d.name → Dflts mg s₁.heap d.params kwd dV kV → mg d.name = some (.ref a) → s₁.gens = #[] →
    ∀ (args : List WData) (vals : List Value) (as : List Addr), r.claim.pre args = true → WData.layableAll args = true → ReadsAllW r.records (classAt s₀.heap) s₁.heap vals args as → WellAll w.params s₁.heap vals args → (∀ a ∈ as, (a == sysModules) = false) →
      wpC (model r.prog w) callerA (run (.ref a) vals) (fun v s' => GoodWG r.claim (classAt s₀.heap) (ExcName.means s₀.heap) args s₁ (.ok (.ret v)) s')
        (fun e s' => GoodWG r.claim (classAt s₀.heap) (ExcName.means s₀.heap) args s₁ (.error e) s') s₁

theorem PySem.W.holds_open {r : OpenRow} {q : Program} {loose : List Str} {Xt : Shared → Bool} {XP : (Str → Option Value) → Heap → Prop} {α : Type} {Yf : Shared → α} {Ya : World → α} {YP : World → Heap → Prop} {d : DefRec} {kwd : List (Str × Expr)} {N : Nat}
    (left : LeftO r.prog q loose Xt Yf Ya N) (hY : ∀ w s, Yf s = Ya w → YP w s.heap) (hYk : ∀ w h h', YP w h → (∀ b o, h.get? b = some o → h'.get? b = some o) → YP w h')
    (hX : ∀ s, Xt s = true → XP (s.heap.nsMap mainGlobals) s.heap) (hXk : ∀ mg h h', XP mg h → (∀ b o, h.get? b = some o → h'.get? b = some o) → XP mg h')
    (hdef : defOf q r.name = some (d, kwd)) (hp : r.prog.theDef r.name = some (d.params, d.body, d.scope)) (hk : kwWritten? d.params.kwonlyargs d.params.kw_defaults = some kwd) (hRf : ∀ s, Xt s = true → RecFacts r.records s.heap) (hwr : (!r.writes || r.records.isEmpty) = true)
    (k1 : r.wellSaid = true) (ok : (chainsOk q && opensWell r.prog && (frees r.toRowW && r.within.isEmpty)) = true) (hb : r.prog.bare) (hw : r.toRowW.promised)
    (call : WalkC q loose XP YP r.toRowW d kwd fun f vs => PySem.call f vs) : r.Holds := by
  refine ⟨k1, hw, open_any_C (r := r.toRowW) (run := fun f vs => PySem.call f vs) (tree := fun vs => do match ← nsGet mainNs r.name with
      | some f => do ret (← PySem.call f vs)
      | none => unsupported "claim.caller:no-such-global") left hY hYk hX hXk hRf hwr ok hb hw
    (fun vs w s mg f Q E hg hf h => wpC_abind (wpAny_nsGet hg (by rw [hf]; exact wpC_bind (wpC_mono h (fun _ _ x => wpC_any (wpAny_pure x)) fun _ _ x => x))))
    (fun w s hg G n hn => ?_) fun w s₀ s₁ mg mb G Y args vs as hpre hlay L low => ?_⟩
  · obtain rfl : n = r.name := by split at hn <;> simp_all
    exact pinned_of_view hg G hdef hp hk
  · obtain ⟨a, o, pm, cd, doc, dV, kV, h1, h2, h3, h4, h5⟩ := G.fn hdef
    exact ⟨.ref a, h1, call w s₀ s₁ mg mb G Y a o pm cd doc dV kV h2 h3 h4 h5 (defOf_name hdef ▸ h1) L.gens args vs as hpre hlay L.reads L.well (L.low low)⟩

end Mine
end
section -- XHead2
open PySem PySem.W PyProof.Rows
set_option maxRecDepth 100000
set_option maxHeartbeats 8000000
namespace Mine
open_top hd for PySem.Challenge.rw_xo0007_01.row
end Mine
end
section
open PySem PySem.W PySem.Calls PyProof.Rows PyProof.V PySem.Spec
local macro_rules | `(tactic| walk_at "m_room") => `(tactic| first | assumption | ((try simp only [depth_under_make, depth_under_kw, depth_in1, depth_deeper, depth_caller] at *); (first | lia | omega)))
local macro_rules | `(tactic| walk_at "m_for") => `(tactic| (k_here; (rename Fr _ _ _ _ => lF'); (with_unfolding_all refine' For_invVF lF' ?k1 ?k2 ?_; (case k1 => exact rfl); (case k2 => exact rfl); k_whole)))
local macro_rules | `(tactic| walk_at "m_enter2") => `(tactic| intro h₁ F N; (try dsimp only [List.reverse_cons, List.reverse_nil, List.nil_append, List.append_nil, List.cons_append, List.length_cons, List.length_nil] at F ⊢); (try k_fold))
local macro_rules | `(tactic| walk_at "m_enterC2") => `(tactic| intro L h₁ tk₁ cells F N Y; (k_cells Y); (try dsimp only [List.reverse_cons, List.reverse_nil, List.nil_append, List.append_nil, List.cons_append, List.length_cons, List.length_nil] at F ⊢); (try k_fold))
section -- XBase
open PySem PySem.W PySem.Calls PyProof.Rows PyProof.V PySem.Spec
set_option maxRecDepth 100000
set_option maxHeartbeats 8000000
namespace Mine
theorem off_XBase : True := by w_top off; trivial

section
variable {prog : Program} {w : World} {A : Around} {E : Value → Shared → Prop} {s : Shared} {K : Frag} {Q : Value → Shared → Prop}
  {name qual : Str} {params : Arguments} {body : List Stmt} {scope : Scope} {dV kV doc pm cdv ct oc : Value} {an od : Option Addr} {osl : Array (Option Value)} {f : Addr} {args : List Value}

/-- a plain call of one of the text's own defs, its body not raising: the whole heap of the caller is the ground -/
theorem enter (binds : List (Str × Value)) (X : K.In s.heap) (hlim : s.heap.NoLimit)
    (ho : K.lookup f = some ⟨oc, od, .func (fnOf name qual params body scope dV kV doc pm an cdv ct), osl⟩) (hcd : codeIn K cdv qual = true) (hroom : A.depth < recursionLimit)
    (hbind : BindsTo s (fnOf name qual params body scope dV kV doc pm an cdv ct) ⟨args, []⟩ binds) (hloc : ∀ y ∈ binds, scope.names.lookup y.1 = some .local)
    (hco : scope.isCoroutine = false) (hgen : scope.isGenerator = false) (hk : scope.kind = .function) (hcell : ∀ x ∈ scope.names, x.2 ≠ .cell)
    (h : ∀ h₁, Fr s.heap s.heap.objs.size h₁ (fun y => binds.reverse.lookup y) → News s.heap s.heap.objs.size h₁ [] →
      wpAny (model prog w) (A.deeper (envOf qual scope s.heap.objs.size f cdv)) (execs body (envOf qual scope s.heap.objs.size f cdv))
        (fun fl s' => Q (match fl with | .ret v => v | _ => .none) s') (fun _ _ => False)
        { s with heap := h₁, toks := s.toks + binds.length }) :
    wpAny (model prog w) A (call (.ref f) args) Q E s := by
  refine wpAny_call (codeAny_call_def (fd := fnOf name qual params body scope dV kV doc pm an cdv ct) (body := body) (binds := binds) hroom (X _ _ ho) rfl hlim (codeRec_of X hcd) rfl hbind hcell hloc (fun h₁ hns hk₁ => ?_) hco hgen hk)
  exact wpAny_mono (h h₁ ⟨hns, hk₁, Nat.le_refl _⟩ News.nil) (fun _ _ x => x) fun _ _ x => x.elim
end


section
variable {prog : Program} {w : World} {A : Around} {E : Value → Shared → Prop} {s : Shared} {K : Frag} {Q : Value → Shared → Prop} {h₀ : Heap} {L : Addr} {m : Str → Option Value} {news : List (Addr × Obj)}
  {p : Program} {loose : List Str} {mean : ExcName → Option Value} {mg mb : Str → Option Value}
  {name qual : Str} {params : Arguments} {body : List Stmt} {scope : Scope} {dV kV doc pm cdv ct oc : Value} {an od : Option Addr} {osl : Array (Option Value)} {f : Addr} {args : List Value}

theorem groundM (F : Fr h₀ L s.heap m) (N : News h₀ L s.heap news) {R : Result → Shared → Prop} :
    Fr h₀ L (hideAll s.heap (news.map (·.1))) m ∧ h₀.StaysIn (hideAll s.heap (news.map (·.1))) ∧
      ∀ v s', LeaveK h₀ L m (hideAll s.heap (news.map (·.1))) R v s' → R (.ok (.ret v)) s' := by
  have nm : ∀ b o, h₀.get? b = some o → b ∉ news.map (·.1) := fun b o e q => by
    obtain ⟨p, hp, rfl⟩ := List.mem_map.mp q
    rw [(N p hp).2.2] at e; cases e
  have st : h₀.StaysIn (hideAll s.heap (news.map (·.1))) := fun b o e => hideAll_get _ (F.keep b o e) (nm b o e)
  obtain ⟨oL, es, ep, hL, hLd, hLk, hLf⟩ := F.ns
  have nL : L ∉ news.map (·.1) := fun q => by
    obtain ⟨p, hp, e⟩ := List.mem_map.mp q
    exact (N p hp).2.1 e
  have hLg := hideAll_get (news.map (·.1)) hL nL
  refine ⟨⟨⟨oL, es, ep, hLg, hLd, hLk, hLf⟩, st, F.above⟩, st, fun v s' hl => ?_⟩
  obtain ⟨L', m', news', F', N', k⟩ := hl
  refine k ⟨⟨oL, es, ep, F'.keep L oL hLg, hLd, hLk, hLf⟩, fun b o e => F'.keep b o (st b o e), F.above⟩ fun p hp => ⟨(N' p hp).1, fun q => ?_, ?_⟩
  · have := (N' p hp).2.2; rw [q, hLg] at this; cases this
  · cases q : h₀.get? p.1 with
    | none => rfl
    | some o => have := (N' p hp).2.2; rw [st _ _ q] at this; cases this

end


section
variable {prog : Program} {w : World} {A : Around} {E : Value → Shared → Prop} {s : Shared} {K : Frag} {Q : Value → Shared → Prop}
  {name qual : Str} {params : Arguments} {body : List Stmt} {scope : Scope} {dV kV doc pm cdv ct oc : Value} {an od : Option Addr} {osl : Array (Option Value)} {f : Addr} {args : List Value}
/-- the same for a def whose names are held in cells -/
theorem enterC (binds : List (Str × Value)) (X : K.In s.heap) (hlim : s.heap.NoLimit)
    (ho : K.lookup f = some ⟨oc, od, .func (fnOf name qual params body scope dV kV doc pm an cdv ct), osl⟩) (hcd : codeIn K cdv qual = true) (hroom : A.depth < recursionLimit)
    (hbind : BindsTo s (fnOf name qual params body scope dV kV doc pm an cdv ct) ⟨args, []⟩ binds) (hkind : (binds.all fun y => scope.names.lookup y.1 == some .local || scope.names.lookup y.1 == some .cell) = true)
    (hnd : ((cellsFrom 0 scope.names []).map (·.1)).Nodup)
    (hco : scope.isCoroutine = false) (hgen : scope.isGenerator = false) (hk : scope.kind = .function)
    (h : ∀ L h₁ tk cells, Fr s.heap L h₁ (bindL (envOfC qual scope L f cdv).kindOf binds fun _ => none) → News s.heap L h₁ cells →
      CellsAre (bindC (envOfC qual scope L f cdv).kindOf binds fun _ => none) (cellsFrom (L + 1) scope.names []) cells →
      wpAny (model prog w) (A.deeper (envOfC qual scope L f cdv)) (execs body (envOfC qual scope L f cdv))
        (fun fl s' => Q (match fl with | .ret v => v | _ => .none) s') (fun _ _ => False)
        { s with heap := h₁, toks := tk }) :
    wpAny (model prog w) A (call (.ref f) args) Q E s := by
  refine wpAny_call (codeAny_call_function hroom (X _ _ ho) rfl hco hgen rfl (codeRec_of X hcd) (hbind _ _ _ _ ?_))
  refine wpAny_newFunctionEnv_cells hk (kindsX hkind _) fun env' he s' x => ?_
  subst he
  refine ⟨hlim.keeps x.toInCall.keep, codeAny_func ?_⟩
  obtain ⟨h₁, tk, rfl, _⟩ := x.done
  have hk₁ := x.toInCall.keep
  obtain ⟨cells, NC, Y⟩ := Cl.news (h₀ := s.heap) (Nat.le_refl _) fun n c hm => ⟨x.cell n c (lookup_of_mem_nodup (cellsFrom_names scope.names 0 (s.heap.objs.size + 1) [] [] rfl ▸ hnd) hm), x.above n c hm⟩
  exact wpAny_mono (h s.heap.objs.size h₁ tk cells ⟨x.toInCall.ns, hk₁, Nat.le_refl _⟩ NC Y) (fun _ _ x => x) fun _ _ x => x.elim
end

end Mine
end
section -- YC3
open PySem PySem.W PySem.Calls PyProof.Rows PyProof.V PySem.Spec
set_option maxRecDepth 100000
set_option maxHeartbeats 1000000
namespace Mine
theorem off_YC3 : True := by w_top off; trivial
section
variable {α β : Type} {M : Model} {A : Around} {E : Value → Shared → Prop} {s : Shared} {env : Env}
theorem wpC_pure {a : α} {Q : α → Shared → Prop} (h : Q a s) : wpC M A (pure a) Q E s := wpC_any (wpAny_pure h)
theorem wpC_keep {vs : List Value} {m : Sem α} {Q : α → Shared → Prop} (h : wpC M A m Q E s) : wpC M A (m.keep vs) Q E s :=
  fun Γ p hΓ hC => by rw [Sem.wp_keep]; exact h Γ p hΓ hC
theorem wpC_operate {vs : List Value} {m : Sem Value} {Q : Value → Shared → Prop} (h : wpC M A m Q E s) : wpC M A (operate vs m) Q E s :=
  fun Γ p hΓ hC => by rw [Sem.wp_operate]; exact h Γ p hΓ hC
theorem wpC_execs_nil {Q : Flow → Shared → Prop} (h : Q .next s) : wpC M A (execs [] env) Q E s := fun _ _ _ _ => h
theorem wpC_execs_cons {st rest} {Q : Flow → Shared → Prop}
    (h : wpC M A (exec st env) (fun f s' => match f with | .next => wpC M A (execs rest env) Q E s' | f => Q f s') E s) :
    wpC M A (execs (st :: rest) env) Q E s := by
  rw [execs_cons]
  refine wpC_bind (wpC_mono h (fun f s' h' => ?_) fun _ _ x => x)
  cases f <;> first | exact h' | exact wpC_pure h'
theorem wpC_Return {e : PySem.Expr} {pos : Pos} {Q : Flow → Shared → Prop} (h : wpC M A (eval e env) (fun v s' => Q (.ret v) s') E s) : wpC M A (exec (.Return (some e) pos) env) Q E s := by
  rw [exec_Return_some]
  exact wpC_abind (wpAny_standAt (wpC_bind (wpC_mono h (fun v s' h' => wpC_pure h') fun _ _ x => x)))
theorem wpC_And_one {pos : Pos} {x : Sem Value} {Q : Value → Shared → Prop} (h : wpC M A x Q E s) : wpC M A (boolOp pos .And [x]) Q E s := h
theorem wpC_And_cons {pos : Pos} {x y : Sem Value} {rest : List (Sem Value)} {Q : Value → Shared → Prop}
    (h : wpAny M A x (fun v s₁ => v = .bool true ∧ wpC M A (boolOp pos .And (y :: rest)) Q E s₁) E s) : wpC M A (boolOp pos .And (x :: y :: rest)) Q E s := by
  show wpC M A (x >>= fun v => standAt pos >>= fun _ => holding [v] (truthy v) >>= fun t => match BoolOp.And, t with
    | .And, false | .Or, true => pure v
    | _, _ => boolOp pos .And (y :: rest)) Q E s
  refine wpC_abind (wpAny_mono h (fun v s₁ h₁ => ?_) fun _ _ x => x)
  obtain ⟨rfl, h₁⟩ := h₁
  refine wpC_abind (wpAny_standAt (wpC_abind (wpAny_holding ?_)))
  exact wpAny_of_eq (show truthy (.bool true) = pure true from rfl) h₁
theorem wpC_Compare1 {l r : PySem.Expr} {op : CmpOp} {pos : Pos} {Q : Value → Shared → Prop} (hm : markedBehindIn op r (eval r env) = eval r env)
    (h : wpC M A (eval l env) (fun a s₁ => wpAny M A (eval r env) (fun b s₂ => wpAny M A (compareOp op a b) Q E s₂) E s₁) E s) : wpC M A (eval (.Compare l [op] [r] pos) env) Q E s := by
  rw [eval_Compare1, hm]
  refine wpC_bind (wpC_mono h (fun a s₁ h₁ => ?_) fun _ _ x => x)
  refine wpC_abind (wpAny_holding (wpAny_mono h₁ (fun b s₂ h₂ => ?_) fun _ _ x => x))
  refine wpC_abind (wpAny_standAt ?_)
  exact wpC_operate (wpC_any h₂)
theorem wpC_callWith_function {pos : Pos} {a : Addr} {o : Obj} {fd : FuncData} {first : List Value} {args : List (Bool × Sem Value)} {Q : Value → Shared → Prop}
    (h : wpAny M A (evalArgs (.ref a) true args []) (fun x s₁ => (s₁.heap.get? a = some o ∧ o.data = .func fd) ∧ wpC M A (call (.ref a) (first ++ x.pos) x.kw) Q E s₁) E s) :
    wpC M A (callWith pos (.ref a) first args []) Q E s := by
  unfold callWith
  refine wpC_abind (wpAny_holding (wpAny_mono h (fun x s₁ h₁ => ?_) fun _ _ x => x))
  refine wpC_abind (wpAny_standAt ?_)
  have tail : ∀ {t : Sem Value}, wpC M A t Q E s₁ → wpC M A (t >>= fun r => holding [r] point >>= fun _ => pure r) Q E s₁ :=
    fun ht => wpC_bind (wpC_mono ht (fun r s₂ hr => wpC_abind (wpAny_holding (wpAny_point (wpC_pure hr)))) fun _ _ x => x)
  cases hs : args.any (·.1) <;> simp only [List.any_nil, Bool.or_false] <;>
    refine wpC_abind (m := keeperOf (.ref a)) ?_ <;> unfold keeperOf <;>
    refine wpAny_bind (wpAny_load h₁.1.1 ?_) <;> rw [h₁.1.2] <;> refine wpAny_pure ?_
  · dsimp only
    split
    · exact tail h₁.2
    · exact tail (by unfold callMarked; exact wpC_keep h₁.2)
  · exact tail (by unfold callMarked; exact wpC_keep h₁.2)
theorem wpC_callWith_type {pos : Pos} {T : String} {first : List Value} {args : List (Bool × Sem Value)} {Q : Value → Shared → Prop}
    (hplain : args.any (·.1) = false)
    (h : wpAny M A (evalArgs (.type T) true args []) (fun a s₁ => wpC M A (call (.type T) (first ++ a.pos) a.kw) Q E s₁) E s) :
    wpC M A (callWith pos (.type T) first args []) Q E s := by
  unfold callWith
  refine wpC_abind (wpAny_holding (wpAny_mono h (fun a s₁ h₁ => ?_) fun _ _ x => x))
  refine wpC_abind (wpAny_standAt ?_)
  simp only [hplain, List.any_nil, Bool.or_false]
  refine wpC_abind (wpAny_pure ?_)
  exact wpC_bind (wpC_mono h₁ (fun r s₂ hr => wpC_abind (wpAny_holding (wpAny_point (wpC_pure hr)))) fun _ _ x => x)
theorem wpC_Call_Name {id : Str} {p pos : Pos} {args : List PySem.Expr} {Q : Value → Shared → Prop}
    (h : wpAny M A (eval (.Name id p) env) (fun f s₁ => wpC M A (callWith pos f [] (backTo pos (starEach args env)) []) Q E s₁) E s) :
    wpC M A (eval (.Call (.Name id p) args [] pos) env) Q E s := by
  show wpC M A (do callWith pos (← eval (.Name id p) env) [] (backTo pos (starEach args env)) (backToKw pos (keywordEach [] env))) Q E s
  exact wpC_abind h
theorem wpC_Assign_Name {x : Str} {pos' pos : Pos} {value : PySem.Expr} {Q : Flow → Shared → Prop} (hs : swapsWith value (some (.Name x pos')) pos.line env = pure false)
    (h : wpC M A (eval value env) (fun v s₁ => wpAny M A (bindName env x v) (fun _ => Q .next) E s₁) E s) :
    wpC M A (exec (.Assign [.Name x pos'] value pos) env) Q E s := by
  rw [exec_Assign_Name env x pos' value pos hs]
  refine wpC_abind (wpAny_standAt (wpC_bind (wpC_mono h (fun v s₁ h₁ => ?_) fun _ _ x => x)))
  exact wpC_abind (wpAny_standAt (wpC_abind (wpAny_mono h₁ (fun _ _ h => wpC_pure h) fun _ _ x => x)))
end
section
variable {prog : Program} {w : World} {A : Around} {s : Shared} {R : Result → Shared → Prop}
theorem codeC_func {body env}
    (h : wpC (model prog w) (A.deeper env) (execs body env) (fun f s' => R (.ok (.ret (match f with | .ret v => v | _ => .none))) s') (fun _ _ => False) s) :
    codeC (model prog w) A (.func body env) R s := by
  refine codeC_of_tree ?_
  show wpC _ (A.deeper env) (do point; match ← (execs body env).onRaise (leaving env) with | .ret v => ret v | _ => ret .none) _ _ s
  refine wpC_abind (wpAny_point (wpC_bind (wpC_onRaise (wpC_mono h (fun f s' h' => ?_) fun _ _ h' => h'.elim))))
  cases f <;> exact wpC_pure h'
theorem codeC_call_function {a : Addr} {args : Args} {o : Obj} {fd : FuncData} {body : List Stmt} (hroom : A.depth < recursionLimit)
    (ho : s.heap.get? a = some o)
    (hd' : o.data = .func fd) (hco : fd.scope.isCoroutine = false) (hgen : fd.scope.isGenerator = false) (hbody : fd.body = .stmts body) (hcd : s.heap.CodeRec fd.code fd.qualname)
    (h : wpAny (model prog w) A.in1 (bindArgs fd args) (fun binds s₁ =>
      wpAny (model prog w) A.in1 (newFunctionEnv fd.scope fd.globals fd.closure binds (fd.qualname ++ ".<locals>.") (some a) fd.code none fd.builtins)
        (fun env s₂ => s₂.heap.NoLimit ∧ codeC (model prog w) A (.func body env) R s₂) (fun e s' => R (.error e) s') s₁) (fun e s' => R (.error e) s') s) :
    codeC (model prog w) A (.call (.ref a) args) R s := by
  refine codeC_of_tree ?_
  show wpC _ A.in1 (callAny (.ref a) args) _ _ s
  simp only [callAny]
  refine wpC_abind (wpAny_load ho ?_)
  obtain ⟨c, oc, vs, tq, hc, hoc, hdc, hq⟩ := hcd
  simp only [hd', callFunction, hco, hgen, hbody, hc]
  rw [hc] at h
  refine wpC_abind (m := field (.ref c) 1) (wpAny_field hoc hdc hq (wpC_abind (wpAny_pure ?_)))
  exact wpC_abind (wpAny_mono h (fun binds s₁ h₁ => wpC_abind (wpAny_mono h₁ (fun env s₂ h₂ => wpC_abind (wpAny_enterFrame h₂.1 hroom
    (wpC_pure ⟨rfl, rfl, h₂.2⟩)) ) fun _ _ h' => h')) fun _ _ h' => h')
end
section
variable {prog : Program} {w : World} {A : Around} {E : Value → Shared → Prop} {s : Shared} {K : Frag} {Q : Value → Shared → Prop}
  {name qual : Str} {params : Arguments} {body : List Stmt} {scope : Scope} {dV kV doc pm cdv ct oc : Value} {an od : Option Addr} {osl : Array (Option Value)} {f : Addr} {args : List Value}
/-- a plain call of one of the text's own defs, in the clean logic -/
theorem enterPC (binds : List (Str × Value)) (X : K.In s.heap) (hlim : s.heap.NoLimit)
    (ho : K.lookup f = some ⟨oc, od, .func (fnOf name qual params body scope dV kV doc pm an cdv ct), osl⟩) (hcd : codeIn K cdv qual = true) (hroom : A.depth < recursionLimit)
    (hbind : BindsTo s (fnOf name qual params body scope dV kV doc pm an cdv ct) ⟨args, []⟩ binds) (hloc : ∀ y ∈ binds, scope.names.lookup y.1 = some .local)
    (hco : scope.isCoroutine = false) (hgen : scope.isGenerator = false) (hk : scope.kind = .function) (hcell : ∀ x ∈ scope.names, x.2 ≠ .cell)
    (h : ∀ h₁, Fr s.heap s.heap.objs.size h₁ (fun y => binds.reverse.lookup y) → News s.heap s.heap.objs.size h₁ [] →
      wpC (model prog w) (A.deeper (envOf qual scope s.heap.objs.size f cdv)) (execs body (envOf qual scope s.heap.objs.size f cdv))
        (fun fl s' => Q (match fl with | .ret v => v | _ => .none) s') (fun _ _ => False)
        { s with heap := h₁, toks := s.toks + binds.length }) :
    wpC (model prog w) A (call (.ref f) args) Q E s := by
  refine wpC_call (codeC_call_function hroom (X _ _ ho) rfl hco hgen rfl (codeRec_of X hcd) (hbind _ _ _ _ ?_))
  refine wpAny_newFunctionEnv hcell hloc (fun h₁ hns hsb => ⟨hlim.fresh _ hsb, ?_⟩) hk
  show codeC _ _ (.func body (envOf qual scope s.heap.objs.size f cdv)) _ _
  have hk₁ : ∀ b o, s.heap.get? b = some o → h₁.get? b = some o := fun b o e => hsb.extBut b o (Nat.ne_of_lt (Heap.lt_size e)) (Heap.get?_push_of_some _ e)
  exact codeC_func (wpC_mono (h h₁ ⟨hns, hk₁, Nat.le_refl _⟩ News.nil) (fun _ _ x => x) fun _ _ x => x.elim)
end
end Mine
end
section -- XPile
open PySem PySem.W PySem.Calls PyProof.Rows PyProof.V PySem.Spec
set_option maxRecDepth 100000
set_option maxHeartbeats 8000000
namespace Mine
theorem off_XPile : True := by w_top off; trivial
section
variable {prog : Program} {w : World} {A : Around} {E : Value → Shared → Prop} {s : Shared} {K : Frag} {x C : Addr} {ox : Obj} {od : Option Obj} {name : Str} {pl : Sem Bool}
/-- a built-in method that an own class has from a built-in base, or an own one, met through an object of it -/
theorem method_x {a : Value} {tp : String} {Q : Value × List Value → Shared → Prop} (ga : String) (X : K.In s.heap) (I : InstAt s.heap x ox C od) (hga : findIn K (.ref C) "__getattribute__" = some (some (.builtin ga))) (hcan : (Manifest.canonical ga != "object.__getattribute__") = false)
    (hk : findIn K (.ref C) "__getattr__" = some none)
    (hf : findIn K (.ref C) name = some (some a)) (ht : typeIn K a = some (.type tp)) (htp : (Value.type tp != .type "function" && Value.type tp != .type "method_descriptor" && Value.type tp != .type "wrapper_descriptor") = false) (hs : shadowIn od name = some false) (h : Q (a, [.ref x]) s) :
    wpAny (model prog w) A (getMethod (.ref x) name pl) Q E s := by
  unfold getMethod specialOf
  refine wpAny_bind (wpAny_bind (I.type.here ((looks_findIn X hga).here ?_)))
  dsimp only
  rw [hcan, if_neg (by decide)]
  refine wpAny_bind (wpAny_bind (I.type.here ((looks_findIn X hk).here ?_)))
  refine wpAny_bind (wpAny_bind (I.type.here ((looks_findIn X hf).here (wpAny_bind ((looks_typeIn X ht).here ?_)))))
  rw [htp, if_neg (by decide)]
  refine wpAny_bind (wpAny_loadPart I.at_ ?_)
  have hd := I.dict
  cases e : ox.dict with
  | none => exact wpAny_bind (wpAny_rule (wpAny_pure h))
  | some dx =>
    cases od with
    | none => rw [e] at hd; exact hd.elim
    | some o =>
      rw [e] at hd
      obtain ⟨r, a, b⟩ := Option.map_eq_some_iff.mp hs
      refine wpAny_bind (wpAny_bind (wpAny_loadPart hd ?_))
      rw [nsLook_of a]
      refine wpAny_pure ?_
      rw [b]
      exact wpAny_bind (wpAny_rule (wpAny_pure h))
end
theorem fill : (PySem.Challenge.rw_xo0007_01 = PySem.Challenge.rw_xo0007_01) ∧ Mine.hd.heap_1 = Mine.hd.heap_1 := by k_fill; exact ⟨rfl, rfl⟩
variable {prog : Program} {w : World} {p : Program} {loose : List Str} {mean : ExcName → Option Value} {mg mb : Str → Option Value}

/-- the pile -/
noncomputable abbrev pileObj (dx : Addr) (its : Array Value) (n : Nat) : Obj := { cls := .ref 131, dict := some dx, data := .seq its n }
noncomputable abbrev pileDict (w : World) (t t' : Tok) : Obj := dictOf [⟨PyData.keyHash w.params "_initial_size", .str "_initial_size" t, .int 0 t'⟩] 1

theorem inst_pile {h : Heap} {x dx : Addr} {its : Array Value} {n : Nat} {od : Obj} (h1 : h.get? x = some (pileObj dx its n)) (h2 : h.get? dx = some od) : InstAt h x (pileObj dx its n) 131 (some od) := ⟨h1, rfl, rfl, h2⟩

section
variable {A : Around} {E : Value → Shared → Prop} {s : Shared} {x dx : Addr} {its : Array Value} {n : Nat} {t t' : Tok} {P : Params}

theorem pile_isList {M : Model} {h : Heap} (X : (hd.heap_1 P).In h) (h1 : h.get? x = some (pileObj dx its n)) : Looks M h (isInstance (.ref x) (.type "list")) true := by
  refine Looks.andThen (b := true) (Looks.andThen (Looks.ld h1) .now) ?_
  exact looks_subIn X (by k_is)


theorem check_meth {M : Model} {i owner n : String} {self : Value} {rest : List Value} {kw : List (Str × Value)} {Q : Unit → Shared → Prop}
    (hk : builtinKind i = some .method) (hs : splitId i = some (owner, n)) (hi : Looks M s.heap (isInstance self (.type owner)) true) (ha : argsOk i ⟨self :: rest, kw⟩) (q : Q () s) :
    wpAny M A (checkBuiltinCall i ⟨self :: rest, kw⟩) Q E s := by
  simp only [checkBuiltinCall, hk, hs]
  refine wpAny_bind (hi.here ?_)
  simp only [Bool.not_true, Bool.false_eq_true, if_false]
  cases hsig : Manifest.signature? i with
  | none => exact wpAny_pure q
  | some sig =>
    simp only [argsOk, hsig] at ha
    have h2 : Bind.checkArgs i sig ⟨self :: rest, kw⟩ = pure () := ha
    show wpAny M A (Bind.checkArgs i sig ⟨self :: rest, kw⟩) Q E s
    rw [h2]; exact wpAny_pure q

theorem call_meth_bi {i owner n : String} {b : Builtin} {self : Value} {rest : List Value} {Q : Value → Shared → Prop}
    (hp : plainId i = true) (hk : builtinKind i = some .method) (hs : splitId i = some (owner, n)) (hi : Looks (model prog w) s.heap (isInstance self (.type owner)) true) (ha : argsOk i ⟨self :: rest, []⟩) (hb : entryFor table i = some b)
    (hc : wpAny (model prog w) A.in1 (b ⟨self :: rest, []⟩) (fun fin s' => ∃ v, fin = .done (.ret v) ∧ Q v s') E s) :
    wpAny (model prog w) A (call (.builtin i) (self :: rest)) Q E s :=
  wpAny_call (codeAny_call_builtin hp hb (check_meth hk hs hi ha (wpAny_mono hc (fun fin s' h' => by obtain ⟨v, rfl, hv⟩ := h'; exact hv) fun _ _ h' => h')))

theorem pile_append {v : Value} {Q : Value → Shared → Prop} (X : (hd.heap_1 P).In s.heap) (h1 : s.heap.get? x = some (pileObj dx its n)) (hsz : its.size ≤ sizeLine)
    (h : ∀ h', h'.get? x = some (pileObj dx (its.push v) (n + 1)) → Heap.SameBut x s.heap h' → Q .none { s with heap := h' }) :
    wpAny (model prog w) A (call (.builtin "list.append") [.ref x, v]) Q E s := by
  refine call_meth_bi (i := "list.append") (owner := "list") (n := "append") (by decide +kernel) (by decide +kernel) (by decide +kernel) (pile_isList X h1) (args_list_append _ _) entry_list_append ?_
  show wpAny _ _ (updateSeq x (·.push v) >>= fun _ => ret .none) _ _ s
  refine wpAny_bind (wpAny_updateSeq h1 rfl (wpAny_pure ⟨.none, rfl, h _ ?_ (Heap.SameBut.update ..)⟩))
  refine (Heap.get?_update_self _ h1 rfl).trans ?_
  simp [Obj.mapSeq]
end

section
variable {K : Frag} {A : Around} {E : Value → Shared → Prop} {s : Shared} {Q : Value → Shared → Prop} {x : Addr} {ox : Obj}
  {name qual : Str} {params : Arguments} {body : List Stmt} {scope : Scope} {dV kV doc pm cdv ct oc : Value} {an od : Option Addr} {osl : Array (Option Value)} {f : Addr} {args : List Value}
theorem hide_keep {h : Heap} {b : Addr} {o : Obj} (e : (h.hide x).get? b = some o) : h.get? b = some o := Heap.of_hide e
/-- a call whose callee may turn one object alone; all else is its ground -/
theorem enterH (binds : List (Str × Value)) (X : K.In (s.heap.hide x)) (T : Top p loose mean mg mb (s.heap.hide x)) (hx : s.heap.get? x = some ox)
    (ho : K.lookup f = some ⟨oc, od, .func (fnOf name qual params body scope dV kV doc pm an cdv ct), osl⟩) (hcd : codeIn K cdv qual = true) (hroom : A.depth < recursionLimit)
    (hbind : BindsTo s (fnOf name qual params body scope dV kV doc pm an cdv ct) ⟨args, []⟩ binds) (hloc : ∀ y ∈ binds, scope.names.lookup y.1 = some .local)
    (hco : scope.isCoroutine = false) (hgen : scope.isGenerator = false) (hk : scope.kind = .function) (hcell : ∀ x ∈ scope.names, x.2 ≠ .cell)
    (h : ∀ L h₁, Fr (s.heap.hide x) L h₁ (fun y => binds.reverse.lookup y) → News (s.heap.hide x) L h₁ [(x, ox)] → x < L →
      wpAny (model prog w) (A.deeper (envOf qual scope L f cdv)) (execs body (envOf qual scope L f cdv))
        (fun fl s' => Q (match fl with | .ret v => v | _ => .none) s') (fun _ _ => False)
        { s with heap := h₁, toks := s.toks + binds.length }) :
    wpAny (model prog w) A (call (.ref f) args) Q E s := by
  have kk : ∀ b o, (s.heap.hide x).get? b = some o → s.heap.get? b = some o := fun _ _ e => Heap.of_hide e
  refine wpAny_call (codeAny_call_def (fd := fnOf name qual params body scope dV kV doc pm an cdv ct) (body := body) (binds := binds) hroom ((X.keeps kk) _ _ ho) rfl (T.nolimit.keeps kk) (codeRec_of (X.keeps kk) hcd) rfl hbind hcell hloc (fun h₁ hns hk₁ => ?_) hco hgen hk)
  exact wpAny_mono (h _ h₁ ⟨hns, fun b o e => hk₁ b o (kk b o e), Nat.le_of_eq (Heap.hide_size _ _)⟩ (fun p hp => by
    rw [List.mem_singleton.mp hp]
    exact ⟨hk₁ _ _ hx, Nat.ne_of_lt (Heap.lt_size hx), Heap.hide_self _ _⟩) (Heap.lt_size hx)) (fun _ _ x => x) fun _ _ x => x.elim
end
end Mine
end
section -- XPush
open PySem PySem.W PySem.Calls PyProof.Rows PyProof.V PySem.Spec
set_option maxRecDepth 100000
set_option maxHeartbeats 8000000
namespace Mine
theorem off_XPush : True := by w_top off; trivial
theorem tab_XPush {M : PySem.Model} {A : PySem.Around} {E Q : PySem.Value → PySem.Shared → Prop} {s : PySem.Shared} (h : PySem.wpAny M A (PySem.call .none []) Q E s) : PySem.wpAny M A (PySem.call .none []) Q E s := by first | (walk1; fail) | exact h
variable {prog : Program} {w : World} {p : Program} {loose : List Str} {mean : ExcName → Option Value} {mg mb : Str → Option Value}
noncomputable abbrev tupOf (vs : List Value) : Obj := { cls := .type "tuple", data := .seq vs.toArray }

theorem hide_free {h h' : Heap} {x L : Addr} {m : Str → Option Value} (F : Fr (h.hide x) L h' m) (lt : x < L) : h.get? h'.objs.size = none := by
  cases e : h.get? h'.objs.size with
  | none => rfl
  | some o =>
    by_cases hb : h'.objs.size = x
    · exact absurd (Nat.lt_trans lt F.ns.lt) (by rw [hb]; exact Nat.lt_irrefl _)
    · exact absurd (Heap.lt_size (F.keep _ _ ((Heap.hide_ne _ hb).trans e))) (Nat.lt_irrefl _)
theorem lit_at {h : Heap} {a : Addr} {o o' : Obj} (e : h.get? a = some o) (q : o = o') : h.get? a = some o' := q ▸ e
local macro_rules | `(tactic| walk_at "m_pile") => `(tactic| (first | exact inst_pile (News.get (by k_asm) (by k_mem)) (Fr.keep (by k_asm) _ _ (by assumption)) | exact inst_pile (News.get (by k_asm) (by k_mem)) (News.get (by k_asm) (by k_mem))))
local macro_rules | `(tactic| walk_at "getMethod ref") => `(tactic| (k_here; k_dflt (refine' method_x "list.__getattribute__" (by k_in) (by walk_at "m_pile") (by k_is) (by decide +kernel) (by k_is) (by k_is) (by k_is) (by decide +kernel) (by (show (lookIn _ _).map _ = _; first | (rw [hod]; rfl) | (simp only [*]; rfl))) ?_; k_whole)))
local macro_rules | `(tactic| walk_at "newTuple") => `(tactic| (k_here; k_dflt (refine' newTuple_N (by k_asm) (by k_asm) ?_ (by (size_fits)); k_whole); intro h' F' N'))
local macro_rules | `(tactic| walk_at "call builtin:list.append") => `(tactic| (k_here; k_dflt (refine' pile_append (by k_in) (by exact News.get (by k_asm) (by k_mem)) (by (have := sizeLine_eq; lia)) ?_; k_whole); intro h' hx' hs'))
theorem push_spec {A : Around} (hdep : A.depth < recursionLimit) {s : Shared} {x dx : Addr} {its : Array Value} {n : Nat} {od : Obj} {a b : Str} {ta tb : Tok} {Q E : Value → Shared → Prop}
   (X : (hd.heap_1 w.params).In (s.heap.hide x)) (T : Top p loose mean mg mb (s.heap.hide x)) (h1 : s.heap.get? x = some (pileObj dx its n)) (h2 : (s.heap.hide x).get? dx = some od) (hod : lookIn "append" od = some none) (hsz : its.size ≤ 1000)
   (h : ∀ h' t tk, s.heap.get? t = none → h'.get? t = some (tupOf [.str a ta, .str b tb]) → h'.get? x = some (pileObj dx (its.push (.ref t)) (n + 1)) → (∀ b o, b ≠ x → s.heap.get? b = some o → h'.get? b = some o) → Q .none { s with heap := h', toks := tk }) :
   wpAny (model prog w) A (call (.ref 75) [.ref x, .str a ta, .str b tb]) Q E s := by
  k_dflt (refine' enterH [("self", .ref x), ("fws", .str a ta), ("string", .str b tb)] ?X ?T ?x ?o ?c ?r ?b ?lo ?c2 ?c3 ?c4 ?c5 ?_; (case X => exact X); (case T => exact T); (case x => exact h1); (case o => k_is); (case c => k_is); (case b => exact BindsTo.of_eq rfl); (case c5 => decide); (case r => assumption); (case lo => exact locs rfl); (case c2 => exact rfl); (case c3 => exact rfl); (case c4 => exact rfl))
  intro L h₁ F N lt
  k_fold
  w_strict (repeat' ((fail_if_success (with_reducible show wpAny _ _ (exec (Stmt.For _ _ _ _ _) _) _ _ _)); walk1))
  rename_i tk₁ h2' F2 N2 h3' hx3 hs3
  refine h _ _ _ (hide_free F lt) ?_ hx3 fun b o hb e => (hs3.2 b hb).trans (F2.keep b o ((Heap.hide_ne _ hb).trans e))
  exact (hs3.2 _ (Nat.ne_of_gt (Nat.lt_trans lt F.ns.lt))).trans (N2.get (.head _))
end Mine
end
section -- XSuper
open PySem PySem.W PySem.Calls PyProof.Rows PyProof.V PySem.Spec
set_option maxRecDepth 100000
set_option maxHeartbeats 8000000
namespace Mine
theorem off_XSuper : True := by w_top off; trivial
section
variable {prog : Program} {w : World} {M : Model} {A : Around} {E : Value → Shared → Prop} {h : Heap} {g : Array GenState} {d : Drawn} {t : Nat} {os : OsState}

/-- what super() hands out of a class further on: whatever is found there, through its __get__ -/
theorem super_ga {so D x C : Addr} {a gt : Value} {ta : Value} {l₀ l : List Value} {K : Frag} {name : Str} {tk : Tok} {Q : Fin → Shared → Prop}
    (hso : h.get? so = some (ks_superObj D x C)) (hno : Looks (model prog w) h (opaqueClassAbove (.ref C)) none)
    (hC : Looks (model prog w) h (mroOf (.ref C)) l₀) (hl : (l₀.dropWhile (· != .ref D)).drop 1 = l) (X : K.In h)
    (hf : alongIn K name l = some (some a)) (hta : Looks (model prog w) h (typeOf a) ta) (hg : Looks (model prog w) h (typeLookup ta "__get__") (some gt)) (hxC : x ≠ C) (hn : (name == ("__class__" : Str)) = false)
    (hq : wpAny (model prog w) A (call gt [a, .ref x, .ref C]) (fun v s' => Q (.done (.ret v)) s') E ⟨h, g, d, t, os⟩) :
    wpAny (model prog w) A (Builtin.«super.__getattribute__» ⟨[.ref so, .str name tk], []⟩) Q E ⟨h, g, d, t, os⟩ := by
  have hne : (Value.ref x == Value.ref C) = false := by simp [hxC]
  have hdt : (ks_superObj D x C).data = .fields #[.ref D, .ref x, .ref C] := rfl
  have f0 : (#[.ref D, .ref x, .ref C] : Array Value)[0]? = some (.ref D) := rfl
  have f1 : (#[.ref D, .ref x, .ref C] : Array Value)[1]? = some (.ref x) := rfl
  have f2 : (#[.ref D, .ref x, .ref C] : Array Value)[2]? = some (.ref C) := rfl
  unfold Builtin.«super.__getattribute__»
  repeat (first
    | (with_reducible refine wpAny_field hso hdt f0 ?_) | (with_reducible refine wpAny_field hso hdt f1 ?_) | (with_reducible refine wpAny_field hso hdt f2 ?_)
    | (with_reducible refine ks_wpAny_notOpaque hno ?_)
    | (with_reducible refine Looks.at hC ?_; rw [hl])
    | (refine ks_forIn_along X (fun _ _ => rfl) rfl ?_ hf)
    | (with_reducible refine Looks.at hta ?_)
    | (with_reducible refine Looks.at hg ?_)
    | (simp only [hn, hne, Bool.or_false, Bool.false_eq_true, if_false])
    | (with_reducible refine wpAny_mono hq (fun v s' z => ?_) (fun _ _ z => z))
    | (with_reducible exact z)
    | wp_step
    | dsimp only)

theorem getMethod_super {so D x C : Addr} {a gt : Value} {ta : Value} {l₀ l : List Value} {K : Frag} {name : Str} {pl : Sem Bool} {Q : Value × List Value → Shared → Prop}
    (hso : h.get? so = some (ks_superObj D x C)) (hno : Looks (model prog w) h (opaqueClassAbove (.ref C)) none)
    (hC : Looks (model prog w) h (mroOf (.ref C)) l₀) (hl : (l₀.dropWhile (· != .ref D)).drop 1 = l) (X : K.In h)
    (hf : alongIn K name l = some (some a)) (hta : Looks (model prog w) h (typeOf a) ta) (hg : Looks (model prog w) h (typeLookup ta "__get__") (some gt)) (hxC : x ≠ C) (hn : (name == ("__class__" : Str)) = false)
    (hq : ∀ A' : Around, wpAny (model prog w) A' (call gt [a, .ref x, .ref C]) (fun v s' => handedIn v = true ∧ Q (v, []) s') (fun _ _ => False) ⟨h, g, d, t + 1, os⟩) :
    wpAny (model prog w) A (getMethod (.ref so) name pl) Q E ⟨h, g, d, t, os⟩ := by
  have hlk := F.ks_slot_super_ga.lookup
  have hcan := F.ks_canon_super_ga
  have hT : ∀ t', (⟨h, g, d, t', os⟩ : Shared).TypeIs (.ref so) "super" := fun _ => ⟨_, hso, rfl⟩
  unfold getMethod
  refine wpAny_bind (wpAny_specialOf (hT _) hlk ?_)
  show wpAny _ _ (if (Manifest.canonical "super.__getattribute__" != "object.__getattribute__") = true then _ else _) _ _ _
  rw [if_pos hcan]
  unfold getAttr getAttrBy
  refine wpAny_bind (wpAny_bind (wpAny_mkText (wpAny_holding (wpAny_bind (wpAny_typeOf (hT _) (wpAny_bind (wpAny_of_eq hlk ?_)))))))
  show wpAny _ _ (getAttrByItsOwn (.ref so) (.str name t) (.type "super") (.builtin "super.__getattribute__") true false) _ _ _
  unfold getAttrByItsOwn hookBefore callGetattribute boundAndCalled
  refine wpAny_bind (wpAny_of_eq (show (if onTheHeap (.type "super") then typeLookup (.type "super") "__getattr__" else pure none) = pure none from rfl) ?_)
  refine wpAny_bind (wpAny_attempt (wpAny_holding ?_))
  show wpAny _ _ (bindSpecial (.builtin "super.__getattribute__") (.ref so) >>= _) _ _ _
  refine wpAny_bind (wpAny_of_eq (F.ks_slot_super_ga.bind _) ?_)
  refine wpAny_mono (Q := fun v s' => handedIn v = true ∧ Q (v, []) s') (E := fun _ _ => False)
    (wpAny_call_entry F.ks_slot_super_ga (hT _) F.ks_entry_super_ga (super_ga hso hno hC hl X hf hta hg hxC hn (wpAny_mono (hq _) (fun v s' z => ⟨v, rfl, z⟩) fun _ _ z => z)) (F.ks_gaArgs_super _ _)) (fun v s' hv => ?_) fun _ _ z => z.elim
  show wpAny _ _ (handedOut v) _ _ _
  rw [handedOut_of hv.1]
  exact wpAny_pure (wpAny_pure hv.2)
end
end Mine
end
section -- XPop
open PySem PySem.W PySem.Calls PyProof.Rows PyProof.V PySem.Spec PySem.W.X
set_option maxRecDepth 100000
set_option maxHeartbeats 8000000
namespace Mine
theorem off_XPop : True := by w_top off; trivial
variable {prog : Program} {w : World} {A : Around} {s : Shared} {Q : Value → Shared → Prop} {E : Value → Shared → Prop} {x dx b : Addr} {its : Array Value} {n : Nat} {P : Params}
noncomputable def EndBox (s : Shared) (Q : Value → Shared → Prop) (R : Value → List (Addr × Obj) → Prop) : Prop := ∀ v h' tk l, Mem s.heap h' [] l → R v l → Q v ⟨h', s.gens, s.drawn, tk, s.os⟩
theorem x_endB {s : Shared} {Q : Value → Shared → Prop} {R : Value → List (Addr × Obj) → Prop} {v : Value} {h' : Heap} {tk : Nat} {l : List (Addr × Obj)} (B : EndBox s Q R) (D : Mem s.heap h' [] l) (r : R v l) : Q v ⟨h', s.gens, s.drawn, tk, s.os⟩ := B v h' tk l D r
theorem mem_keep {h h' : Heap} {l : List (Addr × Obj)} (D : Mem h h' [] l) : ∀ b o, h.get? b = some o → h'.get? b = some o := fun b o e => D.keep b o e (by unfold away; simp)
local macro_rules | `(tactic| x_close) => `(tactic| (first | refine x_endB (by assumption) (by assumption) ?_ | refine x_endB (by assumption) (Mem.start _) ?_); first | exact ⟨_, rfl⟩ | exact ⟨_, rfl, rfl⟩)

theorem get_pop (X : (hd.heap_1 w.params).In s.heap) (h1 : s.heap.get? x = some { cls := .ref 131, dict := some dx, data := .seq its n })
   (hQ : EndBox s Q fun v l => ∃ b, v = .ref b ∧ l.head? = some (b, { cls := .type "builtin_function_or_method", data := .fields #[.builtin "list.pop", .ref x] })) :
   wpAny (model PySem.Challenge.pw_xo0007_01 w) A (call (.builtin "method_descriptor.__get__") [.builtin "list.pop", .ref x, .ref 131]) Q E s := by
  x_run
theorem get_len (X : (hd.heap_1 w.params).In s.heap) (h1 : s.heap.get? x = some { cls := .ref 131, dict := some dx, data := .seq its n })
   (hQ : EndBox s Q fun v l => ∃ b, v = .ref b ∧ l.head? = some (b, { cls := .type "method-wrapper", data := .fields #[.builtin "list.__len__", .ref x] })) :
   wpAny (model PySem.Challenge.pw_xo0007_01 w) A (call (.builtin "wrapper_descriptor.__get__") [.builtin "list.__len__", .ref x, .ref 131]) Q E s := by
  x_run
theorem run_len (X : (hd.heap_1 w.params).In s.heap) (h1 : s.heap.get? x = some { cls := .ref 131, dict := some dx, data := .seq its n }) (h2 : s.heap.get? b = some { cls := .type "method-wrapper", data := .fields #[.builtin "list.__len__", .ref x] })
   (hQ : EndBox s Q fun v l => ∃ tk, v = .int its.size tk) :
   wpAny (model PySem.Challenge.pw_xo0007_01 w) A (call (.ref b) []) Q E s := by
  x_run

theorem checkBound_pop {M : Model} {Q : Unit → Shared → Prop} (X : (hd.heap_1 P).In s.heap) (h1 : s.heap.get? x = some (pileObj dx its n)) (h : Q () s) :
    wpAny M A (checkBoundCall "list.pop" ⟨[.ref x], []⟩) Q E s := by
  have hs : Manifest.signature? "list.pop" = some ((Manifest.signature? "list.pop").get (by decide +kernel)) := by simp
  have hk : builtinKind "list.pop" = some .method := by decide +kernel
  have hm : Looks M s.heap (isInstance (.ref x) (.type "module")) false := Looks.andThen (b := false) (Looks.andThen (Looks.ld h1) .now) (looks_subIn X (by k_is))
  have hC : Looks M s.heap (isType (.ref x)) false := fun A Q E s k q => by
    obtain ⟨hh, g, d, t, os⟩ := s
    exact ks_wpAny_isType_inst (k _ _ h1) (fun c => by simp) q
  unfold checkBoundCall
  rw [hs]
  simp only [hk]
  rw [if_neg (by decide)]
  refine wpAny_bind (hm.here ?_)
  rw [if_neg (by decide +kernel)]
  refine wpAny_bind (hC.here ?_)
  rw [if_neg (by decide)]
  refine wpAny_bind ((Looks.andThen (a := pileObj dx its n) (Looks.ld (part := some headPart) h1) .now : Looks M s.heap (typeOf (.ref x)) (.ref 131)).here ?_)
  dsimp only
  refine wpAny_bind ((looks_clsIn X (C := 131) (by k_is)).here ?_)
  refine wpAny_bind ((looks_typeIn X (v := .ref 131) (by k_is)).here ?_)
  rw [if_pos (by decide)]
  refine wpAny_of_eq (by kernel_rfl) h

theorem erase_last {α : Type} (l : List α) (v : α) : (l ++ [v]).eraseIdx l.length = l := by
  induction l with
  | nil => rfl
  | cons a r ih => simpa using ih

theorem run_pop {l : List Value} {v : Value} (X : (hd.heap_1 w.params).In s.heap) (hb : s.heap.get? b = some { cls := .type "builtin_function_or_method", data := .fields #[.builtin "list.pop", .ref x] })
    (h1 : s.heap.get? x = some (pileObj dx (l ++ [v]).toArray n)) (hsz : l.length ≤ 1000)
    (h : ∀ h', h'.get? x = some (pileObj dx l.toArray (n + 1)) → Heap.SameBut x s.heap h' → Q v { s with heap := h' }) :
    wpAny (model prog w) A (call (.ref b) []) Q E s := by
  refine wpAny_call (codeAny_of_tree ?_)
  show wpAny _ _ (callAny (.ref b) ⟨[], []⟩) _ _ s
  unfold callAny
  refine wpAny_bind (wpAny_load hb ?_)
  dsimp only
  rw [if_pos (by decide)]
  refine wpAny_bind ?_
  show wpAny _ _ (checkBoundCall "list.pop" ⟨[.ref x], []⟩) _ _ _
  refine checkBound_pop X h1 ?_
  show wpAny _ _ (again (.builtin "list.pop" ⟨[.ref x], []⟩)) _ _ _
  refine wpAny_pure ⟨plainId_quiet (by decide +kernel) _, codeAny_builtin F.entry_list_pop ?_⟩
  unfold Builtin.«list.pop»
  repeat wp_step
  have e : ((seqIndex? (-1) (l ++ [v]).toArray.size).bind fun k => Option.map (fun x => (k, x)) (l ++ [v]).toArray[k]?) = some (l.length, v) := by
    have hk : seqIndex? (-1) (l ++ [v]).toArray.size = some l.length := by
      unfold seqIndex?
      simp
      (clear h1 hb; (first | lia | omega))
    rw [hk]
    simp
  rw [e]
  refine wpAny_bind (wpAny_updateSeq h1 rfl (wpAny_pure (h _ ?_ (Heap.SameBut.update ..))) ?_ ?_)
  · refine (Heap.get?_update_self _ h1 rfl).trans ?_
    simp [Obj.mapSeq, Array.eraseIdxIfInBounds, erase_last]
  · simp; have := sizeLine_eq; (clear e h1 hb; (first | lia | omega))
  · simp [Array.eraseIdxIfInBounds, erase_last]; have := sizeLine_eq; (clear e h1 hb; (first | lia | omega))
end Mine
end
section -- XCount
open PySem PySem.W PySem.Calls PyProof.Rows PyProof.V PySem.Spec PySem.W.X
set_option maxRecDepth 100000
set_option maxHeartbeats 8000000
namespace Mine
theorem off_XCount : True := by w_top off; trivial
theorem tab_XCount {M : PySem.Model} {A : PySem.Around} {E Q : PySem.Value → PySem.Shared → Prop} {s : PySem.Shared} (h : PySem.wpAny M A (PySem.call .none []) Q E s) : PySem.wpAny M A (PySem.call .none []) Q E s := by first | (walk1; fail) | exact h
section
variable {prog : Program} {w : World} {A : Around} {E : Value → Shared → Prop} {s : Shared} {K : Frag} {Q : Value → Shared → Prop} {g : Heap}
  {p : Program} {loose : List Str} {mean : ExcName → Option Value} {mg mb : Str → Option Value}
  {name qual : Str} {params : Arguments} {body : List Stmt} {scope : Scope} {dV kV doc pm cdv ct oc : Value} {an od : Option Addr} {osl : Array (Option Value)} {f cc : Addr} {args : List Value}
/-- a def that closes over __class__ -/
theorem enterAt (binds : List (Str × Value)) (kk : ∀ b o, g.get? b = some o → s.heap.get? b = some o) (hz : g.objs.size ≤ s.heap.objs.size) (X : K.In g) (T : Top p loose mean mg mb g)
    (ho : K.lookup f = some ⟨oc, od, .func (ksFn name qual params body scope dV kV doc pm an cdv ct cc), osl⟩) (hcd : codeIn K cdv qual = true) (hroom : A.depth < recursionLimit)
    (hbind : BindsTo s (ksFn name qual params body scope dV kV doc pm an cdv ct cc) ⟨args, []⟩ binds) (hloc : ∀ y ∈ binds, scope.names.lookup y.1 = some .local)
    (hco : scope.isCoroutine = false) (hgen : scope.isGenerator = false) (hk : scope.kind = .function) (hcell : ∀ x ∈ scope.names, x.2 ≠ .cell)
    (h : ∀ L h₁, Fr g L h₁ (fun y => binds.reverse.lookup y) → (∀ b o, s.heap.get? b = some o → h₁.get? b = some o) → L = s.heap.objs.size →
      _root_.PySem.wpAt (model prog w) (A.deeper (ksEnv qual scope L f cdv cc)) (.func body (ksEnv qual scope L f cdv cc)) (execs body (ksEnv qual scope L f cdv cc))
        (fun fl s' => Q (match fl with | .ret v => v | _ => .none) s') (fun _ _ => False)
        { s with heap := h₁, toks := s.toks + binds.length }) :
    wpAny (model prog w) A (call (.ref f) args) Q E s := by
  refine wpAny_call (ks_codeAny_call_defAt (fd := ksFn name qual params body scope dV kV doc pm an cdv ct cc) (body := body) (binds := binds) hroom ((X.keeps kk) _ _ ho) rfl (T.nolimit.keeps kk) (codeRec_of (X.keeps kk) hcd) rfl hbind hcell hloc (fun h₁ hns hk₁ => ?_) hco hgen hk)
  exact ks_wpAt_mono (h _ h₁ ⟨hns, fun b o e => hk₁ b o (kk b o e), hz⟩ hk₁ rfl) (fun _ _ x => x) fun _ _ x => x.elim
end
variable {w : World} {A : Around} {s : Shared} {Q : Value → Shared → Prop} {E : Value → Shared → Prop} {x dx b : Addr} {its : Array Value} {n : Nat} {od : Obj}
  {p : Program} {loose : List Str} {mean : ExcName → Option Value} {mg mb : Str → Option Value}

theorem keeper_bound {M : Model} {h : Heap} {b : Addr} {vs : Array Value} {cl : String} (hcl : (Value.type cl != .type "method") = true ∧ (Value.type cl == .type "builtin_function_or_method" || Value.type cl == .type "method-wrapper") = true) (hb : h.get? b = some { cls := .type cl, data := .fields vs }) : Looks M h (keeperOf (.ref b)) .machine := by
  unfold keeperOf
  refine (Looks.ld (part := none) hb).andThen ?_
  dsimp only
  rw [if_pos hcl.1, if_pos hcl.2]
  exact .now
theorem callWith_B0 {M : Model} {env : Env} {pos : Pos} {b : Addr} {vs : Array Value} {cl : String} {Q : Value → Shared → Prop} (hcl : (Value.type cl != .type "method") = true ∧ (Value.type cl == .type "builtin_function_or_method" || Value.type cl == .type "method-wrapper") = true)
    (hb : s.heap.get? b = some { cls := .type cl, data := .fields vs }) (h : wpAny M A (call (.ref b) []) Q E s) :
    wpAny M A (callWith pos (.ref b) [] (backTo pos (starEach [] env)) []) Q E s :=
  callWith_of (P := fun h => h.get? b = some { cls := .type cl, data := .fields vs }) rfl (fun _ e => ⟨.machine, .inr (.inl rfl), keeper_bound hcl e⟩) (evalArgs_nil3 ⟨hb, h⟩)
theorem pile_opaque {prog : Program} {h : Heap} (X : (hd.heap_1 w.params).In h) : Looks (model prog w) h (opaqueClassAbove (.ref 131)) none := looks_opaque X (by k_is)
theorem pile_mro {M : Model} {P : Params} {h : Heap} (X : (hd.heap_1 P).In h) : Looks M h (mroOf (.ref 131)) [.ref 131, .type "list", .type "object"] := (looks_clsIn X (C := 131) (by k_is)).andThen .now

theorem count_spec (hdep : A.depth < recursionLimit) (X : (hd.heap_1 w.params).In s.heap) (T : Top p loose mean mg mb s.heap) (h1 : s.heap.get? x = some (pileObj dx its n)) (h2 : s.heap.get? dx = some od)
   (h : ∀ h' tk tk', (∀ b o, s.heap.get? b = some o → h'.get? b = some o) → Q (.int its.size tk) { s with heap := h', toks := tk' }) :
   wpAny (model PySem.Challenge.pw_xo0007_01 w) A (call (.ref 128) [.ref x]) Q E s := by
  k_dflt (refine' enterAt (g := s.heap) [("self", .ref x)] (fun _ _ e => e) (Nat.le_refl _) X T ?o ?c ?r ?b ?lo ?c2 ?c3 ?c4 ?c5 ?_; (case o => k_is); (case c => k_is); (case b => exact BindsTo.of_eq rfl); (case c5 => decide); (case r => assumption); (case lo => exact locs rfl); (case c2 => exact rfl); (case c3 => exact rfl); (case c4 => exact rfl))
  intro L h₁ F kk hL
  refine ks_wpAt_execs_cons (ks_wpAt_Return_some (ks_wpAt_MethodCall ?_))
  have I : InstAt h₁ x (pileObj dx its n) 131 (some od) := inst_pile (kk _ _ h1) (kk _ _ h2)
  k_dflt (refine ks_node (C := 131) F X News.nil T (by k_is) (by rfl) (by rfl) I (by k_is) (by rfl) (by first | rfl | decide +kernel) (by k_is) (by k_is) (by k_is) (by k_is) (by decide) (by rfl) (by rfl) (by rfl) (by rfl) (by decide +kernel) (by first | boot_by_name | rfl | kernel_rfl) ?_)
  intro so h₂ F2 N2 _
  have X2 := X.keeps F2.keep
  have hx2 := F2.keep _ _ h1
  refine getMethod_super (N2.get (.head _)) (pile_opaque X2) (pile_mro X2) (l := [.type "list", .type "object"]) (by decide +kernel) X2 (by kernel_rfl) (looks_typeIn X2 (v := .builtin "list.__len__") (t := .type "wrapper_descriptor") (by k_is)) (looks_findIn X2 (t := .type "wrapper_descriptor") (r := some (.builtin "wrapper_descriptor.__get__")) (by k_is)) (ks_ne X2 (inst_pile hx2 (F2.keep _ _ h2)) (C := 131) (by k_is)) (by decide +kernel) fun A' => get_len X2 hx2 ?_
  rintro v h3 tk l D ⟨b, rfl, hb⟩
  refine ⟨rfl, ?_⟩
  have hb' := D.at 0 b _ (by rw [← hb]; cases l <;> rfl)
  have k3 := mem_keep D
  refine callWith_B0 ⟨by decide +kernel, by decide +kernel⟩ hb' ?_
  refine run_len (X2.keeps k3) (k3 _ _ hx2) hb' ?_
  rintro v h4 tk l D4 ⟨t, rfl⟩
  exact h _ _ _ fun b o e => mem_keep D4 _ _ (k3 _ _ (F2.keep _ _ e))

local macro_rules | `(tactic| walk_at "m_pile") => `(tactic| (first | exact inst_pile (News.get (by k_asm) (by k_mem)) (Fr.keep (by k_asm) _ _ (by assumption)) | exact inst_pile (News.get (by k_asm) (by k_mem)) (News.get (by k_asm) (by k_mem))))
local macro_rules | `(tactic| walk_at "getMethod ref") => `(tactic| (k_here; k_dflt (refine' method_x "list.__getattribute__" (by k_in) (by walk_at "m_pile") (by k_is) (by decide +kernel) (by k_is) (by k_is) (by k_is) (by decide +kernel) (by (show (lookIn _ _).map _ = _; first | (simp only [*]; rfl) | rfl)) ?_; k_whole)))
local macro_rules | `(tactic| walk_at "call ref") => `(tactic| (k_here; k_dflt (refine' count_spec (by (walk_at "m_room")) (by k_in) (by exact Top.keeps (by k_asm) (Fr.keep (by k_asm))) (by exact News.get (by k_asm) (by k_mem)) (by first | exact Fr.keep (by k_asm) _ _ (by assumption) | exact News.get (by k_asm) (by k_mem)) ?_; k_whole); intro h' tk tk' hk'))
theorem pop_spec (hdep : A.depth + 1 < recursionLimit) {l : List Value} {v : Value} (X : (hd.heap_1 w.params).In (s.heap.hide x)) (T : Top p loose mean mg mb (s.heap.hide x)) (h1 : s.heap.get? x = some (pileObj dx (l ++ [v]).toArray n)) (h2 : (s.heap.hide x).get? dx = some od) (hod : lookIn "part_count" od = some none) (hsz : l.length ≤ 1000)
   (h : ∀ h' n' tk, h'.get? x = some (pileObj dx l.toArray n') → (∀ b o, b ≠ x → s.heap.get? b = some o → h'.get? b = some o) → Q v { s with heap := h', toks := tk }) :
   wpAny (model PySem.Challenge.pw_xo0007_01 w) A (call (.ref 91) [.ref x]) Q E s := by
  k_dflt (refine' enterAt (g := s.heap.hide x) [("self", .ref x)] (fun _ _ e => Heap.of_hide e) (Nat.le_of_eq (Heap.hide_size _ _)) X T ?o ?c ?r ?b ?lo ?c2 ?c3 ?c4 ?c5 ?_; (case o => k_is); (case c => k_is); (case b => exact BindsTo.of_eq rfl); (case c5 => decide); (case r => exact Nat.lt_of_succ_lt hdep); (case lo => exact locs rfl); (case c2 => exact rfl); (case c3 => exact rfl); (case c4 => exact rfl))
  intro L h₁ F kk hL
  have N : News (s.heap.hide x) L h₁ [(x, pileObj dx (l ++ [v]).toArray n)] := fun q hq => by
    rw [List.mem_singleton.mp hq]
    exact ⟨kk _ _ h1, hL ▸ Nat.ne_of_lt (Heap.lt_size h1), Heap.hide_self _ _⟩
  refine ks_wpAt_execs_cons (wpAt_of_wpAny (wpAny_mono (Q := fun f s' => f = Flow.next ∧ ∃ h' tk, s' = { s with heap := h', toks := tk } ∧ (∀ b o, h₁.get? b = some o → h'.get? b = some o)) (E := fun _ _ => False) ?_ ?_ fun _ _ z => z))
  · k_fold
    w_strict (repeat' ((fail_if_success (with_reducible show wpAny _ _ (exec (Stmt.For _ _ _ _ _) _) _ _ _)); walk1))
    all_goals first
      | (rename_i z; exact absurd z (by simp; (clear h1 h2 hL hdep hod z; (first | lia | omega))))
      | exact ⟨_, _, rfl, by assumption⟩
      | exact ⟨rfl, _, _, rfl, by assumption⟩
      | exact rfl
      | (rename_i k _ _ _ e; exact k _ _ e)
  rintro f s' ⟨rfl, h₂, tk₂, rfl, k2⟩
  refine ks_wpAt_execs_cons (ks_wpAt_Return_some (ks_wpAt_MethodCall ?_))
  have F2 := F.keeps k2
  have N2 := N.grown k2
  have hx2 := N2.get (.head _)
  have I : InstAt h₂ x (pileObj dx (l ++ [v]).toArray n) 131 (some od) := inst_pile hx2 (F2.keep _ _ h2)
  k_dflt (refine ks_node (C := 131) F2 X N2 T (by k_is) (by rfl) (by rfl) I (by k_is) (by rfl) (by first | rfl | decide +kernel) (by k_is) (by k_is) (by k_is) (by k_is) (by decide) (by rfl) (by rfl) (by rfl) (by rfl) (by decide +kernel) (by first | boot_by_name | rfl | kernel_rfl) ?_)
  intro so h₃ F3 N3 _
  have X3 := X.keeps F3.keep
  have hx3 := N3.get (.tail _ (.head _))
  refine getMethod_super (N3.get (.head _)) (pile_opaque X3) (pile_mro X3) (l := [.type "list", .type "object"]) (by decide +kernel) X3 (by kernel_rfl) (looks_typeIn X3 (v := .builtin "list.pop") (t := .type "method_descriptor") (by k_is)) (looks_findIn X3 (t := .type "method_descriptor") (r := some (.builtin "method_descriptor.__get__")) (by k_is)) (ks_ne X3 (inst_pile hx3 (F3.keep _ _ h2)) (C := 131) (by k_is)) (by decide +kernel) fun A' => get_pop X3 hx3 ?_
  rintro v4 h4 tk l4 D ⟨b, rfl, hb⟩
  refine ⟨rfl, ?_⟩
  have hb' := D.at 0 b _ (by rw [← hb]; cases l4 <;> rfl)
  have k4 := mem_keep D
  refine callWith_B0 ⟨by decide +kernel, by decide +kernel⟩ hb' ?_
  refine run_pop (X3.keeps k4) hb' (k4 _ _ hx3) hsz ?_
  intro h5 hx5 hs5
  refine h _ _ _ hx5 fun b o hbx e => (hs5.2 b hbx).trans (k4 _ _ (F3.keep b o ((Heap.hide_ne _ hbx).trans e)))
end Mine
end
section -- XNew
open PySem PySem.W PySem.Calls PyProof.Rows PyProof.V PySem.Spec PySem.W.X
set_option maxRecDepth 100000
set_option maxHeartbeats 8000000
namespace Mine
theorem off_XNew : True := by w_top off; trivial
variable {w : World} {A : Around} {s : Shared} {Q : Value → Shared → Prop} {E : Value → Shared → Prop} {e1 e2 : Env}
noncomputable def Plain4 (od : Obj) : Prop := lookIn "append" od = some none ∧ lookIn "part_count" od = some none ∧ lookIn "push" od = some none ∧ lookIn "pop" od = some none
local macro_rules | `(tactic| x_close) => `(tactic| (refine x_endB (by assumption) (by assumption) ?_; refine' ⟨_, _, rfl, rfl⟩))
theorem list_new (X : (hd.heap_1 w.params).In s.heap)
   (hQ : EndBox s Q fun v l => ∃ x dx, v = .ref x ∧ l = [(x, { cls := .ref 131, dict := some dx, data := .seq #[] }), (dx, { cls := .type "dict", data := .dict #[] })]) :
   wpAny (model PySem.Challenge.pw_xo0007_01 w) A (call (.builtin "list.__new__") [.ref 131]) Q E s := by
  x_run

theorem pile_made {M : Model} {P : Params} {h : Heap} (X : (hd.heap_1 P).In h) : Looks M h (Bind.madeBy (.ref 131)) (some "list.__new__") := by
  obtain ⟨oc, od, cd, ho⟩ : ∃ oc od cd, h.get? 131 = some ⟨oc, od, .cls cd, #[some (Value.ref 52), none, some (Value.str (Str.ofString "_Accumulator") 324), some (Value.str (Str.ofString "_Accumulator") 332), some (Value.builtin "list.__new__"), some (Value.bool true)]⟩ := ⟨_, _, _, X 131 _ (by k_is)⟩
  intro A Q E s k q
  unfold Bind.madeBy
  refine wpAny_bind (pile_mro X A _ E s k ?_)
  rw [List.forIn_cons]
  refine wpAny_bind (wpAny_bind (wpAny_bind (wpAny_bind (wpAny_loadPart (k _ _ ho) (wpAny_pure ?_)))))
  dsimp only
  exact wpAny_pure (wpAny_pure (wpAny_pure q))

theorem make_pile (X : (hd.heap_1 w.params).In s.heap)
    (h : ∀ x dx h', s.heap.get? x = none → s.heap.get? dx = none → dx ≠ x → (∀ b o, s.heap.get? b = some o → h'.get? b = some o) → h'.get? x = some (pileObj dx #[] 0) → h'.get? dx = some emptyDict → ∀ tk,
      wpAny (model PySem.Challenge.pw_xo0007_01 w) (A.under (.builtin "type.__call__" ⟨[.ref 131], []⟩)) (call (.ref 68) [.ref x]) (fun v s' => v = .none ∧ Q (.ref x) s') (fun _ _ => False) { s with heap := h', toks := tk }) :
   wpAny (model PySem.Challenge.pw_xo0007_01 w) A (call (.ref 131) []) Q E s := by
  obtain ⟨oc, od, cd, sl, hC⟩ : ∃ oc od cd sl, s.heap.get? 131 = some ⟨oc, od, .cls cd, sl⟩ := ⟨_, _, _, _, X 131 _ (by k_is)⟩
  obtain ⟨hh, g, d, t, os⟩ := s
  have callL : Looks (model PySem.Challenge.pw_xo0007_01 w) hh (specialOf (.ref 131) "__call__") (some (.builtin "type.__call__")) := looks_specialIn X (by k_is)
  have typ : Looks (model PySem.Challenge.pw_xo0007_01 w) hh (isInstance (.ref 131) (.type "type")) true := looks_instIn X (by k_is)
  refine wpAny_call (codeAny_of_tree ?_)
  show wpAny _ _ (callAny (.ref 131) _) _ _ _
  refine nd_load hC ?_
  show wpAny _ _ (callAny.viaDunder (.ref 131) _) _ _ _
  unfold callAny.viaDunder
  refine wpAny_bind (callL.at ?_)
  dsimp only
  rw [tc_bind]
  refine wpAny_bind (wpAny_pure (wpAny_bind (wpAny_pure ?_)))
  refine wpAny_pure (a := PySem.Fin.again (.call (.builtin "type.__call__") ⟨[.ref 131], []⟩)) (And.intro rfl ?_)
  refine codeAny_call_builtin_at (Code.quiet_builtin _ (by decide +kernel)) entry_typeCall (check_slot tc_kind tc_split typ (tc_args _ _ _) ?_)
  unfold Builtin.«type.__call__»
  have hm := pile_mro (M := model PySem.Challenge.pw_xo0007_01 w) X
  have made := pile_made (M := model PySem.Challenge.pw_xo0007_01 w) X
  repeat (first | simp only [Bool.false_eq_true, if_false, List.isEmpty_cons] | (with_reducible refine list_new X ?_) | lk)
  rintro v h' tk l D ⟨x, dx, rfl, rfl⟩
  have k := mem_keep D
  have X' : (hd.heap_1 w.params).In h' := X.keeps k
  have hx := (D.nw _ (.head _)).1
  have hdx := (D.nw _ (.tail _ (.head _))).1
  have I := inst_pile hx hdx
  have hI : Looks (model PySem.Challenge.pw_xo0007_01 w) h' (isInstance (.ref x) (.ref 131)) true := Looks.andThen (b := true) I.type (looks_subIn X' (by k_is))
  refine wpAny_bind (hI.here ?_)
  rw [if_neg (by decide)]
  refine wpAny_bind (wpAny_holding ?_)
  refine special_fn (f := 68) X' I (by k_is) (by k_is) ?_
  refine wpAny_mono (h x dx h' (D.nw _ (.head _)).2 (D.nw _ (.tail _ (.head _))).2 ?_ k hx hdx _) (fun r s' z => ?_) fun _ _ z => z.elim
  · intro e; rw [e, hx] at hdx; cases hdx
  · obtain ⟨rfl, z⟩ := z
    exact wpAny_pure z
end Mine
end
section -- XInit
open PySem PySem.W PySem.Calls PyProof.Rows PyProof.V PySem.Spec PySem.W.X
set_option maxRecDepth 100000
set_option maxHeartbeats 8000000
namespace Mine
theorem off_XInit : True := by w_top off; trivial
variable {w : World} {A : Around} {s : Shared} {Q : Value → Shared → Prop} {E : Value → Shared → Prop} {x dx b : Addr} {its : Array Value} {n : Nat} {od : Obj}
  {p : Program} {loose : List Str} {mean : ExcName → Option Value} {mg mb : Str → Option Value}
local macro_rules | `(tactic| x_close) => `(tactic| (first | refine x_endB (by assumption) (by assumption) ?_ | refine x_endB (by assumption) (Mem.start _) ?_); first | exact ⟨_, rfl⟩ | exact ⟨_, rfl, rfl⟩)
theorem get_init (X : (hd.heap_1 w.params).In s.heap) (h1 : s.heap.get? x = some { cls := .ref 131, dict := some dx, data := .seq its n })
   (hQ : EndBox s Q fun v l => ∃ b, v = .ref b ∧ l.head? = some (b, { cls := .type "method-wrapper", data := .fields #[.builtin "list.__init__", .ref x] })) :
   wpAny (model PySem.Challenge.pw_xo0007_01 w) A (call (.builtin "wrapper_descriptor.__get__") [.builtin "list.__init__", .ref x, .ref 131]) Q E s := by
  x_run
theorem checkBound_init {M : Model} {Q : Unit → Shared → Prop} (h : Q () s) : wpAny M A (checkBoundCall "list.__init__" ⟨[.ref x], []⟩) Q E s := by
  have hk : builtinKind "list.__init__" = some .slot := by decide +kernel
  unfold checkBoundCall
  cases hs : Manifest.signature? "list.__init__" with
  | none => exact wpAny_pure h
  | some sig =>
    simp only [hk]
    rw [if_pos (by decide)]
    have ha : argsOk "list.__init__" ⟨[.ref x], []⟩ := by unfold argsOk; kernel_rfl
    simp only [argsOk, hs] at ha
    exact wpAny_of_eq ha h
theorem run_init (hb : s.heap.get? b = some { cls := .type "method-wrapper", data := .fields #[.builtin "list.__init__", .ref x] })
    (h1 : s.heap.get? x = some (pileObj dx #[] n))
    (h : ∀ h', h'.get? x = some (pileObj dx #[] n) → Heap.SameBut x s.heap h' → Q .none { s with heap := h' }) :
    wpAny (model PySem.Challenge.pw_xo0007_01 w) A (call (.ref b) []) Q E s := by
  refine wpAny_call (codeAny_of_tree ?_)
  show wpAny _ _ (callAny (.ref b) ⟨[], []⟩) _ _ s
  unfold callAny
  refine wpAny_bind (wpAny_load hb ?_)
  dsimp only
  rw [if_pos (by decide)]
  refine wpAny_bind ?_
  show wpAny _ _ (checkBoundCall "list.__init__" ⟨[.ref x], []⟩) _ _ _
  refine checkBound_init ?_
  show wpAny _ _ (again (.builtin "list.__init__" ⟨[.ref x], []⟩)) _ _ _
  refine wpAny_pure ⟨plainId_quiet (by decide +kernel) _, codeAny_builtin (entryFor_of_tree (by kernel_rfl) : entryFor table "list.__init__" = some Builtin.«list.__init__») ?_⟩
  unfold Builtin.«list.__init__»
  repeat (first | (with_reducible refine wpAny_updateSeq h1 rfl ?_) | wp_step)
  exact h _ ((Heap.get?_update_self _ h1 rfl).trans (by simp [Obj.mapSeq])) (Heap.SameBut.update ..)

theorem pile_refuse (self : Value) : refuseLoop self "__setattr__" [.ref 131, .type "list", .type "object"] = pure () := by
  rw [refuseLoop_ref]
  kernel_rfl
/-- the one field that __init__ stores -/
theorem pile_store {h₀ : Heap} {L : Addr} {m : Str → Option Value} {v : Value} {Q : Unit → Shared → Prop} (F : Fr h₀ L s.heap m) (X₀ : (hd.heap_1 w.params).In h₀) (N : News h₀ L s.heap [(x, pileObj dx #[] 0), (dx, dictOf [] 0)]) (hne : dx ≠ x)
    (h : ∀ h' od, Fr h₀ L h' m → News h₀ L h' [(x, pileObj dx #[] 0), (dx, od)] → Plain4 od → ∀ tk, Q () { s with heap := h', toks := tk }) :
    wpAny (model PySem.Challenge.pw_xo0007_01 w) A (setAttr (.ref x) "_initial_size" v) Q E s := by
  obtain ⟨hh, g, d, tk0, os⟩ := s
  have X : (hd.heap_1 w.params).In hh := X₀.keeps F.keep
  have hx : hh.get? x = some (pileObj dx #[] 0) := N.get (.head _)
  have hdx : hh.get? dx = some (dictOf [] 0) := N.get (.tail _ (.head _))
  have I : InstAt hh x (pileObj dx #[] 0) 131 (some (dictOf [] 0)) := inst_pile hx hdx
  have hm := pile_mro (M := model PySem.Challenge.pw_xo0007_01 w) X
  refine set_plain X I (by k_is) ?_
  dsimp only
  have SF := PySem.F.store_object
  have sub : Looks (model PySem.Challenge.pw_xo0007_01 w) hh (isInstance (.ref x) (.type "object")) true := Looks.andThen (b := true) I.type (looks_subIn X (by k_is))
  refine codeAny_call_builtin SF.slot.plain SF.entry (@check_slot (model PySem.Challenge.pw_xo0007_01 w) _ _ _ "object.__setattr__" "object" "__setattr__" (.ref x) [.str "_initial_size" tk0, v] [] _ SF.kind SF.split sub (SF.args (.ref x) (.str "_initial_size" tk0) v) ?_)
  rw [osa_eq, refuse_eq]
  refine wpAny_bind (wpAny_bind (I.type.here (wpAny_bind (hm.here ?_))))
  rw [pile_refuse]
  refine wpAny_pure (wpAny_bind (I.type.here (wpAny_bind ((looks_findIn X (by k_is : findIn (hd.heap_1 w.params) (.ref 131) "_initial_size" = some none)).here ?_))))
  refine wpAny_bind ((Looks.now : Looks _ hh (Builtin.ObjectAttr.storeTaker? none) none).here ?_)
  show wpAny _ _ (Builtin.ObjectAttr.storeInOwnDict (.ref x) (.ref 131) (.str "_initial_size" tk0) "_initial_size" v false) _ _ _
  have hcL := looks_clsIn (M := model PySem.Challenge.pw_xo0007_01 w) X (C := 131) (by k_is)
  obtain ⟨od', he, hp4, hod⟩ : ∃ od', Obj.putName "_initial_size" (PyData.keyHash w.params "_initial_size") (.str "_initial_size" (tk0 + 1)) v (dictOf [] 0) = od' ∧ Plain4 od' ∧ ∃ es n, od'.data = .dict es n ∧ es.size ≤ 1 := ⟨_, rfl, ⟨rfl, rfl, rfl, rfl⟩, _, _, rfl, Nat.le_refl 1⟩
  obtain ⟨U1, U2⟩ := news_upd (pre := [(x, pileObj dx #[] 0)]) (post := []) (d := dx) (f := Obj.putName "_initial_size" (PyData.keyHash w.params "_initial_size") (.str "_initial_size" (tk0 + 1)) v) F N (fun q hq => by rw [List.mem_singleton.mp hq]; exact Ne.symm hne) (List.forall_mem_nil _) he (by obtain ⟨_, _, _, _⟩ := od'; obtain ⟨_, _, e, _⟩ := hod; cases e; rfl)
  have D' := U2.get (.tail _ (.head _))
  refine wpAny_bind (wpAny_pure (wpAny_bind (wpAny_bind (wpAny_loadPart hx (wpAny_bind (hcL.here ?_))))))
  refine wpAny_pure (a := some dx) (wpAny_bind (wpAny_pure (wpAny_bind ?_)))
  unfold nsSet
  refine wpAny_bind (wpAny_bind (wpAny_askSetting (wpAny_pure (wpAny_bind (wpAny_mkText (wpAny_bind (wpAny_loadPart hdx ?_)))))))
  dsimp only
  rw [aRefKeyMayBeTheName_at]
  obtain ⟨es, nn, hes, hsz⟩ := hod
  rw [if_neg (by simp)]
  refine wpAny_updatePart hdx ?_
  refine wpAny_bind (wpAny_lookBehind D' (by rw [hes]; exact pastItsLine_dict (by rw [sizeLine_eq]; (clear D' hdx he hes hne hx; (first | lia | omega)))) ?_)
  exact wpAny_pure (h _ _ U1 U2 hp4 _)
theorem hide2_get {h : Heap} {b : Addr} {o : Obj} (e : h.get? b = some o) (h1 : b ≠ x) (h2 : b ≠ dx) : (hideAll h [x, dx]).get? b = some o := hideAll_get _ e (by simp [h1, h2])
theorem init_spec (hdep : A.depth < recursionLimit) (X : (hd.heap_1 w.params).In (hideAll s.heap [x, dx])) (T : Top p loose mean mg mb (hideAll s.heap [x, dx])) (hne : dx ≠ x) (h1 : s.heap.get? x = some (pileObj dx #[] 0)) (h2 : s.heap.get? dx = some (dictOf [] 0))
   (h : ∀ h' tk od n, h'.get? x = some (pileObj dx #[] n) → h'.get? dx = some od → Plain4 od → (∀ b o, b ≠ x → b ≠ dx → s.heap.get? b = some o → h'.get? b = some o) → Q .none { s with heap := h', toks := tk }) :
   wpAny (model PySem.Challenge.pw_xo0007_01 w) A (call (.ref 68) [.ref x]) Q E s := by
  have kk : ∀ b o, (hideAll s.heap [x, dx]).get? b = some o → s.heap.get? b = some o := fun _ _ e => of_hideAll _ e
  have hdef := X.keeps kk
  k_dflt (refine' enterAt (g := hideAll s.heap [x, dx]) [("self", .ref x), ("initial_size", .int 0 336)] kk (Nat.le_of_eq (hideAll_size _ _)) X T ?o ?c ?r ?b ?lo ?c2 ?c3 ?c4 ?c5 ?_; (case o => k_is); (case c => k_is); (case b => exact binds_K (by assumption) rfl (by k_is) rfl rfl rfl); (case c5 => decide); (case r => exact hdep); (case lo => exact locs rfl); (case c2 => exact rfl); (case c3 => exact rfl); (case c4 => exact rfl))
  intro L h₁ F kk1 hL
  have N : News (hideAll s.heap [x, dx]) L h₁ [(x, pileObj dx #[] 0), (dx, dictOf [] 0)] := fun q hq => by
    rcases List.mem_cons.mp hq with rfl | hq
    · exact ⟨kk1 _ _ h1, hL ▸ Nat.ne_of_lt (Heap.lt_size h1), hideAll_none _ (by simp)⟩
    · rw [List.mem_singleton.mp hq]
      exact ⟨kk1 _ _ h2, hL ▸ Nat.ne_of_lt (Heap.lt_size h2), hideAll_none _ (by simp)⟩
  refine ks_wpAt_execs_cons (wpAt_of_wpAny ?_)
  w_strict (repeat' walk1)
  have I : InstAt h₁ x (pileObj dx #[] 0) 131 (some (dictOf [] 0)) := inst_pile (N.get (.head _)) (N.get (.tail _ (.head _)))
  refine pile_store F X N hne ?_
  intro h₂ od2 F2 N2 hp2 tk2
  dsimp only
  refine ks_wpAt_execs_cons (ks_wpAt_Expr_any (ks_wpAt_MethodCall ?_))
  have I2 := inst_pile (N2.get (.head _)) (N2.get (.tail _ (.head _)))
  k_dflt (refine ks_node (C := 131) F2 X N2 T (by k_is) (by rfl) (by rfl) I2 (by k_is) (by rfl) (by first | rfl | decide +kernel) (by k_is) (by k_is) (by k_is) (by k_is) (by decide) (by rfl) (by rfl) (by rfl) (by rfl) (by decide +kernel) (by first | boot_by_name | rfl | kernel_rfl) ?_)
  intro so h₃ F3 N3 _
  have X3 := X.keeps F3.keep
  have hx3 := N3.get (.tail _ (.head _))
  have hdx3 := N3.get (.tail _ (.tail _ (.head _)))
  refine getMethod_super (N3.get (.head _)) (pile_opaque X3) (pile_mro X3) (l := [.type "list", .type "object"]) (by decide +kernel) X3 (by kernel_rfl) (looks_typeIn X3 (v := .builtin "list.__init__") (t := .type "wrapper_descriptor") (by k_is)) (looks_findIn X3 (t := .type "wrapper_descriptor") (r := some (.builtin "wrapper_descriptor.__get__")) (by k_is)) (ks_ne X3 (inst_pile hx3 hdx3) (C := 131) (by k_is)) (by decide +kernel) fun A' => get_init X3 hx3 ?_
  rintro v4 h4 tk l4 D ⟨b, rfl, hb⟩
  refine ⟨rfl, ?_⟩
  have hb' := D.at 0 b _ (by rw [← hb]; cases l4 <;> rfl)
  have k4 := mem_keep D
  refine callWith_B0 ⟨by decide +kernel, by decide +kernel⟩ hb' ?_
  refine run_init hb' (k4 _ _ hx3) ?_
  intro h5 hx5 hs5
  dsimp only
  refine wpAt_of_wpAny (wpAny_execs_nil ?_)
  refine h _ _ _ _ hx5 ((hs5.2 dx hne).trans (k4 _ _ hdx3)) hp2 fun b o hbx hbd e => (hs5.2 b hbx).trans (k4 _ _ (F3.keep _ _ (hide2_get e hbx hbd)))

/-- an _Accumulator is made -/
theorem new_spec (hdep : A.depth + 1 < recursionLimit) (X : (hd.heap_1 w.params).In s.heap) (T : Top p loose mean mg mb s.heap)
   (h : ∀ x dx od n h' tk, s.heap.get? x = none → s.heap.get? dx = none → dx ≠ x → h'.get? x = some (pileObj dx #[] n) → h'.get? dx = some od → Plain4 od → (∀ b o, s.heap.get? b = some o → h'.get? b = some o) → Q (.ref x) { s with heap := h', toks := tk }) :
   wpAny (model PySem.Challenge.pw_xo0007_01 w) A (call (.ref 131) []) Q E s := by
  refine make_pile X fun x dx h' nx ndx hne k hx hdx tk => ?_
  have kk : ∀ b o, s.heap.get? b = some o → (hideAll h' [x, dx]).get? b = some o := fun b o e => hide2_get (k _ _ e) (fun q => by rw [q, nx] at e; cases e) (fun q => by rw [q, ndx] at e; cases e)
  refine init_spec (by rw [depth_under_kw]; exact hdep) (X.keeps kk) (T.keeps kk) hne hx hdx fun h'' tk' od n hx' hdx' hp hk => ⟨rfl, ?_⟩
  exact h x dx od n h'' tk' nx ndx hne hx' hdx' hp fun b o e => hk b o (fun q => by rw [q, nx] at e; cases e) (fun q => by rw [q, ndx] at e; cases e) (k _ _ e)
end Mine
end
section -- YRe1
open PySem PySem.W PySem.Calls PyProof.Rows PyProof.V PySem.Spec
set_option maxRecDepth 100000
namespace Mine
theorem off_YRe1 : True := by w_top off; trivial
open Sre

theorem runFor_succ (n : Nat) (m : M) : M.runFor (n + 1) m = if m.outcome.isSome then m else M.runFor n m.step := rfl
theorem runFor_done : ∀ (n : Nat) (m : M), m.outcome.isSome = true → M.runFor n m = m
  | 0, _, _ => rfl
  | n + 1, m, h => by rw [runFor_succ, if_pos h]
theorem runFor_add : ∀ (a b : Nat) (m : M), M.runFor (a + b) m = M.runFor b (M.runFor a m)
  | 0, b, m => by rw [Nat.zero_add]; rfl
  | a + 1, b, m => by
    rw [Nat.add_right_comm, runFor_succ, runFor_succ]
    by_cases h : m.outcome.isSome = true
    · rw [if_pos h, if_pos h, runFor_done _ _ h]
    · rw [if_neg h, if_neg h]; exact (runFor_add a b m.step)

/-- the engine's turns, once it is known where they end -/
theorem drive_to {M₀ : Model} {A : Around} {E : Value → Shared → Prop} {s : Shared} {Q : M → Shared → Prop} : ∀ (t : Nat) (m : M) (n : Nat), n < 4 * t → (M.runFor n m).outcome.isSome = true → Q (M.runFor n m) s → wpAny M₀ A (Builtin.Re.reDrive t m) Q E s
  | 0, _, _, h, _, _ => absurd h (by (first | lia | omega))
  | t + 1, m, n, hn, ho, hq => by
    unfold Builtin.Re.reDrive
    show wpAny M₀ A (if (M.runFor 4 m).outcome.isSome = true then pure (M.runFor 4 m) else (do rule "sre.turn"; Builtin.Re.reDrive t (M.runFor 4 m))) Q E s
    by_cases h4 : n ≤ 4
    · have e : M.runFor 4 m = M.runFor n m := by
        obtain ⟨k, hk⟩ := Nat.exists_eq_add_of_le h4
        calc M.runFor 4 m = M.runFor (n + k) m := by rw [hk]
          _ = M.runFor k (M.runFor n m) := runFor_add ..
          _ = M.runFor n m := runFor_done _ _ ho
      rw [e, if_pos ho]
      exact wpAny_pure hq
    · have e : M.runFor n m = M.runFor (n - 4) (M.runFor 4 m) := by rw [← runFor_add]; congr 1; (first | lia | omega)
      rw [e] at ho hq
      by_cases h : (M.runFor 4 m).outcome.isSome = true
      · rw [if_pos h]
        rw [runFor_done _ _ h] at hq
        exact wpAny_pure hq
      · rw [if_neg h]
        exact wpAny_bind (wpAny_rule (drive_to t _ _ (by (first | lia | omega)) ho hq))

theorem forIn_rules {M₀ : Model} {A : Around} {E : Value → Shared → Prop} {s : Shared} {Q : PUnit → Shared → Prop} (c : Nat → Bool) (nm : Nat → String) (h : Q ⟨⟩ s) : ∀ (l : List Nat),
    wpAny M₀ A (forIn l PUnit.unit fun i (_ : PUnit) => if c i = true then do rule (nm i); pure (ForInStep.yield PUnit.unit) else pure (ForInStep.yield PUnit.unit)) Q E s
  | [] => wpAny_pure h
  | i :: r => by
    rw [List.forIn_cons]
    refine wpAny_bind ?_
    by_cases hc : c i = true
    · rw [if_pos hc]; exact wpAny_bind (wpAny_rule (wpAny_pure (forIn_rules c nm h r)))
    · rw [if_neg hc]; exact wpAny_pure (forIn_rules c nm h r)

theorem run_matched {M₀ : Model} {A : Around} {E : Value → Shared → Prop} {s : Shared} {Q : Option M → Shared → Prop} {m m' : M} {n : Nat} (hn : n < 4 * 2 ^ 64) (e : M.runFor n m = m') (ho : m'.outcome = some .matched) (h : Q (some m') s) :
    wpAny M₀ A (Builtin.Re.reRunToEnd m) Q E s := by
  unfold Builtin.Re.reRunToEnd
  refine wpAny_bind (drive_to _ m n hn (by rw [e, ho]; rfl) ?_)
  rw [e]
  refine wpAny_bind (forIn_rules (fun i => m'.seen.has i) (fun i => names.getD i "") ?_ _)
  rw [ho]
  exact wpAny_pure h
theorem run_failed {M₀ : Model} {A : Around} {E : Value → Shared → Prop} {s : Shared} {Q : Option M → Shared → Prop} {m m' : M} {n : Nat} (hn : n < 4 * 2 ^ 64) (e : M.runFor n m = m') (ho : m'.outcome = some .failed) (h : Q none s) :
    wpAny M₀ A (Builtin.Re.reRunToEnd m) Q E s := by
  unfold Builtin.Re.reRunToEnd
  refine wpAny_bind (drive_to _ m n hn (by rw [e, ho]; rfl) ?_)
  rw [e]
  refine wpAny_bind (forIn_rules (fun i => m'.seen.has i) (fun i => names.getD i "") ?_ _)
  rw [ho]
  exact wpAny_pure h
end Mine
end
section -- YRe2
open PySem PySem.W PySem.Calls PyProof.Rows PyProof.V PySem.Spec
set_option maxRecDepth 100000
namespace Mine
theorem off_YRe2 : True := by w_top off; trivial
open Sre

noncomputable def c1 : Array Nat := #[14, 4, 0, 0, 0, 6, 1, 5, 5, 0, 6, 6, 1, 1]

/-- the engine with the first pattern, as an attempt at `s` begins -/
noncomputable def T1 (text : Array Nat) (s : Nat) (first must : Bool) (seen : Sre.Seen) : M :=
  { code := c1, text, lim := text.size, start := s, lastStart := text.size, mustAdvance := must, pc := 5, pos := s, handed := s, outermost := first, marks := #[],
    frames := [{ wait := .nextStart, pc := 5, pos := s, outermost := first }], weight := 1, seen }
/-- with the answer of the attempt -/
noncomputable def R1 (text : Array Nat) (s : Nat) (first must : Bool) (seen : Sre.Seen) (pc : Nat) (o ans : Bool) : M :=
  { T1 text s first must seen with pc, outermost := o, answer := some ans }
/-- in the look ahead -/
noncomputable def L1 (text : Array Nat) (s : Nat) (first must : Bool) (seen : Sre.Seen) (pc : Nat) (ans : Option Bool) : M :=
  { T1 text s first must seen with pc, outermost := false, weight := 2, answer := ans, frames := [{ wait := .lookNot, pc := 7, pos := s, outermost := first, kept := { lastmark := -1, lastindex := -1, whole := false, marks := #[] } }, { wait := .nextStart, pc := 5, pos := s, outermost := first }] }

theorem t1_at (text s first must seen) : ∃ seen', (T1 text s first must seen).step = if (s == 0 || text.getD (s - 1) 0 == 10) = true then { T1 text s first must seen' with pc := 7 } else R1 text s first must seen' 5 first false := ⟨_, rfl⟩
theorem t1_look (text s first must seen) : ∃ seen', M.step { T1 text s first must seen with pc := 7 } = L1 text s first must seen' 10 none := ⟨_, rfl⟩
theorem l1_end (text s first must seen) : ∃ seen', (L1 text s first must seen 10 none).step = if (s == text.size || text.getD s 0 == 10) = true then L1 text s first must seen' 12 none else L1 text s first must seen' 10 (some false) := ⟨_, rfl⟩
theorem l1_succ (text s first must seen) : ∃ seen', (L1 text s first must seen 12 none).step = L1 text s first must seen' 12 (some true) := ⟨_, rfl⟩
theorem l1_yes (text s first must seen) : (L1 text s first must seen 12 (some true)).step = R1 text s first must seen 7 first false := rfl
theorem l1_no (text s first must seen) : (L1 text s first must seen 10 (some false)).step = { T1 text s first must seen with pc := 13 } := rfl
theorem t1_succ (text s first must seen) : ∃ seen', M.step { T1 text s first must seen with pc := 13 } = if (first && (must && s == s)) = true then R1 text s first must seen' 13 first false else R1 text s first must seen' 13 first true := by
  cases first <;> exact ⟨_, rfl⟩
theorem r1_no (text s first must seen pc o) : (R1 text s first must seen pc o false).step = if s < text.size then T1 text (s + 1) false false seen else { R1 text s first must seen 5 first false with frames := [], weight := 0 } := rfl
theorem r1_yes (text s first must seen pc o) : (R1 text s first must seen pc o true).step = { R1 text s first must seen 5 first true with frames := [], weight := 0 } := rfl
theorem r1_end (text s first must seen) (a : Bool) : M.step { R1 text s first must seen 5 first a with frames := [], weight := 0 } = { R1 text s first must seen 5 first a with frames := [], weight := 0, outcome := some (if a then .matched else .failed) } := rfl
end Mine
end
section -- YRe3
open PySem PySem.W PySem.Calls PyProof.Rows PyProof.V PySem.Spec
set_option maxRecDepth 100000
namespace Mine
theorem off_YRe3 : True := by w_top off; trivial
open Sre

theorem run1 {m : M} (n : Nat) (h : m.outcome = none) : M.runFor (n + 1) m = M.runFor n m.step := by
  rw [runFor_succ, h]; rfl
theorem run0 (m : M) : M.runFor 0 m = m := rfl

noncomputable def hitB (text : Array Nat) (s : Nat) : Bool := (s == 0 || text.getD (s - 1) 0 == 10) && !(s == text.size || text.getD s 0 == 10)

theorem t1_miss (text : Array Nat) (s : Nat) (first must : Bool) (seen : Sre.Seen) (h : (hitB text s && !(first && must)) = false) : ∃ n, n ≤ 8 ∧ ∃ seen', M.runFor n (T1 text s first must seen) = if s < text.size then T1 text (s + 1) false false seen' else { R1 text s first must seen' 5 first false with frames := [], weight := 0 } := by
  obtain ⟨s1, e1⟩ := t1_at text s first must seen
  by_cases h1 : (s == 0 || text.getD (s - 1) 0 == 10) = true
  · rw [if_pos h1] at e1
    obtain ⟨s2, e2⟩ := t1_look text s first must s1
    obtain ⟨s3, e3⟩ := l1_end text s first must s2
    by_cases h2 : (s == text.size || text.getD s 0 == 10) = true
    · rw [if_pos h2] at e3
      obtain ⟨s4, e4⟩ := l1_succ text s first must s3
      refine ⟨6, by (clear e1 e2 e3 e4 h h1 h2; (first | lia | omega)), s4, ?_⟩
      rw [run1 _ rfl, e1, run1 _ rfl, e2, run1 _ rfl, e3, run1 _ rfl, e4, run1 _ rfl, l1_yes, run1 _ rfl, r1_no, run0]
    · rw [if_neg h2] at e3
      have hh : (first && (must && s == s)) = true := by
        unfold hitB at h
        rw [h1, Bool.eq_false_iff.mpr h2] at h
        revert h
        cases first <;> cases must <;> simp
      obtain ⟨s4, e4⟩ := t1_succ text s first must s3
      rw [if_pos hh] at e4
      refine ⟨6, by (clear e1 e2 e3 e4 h h1 h2 hh; (first | lia | omega)), s4, ?_⟩
      rw [run1 _ rfl, e1, run1 _ rfl, e2, run1 _ rfl, e3, run1 _ rfl, l1_no, run1 _ rfl, e4, run1 _ rfl, r1_no, run0]
  · rw [if_neg h1] at e1
    refine ⟨2, by (clear e1 h h1; (first | lia | omega)), s1, ?_⟩
    rw [run1 _ rfl, e1, run1 _ rfl, r1_no, run0]

theorem t1_hit (text : Array Nat) (s : Nat) (first must : Bool) (seen : Sre.Seen) (h : (hitB text s && !(first && must)) = true) : ∃ n, n ≤ 8 ∧ ∃ m', M.runFor n (T1 text s first must seen) = m' ∧ m'.outcome = some .matched ∧ m'.start = s ∧ m'.handed = s := by
  unfold hitB at h
  have h1 : (s == 0 || text.getD (s - 1) 0 == 10) = true := by
    revert h; cases (s == 0 || text.getD (s - 1) 0 == 10) <;> simp
  have h2 : ¬ (s == text.size || text.getD s 0 == 10) = true := by
    revert h; cases (s == text.size || text.getD s 0 == 10) <;> simp
  have h3 : ¬ (first && (must && s == s)) = true := by
    revert h; cases first <;> cases must <;> simp
  obtain ⟨s1, e1⟩ := t1_at text s first must seen
  rw [if_pos h1] at e1
  obtain ⟨s2, e2⟩ := t1_look text s first must s1
  obtain ⟨s3, e3⟩ := l1_end text s first must s2
  rw [if_neg h2] at e3
  obtain ⟨s4, e4⟩ := t1_succ text s first must s3
  rw [if_neg h3] at e4
  refine ⟨7, by (clear e1 e2 e3 e4 h h1 h2 h3; (first | lia | omega)), { R1 text s first must s4 5 first true with frames := [], weight := 0, outcome := some .matched }, ?_, rfl, rfl, rfl⟩
  rw [run1 _ rfl, e1, run1 _ rfl, e2, run1 _ rfl, e3, run1 _ rfl, l1_no, run1 _ rfl, e4, run1 _ rfl, r1_yes, run1 _ rfl, r1_end, run0]
  rfl

noncomputable def nextHit (text : Array Nat) : Nat → Nat → Bool → Option Nat
  | 0, s, skip => if (hitB text s && !skip) = true then some s else none
  | d + 1, s, skip => if (hitB text s && !skip) = true then some s else nextHit text d (s + 1) false

noncomputable def Ends (o : Option Nat) (m : M) : Prop := match o with | some p => m.outcome = some .matched ∧ m.start = p ∧ m.handed = p | none => m.outcome = some .failed

theorem search1 (text : Array Nat) : ∀ (d s : Nat) (first must : Bool) (seen : Sre.Seen), s + d = text.size → ∃ n, n ≤ 9 * (d + 1) ∧ Ends (nextHit text d s (first && must)) (M.runFor n (T1 text s first must seen))
  | 0, s, first, must, seen, hs => by
    unfold nextHit
    by_cases h : (hitB text s && !(first && must)) = true
    · rw [if_pos h]
      obtain ⟨n, hn, m', e, h1, h2, h3⟩ := t1_hit text s first must seen h
      exact ⟨n, by (clear e h h1 h2 h3 hs; (first | lia | omega)), by rw [e]; exact ⟨h1, h2, h3⟩⟩
    · rw [if_neg h]
      obtain ⟨n, hn, s', e⟩ := t1_miss text s first must seen (Bool.eq_false_iff.mpr h)
      rw [if_neg (by (clear e h hn; (first | lia | omega)))] at e
      refine ⟨n + 1, by (clear e h hs; (first | lia | omega)), ?_⟩
      rw [runFor_add, e, run1 _ rfl, r1_end, run0]
      rfl
  | d + 1, s, first, must, seen, hs => by
    unfold nextHit
    by_cases h : (hitB text s && !(first && must)) = true
    · rw [if_pos h]
      obtain ⟨n, hn, m', e, h1, h2, h3⟩ := t1_hit text s first must seen h
      exact ⟨n, by (clear e h h1; (first | lia | omega)), by rw [e]; exact ⟨h1, h2, h3⟩⟩
    · rw [if_neg h]
      obtain ⟨n, hn, s', e⟩ := t1_miss text s first must seen (Bool.eq_false_iff.mpr h)
      rw [if_pos (by (clear e h hn; (first | lia | omega)))] at e
      obtain ⟨n', hn', h'⟩ := search1 text d (s + 1) false false s' (by (clear e h hn; (first | lia | omega)))
      refine ⟨n + n', by (clear e h hs; (first | lia | omega)), ?_⟩
      rw [runFor_add, e]
      exact h'

theorem search1_eq (text : Array Nat) (s : Nat) (must : Bool) (hs : s ≤ text.size) : ∃ seen, forSearch c1 text 0 s text.size must = T1 text s true must seen := by
  refine ⟨({} : Sre.Seen).add 14, ?_⟩
  unfold forSearch
  have h : ¬ (decide (s > text.size) || decide (text.size - s < (header c1).1)) = true := by
    have : (header c1).1 = 0 := rfl
    rw [this]
    simp
    exact hs
  simp only []
  rw [if_neg h]
  rfl

/-- one search of the first pattern -/
theorem found1 {M₀ : Model} {A : Around} {E : Value → Shared → Prop} {sh : Shared} {Q : Option M → Shared → Prop} {t : Builtin.Re.ReTarget} (hc : t.code = c1) (hg : t.groups = 0) (hl : t.lim = t.text.size) (hz : t.text.size < 2 ^ 40)
    (s : Nat) (must : Bool) (hs : s ≤ t.text.size)
    (kS : ∀ m p, nextHit t.text (t.text.size - s) s must = some p → m.start = p → m.handed = p → Q (some m) sh)
    (kN : nextHit t.text (t.text.size - s) s must = none → Q none sh) :
    wpAny M₀ A (Builtin.Re.reNextFound t s must) Q E sh := by
  obtain ⟨seen, e⟩ := search1_eq t.text s must hs
  obtain ⟨n, hn, h⟩ := search1 t.text (t.text.size - s) s true must seen (by (clear e hc hg hl hz; (first | lia | omega)))
  unfold Builtin.Re.reNextFound
  rw [hc, hg, hl, e]
  rw [Bool.true_and] at h
  cases ho : nextHit t.text (t.text.size - s) s must with
  | none =>
    rw [ho] at h
    exact run_failed (by (clear e hc hg ho; (first | lia | omega))) rfl h (kN ho)
  | some p =>
    rw [ho] at h
    exact run_matched (by (clear e hc hg ho; (first | lia | omega))) rfl h.1 (kS _ p ho h.2.1 h.2.2)
end Mine
end
section -- YRe4
open PySem PySem.W PySem.Calls PyProof.Rows PyProof.V PySem.Spec
set_option maxRecDepth 100000
namespace Mine
theorem off_YRe4 : True := by w_top off; trivial
open Sre

noncomputable def c2 : Array Nat := #[14, 8, 1, 2, 4294967295, 1, 1, 34, 0, 16, 34, 28, 22, 0, 4294967295, 7, 11, 13, 7, 21, 16, 34, 16, 92, 0, 15, 8, 6, 16, 92, 2, 15, 2, 0, 1, 16, 34, 1]

noncomputable def F2 (s : Nat) (first : Bool) : Sre.Frame := { wait := .nextStart, pc := 9, pos := s, outermost := first }
noncomputable def K2 : Sre.Kept := { lastmark := -1, lastindex := -1, whole := true, marks := #[] }
noncomputable def G2 (p : Nat) (first : Bool) (cnt : Int) : Sre.Frame := { wait := .possMore, pc := 11, pos := p, outermost := first, loop := 0, count := cnt, kept := K2 }
noncomputable def B2 (alt p : Nat) : Sre.Frame := { wait := .nextBranch, pc := alt, pos := p, outermost := false, kept := K2 }
/-- the second pattern, as an attempt at `s` begins -/
noncomputable def T2 (text : Array Nat) (s : Nat) (first : Bool) (seen : Sre.Seen) : M :=
  { code := c2, text, lim := text.size, start := s, lastStart := text.size, pc := 9, pos := s, handed := s, outermost := first, marks := #[], frames := [F2 s first], weight := 1, seen }
/-- in the repeat's body, which begins at `p` -/
noncomputable def P2 (text : Array Nat) (s : Nat) (first : Bool) (p : Nat) (cnt : Int) (seen : Sre.Seen) : M :=
  { T2 text s first seen with pc := 15, pos := p, handed := p, outermost := false, loops := #[{ pc := 0, outer := none }], inner := some 0, frames := [G2 p first cnt, F2 s first], weight := 2 }
/-- in an alternative of it -/
noncomputable def A2 (text : Array Nat) (s : Nat) (first : Bool) (p : Nat) (cnt : Int) (seen : Sre.Seen) (alt pc pos hd : Nat) (ans : Option Bool) : M :=
  { P2 text s first p cnt seen with pc, pos, handed := hd, answer := ans, frames := [B2 alt p, G2 p first cnt, F2 s first], weight := 3 }
/-- behind the repeat -/
noncomputable def O2 (text : Array Nat) (s : Nat) (first : Bool) (seen : Sre.Seen) (pc p hd : Nat) (ans : Option Bool) : M :=
  { T2 text s first seen with pc, pos := p, handed := hd, answer := ans }

theorem t2_lit (text s first seen) : ∃ seen', (T2 text s first seen).step = if s ≥ text.size then O2 text s first seen' 9 s s (some false) else match accepts c2 9 (text.getD s 0) seen' with
    | .error why => M.stick (O2 text s first seen' 9 s s none) why
    | .ok (false, seen') => O2 text s first seen' 9 s s (some false)
    | .ok (true, seen') => O2 text s first seen' 11 (s + 1) s none := ⟨_, rfl⟩
theorem t2_rep (text s first seen) : ∃ seen', M.step (O2 text s first seen 11 (s + 1) s none) = P2 text s first (s + 1) 0 seen' := ⟨_, rfl⟩
theorem p2_branch (text s first p cnt seen) : ∃ seen', (P2 text s first p cnt seen).step = A2 text s first p cnt seen' 16 17 p p none := ⟨_, rfl⟩
theorem a2_in (text s first p cnt seen) : ∃ seen', (A2 text s first p cnt seen 16 17 p p none).step = if p ≥ text.size then A2 text s first p cnt seen' 16 17 p p (some false) else
    match inSet c2 (text.getD p 0) 38 19 true seen' with
    | .error why => M.stick (A2 text s first p cnt seen' 16 17 p p none) why
    | .ok (false, seen) => A2 text s first p cnt seen 16 17 p p (some false)
    | .ok (true, seen) => A2 text s first p cnt seen 16 25 (p + 1) p none := ⟨_, rfl⟩
theorem in2 (c : Nat) (seen : Sre.Seen) : ∃ s1 s2 s3, inSet c2 c 38 19 true seen = if (c == 34) = true then .ok (false, s1) else if (c == 92) = true then .ok (false, s2) else .ok (true, s3) := ⟨_, _, _, rfl⟩
theorem a2_jump (text s first p cnt seen pos hd) : ∃ seen', (A2 text s first p cnt seen 16 25 pos hd none).step = A2 text s first p cnt seen' 16 34 pos hd none := ⟨_, rfl⟩
theorem a2_jump' (text s first p cnt seen pos hd) : ∃ seen', (A2 text s first p cnt seen 27 31 pos hd none).step = A2 text s first p cnt seen' 27 34 pos hd none := ⟨_, rfl⟩
theorem a2_succ (text s first p cnt seen pos hd alt) : ∃ seen', (A2 text s first p cnt seen alt 34 pos hd none).step = A2 text s first p cnt seen' alt 34 pos pos (some true) := ⟨_, rfl⟩
theorem a2_no (text s first p cnt seen pc pos hd) : (A2 text s first p cnt seen 16 pc pos hd (some false)).step = A2 text s first p cnt seen 27 28 p p none := rfl
theorem a2_lit (text s first p cnt seen) : ∃ seen', (A2 text s first p cnt seen 27 28 p p none).step = if p ≥ text.size then A2 text s first p cnt seen' 27 28 p p (some false) else match accepts c2 28 (text.getD p 0) seen' with
    | .error why => M.stick (A2 text s first p cnt seen' 27 28 p p none) why
    | .ok (false, seen') => A2 text s first p cnt seen' 27 28 p p (some false)
    | .ok (true, seen') => A2 text s first p cnt seen' 27 30 (p + 1) p none := ⟨_, rfl⟩
theorem a2_any (text s first p cnt seen) : ∃ seen', (A2 text s first p cnt seen 27 30 (p + 1) p none).step = if p + 1 ≥ text.size then A2 text s first p cnt seen' 27 30 (p + 1) p (some false) else match accepts c2 30 (text.getD (p + 1) 0) seen' with
    | .error why => M.stick (A2 text s first p cnt seen' 27 30 (p + 1) p none) why
    | .ok (false, seen') => A2 text s first p cnt seen' 27 30 (p + 1) p (some false)
    | .ok (true, seen') => A2 text s first p cnt seen' 27 31 (p + 1 + 1) p none := ⟨_, rfl⟩
theorem a2_none (text s first p cnt seen pc pos hd) : (A2 text s first p cnt seen 27 pc pos hd (some false)).step = { P2 text s first p cnt seen with pc := 27, pos := p, handed := hd, answer := some false } := rfl
theorem a2_yes (text s first p cnt seen alt pc pos hd) : (A2 text s first p cnt seen alt pc pos hd (some true)).step = { P2 text s first p cnt seen with pc := alt, pos := p, handed := hd, answer := some true } := rfl
theorem p2_yes (text s first p cnt seen alt hd) : M.step { P2 text s first p cnt seen with pc := alt, pos := p, handed := hd, answer := some true } = M.possessive { P2 text s first p cnt seen with pc := 11, pos := p, handed := hd, outermost := first, frames := [F2 s first], weight := 1 } 0 (cnt + 1) (some p) := rfl
theorem p2_no (text s first p cnt seen alt hd) : M.step { P2 text s first p cnt seen with pc := alt, pos := p, handed := hd, answer := some false } = M.possessive { P2 text s first p cnt seen with pc := 11, pos := p, handed := p, outermost := first, frames := [F2 s first], weight := 1 } 0 cnt (some p) := rfl
theorem poss_go (text s first p cnt seen) (hd : Nat) (c : Int) (h0 : 0 ≤ c) (hp : p ≠ hd) : M.possessive { P2 text s first p cnt seen with pc := 11, pos := p, handed := hd, outermost := first, frames := [F2 s first], weight := 1 } 0 c (some p) = P2 text s first hd c seen := by
  have e1 : ¬ (c < ((0 : Nat) : Int)) := by (clear hp; (first | lia | omega))
  have e2 : ((decide (c < ((4294967295 : Nat) : Int)) || (4294967295 == maxRepeat)) && (some p != some hd)) = true := by
    have : (4294967295 == maxRepeat) = true := rfl
    rw [this, Bool.or_true, Bool.true_and, bne_iff_ne]
    intro h
    exact hp (Option.some.inj h)
  show (if c < ((0 : Nat) : Int) then _ else if ((decide (c < ((4294967295 : Nat) : Int)) || (4294967295 == maxRepeat)) && (some p != some hd)) = true then _ else _) = _
  rw [if_neg e1, if_pos e2]
  rfl
theorem poss_stop (text s first p cnt seen) (c : Int) (h0 : 0 ≤ c) : M.possessive { P2 text s first p cnt seen with pc := 11, pos := p, handed := p, outermost := first, frames := [F2 s first], weight := 1 } 0 c (some p) = O2 text s first seen 35 p p none := by
  have e1 : ¬ (c < ((0 : Nat) : Int)) := by (first | lia | omega)
  have e2 : ¬ ((decide (c < ((4294967295 : Nat) : Int)) || (4294967295 == maxRepeat)) && (some p != some p)) = true := by
    have : (some p != some p) = false := by simp
    rw [this, Bool.and_false]
    decide
  show (if c < ((0 : Nat) : Int) then _ else if ((decide (c < ((4294967295 : Nat) : Int)) || (4294967295 == maxRepeat)) && (some p != some p)) = true then _ else _) = _
  rw [if_neg e1, if_neg e2]
  rfl
theorem o2_lit (text s first seen p) : ∃ seen', (O2 text s first seen 35 p p none).step = if p ≥ text.size then O2 text s first seen' 35 p p (some false) else match accepts c2 35 (text.getD p 0) seen' with
    | .error why => M.stick (O2 text s first seen' 35 p p none) why
    | .ok (false, seen') => O2 text s first seen' 35 p p (some false)
    | .ok (true, seen') => O2 text s first seen' 37 (p + 1) p none := ⟨_, rfl⟩
theorem o2_succ (text s first seen p hd) : ∃ seen', (O2 text s first seen 37 p hd none).step = O2 text s first seen' 37 p p (some true) := by
  cases first <;> exact ⟨_, rfl⟩
theorem o2_yes (text s first seen pc p hd) : (O2 text s first seen pc p hd (some true)).step = { O2 text s first seen 9 s hd (some true) with frames := [], weight := 0 } := rfl
theorem o2_no (text s first seen pc p hd) : (O2 text s first seen pc p hd (some false)).step = if s < text.size then T2 text (s + 1) false seen else { O2 text s first seen 9 s hd (some false) with frames := [], weight := 0 } := rfl
theorem o2_end (text s first seen hd) (a : Bool) : M.step { O2 text s first seen 9 s hd (some a) with frames := [], weight := 0 } = { O2 text s first seen 9 s hd (some a) with frames := [], weight := 0, outcome := some (if a then .matched else .failed) } := rfl
theorem acc9 (c seen) : accepts c2 9 c seen = .ok (c == 34, seen) := rfl
theorem acc28 (c seen) : accepts c2 28 c seen = .ok (c == 92, seen) := rfl
theorem acc30 (c seen) : accepts c2 30 c seen = .ok (c != 10, seen) := rfl
theorem acc35 (c seen) : accepts c2 35 c seen = .ok (c == 34, seen) := rfl
end Mine
end
section -- YRe5
open PySem PySem.W PySem.Calls PyProof.Rows PyProof.V PySem.Spec
set_option maxRecDepth 100000
namespace Mine
theorem off_YRe5 : True := by w_top off; trivial
open Sre

noncomputable def bodyEnd (text : Array Nat) : Nat → Nat → Nat
  | 0, p => p
  | d + 1, p => if p ≥ text.size then p else if (text.getD p 0 == 34) = true then p else if (text.getD p 0 == 92) = true then
      (if p + 1 ≥ text.size then p else if (text.getD (p + 1) 0 != 10) = true then bodyEnd text d (p + 1 + 1) else p)
    else bodyEnd text d (p + 1)

theorem p2_stop (text s first p cnt seen) (h0 : 0 ≤ cnt) : ∀ alt hd, M.runFor 2 { P2 text s first p cnt seen with pc := alt, pos := p, handed := hd, answer := some false } = M.runFor 1 (O2 text s first seen 35 p p none) := by
  intro alt hd
  rw [run1 _ rfl, p2_no, poss_stop (h0 := h0)]

theorem body2 (text : Array Nat) (s : Nat) (first : Bool) : ∀ (d p : Nat) (cnt : Int) (seen : Sre.Seen), text.size ≤ p + d → 0 ≤ cnt →
    ∃ n, n ≤ 12 * (d + 1) ∧ ∃ seen', M.runFor n (P2 text s first p cnt seen) = O2 text s first seen' 35 (bodyEnd text d p) (bodyEnd text d p) none := by
  intro d
  induction d with
  | zero =>
    intro p cnt seen hs h0
    obtain ⟨s1, e1⟩ := p2_branch text s first p cnt seen
    obtain ⟨s2, e2⟩ := a2_in text s first p cnt s1
    rw [if_pos (by (clear e1 e2 h0; (first | lia | omega)))] at e2
    obtain ⟨s3, e3⟩ := a2_lit text s first p cnt s2
    rw [if_pos (by (clear e1 e2 e3 h0; (first | lia | omega)))] at e3
    refine ⟨6, by (clear e1 e2 e3 h0 hs; (first | lia | omega)), s3, ?_⟩
    rw [run1 _ rfl, e1, run1 _ rfl, e2, run1 _ rfl, a2_no, run1 _ rfl, e3, run1 _ rfl, a2_none, run1 _ rfl, p2_no, poss_stop (h0 := h0), run0]
    rfl
  | succ d ih =>
    intro p cnt seen hs h0
    obtain ⟨s1, e1⟩ := p2_branch text s first p cnt seen
    obtain ⟨s2, e2⟩ := a2_in text s first p cnt s1
    by_cases hp : p ≥ text.size
    · rw [if_pos hp] at e2
      obtain ⟨s3, e3⟩ := a2_lit text s first p cnt s2
      rw [if_pos hp] at e3
      refine ⟨6, by (clear e1 e2 e3 h0 hp hs; (first | lia | omega)), s3, ?_⟩
      rw [run1 _ rfl, e1, run1 _ rfl, e2, run1 _ rfl, a2_no, run1 _ rfl, e3, run1 _ rfl, a2_none, run1 _ rfl, p2_no, poss_stop (h0 := h0), run0]
      unfold bodyEnd
      rw [if_pos hp]
    · rw [if_neg hp] at e2
      obtain ⟨q1, q2, q3, eq⟩ := in2 (text.getD p 0) s2
      by_cases h34 : (text.getD p 0 == 34) = true
      · rw [if_pos h34] at eq
        rw [eq] at e2
        dsimp only at e2
        obtain ⟨s3, e3⟩ := a2_lit text s first p cnt q1
        have h92 : (text.getD p 0 == 92) = false := by
          rw [beq_iff_eq] at h34; rw [h34]; rfl
        rw [if_neg hp, acc28, h92] at e3
        dsimp only at e3
        refine ⟨6, by (clear e1 e2 e3 eq h0 h34 h92 hp hs; (first | lia | omega)), s3, ?_⟩
        rw [run1 _ rfl, e1, run1 _ rfl, e2, run1 _ rfl, a2_no, run1 _ rfl, e3, run1 _ rfl, a2_none, run1 _ rfl, p2_no, poss_stop (h0 := h0), run0]
        unfold bodyEnd
        rw [if_neg hp, if_pos h34]
      · rw [if_neg h34] at eq
        by_cases h92 : (text.getD p 0 == 92) = true
        · rw [if_pos h92] at eq
          rw [eq] at e2
          dsimp only at e2
          obtain ⟨s3, e3⟩ := a2_lit text s first p cnt q2
          rw [if_neg hp, acc28, h92] at e3
          dsimp only at e3
          obtain ⟨s4, e4⟩ := a2_any text s first p cnt s3
          by_cases hp1 : p + 1 ≥ text.size
          · rw [if_pos hp1] at e4
            refine ⟨7, by (clear e1 e2 e3 e4 eq h0 h34 h92 hp hp1 hs; (first | lia | omega)), s4, ?_⟩
            rw [run1 _ rfl, e1, run1 _ rfl, e2, run1 _ rfl, a2_no, run1 _ rfl, e3, run1 _ rfl, e4, run1 _ rfl, a2_none, run1 _ rfl, p2_no, poss_stop (h0 := h0), run0]
            unfold bodyEnd
            rw [if_neg hp, if_neg h34, if_pos h92, if_pos hp1]
          · rw [if_neg hp1, acc30] at e4
            by_cases h10 : (text.getD (p + 1) 0 != 10) = true
            · rw [h10] at e4
              dsimp only at e4
              obtain ⟨s5, e5⟩ := a2_jump' text s first p cnt s4 (p + 1 + 1) p
              obtain ⟨s6, e6⟩ := a2_succ text s first p cnt s5 (p + 1 + 1) p 27
              obtain ⟨n, hn, s7, e7⟩ := ih (p + 1 + 1) (cnt + 1) s6 (by (clear e1 e2 e3 e4 e5 e6 eq h0 h10 h34 h92 hp hp1; (first | lia | omega))) (by (clear e1 e2 e3 e4 e5 e6 eq h10 h34 h92 hp hp1 hs; (first | lia | omega)))
              refine ⟨n + 9, by (clear e1 e2 e3 e4 e5 e6 e7 eq h0 h10 h34 h92 hp hp1 hs; (first | lia | omega)), s7, ?_⟩
              rw [show n + 9 = n + 1 + 1 + 1 + 1 + 1 + 1 + 1 + 1 + 1 from rfl]
              rw [run1 _ rfl, e1, run1 _ rfl, e2, run1 _ rfl, a2_no, run1 _ rfl, e3, run1 _ rfl, e4, run1 _ rfl, e5, run1 _ rfl, e6, run1 _ rfl, a2_yes, run1 _ rfl, p2_yes, poss_go (h0 := by (clear e1 e2 e3 e4 e5 e6 e7 eq h10 h34 h92 hn hp hp1 hs; (first | lia | omega))) (hp := by (clear e1 e2 e3 e4 e5 e6 e7 eq h0 h10 h34 h92 hn hp hp1 hs; (first | lia | omega))), e7]
              have : bodyEnd text (d + 1) p = bodyEnd text d (p + 1 + 1) := by
                conv => lhs; unfold bodyEnd
                rw [if_neg hp, if_neg h34, if_pos h92, if_neg hp1, if_pos h10]
              rw [this]
            · rw [Bool.eq_false_iff.mpr h10] at e4
              dsimp only at e4
              refine ⟨7, by (clear e1 e2 e3 e4 eq h0 h10 h34 h92 hp hp1 hs; (first | lia | omega)), s4, ?_⟩
              rw [run1 _ rfl, e1, run1 _ rfl, e2, run1 _ rfl, a2_no, run1 _ rfl, e3, run1 _ rfl, e4, run1 _ rfl, a2_none, run1 _ rfl, p2_no, poss_stop (h0 := h0), run0]
              unfold bodyEnd
              rw [if_neg hp, if_neg h34, if_pos h92, if_neg hp1, if_neg h10]
        · rw [if_neg h92] at eq
          rw [eq] at e2
          dsimp only at e2
          obtain ⟨s5, e5⟩ := a2_jump text s first p cnt q3 (p + 1) p
          obtain ⟨s6, e6⟩ := a2_succ text s first p cnt s5 (p + 1) p 16
          obtain ⟨n, hn, s7, e7⟩ := ih (p + 1) (cnt + 1) s6 (by (clear e1 e2 e5 e6 eq h0 h34 h92 hp; (first | lia | omega))) (by (clear e1 e2 e5 e6 eq h34 h92 hp hs; (first | lia | omega)))
          refine ⟨n + 6, by (clear e1 e2 e5 e6 e7 eq h0 h34 h92 hp hs; (first | lia | omega)), s7, ?_⟩
          rw [show n + 6 = n + 1 + 1 + 1 + 1 + 1 + 1 from rfl]
          rw [run1 _ rfl, e1, run1 _ rfl, e2, run1 _ rfl, e5, run1 _ rfl, e6, run1 _ rfl, a2_yes, run1 _ rfl, p2_yes, poss_go (h0 := by (clear e1 e2 e5 e6 e7 eq h34 h92 hn hp hs; (first | lia | omega))) (hp := by (clear e1 e2 e5 e6 e7 eq h0 h34 h92 hn hp hs; (first | lia | omega))), e7]
          have : bodyEnd text (d + 1) p = bodyEnd text d (p + 1) := by
            conv => lhs; unfold bodyEnd
            rw [if_neg hp, if_neg h34, if_neg h92]
          rw [this]

/-- where a quoted string that begins at `s` ends -/
noncomputable def quoteAt (text : Array Nat) (s : Nat) : Option Nat :=
  if s ≥ text.size then none else if (text.getD s 0 == 34) = true then
    (if bodyEnd text text.size (s + 1) ≥ text.size then none else if (text.getD (bodyEnd text text.size (s + 1)) 0 == 34) = true then some (bodyEnd text text.size (s + 1) + 1) else none)
  else none

theorem t2_try (text : Array Nat) (s : Nat) (first : Bool) (seen : Sre.Seen) : ∃ n, n ≤ 12 * (text.size + 1) + 12 ∧ match quoteAt text s with
    | none => ∃ seen' pc p hd, M.runFor n (T2 text s first seen) = O2 text s first seen' pc p hd (some false)
    | some e => ∃ seen' pc p, M.runFor n (T2 text s first seen) = O2 text s first seen' pc p e (some true) := by
  obtain ⟨s1, e1⟩ := t2_lit text s first seen
  unfold quoteAt
  by_cases hs : s ≥ text.size
  · rw [if_pos hs] at e1 ⊢
    exact ⟨1, by (clear e1 hs; (first | lia | omega)), s1, 9, s, s, by rw [run1 _ rfl, e1, run0]⟩
  · rw [if_neg hs] at e1 ⊢
    rw [acc9] at e1
    by_cases h34 : (text.getD s 0 == 34) = true
    · rw [if_pos h34]
      rw [h34] at e1
      dsimp only at e1
      obtain ⟨s2, e2⟩ := t2_rep text s first s1
      have e12 : M.runFor 2 (T2 text s first seen) = P2 text s first (s + 1) 0 s2 := by rw [run1 _ rfl, e1, run1 _ rfl, e2, run0]
      obtain ⟨n, hn, s3, e3⟩ := body2 text s first text.size (s + 1) 0 s2 (by (clear e1 e12 e2 h34 hs; (first | lia | omega))) (by (clear e1 e12 e2 h34 hs; (first | lia | omega)))
      obtain ⟨s4, e4⟩ := o2_lit text s first s3 (bodyEnd text text.size (s + 1))
      by_cases hb : bodyEnd text text.size (s + 1) ≥ text.size
      · rw [if_pos hb] at e4 ⊢
        refine ⟨2 + (n + 1), by (clear e1 e12 e2 e3 e4 h34 hb hs; (first | lia | omega)), s4, 35, bodyEnd text text.size (s + 1), bodyEnd text text.size (s + 1), ?_⟩
        rw [runFor_add, e12, runFor_add, e3, run1 _ rfl, e4, run0]
      · rw [if_neg hb] at e4 ⊢
        rw [acc35] at e4
        by_cases hq : (text.getD (bodyEnd text text.size (s + 1)) 0 == 34) = true
        · rw [if_pos hq]
          rw [hq] at e4
          dsimp only at e4
          obtain ⟨s5, e5⟩ := o2_succ text s first s4 (bodyEnd text text.size (s + 1) + 1) (bodyEnd text text.size (s + 1))
          refine ⟨2 + (n + 2), by (clear e1 e12 e2 e3 e4 e5 h34 hb hq hs; (first | lia | omega)), s5, 37, bodyEnd text text.size (s + 1) + 1, ?_⟩
          rw [runFor_add, e12, runFor_add, e3, run1 _ rfl, e4, run1 _ rfl, e5, run0]
        · rw [if_neg hq]
          rw [Bool.eq_false_iff.mpr hq] at e4
          dsimp only at e4
          refine ⟨2 + (n + 1), by (clear e1 e12 e2 e3 e4 h34 hb hq hs; (first | lia | omega)), s4, 35, bodyEnd text text.size (s + 1), bodyEnd text text.size (s + 1), ?_⟩
          rw [runFor_add, e12, runFor_add, e3, run1 _ rfl, e4, run0]
    · rw [if_neg h34]
      rw [Bool.eq_false_iff.mpr h34] at e1
      dsimp only at e1
      exact ⟨1, by (clear e1 h34 hs; (first | lia | omega)), s1, 9, s, s, by rw [run1 _ rfl, e1, run0]⟩

noncomputable def nextQ (text : Array Nat) : Nat → Nat → Option (Nat × Nat)
  | 0, s => (quoteAt text s).map fun e => (s, e)
  | d + 1, s => match quoteAt text s with | some e => some (s, e) | none => nextQ text d (s + 1)

noncomputable def Ends2 (o : Option (Nat × Nat)) (m : M) : Prop := match o with | some (p, e) => m.outcome = some .matched ∧ m.start = p ∧ m.handed = e | none => m.outcome = some .failed

theorem search2 (text : Array Nat) : ∀ (d s : Nat) (first : Bool) (seen : Sre.Seen), s + d = text.size → ∃ n, n ≤ (12 * (text.size + 1) + 14) * (d + 1) ∧ Ends2 (nextQ text d s) (M.runFor n (T2 text s first seen)) := by
  intro d
  induction d with
  | zero =>
    intro s first seen hs
    obtain ⟨n, hn, h⟩ := t2_try text s first seen
    unfold nextQ
    have hq : quoteAt text s = none := by unfold quoteAt; rw [if_pos (by (clear hn; (first | lia | omega)))]
    rw [hq] at h ⊢
    obtain ⟨s1, pc, p, hd, e⟩ := h
    refine ⟨n + 2, by (clear e hq hs; (first | lia | omega)), ?_⟩
    have e2 := o2_no text s first s1 pc p hd
    rw [if_neg (by (clear e e2 hn hq; (first | lia | omega)))] at e2
    rw [runFor_add, e, run1 _ rfl, e2, run1 _ rfl, o2_end, run0]
    rfl
  | succ d ih =>
    intro s first seen hs
    obtain ⟨n, hn, h⟩ := t2_try text s first seen
    unfold nextQ
    cases hq : quoteAt text s with
    | none =>
      rw [hq] at h
      obtain ⟨s1, pc, p, hd, e⟩ := h
      have e2 := o2_no text s first s1 pc p hd
      rw [if_pos (by (clear e e2 hn hq; (first | lia | omega)))] at e2
      obtain ⟨n', hn', h'⟩ := ih (s + 1) false s1 (by (clear e e2 hn hq; (first | lia | omega)))
      refine ⟨n + (n' + 1), ?_, ?_⟩
      · rw [Nat.mul_add]; (clear e e2 hq hs; (first | lia | omega))
      rw [runFor_add, e, run1 _ rfl, e2]
      exact h'
    | some e' =>
      rw [hq] at h
      obtain ⟨s1, pc, p, e⟩ := h
      refine ⟨n + 2, ?_, ?_⟩
      · rw [Nat.mul_add]; (clear e hq hs; (first | lia | omega))
      rw [runFor_add, e, run1 _ rfl, o2_yes, run1 _ rfl, o2_end, run0]
      exact ⟨rfl, rfl, rfl⟩

/-- one search of the second pattern -/
theorem found2 {M₀ : Model} {A : Around} {E : Value → Shared → Prop} {sh : Shared} {Q : Option M → Shared → Prop} {t : Builtin.Re.ReTarget} (hc : t.code = c2) (hg : t.groups = 0) (hl : t.lim = t.text.size) (hz : t.text.size < 2 ^ 20)
    (s : Nat) (hs : s + 2 ≤ t.text.size)
    (kS : ∀ m p e, nextQ t.text (t.text.size - s) s = some (p, e) → m.start = p → m.handed = e → Q (some m) sh)
    (kN : nextQ t.text (t.text.size - s) s = none → Q none sh) :
    wpAny M₀ A (Builtin.Re.reNextFound t s false) Q E sh := by
  have e : ∃ seen, forSearch c2 t.text 0 s t.text.size false = T2 t.text s true seen := by
    refine ⟨({} : Sre.Seen).add 14, ?_⟩
    unfold forSearch
    have h : ¬ (decide (s > t.text.size) || decide (t.text.size - s < (header c2).1)) = true := by
      have : (header c2).1 = 2 := rfl
      rw [this]
      simp
      (clear hc hg hl hz this; (first | lia | omega))
    simp only []
    rw [if_neg h]
    rfl
  obtain ⟨seen, e⟩ := e
  obtain ⟨n, hn, h⟩ := search2 t.text (t.text.size - s) s true seen (by (clear e hc hg hl hz; (first | lia | omega)))
  have hn' : n < 4 * 2 ^ 64 := by
    have h1 : (12 * (t.text.size + 1) + 14) ≤ 2 ^ 30 := by (clear e hc hg hn hs; (first | lia | omega))
    have h2 : (t.text.size - s + 1) ≤ 2 ^ 30 := by (clear e h1 hc hg hn; (first | lia | omega))
    have := Nat.mul_le_mul h1 h2
    (clear e h1 h2 hc hg hl hs hz; (first | lia | omega))
  unfold Builtin.Re.reNextFound
  rw [hc, hg, hl, e]
  cases ho : nextQ t.text (t.text.size - s) s with
  | none =>
    rw [ho] at h
    exact run_failed hn' rfl h (kN ho)
  | some p =>
    rw [ho] at h
    exact run_matched hn' rfl h.1 (kS _ p.1 p.2 ho h.2.1 h.2.2)
/-- too little is left -/
theorem found2_short {M₀ : Model} {A : Around} {E : Value → Shared → Prop} {sh : Shared} {Q : Option M → Shared → Prop} {t : Builtin.Re.ReTarget} (hc : t.code = c2) (hl : t.lim = t.text.size)
    (s : Nat) (hs : ¬ s + 2 ≤ t.text.size) (kN : Q none sh) :
    wpAny M₀ A (Builtin.Re.reNextFound t s false) Q E sh := by
  unfold Builtin.Re.reNextFound forSearch
  have h : (decide (s > t.text.size) || decide (t.text.size - s < (header c2).1)) = true := by
    have : (header c2).1 = 2 := rfl
    rw [this]
    simp
    (clear hc hl this; (first | lia | omega))
  simp only [hc, hl]
  rw [if_pos h]
  exact run_failed (n := 1) (by (clear h hc hl hs; (first | lia | omega))) rfl rfl kN
end Mine
end
section -- YSub1
open PySem PySem.W PySem.Calls PyProof.Rows PyProof.V PySem.Spec
set_option maxRecDepth 100000
namespace Mine
theorem off_YSub1 : True := by w_top off; trivial

noncomputable def indR (sp : List Nat) (text : Array Nat) : Nat → Nat → Bool → List Nat
  | 0, _, _ => []
  | d + 1, p, skip => (if (hitB text p && !skip) = true then sp else []) ++ text.getD p 0 :: indR sp text d (p + 1) false

theorem hitB_lt {text : Array Nat} {p : Nat} (h : p ≤ text.size) (e : hitB text p = true) : p < text.size := by
  unfold hitB at e
  by_cases hp : p = text.size
  · subst hp; simp at e
  · (clear e; (first | lia | omega))
theorem nextHit_none {sp : List Nat} {text : Array Nat} : ∀ (d p : Nat) (skip : Bool), p + d = text.size → nextHit text d p skip = none → indR sp text d p skip = (text.extract p text.size).toList
  | 0, p, skip, h, e => by
    have : p = text.size := by (clear e; (first | lia | omega))
    unfold indR
    subst this
    simp
  | d + 1, p, skip, h, e => by
    unfold nextHit at e
    by_cases hh : (hitB text p && !skip) = true
    · rw [if_pos hh] at e; cases e
    · rw [if_neg hh] at e
      unfold indR
      rw [if_neg hh, nextHit_none d (p + 1) false (by (clear e hh; (first | lia | omega))) e, List.nil_append]
      have hp : p < text.size := by (clear e hh; (first | lia | omega))
      simp only [Array.toList_extract, List.extract_eq_take_drop]
      rw [List.drop_eq_getElem_cons (l := text.toList) (i := p) (by rw [Array.length_toList]; exact hp)]
      rw [show text.size - p = (text.size - (p + 1)) + 1 by (clear e hh; (first | lia | omega)), List.take_succ_cons]
      congr 1
      simp [Array.getD, hp]
theorem nextHit_some {sp : List Nat} {text : Array Nat} : ∀ (d p : Nat) (skip : Bool) (q : Nat), p + d = text.size → nextHit text d p skip = some q →
    p ≤ q ∧ q < text.size ∧ hitB text q = true ∧ (p = q → skip = false) ∧ indR sp text d p skip = (text.extract p q).toList ++ (sp ++ indR sp text (text.size - q) q true)
  | 0, p, skip, q, h, e => by
    unfold nextHit at e
    by_cases hh : (hitB text p && !skip) = true
    · have := hitB_lt (text := text) (p := p) (by (clear e hh; (first | lia | omega))) (by revert hh; cases hitB text p <;> simp)
      (clear e hh; (first | lia | omega))
    · rw [if_neg hh] at e; cases e
  | d + 1, p, skip, q, h, e => by
    unfold nextHit at e
    by_cases hh : (hitB text p && !skip) = true
    · rw [if_pos hh] at e
      cases e
      have hs : skip = false := by revert hh; cases skip <;> simp
      have hb : hitB text p = true := by revert hh; cases hitB text p <;> simp
      refine ⟨Nat.le_refl _, by (clear hb hh hs; (first | lia | omega)), hb, fun _ => hs, ?_⟩
      rw [show text.size - p = d + 1 by (clear hb hh hs; (first | lia | omega))]
      unfold indR
      rw [if_pos hh, if_neg (by simp)]
      simp
    · rw [if_neg hh] at e
      obtain ⟨h1, h2, h3, h4, h5⟩ := nextHit_some (sp := sp) d (p + 1) false q (by (clear e hh; (first | lia | omega))) e
      refine ⟨by (clear e h2 h3 h5 hh; (first | lia | omega)), h2, h3, fun x => by (clear e h2 h3 h5 hh; (first | lia | omega)), ?_⟩
      conv => lhs; unfold indR
      rw [if_neg hh, h5, List.nil_append, ← List.cons_append]
      congr 1
      have hp : p < text.size := by (clear e h3 h5 hh; (first | lia | omega))
      simp only [Array.toList_extract, List.extract_eq_take_drop]
      rw [List.drop_eq_getElem_cons (l := text.toList) (i := p) (by rw [Array.length_toList]; exact hp)]
      rw [show q - p = (q - (p + 1)) + 1 by (clear e h2 h3 h5 hh hp; (first | lia | omega)), List.take_succ_cons]
      congr 1
      simp [Array.getD, hp]
theorem indR_skip_len {sp : List Nat} {text : Array Nat} : ∀ (d p : Nat) (skip : Bool), (indR sp text d p skip).length ≤ d * (sp.length + 1)
  | 0, _, _ => by simp [indR]
  | d + 1, p, skip => by
    have := indR_skip_len (sp := sp) (text := text) d (p + 1) false
    unfold indR
    rw [List.length_append, List.length_cons, Nat.add_mul, Nat.one_mul]
    split <;> simp <;> (first | lia | omega)
end Mine
end
section -- YSub2
open PySem PySem.W PySem.Calls PyProof.Rows PyProof.V PySem.Spec
set_option maxRecDepth 100000
namespace Mine
theorem off_YSub2 : True := by w_top off; trivial
open Builtin.Re
section
variable {M₀ : Model} {A : Around} {E : Value → Shared → Prop} {s : Shared}
noncomputable def intsOf (l : List Nat) : Array Value := (l.map fun (n : Nat) => Value.int (n : Int) 0).toArray
theorem ints_code (l : List Nat) : ((intsOf l).map reRawOf).map (·.toNat) = l.toArray := by
  unfold intsOf
  simp only [List.map_toArray, List.map_map]
  congr 1
  conv => rhs; rw [← List.map_id l]
  refine List.map_congr_left fun n _ => rfl
noncomputable abbrev patObj (fs : Array Value) : Obj := { cls := .type "re.Pattern", data := .fields fs }

theorem whole_str {Q : ReTarget → Shared → Prop} {pa ca : Addr} {fs : Array Value} {x : Str} {t t2 t6 : Tok} {cl : Value} {l : List Nat} {n : Nat} (hp : s.heap.get? pa = some (patObj fs)) (f2 : fs.getD 2 .none = .int 0 t2) (f5 : fs.getD 5 .none = .ref ca) (f6 : fs.getD 6 .none = .int 0 t6)
    (hc : s.heap.get? ca = some { cls := cl, data := .seq (intsOf l) n })
    (h : Q { pattern := .ref pa, string := .str x t, code := l.toArray, text := x.cps, kind := 0, groups := 0, pos := 0, lim := x.cps.size } s) :
    wpAny M₀ A (reWholeTarget (.ref pa) (.str x t)) Q E s := by
  unfold reWholeTarget fieldsOf
  refine wpAny_bind (wpAny_bind (wpAny_load hp ?_))
  refine wpAny_pure ?_
  unfold reTextOf
  refine wpAny_bind (wpAny_bind (wpAny_pure ?_))
  refine wpAny_pure ?_
  dsimp only
  rw [f6]
  show wpAny M₀ A (reNoCollectionInside (.str x t) 0 >>= _) Q E s
  refine wpAny_bind ?_
  unfold reNoCollectionInside
  rw [if_neg (by decide)]
  refine wpAny_pure ?_
  rw [f5]
  unfold reRawItems
  refine wpAny_bind (wpAny_bind (wpAny_seqItems hc rfl (wpAny_pure ?_)))
  refine wpAny_pure ?_
  dsimp only [Option.getD_some]
  rw [ints_code, f2]
  exact h
end
end Mine
end
section -- YSub3
open PySem PySem.W PySem.Calls PyProof.Rows PyProof.V PySem.Spec
set_option maxRecDepth 100000
namespace Mine
theorem off_YSub3 : True := by w_top off; trivial
open Builtin.Re
theorem entry_sub_loop : entryFor table "re.Pattern.sub.loop" = some Builtin.«re.Pattern.sub.loop» := entryFor_of_tree (by kernel_rfl)
section
variable {prog : Program} {w : World} {A : Around} {s : Shared}
theorem codeAny_bi {id : String} {args : Args} {b : Builtin} {R : Result → Shared → Prop} (hb : entryFor table id = some b)
    (h : wpAny (model prog w) (A.under (.builtin id args)) (b args) (fun fin s' => match fin with | .done f => R (.ok f) s' | .again c' => c'.quiet = true ∧ codeAny (model prog w) A c' R s') (fun e s' => R (.error e) s') s) :
    codeAny (model prog w) A (.builtin id args) R s := by
  refine codeAny_of_tree ?_
  have hden : (model prog w).den (.builtin id args) = b args := by
    show (match entryFor table id with | some b => b args | none => unsupported ((withoutEnding? id "#data").getD id)) = _
    rw [hb]
  rw [hden]
  exact h

noncomputable def loopArgs (pa : Addr) (xv r : Value) (n : Int) (p : Nat) (must : Bool) (l : Addr) : Args :=
  ⟨[.ref pa, xv, r, rawInt 0, rawInt 0, rawInt n, rawInt p, rawInt p, .bool must, .ref l, .bool false], []⟩
noncomputable abbrev listObj (its : Array Value) (n : Nat) : Obj := { cls := .type "list", data := .seq its n }
noncomputable def cpsAll (l : List (Str × Tok)) : List Nat := (l.map fun x => x.1.cps.toList).flatten
theorem join_fold : ∀ (l : List Str) (a : Array Nat), l.foldl (fun acc p => acc ++ (#[] : Array Nat) ++ p.cps) a = (a.toList ++ (l.map fun x => x.cps.toList).flatten).toArray
  | [], a => by simp
  | x :: l, a => by rw [List.foldl_cons, join_fold l]; simp
theorem join_empty (l : List Str) : Txt.join ⟨#[]⟩ l = ⟨((l.map fun x => x.cps.toList).flatten).toArray⟩ := by
  unfold Txt.join Builtin.Str.glued
  congr 1
  cases l with
  | nil => rfl
  | cons x l => rw [List.drop_one, List.tail_cons, List.headD_cons]; exact (join_fold l x.cps).trans (by simp)
theorem push_strs (l : List (Str × Tok)) (x : Str) (t : Tok) : (strValues l).toArray.push (.str x t) = (strValues (l ++ [(x, t)])).toArray := by
  unfold strValues; simp
theorem cpsAll_push (l : List (Str × Tok)) (x : Str) (t : Tok) : cpsAll (l ++ [(x, t)]) = cpsAll l ++ x.cps.toList := by
  unfold cpsAll; simp
theorem cpsAll_len (l : List (Str × Tok)) : (((l.map (·.1)).map (·.length)).sum) = (cpsAll l).length := by
  unfold cpsAll; induction l with
  | nil => rfl
  | cons x l ih => simp only [List.map_cons, List.sum_cons, List.flatten_cons, List.length_append, ih]; rfl

theorem list_push {h : Heap} {L : Addr} {its : Array Value} {m : Nat} {v : Value} (e : h.get? L = some (listObj its m)) :
    ∃ m', (h.update L (·.mapSeq (·.push v))).get? L = some (listObj (its.push v) m') := by
  refine ⟨m + 1, (Heap.get?_update_self _ e rfl).trans ?_⟩
  simp [Obj.mapSeq]
end
end Mine
end
section -- YSub4
open PySem PySem.W PySem.Calls PyProof.Rows PyProof.V PySem.Spec
set_option maxRecDepth 100000
namespace Mine
theorem off_YSub4 : True := by w_top off; trivial
open Builtin.Re
section
variable {prog : Program} {w : World}

theorem sv_size (l : List (Str × Tok)) : (strValues l).toArray.size = l.length := by simp [strValues]
theorem sub1_loop {A : Around} {R : Result → Shared → Prop} {pa ca L : Addr} {fs : Array Value} {x y : Str} {t t2 t6 ty : Tok} {cl : Value} {nc : Nat}
    (f2 : fs.getD 2 .none = .int 0 t2) (f5 : fs.getD 5 .none = .ref ca) (f6 : fs.getD 6 .none = .int 0 t6) (hpL : pa ≠ L) (hcL : ca ≠ L) (hz : x.cps.size ≤ 100000) :
    ∀ (k p : Nat) (must : Bool) (n : Int) (its : List (Str × Tok)) (m : Nat) (s : Shared),
      2 * (x.cps.size - p) + (if must then 0 else 1) < k → p ≤ x.cps.size →
      s.heap.get? pa = some (patObj fs) → s.heap.get? ca = some { cls := cl, data := .seq (intsOf c1.toList) nc } → s.heap.get? L = some (listObj (strValues its).toArray m) →
      its.length + 2 * (x.cps.size - p) + (if must then 0 else 2) ≤ 2 * x.cps.size + 4 →
      (cpsAll its).length + (indR y.cps.toList x.cps (x.cps.size - p) p must).length ≤ 800000 →
      (∀ h' t' tk, Heap.SameBut L s.heap h' → R (.ok (.ret (.str ⟨(cpsAll its ++ indR y.cps.toList x.cps (x.cps.size - p) p must).toArray⟩ t'))) { s with heap := h', toks := tk }) →
      codeAny (model prog w) A (.builtin "re.Pattern.sub.loop" (loopArgs pa (.str x t) (.str y ty) n p must L)) R s
  | 0, p, must, n, its, m, s, hk, hp, h1, h2, h3, hb, hl, h => absurd hk (Nat.not_lt_zero _)
  | k + 1, p, must, n, its, m, s, hk, hp, h1, h2, h3, hb, hl, h => by
    refine codeAny_bi entry_sub_loop ?_
    unfold Builtin.«re.Pattern.sub.loop» loopArgs rawInt
    dsimp only
    refine wpAny_bind (whole_str h1 f2 f5 f6 h2 ?_)
    dsimp only
    rw [if_pos (by decide)]
    unfold reLiteralCannotBeTurned
    refine wpAny_bind (wpAny_bind (wpAny_pure ?_))
    rw [if_neg (by simp)]
    refine wpAny_pure ?_
    rw [if_neg (by simp)]
    refine wpAny_bind ?_
    refine found1 rfl rfl rfl (by dsimp only; (clear f2 f5 f6 h1 h2 h3 hb hcL hk hl hp hpL; (first | lia | omega))) p must hp (fun mm q hn hq1 hq2 => ?_) (fun hn => ?_)
    · dsimp only at hn ⊢
      obtain ⟨g1, g2, g3, g4, g5⟩ := nextHit_some (sp := y.cps.toList) (x.cps.size - p) p must q (by (clear f2 f5 f6 h1 h2 h3 hb hcL hk hl hn hpL hq1 hq2 hz; (first | lia | omega))) hn
      rw [hq1, hq2]
      have h10 : x.cps.size - q ≤ x.cps.size - p := by (clear f2 f5 f6 g3 g5 h1 h2 h3 hb hcL hk hl hn hpL hq1 hz; (first | lia | omega))
      have tail : ∀ (its' : List (Str × Tok)) (m' : Nat) (s' : Shared), its'.length ≤ its.length + (if p < q then 1 else 0) → cpsAll its' = cpsAll its ++ (x.cps.extract p q).toList → Heap.SameBut L s.heap s'.heap → (∃ h' tk, s' = { s with heap := h', toks := tk }) → s'.heap.get? L = some (listObj (strValues its').toArray m') →
          wpAny (model prog w) (A.under (Code.builtin "re.Pattern.sub.loop" (loopArgs pa (.str x t) (.str y ty) n p must L))) (updateSeq L fun x => x.push (Value.str y ty)) (fun _ s'' => codeAny (model prog w) A (.builtin "re.Pattern.sub.loop" (loopArgs pa (.str x t) (.str y ty) (n + 1) q true L)) R s'') (fun e s' => R (Except.error e) s') s' := by
        intro its' m' s' hlen hcp hsb hs' hL
        obtain ⟨h', tk, rfl⟩ := hs'
        have hln : its'.length ≤ 200010 := by split at hlen <;> (clear f2 f5 f6 g1 g2 g3 g5 h1 h2 h3 hL hcL hcp hk hl hn hp hpL hq1 hq2; (first | lia | omega))
        refine wpAny_updateSeq hL rfl ?_ (by rw [sv_size]; have := sizeLine_eq; (clear f2 f5 f6 g1 g2 g3 g5 h1 h10 h2 h3 hL hb hcL hcp hk hl hlen hn hp hpL hq1 hq2 hz; (first | lia | omega))) (by rw [Array.size_push, sv_size]; have := sizeLine_eq; (clear f2 f5 f6 g1 g2 g3 g5 h1 h10 h2 h3 hL hb hcL hcp hk hl hlen hn hp hpL hq1 hq2 hz; (first | lia | omega)))
        obtain ⟨m2, e2⟩ := list_push (v := .str y ty) hL
        rw [push_strs] at e2
        have hsb2 : Heap.SameBut L s.heap (h'.update L (Obj.mapSeq fun x => x.push (Value.str y ty))) := hsb.trans (Heap.SameBut.update ..)
        refine sub1_loop f2 f5 f6 hpL hcL hz k q true (n + 1) _ m2 _ ?_ (Nat.le_of_lt g2) ((hsb2.2 _ hpL).trans h1) ((hsb2.2 _ hcL).trans h2) e2 ?_ ?_ ?_
        · simp only [if_pos]
          by_cases hpq : p = q
          · have := g4 hpq
            subst this
            simp only [Bool.false_eq_true, if_false] at hk
            (clear e2 f2 f5 f6 g1 g2 g3 g5 h1 h2 h3 hL hb hcL hcp hl hlen hln hn hp hpL hpq hq1 hq2 hz; (first | lia | omega))
          · split at hk <;> (clear e2 f2 f5 f6 g3 g5 h1 h2 h3 hL hb hcL hcp hl hlen hln hn hpL hq1 hz; (first | lia | omega))
        · rw [List.length_append, List.length_singleton]
          simp only [if_pos]
          by_cases hpq : p = q
          · have := g4 hpq
            subst this
            rw [if_neg (by (clear e2 f2 f5 f6 g1 g2 g3 g5 h1 h10 h2 h3 hL hb hcL hcp hk hl hlen hln hn hp hpL hq1 hz; (first | lia | omega)))] at hlen
            simp only [Bool.false_eq_true, if_false] at hb
            (clear e2 f2 f5 f6 g1 g2 g3 g5 h1 h2 h3 hL hcL hcp hk hl hln hn hp hpL hpq hq1 hq2 hz; (first | lia | omega))
          · rw [if_pos (by (clear e2 f2 f5 f6 g2 g3 g5 h1 h10 h2 h3 hL hb hcL hcp hk hl hlen hln hn hp hpL hq1 hz; (first | lia | omega)))] at hlen
            split at hb <;> (clear e2 f2 f5 f6 g3 g5 h1 h2 h3 hL hcL hcp hk hl hln hn hpL hq1 hz; (first | lia | omega))
        · rw [cpsAll_push, hcp]
          rw [g5] at hl
          simp only [List.length_append] at hl ⊢
          (clear e2 f2 f5 f6 g1 g2 g3 g5 h1 h10 h2 h3 hL hb hcL hcp hk hlen hln hn hp hpL hq1 hq2 hz; (first | lia | omega))
        · intro h'' t' tk' hsb3
          have := h h'' t' tk' (hsb2.trans hsb3)
          rw [g5] at this
          rw [cpsAll_push, hcp]
          simpa only [List.append_assoc] using this
      by_cases hpq : p < q
      · rw [if_pos (by rw [Int.toNat_natCast]; exact hpq)]
        refine wpAny_bind ?_
        unfold reSlice
        rw [if_pos (by decide)]
        refine wpAny_mkStr ?_ (by show (x.cps.extract _ q).size ≤ _; rw [Array.size_extract]; have := sizeLine_eq; (clear f2 f5 f6 g1 g3 g5 h1 h10 h2 h3 hb hcL hk hl hn hp hpL hpq hq1; (first | lia | omega)))
        refine wpAny_bind (wpAny_updateSeq h3 rfl ?_ (by rw [sv_size]; have := sizeLine_eq; (clear f2 f5 f6 g1 g2 g3 g5 h1 h2 h3 hcL hk hl hn hp hpL hpq hq1 hq2; (first | lia | omega))) (by rw [Array.size_push, sv_size]; have := sizeLine_eq; (clear f2 f5 f6 g1 g2 g3 g5 h1 h2 h3 hcL hk hl hn hp hpL hpq hq1 hq2; (first | lia | omega))))
        rw [if_pos (by decide)]
        refine wpAny_bind (wpAny_pure ?_)
        rw [if_pos (show (Value.str y ty != Value.none) = true from rfl)]
        obtain ⟨m2, e2⟩ := list_push (v := .str ⟨x.cps.extract (Int.toNat ↑p) q⟩ s.toks) h3
        rw [push_strs] at e2
        refine wpAny_bind (wpAny_mono (tail _ m2 _ ?_ ?_ (Heap.SameBut.update ..) ⟨_, _, rfl⟩ e2) (fun _ s' h' => ?_) fun _ _ x => x)
        · rw [if_pos hpq]; simp
        · rw [cpsAll_push, Int.toNat_natCast]
        · rw [show (q == q) = true from beq_self_eq_true q]
          exact wpAny_pure ⟨Code.quiet_builtin _ (by decide +kernel), h'⟩
      · rw [if_neg (by rw [Int.toNat_natCast]; exact hpq)]
        rw [if_pos (by decide)]
        refine wpAny_bind (wpAny_pure ?_)
        rw [if_pos (show (Value.str y ty != Value.none) = true from rfl)]
        refine wpAny_bind (wpAny_mono (tail its m _ ?_ ?_ (Heap.SameBut.refl ..) ⟨_, _, rfl⟩ h3) (fun _ s' h' => ?_) fun _ _ x => x)
        · (clear f2 f5 f6 g1 g2 g3 g5 h1 h10 h2 h3 hb hcL hk hl hn hp hpL hpq hq1 hq2 hz; (first | lia | omega))
        · have : p = q := by (clear f2 f5 f6 g2 g3 g5 h1 h10 h2 h3 hb hcL hk hl hn hp hpL hq1 hz; (first | lia | omega))
          subst this
          simp
        · rw [show (q == q) = true from beq_self_eq_true q]
          exact wpAny_pure ⟨Code.quiet_builtin _ (by decide +kernel), h'⟩
    · dsimp only at hn ⊢
      have e := nextHit_none (sp := y.cps.toList) (x.cps.size - p) p must (by (clear f2 f5 f6 h1 h2 h3 hb hcL hk hl hn hpL hz; (first | lia | omega))) hn
      have tail : ∀ (its' : List (Str × Tok)) (m' : Nat) (s' : Shared), its'.length ≤ its.length + (if p < x.cps.size then 1 else 0) → cpsAll its' = cpsAll its ++ (x.cps.extract p x.cps.size).toList → Heap.SameBut L s.heap s'.heap → (∃ h' tk, s' = { s with heap := h', toks := tk }) → s'.heap.get? L = some (listObj (strValues its').toArray m') →
          wpAny (model prog w) (A.under (Code.builtin "re.Pattern.sub.loop" (loopArgs pa (.str x t) (.str y ty) n p must L))) (do
            let joiner ← reSlice x.cps 0 0 0
            let __do_lift ← seqItems? (Value.ref L)
            if (__do_lift.getD #[]).isEmpty = true then do
                let text ← pure joiner
                if false = true then do
                    let __do_lift ←
                      holding [text] do
                          let __do_lift ← mkInt n
                          newTuple [text, __do_lift]
                    ret __do_lift
                  else ret text
              else do
                let text ← call (Value.builtin (if (0 == 0) = true then "str.join" else "bytes.join")) [joiner, Value.ref L]
                if false = true then do
                    let __do_lift ←
                      holding [text] do
                          let __do_lift ← mkInt n
                          newTuple [text, __do_lift]
                    ret __do_lift
                  else ret text) (fun fin s' => match fin with
              | Fin.done f => R (Except.ok f) s'
              | Fin.again c' => c'.quiet = true ∧ codeAny (model prog w) A c' R s') (fun e s' => R (Except.error e) s') s' := by
        intro its' m' s' hlen hcp hsb hs' hL
        obtain ⟨h', tk, rfl⟩ := hs'
        have hln : its'.length ≤ 200010 := by split at hlen <;> (clear e f2 f5 f6 h1 h2 h3 hL hcL hcp hk hl hn hpL; (first | lia | omega))
        unfold reSlice
        rw [if_pos (by decide)]
        refine wpAny_bind (wpAny_mkStr ?_ (by show (x.cps.extract 0 0).size ≤ _; rw [Array.size_extract]; have := sizeLine_eq; (clear e f2 f5 f6 h1 h2 h3 hL hb hcL hcp hk hl hlen hln hn hp hpL; (first | lia | omega))))
        refine wpAny_bind (wpAny_seqItems hL rfl ?_)
        dsimp only [Option.getD_some]
        have hout : (⟨(cpsAll its').toArray⟩ : Str) = ⟨(cpsAll its ++ indR y.cps.toList x.cps (x.cps.size - p) p must).toArray⟩ := by rw [e, hcp]
        cases its' with
        | nil =>
          rw [if_pos (show (strValues []).toArray.isEmpty = true from rfl)]
          refine wpAny_bind (wpAny_pure ?_)
          rw [if_neg (by decide)]
          have h0 : (⟨x.cps.extract 0 0⟩ : Str) = ⟨(cpsAll []).toArray⟩ := by simp [cpsAll]
          rw [h0, hout]
          exact wpAny_pure (h h' _ _ hsb)
        | cons a b =>
          rw [if_neg (by simp [strValues])]
          rw [if_pos (by decide)]
          have h0 : (⟨x.cps.extract 0 0⟩ : Str) = ⟨#[]⟩ := by simp
          rw [h0]
          refine wpAny_bind (SC.join (texts := (a :: b).map (·.1)) ⟨_, hL, rfl, _, rfl⟩ rfl (joinOk_of_weight ?_ (by decide)) (fun t' k' => ?_))
          · rw [cpsAll_len, List.length_map, hcp]
            rw [e] at hl
            simp only [List.length_append] at hl ⊢
            (clear e f2 f5 f6 h0 h1 h2 h3 hL hb hcL hcp hk hlen hn hout hp hpL hz; (first | lia | omega))
          · rw [if_neg (by decide), join_empty, List.map_map]
            show wpAny _ _ (ret (Value.str ⟨(cpsAll (a :: b)).toArray⟩ t')) _ _ _
            rw [hout]
            exact wpAny_pure (h h' _ _ hsb)
      by_cases hpq : p < x.cps.size
      · rw [if_pos (by rw [Int.toNat_natCast]; exact hpq)]
        refine wpAny_bind ?_
        unfold reSlice
        rw [if_pos (by decide)]
        refine wpAny_mkStr ?_ (by show (x.cps.extract _ _).size ≤ _; rw [Array.size_extract]; have := sizeLine_eq; (clear e f2 f5 f6 h1 h2 h3 hb hcL hk hl hn hp hpL; (first | lia | omega)))
        refine wpAny_bind (wpAny_updateSeq h3 rfl ?_ (by rw [sv_size]; have := sizeLine_eq; (clear e f2 f5 f6 h1 h2 h3 hcL hk hl hn hp hpL hpq; (first | lia | omega))) (by rw [Array.size_push, sv_size]; have := sizeLine_eq; (clear e f2 f5 f6 h1 h2 h3 hcL hk hl hn hp hpL hpq; (first | lia | omega))))
        obtain ⟨m2, e2⟩ := list_push (v := .str ⟨x.cps.extract (Int.toNat ↑p) x.cps.size⟩ s.toks) h3
        rw [push_strs] at e2
        refine tail _ m2 _ ?_ ?_ (Heap.SameBut.update ..) ⟨_, _, rfl⟩ e2
        · rw [if_pos hpq]; simp
        · rw [cpsAll_push, Int.toNat_natCast]
      · rw [if_neg (by rw [Int.toNat_natCast]; exact hpq)]
        refine tail its m _ (by (clear e f2 f5 f6 h1 h2 h3 hb hcL hk hl hn hp hpL hpq hz; (first | lia | omega))) ?_ (Heap.SameBut.refl ..) ⟨_, _, rfl⟩ h3
        have : p = x.cps.size := by (clear e f2 f5 f6 h1 h2 h3 hb hcL hk hl hn hpL hz; (first | lia | omega))
        subst this
        simp
end
end Mine
end
section -- YSub5
open PySem PySem.W PySem.Calls PyProof.Rows PyProof.V PySem.Spec
set_option maxRecDepth 100000
namespace Mine
theorem off_YSub5 : True := by w_top off; trivial
open Builtin.Re
theorem slot_sub : Slot "re.Pattern" "sub" "re.Pattern.sub" :=
  .of (owner := "re.Pattern") (n := "sub") (by rw [typeLookup_type, builtinLookup_eq_fast]; kernel_rfl) (by decide +kernel) (by decide +kernel) (by decide +kernel)
    (by first | exact .inl (by decide +kernel) | exact .inr (by decide +kernel)) (by rw [isSubtype_type]; kernel_rfl)
theorem type_sub : typeOf (.builtin "re.Pattern.sub") = pure (.type "method_descriptor") := by show builtinType _ = _; rw [builtinType_eq_fast]; kernel_rfl
theorem entry_sub : entryFor table "re.Pattern.sub" = some Builtin.«re.Pattern.sub» := entryFor_of_tree (by kernel_rfl)
theorem pat_ga : typeLookup (.type "re.Pattern") "__getattribute__" = pure (some (.builtin "object.__getattribute__")) := by rw [typeLookup_type, builtinLookup_eq_fast]; kernel_rfl
theorem pat_gx : typeLookup (.type "re.Pattern") "__getattr__" = pure none := by rw [typeLookup_type, builtinLookup_eq_fast]; kernel_rfl
theorem str_call : typeLookup (.type "str") "__call__" = pure none := by rw [typeLookup_type, builtinLookup_eq_fast]; kernel_rfl
theorem bytes_call : typeLookup (.type "bytes") "__call__" = pure none := by rw [typeLookup_type, builtinLookup_eq_fast]; kernel_rfl
theorem named_sub (a b : Value) : reNamed "re.Pattern.sub" "sub" ["repl", "string", "count"] 2 [a, b] [] = pure [some a, some b, none] := by kernel_rfl
theorem args_sub (a b c : Value) : argsOk "re.Pattern.sub" ⟨[a, b, c], []⟩ := by
  unfold argsOk; kernel_rfl
section
variable {prog : Program} {w : World} {A : Around} {E : Value → Shared → Prop} {s : Shared} {Q : Value → Shared → Prop}
theorem method_pat {pa : Addr} {fs : Array Value} {pl : Sem Bool} {Q : Value × List Value → Shared → Prop} (hp : s.heap.get? pa = some (patObj fs)) (h : Q (.builtin "re.Pattern.sub", [.ref pa]) s) :
    wpAny (model prog w) A (getMethod (.ref pa) "sub" pl) Q E s := by
  have hT : s.TypeIs (.ref pa) "re.Pattern" := ⟨_, hp, rfl⟩
  unfold getMethod
  refine wpAny_bind (wpAny_specialOf hT pat_ga ?_)
  dsimp only
  rw [if_neg (by decide +kernel)]
  refine wpAny_bind (wpAny_specialOf hT pat_gx ?_)
  refine wpAny_bind (wpAny_specialOf hT slot_sub.lookup ?_)
  refine wpAny_bind ?_
  rw [type_sub]
  refine wpAny_pure ?_
  rw [if_neg (by decide +kernel)]
  refine wpAny_bind (wpAny_loadPart hp ?_)
  exact wpAny_bind (wpAny_rule (wpAny_pure h))

theorem call_sub1 {pa ca : Addr} {fs : Array Value} {x y : Str} {t t2 t6 ty : Tok} {cl : Value} {nc : Nat}
    (f2 : fs.getD 2 .none = .int 0 t2) (f5 : fs.getD 5 .none = .ref ca) (f6 : fs.getD 6 .none = .int 0 t6) (hz : x.cps.size ≤ 100000)
    (h1 : s.heap.get? pa = some (patObj fs)) (h2 : s.heap.get? ca = some { cls := cl, data := .seq (intsOf c1.toList) nc })
    (hy : y.cps.contains 92 = false) (hl : (indR y.cps.toList x.cps x.cps.size 0 false).length ≤ 800000)
    (h : ∀ h' t' tk, (∀ b o, s.heap.get? b = some o → h'.get? b = some o) → s.heap.objs.size ≤ h'.objs.size → Q (.str ⟨(indR y.cps.toList x.cps x.cps.size 0 false).toArray⟩ t') { s with heap := h', toks := tk }) :
    wpAny (model prog w) A (call (.builtin "re.Pattern.sub") [.ref pa, .str y ty, .str x t]) Q E s := by
  refine wpAny_call (codeAny_call_builtin slot_sub.plain entry_sub (slot_sub.check _ _ _ _ _ _ _ _ ⟨_, h1, rfl⟩ (args_sub _ _ _) ?_))
  unfold Builtin.«re.Pattern.sub» reSubstitute
  dsimp only
  rw [named_sub]
  refine wpAny_bind (wpAny_pure ?_)
  dsimp only
  refine wpAny_bind (wpAny_pure ?_)
  refine wpAny_bind (wpAny_specialOf_val rfl str_call ?_)
  dsimp only [Option.isSome]
  rw [if_neg (by decide)]
  refine wpAny_bind ?_
  refine wpAny_pure ?_
  dsimp only
  refine wpAny_bind (wpAny_pure ?_)
  rw [if_neg (by decide), hy, if_pos (by decide)]
  refine wpAny_bind (wpAny_pure ?_)
  dsimp only
  refine wpAny_bind (wpAny_holding (whole_str h1 f2 f5 f6 h2 ?_))
  rw [if_neg (by decide)]
  refine wpAny_bind (wpAny_newList ?_ (by decide))
  refine wpAny_pure ⟨Code.quiet_builtin _ (by decide +kernel), ?_⟩
  have k0 : ∀ b o, s.heap.get? b = some o → (s.heap.push (listObj (strValues []).toArray 0)).get? b = some o := fun b o e => (Heap.get?_push_ne _ _ _ (Nat.ne_of_lt (Heap.lt_size e))).trans e
  refine sub1_loop f2 f5 f6 (Nat.ne_of_lt (Heap.lt_size h1)) (Nat.ne_of_lt (Heap.lt_size h2)) hz (2 * x.cps.size + 3) 0 false 0 [] 0 _ (by simp) (Nat.zero_le _) (k0 _ _ h1) (k0 _ _ h2) (Heap.get?_push_size _ rfl) (by simp) (by simpa [cpsAll] using hl) ?_
  intro h' t' tk hsb
  refine h h' t' tk (fun b o e => (hsb.2 _ (Nat.ne_of_lt (Heap.lt_size e))).trans (k0 b o e)) ?_
  have e1 : h'.objs.size = (s.heap.push (listObj (strValues []).toArray 0)).objs.size := hsb.1
  have e2 := Heap.size_push s.heap (listObj (strValues []).toArray 0)
  (clear f2 f5 f6 h1 h2 hl hy hz; (first | lia | omega))
end
end Mine
end
section -- YInd
open PySem PySem.W PySem.Calls PyProof.Rows PyProof.V PySem.Spec
set_option maxRecDepth 100000
set_option maxHeartbeats 8000000
namespace Mine
theorem off_YInd : True := by w_top off; trivial
theorem tab_YInd {M : PySem.Model} {A : PySem.Around} {E Q : PySem.Value → PySem.Shared → Prop} {s : PySem.Shared} (h : PySem.wpAny M A (PySem.call .none []) Q E s) : PySem.wpAny M A (PySem.call .none []) Q E s := by first | (walk1; fail) | exact h
variable {prog : Program} {w : World} {p : Program} {loose : List Str} {mean : ExcName → Option Value} {mg mb : Str → Option Value}
noncomputable def indOf (wd : Nat) (text : List Nat) : List Nat := indR (List.replicate wd 32) text.toArray text.length 0 false
structure Pat1 (h : Heap) (pa ca : Addr) (kind : Int) (l : List Nat) : Prop where
  mk' ::
  ex : ∃ fs cl n, h.get? pa = some (patObj fs) ∧ fs.getD 2 .none = .int 0 0 ∧ fs.getD 5 .none = .ref ca ∧ fs.getD 6 .none = .int kind 0 ∧ h.get? ca = some { cls := cl, data := .seq (intsOf l) n }
theorem pat1 {P : Params} {h : Heap} (X : (hd.heap_1 P).In h) : Pat1 h 43 42 0 c1.toList := by
  have e1 := X _ _ (by k_is : (hd.heap_1 P).lookup 43 = some (patObj _))
  have e2 := X _ _ (by k_is : (hd.heap_1 P).lookup 42 = some _)
  exact ⟨_, _, _, e1, rfl, rfl, rfl, e2⟩
theorem pat2 {P : Params} {h : Heap} (X : (hd.heap_1 P).In h) : Pat1 h 140 139 1 c2.toList := by
  have e1 := X _ _ (by k_is : (hd.heap_1 P).lookup 140 = some (patObj _))
  have e2 := X _ _ (by k_is : (hd.heap_1 P).lookup 139 = some _)
  exact ⟨_, _, _, e1, rfl, rfl, rfl, e2⟩
theorem mul_int_str {A : Around} {E : Value → Shared → Prop} {s : Shared} {x : Str} {n : Int} {t u : Tok} {Q : Value → Shared → Prop} (hr : (decide (n < -(2 ^ 63 : Int)) || decide (n ≥ 2 ^ 63)) = false)
    (hb : ¬ n < 1 → (n == 1 || x.length == 0) = false → ¬ ((x.length : Int) > (2 ^ 63 - 1) / n)) (hl : ¬ n < 1 → (n == 1 || x.length == 0) = false → Builtin.Str.tooLong (x.length * n.toNat) = false)
    (h : (if n < 1 then Made.str Str.empty else if (n == 1 || x.length == 0) = true then Made.val (.str x t) else Made.str ⟨(List.replicate n.toNat x.cps).foldl (· ++ ·) #[]⟩).post Q s) :
    wpAny (model prog w) A (binaryOp .Mult (.int n u) (.str x t)) Q E s :=
  lm_binaryOp_repeat_right (T := "str") (U := "int") (by decide) (fun s' => typeIs_int s' n u) (typeIs_str s x t) F.fills_int_mul noFill_str_mul F.slot_int_mul lm_noRepeat_int repeat_str F.slot_int_index.lookup
    (call_gives F.slot_int_mul (typeIs_int s n u) F.entry_int_mul (F.args_int_mul_2 _ _) (AutoIntG3.int___mul___int_str_0 n u x t)
      ⟨rfl, typeIs_str s x t, call_gives F.slot_str_mul (typeIs_str s x t) F.entry_str_mul (F.args_str_mul_2 _ _) (gives_str_mul x n t u hr hb hl) h⟩)
theorem mul_blank {A : Around} {E : Value → Shared → Prop} {s : Shared} {wd : Nat} {t u : Tok} {Q : Value → Shared → Prop} (hw : 1 ≤ wd ∧ wd ≤ 3)
    (h : ∀ t' k, Q (.str ⟨(List.replicate wd 32).toArray⟩ t') { s with toks := k }) :
    wpAny (model prog w) A (binaryOp .Mult (.int (wd : Int) u) (.str " " t)) Q E s := by
  have hc : wd = 1 ∨ wd = 2 ∨ wd = 3 := by (first | lia | omega)
  rcases hc with rfl | rfl | rfl
  · refine mul_int_str (by decide) (by decide) (by decide +kernel) ?_
    rw [if_neg (by decide), if_pos (by decide)]
    have : (" " : Str) = ⟨(List.replicate 1 32).toArray⟩ := by decide +kernel
    rw [this]
    exact h t s.toks
  · refine mul_int_str (by decide) (by decide +kernel) (by decide +kernel) ?_
    rw [if_neg (by decide), if_neg (by decide +kernel)]
    have : (⟨(List.replicate (Int.toNat ((2 : Nat) : Int)) (" " : Str).cps).foldl (· ++ ·) #[]⟩ : Str) = ⟨(List.replicate 2 32).toArray⟩ := by decide +kernel
    rw [this]
    exact ⟨by decide +kernel, h _ _⟩
  · refine mul_int_str (by decide) (by decide +kernel) (by decide +kernel) ?_
    rw [if_neg (by decide), if_neg (by decide +kernel)]
    have : (⟨(List.replicate (Int.toNat ((3 : Nat) : Int)) (" " : Str).cps).foldl (· ++ ·) #[]⟩ : Str) = ⟨(List.replicate 3 32).toArray⟩ := by decide +kernel
    rw [this]
    exact ⟨by decide +kernel, h _ _⟩
local macro_rules | `(tactic| walk_at "getMethod ref") => `(tactic| (k_here; k_dflt (refine' method_pat (by exact Fr.keep (by k_asm) _ _ (by assumption)) ?_; k_whole)))
local macro_rules | `(tactic| walk_at "binaryOp Mult int str") => `(tactic| (k_here; k_dflt (refine' mul_blank (by assumption) ?_; k_whole); intro tb kb))
local macro_rules | `(tactic| walk_at "call builtin:re.Pattern.sub") => `(tactic| (k_here; k_dflt (refine' call_sub1 (by assumption) (by assumption) (by assumption) (by assumption) (by exact Fr.keep (by k_asm) _ _ (by assumption)) (by exact Fr.keep (by k_asm) _ _ (by assumption)) (by assumption) (by assumption) ?_; k_whole); intro hx tx kx keepx sizex))
theorem indent_spec {A : Around} (hdep : A.depth < recursionLimit) {s : Shared} {x : List Nat} {t ti : Tok} {wd : Nat} {Q E : Value → Shared → Prop}
   (X : (hd.heap_1 w.params).In s.heap) (T : Top p loose mean mg mb s.heap) (hz : x.length ≤ 100000) (hw : 1 ≤ wd ∧ wd ≤ 3)
   (h : ∀ h' t' tk, (∀ b o, s.heap.get? b = some o → h'.get? b = some o) → Q (.str ⟨(indOf wd x).toArray⟩ t') { s with heap := h', toks := tk }) :
   wpAny (model prog w) A (call (.ref 51) [.str ⟨x.toArray⟩ t, .int (wd : Int) ti]) Q E s := by
  obtain ⟨fs, cl, n, e1, f2, f5, f6, e2⟩ := (pat1 X).ex
  have hl : (indR (List.replicate wd 32) x.toArray x.toArray.size 0 false).length ≤ 800000 := by
    have := indR_skip_len (sp := List.replicate wd 32) (text := x.toArray) x.toArray.size 0 false
    rw [List.length_replicate, List.size_toArray] at this
    rw [List.size_toArray]
    have h2 : x.length * (wd + 1) ≤ 100000 * 4 := Nat.mul_le_mul hz (by (clear e1 e2 f2 f5 f6 hdep hz this; (first | lia | omega)))
    (clear e1 e2 f2 f5 f6 hdep hw hz; (first | lia | omega))
  have hy : (List.replicate wd 32).toArray.contains 92 = false := by
    simp
  have hz' : x.toArray.size ≤ 100000 := hz
  k_dflt (refine' enter [("s", .str ⟨x.toArray⟩ t), ("indent", .int (wd : Int) ti)] ?X ?l ?o ?c ?r ?b ?lo ?c2 ?c3 ?c4 ?c5 ?_; (case X => assumption); (case l => exact Top.nolimit (by assumption)); (case o => k_is); (case c => k_is); (case b => first | exact BindsTo.of_eq rfl | exact binds_K (by assumption) rfl (by k_is) rfl rfl rfl); (case c5 => decide); (case r => (walk_at "m_room")); (case lo => exact locs rfl); (case c2 => exact rfl); (case c3 => exact rfl); (case c4 => exact rfl); (walk_at "m_enter2"))
  w_strict (repeat' ((fail_if_success (with_reducible show wpAny _ _ (exec (Stmt.For _ _ _ _ _) _) _ _ _)); walk1))
  rename_i keepx sizex
  exact h _ _ _ (fun b o e => keepx b o (Fr.keep (by assumption) b o e))
end Mine
end
section -- YBuf
open PySem PySem.W PySem.Calls PyProof.Rows PyProof.V PySem.Spec
set_option maxRecDepth 100000
namespace Mine
theorem off_YBuf : True := by w_top off; trivial
open Builtin.Re Builtin.Bytes
theorem bytes_buf : typeLookup (.type "bytes") "__buffer__" = pure (some (.builtin "bytes.__buffer__")) := by rw [typeLookup_type, builtinLookup_eq_fast]; kernel_rfl
theorem bytes_rel : typeLookup (.type "bytes") "__release_buffer__" = pure none := by rw [typeLookup_type, builtinLookup_eq_fast]; kernel_rfl
theorem bytes_sub : isSubtype (.type "bytes") (.type "bytes") = pure true := by rw [isSubtype_type]; kernel_rfl
section
variable {M₀ : Model} {A : Around} {E : Value → Shared → Prop} {s : Shared} {b : Array UInt8} {t : Tok}
theorem slotOwn_bytes {Q : Bool → Shared → Prop} (h : Q true s) : wpAny M₀ A (slotIsOwn (.bytes b t) "__buffer__") Q E s := by
  unfold slotIsOwn
  refine wpAny_bind (wpAny_specialOf_val rfl bytes_buf ?_)
  dsimp only
  rw [if_neg (by decide +kernel)]
  have : (String.dropRight "bytes.__buffer__" ("__buffer__".length + 1)) = "bytes" := by decide +kernel
  rw [this]
  exact wpAny_isInstance_val rfl bytes_sub h
theorem buffer_bytes {id : String} {full : Bool} {Q : Option (Array UInt8) → Shared → Prop} (h : Q (some b) s) : wpAny M₀ A (buffer? id (.bytes b t) full) Q E s := by
  unfold buffer?
  refine wpAny_bind (wpAny_specialOf_val rfl bytes_buf ?_)
  dsimp only
  refine wpAny_bind (slotOwn_bytes ?_)
  rw [if_neg (by decide)]
  refine wpAny_bind (wpAny_specialOf_val rfl bytes_buf ?_)
  unfold ownRelease slotIsOwn
  refine wpAny_bind (wpAny_bind (wpAny_bind (wpAny_specialOf_val rfl bytes_rel ?_)))
  refine wpAny_pure (wpAny_pure ?_)
  rw [if_neg (by decide)]
  exact wpAny_bind (wpAny_pure (wpAny_pure h))
theorem quiet_bytes {id : String} {Q : Option (Array UInt8) → Shared → Prop} (h : Q (some b) s) : wpAny M₀ A (bufferQuiet? id (.bytes b t)) Q E s := by
  unfold bufferQuiet?
  refine wpAny_bind (wpAny_attempt (buffer_bytes ?_))
  exact wpAny_pure h
theorem take_bytes {id : String} {Q : Option (Array UInt8 × Option Value) → Shared → Prop} (h : Q (some (b, none)) s) : wpAny M₀ A (takeBufferQuiet? id (.bytes b t) 0) Q E s := by
  unfold takeBufferQuiet? takeBuffer?
  refine wpAny_bind (wpAny_attempt ?_)
  refine wpAny_bind (wpAny_specialOf_val rfl bytes_buf ?_)
  dsimp only
  refine wpAny_bind (slotOwn_bytes ?_)
  rw [if_neg (by decide)]
  refine wpAny_bind (wpAny_specialOf_val rfl bytes_buf ?_)
  refine wpAny_bind (buffer_bytes ?_)
  exact wpAny_pure (wpAny_pure h)
end
end Mine
end
section -- YSl
open PySem PySem.W PySem.Calls PyProof.Rows PyProof.V PySem.Spec
set_option maxRecDepth 100000
set_option maxHeartbeats 400000
namespace Mine
theorem off_YSl : True := by w_top off; trivial
open Builtin Builtin.Bytes
theorem slot_bget : Slot "bytes" "__getitem__" "bytes.__getitem__" :=
  .of (owner := "bytes") (n := "__getitem__") (by rw [typeLookup_type, builtinLookup_eq_fast]; kernel_rfl) (by decide +kernel) (by decide +kernel) (by decide +kernel)
    (by first | exact .inl (by decide +kernel) | exact .inr (by decide +kernel)) bytes_sub
theorem entry_bget : entryFor table "bytes.__getitem__" = some Builtin.«bytes.__getitem__» := entryFor_of_tree (by kernel_rfl)
theorem args_bget (a b : Value) : argsOk "bytes.__getitem__" ⟨[a, b], []⟩ := by
  unfold argsOk; kernel_rfl
theorem int_index : typeLookup (.type "int") "__index__" = pure (some (.builtin "int.__index__")) := by rw [typeLookup_type, builtinLookup_eq_fast]; kernel_rfl
section
variable {prog : Program} {w : World} {A : Around} {E : Value → Shared → Prop} {s : Shared}
theorem asIndex_int {M₀ : Model} {i : Int} {t : Tok} {Q : Int → Shared → Prop} (h : Q i s) : wpAny M₀ A (asIndex (.int i t)) Q E s := by
  unfold asIndex
  exact wpAny_pure h
theorem indices12 (n : Nat) : sliceIndices (rawInt 1) (rawInt 2) .none n = pure (min 1 (n : Int), min 2 (n : Int), 1) := by
  unfold sliceIndices rawInt
  show (pure (max 0 (min 1 (n : Int)), max 0 (min 2 (n : Int)), (1 : Int)) : Sem _) = _
  have h1 : max 0 (min 1 (n : Int)) = min 1 (n : Int) := by (first | lia | omega)
  have h2 : max 0 (min 2 (n : Int)) = min 2 (n : Int) := by (clear h1; (first | lia | omega))
  rw [h1, h2]
theorem sliced12 (b : Array UInt8) : sliced b (min 1 (b.size : Int)) (min 2 (b.size : Int)) 1 = b.extract 1 2 := by
  by_cases h0 : b.size = 0
  · have : b = #[] := Array.eq_empty_of_size_eq_zero h0
    subst this; rfl
  · by_cases h1 : b.size = 1
    · obtain ⟨x, rfl⟩ : ∃ x, b = #[x] := by
        rcases b with ⟨_ | ⟨x, _ | ⟨y, r⟩⟩⟩ <;> simp_all
      rfl
    · obtain ⟨x, y, r, rfl⟩ : ∃ x y r, b = ⟨x :: y :: r⟩ := by
        rcases b with ⟨_ | ⟨x, _ | ⟨y, r⟩⟩⟩
        · simp at h0
        · simp at h1
        · exact ⟨x, y, r, rfl⟩
      have e1 : min 1 (((⟨x :: y :: r⟩ : Array UInt8).size : Nat) : Int) = 1 := by simp; (clear h0 h1; (first | lia | omega))
      have e2 : min 2 (((⟨x :: y :: r⟩ : Array UInt8).size : Nat) : Int) = 2 := by simp; (clear e1 h0 h1; (first | lia | omega))
      rw [e1, e2]
      simp [sliced, sliceRange]
theorem getItem_slice12 {b : Array UInt8} {t t1 t2 : Tok} {sl : Addr} {Q : Value → Shared → Prop} (hz : b.size ≤ 100000) (hs : s.heap.IsSliceOf sl (.int 1 t1) (.int 2 t2) .none)
    (h : ∀ t' tk, Q (.bytes (b.extract 1 2) t') { s with toks := tk }) : wpAny (model prog w) A (getItem (.bytes b t) (.ref sl)) Q E s := by
  obtain ⟨os, hos, hcs, hds⟩ := id hs
  have hTs : s.TypeIs (.ref sl) "slice" := ⟨os, hos, hcs⟩
  have hT : s.TypeIs (.bytes b t) "bytes" := rfl
  unfold getItem
  try with_reducible refine wpAny_holding ?_
  first | refine wpAny_bind (wpAny_pure ?_) | skip
  refine wpAny_bind (wpAny_callSpecial?_slot (name := Str.ofString "__getitem__") hT slot_bget
    (wpAny_call_entry slot_bget hT entry_bget ?_ (args_bget _ _)))
  unfold Builtin.«bytes.__getitem__»
  refine wpAny_bind (wpAny_pure ?_)
  dsimp only
  refine wpAny_bind (wpAny_bind (wpAny_pure (wpAny_pure ?_)))
  unfold Bytes.subscript?
  refine wpAny_bind ?_
  refine wpAny_bind (wpAny_specialOf hTs slice_no_index ?_)
  rw [if_pos (by decide)]
  refine wpAny_pure ?_
  dsimp only
  refine wpAny_bind (wpAny_typeOf hTs ?_)
  rw [if_neg (by decide)]
  unfold Bytes.sliceParts
  refine wpAny_bind (wpAny_bind (wpAny_field hos hds (x := .none) rfl (wpAny_bind (wpAny_pure ?_))))
  rw [if_neg (by decide)]
  refine wpAny_bind (wpAny_field hos hds (x := .int 1 t1) rfl (wpAny_bind ?_))
  dsimp only
  rw [if_neg (show ¬ ((Value.int 1 t1 == Value.none) = true) from fun h => by cases h)]
  refine wpAny_bind (wpAny_specialOf_val rfl int_index ?_)
  rw [if_neg (by decide)]
  refine wpAny_bind (asIndex_int (wpAny_pure ?_))
  refine wpAny_bind (wpAny_field hos hds (x := .int 2 t2) rfl (wpAny_bind ?_))
  try dsimp only
  rw [if_neg (show ¬ ((Value.int 2 t2 == Value.none) = true) from fun h => by cases h)]
  refine wpAny_bind (wpAny_specialOf_val rfl int_index ?_)
  rw [if_neg (by decide)]
  refine wpAny_bind (asIndex_int (wpAny_pure ?_))
  refine wpAny_pure ?_
  try dsimp only
  rw [indices12]
  refine wpAny_bind (wpAny_pure ?_)
  dsimp only
  have fin : ∀ t' tk, wpAny (model prog w) A (pure (Value.bytes (b.extract 1 2) t')) Q E { s with toks := tk } := fun t' tk => wpAny_pure (h t' tk)
  by_cases hw : (min 1 (b.size : Int) == 0 && (1 : Int) == 1 && min 2 (b.size : Int) == (b.size : Int) && !b.isEmpty) = true
  · exfalso
    simp at hw
    have h0 : b.size = 0 := by (clear hcs hds hos; (first | lia | omega))
    have : b = #[] := Array.eq_empty_of_size_eq_zero h0
    exact hw.2 this
  · rw [if_neg hw, sliced12]
    refine wpAny_bind (wpAny_mkBytes ?_ (by rw [Array.size_extract]; have := sizeLine_eq; (clear hcs hds hos hw; (first | lia | omega))))
    exact wpAny_pure ⟨_, rfl, fin _ _⟩
end
end Mine
end
section -- YSw3
open PySem PySem.W PySem.Calls PyProof.Rows PyProof.V PySem.Spec
set_option maxRecDepth 100000
set_option maxHeartbeats 1000000
namespace Mine
theorem off_YSw3 : True := by w_top off; trivial
open Builtin Builtin.Bytes
theorem slot_ba_set : Slot "bytearray" "__setitem__" "bytearray.__setitem__" :=
  .of (owner := "bytearray") (n := "__setitem__") (by rw [typeLookup_type, builtinLookup_eq_fast]; kernel_rfl) (by decide +kernel) (by decide +kernel) (by decide +kernel)
    (by first | exact .inl (by decide +kernel) | exact .inr (by decide +kernel)) (by rw [isSubtype_type]; kernel_rfl)
theorem entry_ba_set : entryFor table "bytearray.__setitem__" = some Builtin.«bytearray.__setitem__» := entryFor_of_tree (by kernel_rfl)
theorem args_ba_set (a b c : Value) : argsOk "bytearray.__setitem__" ⟨[a, b, c], []⟩ := by unfold argsOk; kernel_rfl
section
variable {prog : Program} {w : World} {A : Around} {E : Value → Shared → Prop} {s : Shared}
noncomputable abbrev baObj (b : Array UInt8) : Obj := { cls := .type "bytearray", data := .bytearray b }
theorem ba_set {a : Addr} {b : Array UInt8} {k x : Int} {t u : Tok} {Q : Unit → Shared → Prop} (ho : s.heap.get? a = some (baObj b)) (h0 : 0 ≤ k) (hk : k < b.size) (hx0 : 0 ≤ x) (hx1 : x < 256) (hz : b.size ≤ 1000)
    (h : ∀ h', h'.get? a = some (baObj (b.setIfInBounds k.toNat x.toNat.toUInt8)) → Heap.SameBut a s.heap h' → Q () { s with heap := h' }) :
    wpAny (model prog w) A (setItem (.ref a) (.int k t) (.int x u)) Q E s := by
  have hT : s.TypeIs (.ref a) "bytearray" := ⟨_, ho, rfl⟩
  unfold setItem
  try with_reducible refine wpAny_holding ?_
  first | refine wpAny_bind (wpAny_pure ?_) | skip
  refine wpAny_bind (wpAny_sequenceKey hT (by decide) ?_)
  refine wpAny_bind (wpAny_callSpecial?_slot (name := Str.ofString "__setitem__") hT slot_ba_set
    (wpAny_call_entry slot_ba_set hT entry_ba_set ?_ (args_ba_set _ _ _)))
  unfold Builtin.«bytearray.__setitem__»
  show wpAny _ _ (Bytes.subscript? (.int k t) >>= _) _ _ s
  refine wpAny_bind ?_
  unfold Bytes.subscript?
  refine wpAny_bind (wpAny_specialOf_val rfl int_index ?_)
  rw [if_neg (by decide)]
  refine wpAny_bind (asIndex_int ?_)
  have hfit : fitsIndex k = true := fitsIndex_of h0 (by (clear h0 ho hx0 hx1; (first | lia | omega)))
  rw [if_neg (by rw [hfit]; decide)]
  refine wpAny_pure ?_
  try dsimp only
  show wpAny _ _ (byteValue (.int x u) >>= _) _ _ s
  refine wpAny_bind ?_
  unfold byteValue
  refine wpAny_bind (asIndex_int ?_)
  rw [if_neg (by simp only [Bool.or_eq_true, decide_eq_true_eq]; (clear h0 hfit hk ho hz; (first | lia | omega)))]
  refine wpAny_pure ?_
  try dsimp only
  refine wpAny_bind ?_
  unfold payload payload?
  refine wpAny_bind (wpAny_bind (wpAny_load ho ?_))
  refine wpAny_pure (wpAny_pure ?_)
  have hsq : seqIndex? k b.size = some k.toNat := by
    unfold seqIndex?
    rw [if_neg (by (clear hfit hk ho hx0 hx1 hz; (first | lia | omega)) : ¬ k < 0), if_pos (by simp only [Bool.and_eq_true, decide_eq_true_eq]; (clear hfit ho hx0 hx1 hz; (first | lia | omega)))]
  rw [hsq]
  dsimp only
  refine wpAny_bind ?_
  show wpAny _ _ (updateBytearray a (·.setIfInBounds k.toNat x.toNat.toUInt8)) _ _ s
  unfold updateBytearray
  refine wpAny_bind (wpAny_load ho ?_)
  show wpAny _ _ (update a (Obj.mapBytearray (·.setIfInBounds k.toNat x.toNat.toUInt8)) >>= fun _ => lookBehind a) _ _ _
  refine wpAny_bind (wpAny_update ho ?_)
  have hS₂ : (s.heap.update a (Obj.mapBytearray (·.setIfInBounds k.toNat x.toNat.toUInt8))).get? a = some (baObj (b.setIfInBounds k.toNat x.toNat.toUInt8)) :=
    Heap.get?_update_self (Obj.mapBytearray (·.setIfInBounds k.toNat x.toNat.toUInt8)) ho rfl
  refine wpAny_lookBehind hS₂ ?_ ?_
  · show (if (b.setIfInBounds k.toNat x.toNat.toUInt8).size > sizeLine then some "bytearray:memory" else none) = none
    rw [if_neg]
    rw [Array.size_setIfInBounds, sizeLine_eq]
    (clear h0 hS₂ hfit hk ho hsq hx0 hx1; (first | lia | omega))
  · exact wpAny_pure ⟨_, rfl, wpAny_pure (h _ hS₂ (Heap.SameBut.update ..))⟩
end
end Mine
end
section -- YC4
open PySem PySem.W PySem.Calls PyProof.Rows PyProof.V PySem.Spec
set_option maxRecDepth 100000
set_option maxHeartbeats 4000000
namespace Mine
theorem off_YC4 : True := by w_top off; trivial
theorem bmro : mroOf (.type "bytearray") = pure [.type "bytearray", .type "object"] := by rw [mroOf_type]; kernel_rfl
theorem blook : typeLookup (.type "bytearray") "__new__" = pure (some (.builtin "bytearray.__new__")) := by rw [typeLookup_type, builtinLookup_eq_fast]; kernel_rfl
theorem bslot : Slot "bytearray" "__init__" "bytearray.__init__" :=
  .of (owner := "bytearray") (n := "__init__") (by rw [typeLookup_type, builtinLookup_eq_fast]; kernel_rfl) (by decide +kernel) (by decide +kernel) (by decide +kernel)
    (by first | exact .inl (by decide +kernel) | exact .inr (by decide +kernel)) (by rw [isSubtype_type]; kernel_rfl)
theorem bcalled : TypeCalled "bytearray" "bytearray.__new__" "bytearray.__init__" :=
  ⟨by decide +kernel, by decide +kernel, ⟨_, _, bmro⟩, madeBy_type bmro blook (by decide +kernel), by decide +kernel, by rw [isSubtype_type]; kernel_rfl, bslot⟩
theorem btc (a : Value) : checkTypeCall "bytearray" ⟨[a], []⟩ = pure () := by kernel_rfl
theorem bnc (a : Value) : checkBuiltinCall "bytearray.__new__" ⟨[.type "bytearray", a], []⟩ = pure () := by kernel_rfl
theorem bentry_new : entryFor table "bytearray.__new__" = some Builtin.«list.__new__» := entryFor_alias (id' := "list.__new__") (by kernel_rfl) (by first | rfl | decide +kernel) (by decide +kernel) (by kernel_rfl)
theorem bentry_init : entryFor table "bytearray.__init__" = some Builtin.«bytearray.__init__» := entryFor_of_tree (by kernel_rfl)
theorem bplain_new : plainId "bytearray.__new__" = true := by decide +kernel
theorem bplain_init : plainId "bytearray.__init__" = true := by decide +kernel
set_option maxRecDepth 1000000 in
set_option maxHeartbeats 4000000 in
theorem bowner : ("bytearray.__new__".splitOn ".__new__").headD "" = "bytearray" := by simp +decide [String.splitOn, String.splitOnAux]
theorem bsub : isSubtype (.type "bytearray") (.type "bytearray") = pure true := by rw [isSubtype_type]; kernel_rfl
section
variable {prog : Program} {w : World} {A : Around} {E : Value → Shared → Prop} {s : Shared}
theorem bcode_new (a : Value) {Q₁ : Value → Shared → Prop}
    (h : Q₁ (.ref s.heap.objs.size) { s with heap := s.heap.push (baObj #[]) }) :
    wpAny (model prog w) A (call (.builtin "bytearray.__new__") [.type "bytearray", a]) Q₁ E s := by
  refine wpAny_call (codeAny_of_tree ?_)
  show wpAny _ A.in1 (do checkBuiltinCall "bytearray.__new__" ⟨[.type "bytearray", a], []⟩; again (.builtin "bytearray.__new__" ⟨[.type "bytearray", a], []⟩)) _ _ s
  refine wpAny_bind (wpAny_of_eq (bnc a) (wpAny_pure ⟨plainId_quiet bplain_new _, codeAny_builtin_stack bentry_new rfl fun p st => ?_⟩))
  rw [Around.under_plainId bplain_new _]
  have hsub := bsub
  have hown := bowner
  obtain ⟨hp, g, d, tk, os⟩ := s
  simp only [hown]
  wp_walk
  exact h
theorem btc_eq (x : Value) : ∃ (k : Value → Bool → Sem PySem.Fin) (k2 : Value → Option Value → Sem PySem.Fin), Builtin.«type.__call__» ⟨[.type "bytearray", x], []⟩ = (holding [.builtin "bytearray.__new__"] (call (.builtin "bytearray.__new__") [.type "bytearray", x] []) >>= fun obj => isInstance obj (.type "bytearray") >>= k obj) ∧
    ∀ obj, k obj true = (holding [obj] (callSpecial? obj "__init__" [x] []) >>= k2 obj) ∧ k2 obj (some .none) = ret obj := by
  have h1 := bcalled.notType
  have h2 := bcalled.canCreate
  have h3 := btc x
  have h4 := bmro
  have h5 := bcalled.made
  refine ⟨?k, ?k2, ?e1, fun obj => ⟨?e2, ?e3⟩⟩
  case e1 =>
    unfold Builtin.«type.__call__»
    simp only [h1, h2, h3, h4, h5, pure_bind, Bool.false_eq_true, if_false, List.isEmpty_cons]
    rfl
  case e2 => rfl
  case e3 => rfl
theorem ba_write {a : Addr} {b : Array UInt8} {f : Array UInt8 → Array UInt8} {Q : Unit → Shared → Prop} (ho : s.heap.get? a = some (baObj b)) (hz : (f b).size ≤ 1000)
    (h : ∀ h', h'.get? a = some (baObj (f b)) → Heap.SameBut a s.heap h' → Q () { s with heap := h' }) : wpAny (model prog w) A (updateBytearray a f) Q E s := by
  unfold updateBytearray
  refine wpAny_bind (wpAny_load ho ?_)
  show wpAny _ _ (update a (Obj.mapBytearray f) >>= fun _ => lookBehind a) _ _ _
  refine wpAny_bind (wpAny_update ho ?_)
  have hS₂ : (s.heap.update a (Obj.mapBytearray f)).get? a = some (baObj (f b)) := Heap.get?_update_self (Obj.mapBytearray f) ho rfl
  refine wpAny_lookBehind hS₂ ?_ (h _ hS₂ (Heap.SameBut.update ..))
  show (if (f b).size > sizeLine then some "bytearray:memory" else none) = none
  rw [if_neg]
  rw [sizeLine_eq]
  (clear hS₂ ho; (first | lia | omega))
theorem endsRel : ("bytearray.__release_buffer__".endsWith ("." ++ "__release_buffer__")) = true := by decide +kernel
theorem dropRel : ("bytearray.__release_buffer__".dropRight ("__release_buffer__".length + 1)) = "bytearray" := by decide +kernel
theorem ba_release {a : Addr} {b : Array UInt8} {Q : Bool → Shared → Prop} (ho : s.heap.get? a = some (baObj b)) (h : Q false s) : wpAny (model prog w) A (Builtin.Bytes.ownRelease (.ref a)) Q E s := by
  have hT : s.TypeIs (.ref a) "bytearray" := ⟨_, ho, rfl⟩
  unfold Builtin.Bytes.ownRelease Builtin.Bytes.slotIsOwn
  refine wpAny_bind (wpAny_bind (wpAny_specialOf hT (show typeLookup (.type "bytearray") _ = pure (some (.builtin "bytearray.__release_buffer__")) by rw [typeLookup_type, builtinLookup_eq_fast]; kernel_rfl) ?_))
  dsimp only
  rw [endsRel, dropRel, if_neg (by decide)]
  exact wpAny_isInstance hT bsub (wpAny_pure h)
theorem ba_bindOpt (x : Value) : Builtin.Bytes.bindOptional "bytearray.__init__" "bytearray" ["source", "encoding", "errors"] [x] [] = pure [some x, none, none] := by kernel_rfl
theorem wpC_orM {M : Model} {x y : Sem Bool} {Q : Bool → Shared → Prop} (h : wpC M A x (fun b s' => b = false ∧ wpC M A y Q E s') E s) : wpC M A (x <||> y) Q E s := by
  show wpC M A (x >>= fun b => match toBool b with | true => pure b | false => y) Q E s
  refine wpC_bind (wpC_mono h (fun b s' h' => ?_) fun _ _ x => x)
  obtain ⟨rfl, h'⟩ := h'
  exact h'
theorem ba_init {a : Addr} {t : Tok} {Q : Shared → Prop} (hg : A.guards = some []) (ho : s.heap.get? a = some (baObj #[]))
    (h : ∀ h', h'.get? a = some (baObj (Array.replicate 12 0)) → Heap.SameBut a s.heap h' → Q { s with heap := h' }) :
    wpC (model prog w) A (Builtin.«bytearray.__init__» ⟨[.ref a, .int 12 t], []⟩) (fun fin s' => fin = .done (.ret .none) ∧ Q s') E s := by
  have hT : s.TypeIs (.ref a) "bytearray" := ⟨_, ho, rfl⟩
  unfold Builtin.«bytearray.__init__»
  dsimp only
  refine wpC_abind (ba_release ho ?_)
  rw [if_neg (by decide)]
  refine wpC_abind (wpAny_of_eq (ba_bindOpt _) ?_)
  dsimp only
  refine wpC_abind (wpAny_of_eq (show Builtin.Bytes.checkCodecArg "bytearray.__init__" "bytearray" "encoding" none = pure () from rfl) ?_)
  refine wpC_abind (wpAny_of_eq (show Builtin.Bytes.checkCodecArg "bytearray.__init__" "bytearray" "errors" none = pure () from rfl) ?_)
  refine wpC_bind (wpC_orM (wpC_exported hg ⟨rfl, ?_⟩))
  unfold Builtin.Bytes.exportsOf
  refine wpC_any (wpAny_bind (wpAny_bind (wpAny_load ho ?_)))
  dsimp only
  refine wpAny_pure (wpAny_pure ?_)
  refine wpC_any ?_
  rw [if_neg (by decide)]
  refine wpAny_bind (ba_write (f := fun _ => #[]) ho (by decide) fun h1 e1 k1 => ?_)
  refine wpAny_bind (wpAny_pure ?_)
  rw [if_neg (by decide)]
  refine wpAny_bind (wpAny_pure ?_)
  refine wpAny_bind (wpAny_specialOf_val rfl int_index ?_)
  rw [if_pos (by decide)]
  refine wpAny_bind (wpAny_attempt (asIndex_int ?_))
  dsimp only
  rw [if_neg (by decide)]
  rw [if_neg (by decide)]
  rw [if_neg (by decide)]
  rw [if_neg (by decide)]
  refine wpAny_bind (wpAny_rule ?_)
  rw [if_pos (by decide)]
  refine wpAny_bind (ba_write (f := fun _ => Array.replicate (12 : Int).toNat 0) e1 (by decide) fun h2 e2 k2 => ?_)
  exact wpAny_bind (wpAny_pure (wpAny_pure ⟨rfl, h h2 e2 (Heap.SameBut.trans k1 k2)⟩))
theorem ba_args (b x : Value) : argsOk "bytearray.__init__" ⟨[b, x], []⟩ := by unfold argsOk; kernel_rfl
theorem codeC_builtin {id : String} {args : Args} {b : Builtin} {R : Result → Shared → Prop} (hb : entryFor table id = some b)
    (h : wpC (model prog w) (A.under (.builtin id args)) (b args)
      (fun fin s' => match fin with | .done f => R (.ok f) s' | .again c' => c'.quiet = true ∧ isDec c' = false ∧ codeC (model prog w) A c' R s') (fun e s' => R (.error e) s') s) :
    codeC (model prog w) A (.builtin id args) R s := by
  refine codeC_of_tree ?_
  show wpC _ _ (match entryFor table id with | some b => b args | none => unsupported ((withoutEnding? id "#data").getD id)) _ _ s
  rw [hb]; exact h
theorem ba_make {t : Tok} {Q : Value → Shared → Prop} (hg : A.guards = some [])
    (h : ∀ a h', s.heap.get? a = none → h'.get? a = some (baObj (Array.replicate 12 0)) → (∀ b o, s.heap.get? b = some o → h'.get? b = some o) → s.heap.objs.size = a → Q (.ref a) { s with heap := h' }) :
    wpC (model prog w) A (call (.type "bytearray") [.int 12 t]) Q E s := by
  obtain ⟨k, k2, e1, e2⟩ := btc_eq (.int 12 t)
  refine wpC_call (codeC_of_tree ?_)
  show wpC _ _ (callAny (.type "bytearray") _) _ _ _
  refine wpC_pure ⟨Code.quiet_builtin _ (by decide +kernel), (show Builtin.Bytes.decodersThatHold.contains "type.__call__" = false by decide +kernel), codeC_builtin F.entry_type_call ?_⟩
  rw [Around.under_plain (weight_type_call_type "bytearray" _ []) rfl, e1]
  refine wpC_abind (wpAny_holding (bcode_new _ ?_))
  have ho : (s.heap.push (baObj #[])).get? s.heap.objs.size = some (baObj #[]) := by simpa using Heap.get?_push_size _ rfl
  have hT : Shared.TypeIs { s with heap := s.heap.push (baObj #[]) } (.ref s.heap.objs.size) "bytearray" := ⟨_, ho, rfl⟩
  refine wpC_abind (wpAny_isInstance hT bsub ?_)
  obtain ⟨e3, e4⟩ := e2 (.ref s.heap.objs.size)
  rw [e3]
  refine wpC_bind (wpC_holding ?_)
  unfold callSpecial?
  refine wpC_abind (wpAny_specialOf hT bslot.lookup ?_)
  dsimp only
  refine wpC_holding ?_
  refine wpC_abind (wpAny_of_eq (bslot.bind _) ?_)
  dsimp only
  refine wpC_bind (wpC_call (codeC_of_tree ?_))
  show wpC _ _ (callAny (.builtin "bytearray.__init__") _) _ _ _
  show wpC _ _ (do checkBuiltinCall "bytearray.__init__" _; again (.builtin "bytearray.__init__" _)) _ _ _
  refine wpC_abind (bslot.check _ _ _ _ _ _ _ _ hT (ba_args _ _) ?_)
  refine wpC_pure ⟨plainId_quiet bplain_init _, (show Builtin.Bytes.decodersThatHold.contains "bytearray.__init__" = false by decide +kernel), codeC_builtin bentry_init ?_⟩
  rw [Around.under_plainId bplain_init _]
  refine wpC_mono (ba_init (Q := fun s2 => Q (.ref s.heap.objs.size) s2) ?_ ho fun h2 e5 k5 => ?_) (fun fin s2 h2 => ?_) fun _ _ x => x
  · exact hg
  · refine h _ h2 ?_ e5 (fun b o e => ?_) rfl
    · cases e : s.heap.get? s.heap.objs.size with
      | none => rfl
      | some o => exact absurd (Heap.lt_size e) (Nat.lt_irrefl _)
    · exact k5.extBut b o (Nat.ne_of_lt (Heap.lt_size e)) (Heap.get?_push_of_some _ e)
  · obtain ⟨rfl, h2⟩ := h2
    dsimp only
    refine wpC_pure ?_
    rw [e4]
    exact wpC_pure h2
end
end Mine
end
section -- YSw2
open PySem PySem.W PySem.Calls PyProof.Rows PyProof.V PySem.Spec PySem.W.X
set_option maxRecDepth 100000
set_option maxHeartbeats 4000000
namespace Mine
theorem off_YSw2 : True := by w_top off; trivial
variable {w : World} {A : Around} {s : Shared} {Q : Value → Shared → Prop} {E : Value → Shared → Prop}
local macro_rules | `(tactic| x_close) => `(tactic| (first | refine x_endB (by assumption) (by assumption) ?_ | refine x_endB (by assumption) (Mem.start _) ?_); first | exact ⟨_, rfl⟩ | exact ⟨_, rfl, rfl⟩)
theorem ba_bytes (hh : A.handled = none) {a : Addr} {x0 x1 x2 x3 x4 x5 x6 x7 x8 x9 x10 x11 : UInt8} (X : (hd.heap_1 w.params).In s.heap) (h1 : s.heap.get? a = some { cls := .type "bytearray", data := .bytearray #[x0, x1, x2, x3, x4, x5, x6, x7, x8, x9, x10, x11] })
   (hQ : EndBox s Q fun v _ => ∃ t, v = .bytes #[x0, x1, x2, x3, x4, x5, x6, x7, x8, x9, x10, x11] t) :
   wpAny (model PySem.Challenge.pw_xo0007_01 w) A (call (.type "bytes") [.ref a]) Q E s := by
  rcases A
  cases hh
  x_run
end Mine
end
section -- YLoop
open PySem PySem.W PySem.Calls PyProof.Rows PyProof.V PySem.Spec
set_option maxRecDepth 100000
namespace Mine
theorem off_YLoop : True := by w_top off; trivial
/-- the post of a turn as a bare name: the walk's steps then bear the name, not its text -/
theorem hideQ {α : Type} {M : Model} {A : Around} {t : Sem α} {Q : α → Shared → Prop} {E : Value → Shared → Prop} {s : Shared} (k : ∀ Q' : α → Shared → Prop, (∀ v s', Q v s' → Q' v s') → wpAny M A t Q' E s) : wpAny M A t Q E s := k Q fun _ _ h => h
noncomputable def EndG (h₀ : Heap) (L : Addr) (J : (Str → Option Value) → List (Addr × Obj) → Prop) (own nx : List (Addr × Obj)) (h : Heap) (s₁ s₂ : Shared) : Prop :=
  ∃ h' tk m' news' nx', s₂ = { s₁ with heap := h', toks := tk } ∧ Fr h₀ L h' m' ∧ News h₀ L h' news' ∧ (∀ p ∈ nx', p ∈ news') ∧ (∀ p ∈ own, p ∈ news') ∧ (∀ p ∈ nx', p.1 ∈ nx.map (·.1) ∨ h.get? p.1 = none) ∧ J m' nx'
noncomputable def PostG (h₀ : Heap) (L : Addr) (J : (Str → Option Value) → List (Addr × Obj) → Prop) (own nx : List (Addr × Obj)) (h : Heap) (s₁ : Shared) (Q : Flow → Shared → Prop) (f : Flow) (s₂ : Shared) : Prop :=
  match f with
  | .ret v => Q (.ret v) s₂
  | .brk => Q .next s₂
  | _ => EndG h₀ L J own nx h s₁ s₂
section
variable {prog : Program} {w : World} {A : Around} {E : Value → Shared → Prop} {s : Shared} {env : Env} {h₀ : Heap} {x : Str} {body : List Stmt} {Q : Flow → Shared → Prop}
theorem loop_G {I : Addr} {fp wr : List Addr} {n : Nat} {P : Nat → Value → Prop} {St : Nat → Heap → Prop} {m₀ : Str → Option Value} {news : List (Addr × Obj)} (J : Nat → (Str → Option Value) → List (Addr × Obj) → Prop)
    (W : Walks prog w A I fp wr n P St) (hLf : env.locals ∉ fp) (hwr : ∀ b ∈ wr, h₀.get? b = none) (hw2 : ∀ i h, St i h → ∀ b ∈ wr, ∃ o, h.get? b = some o) (hnw : ∀ p ∈ news, p.1 ∉ wr)
    (hoff : ∀ i m₁ nx, J i m₁ nx → ∀ p ∈ nx, p.1 ∈ fp → p.1 ∈ wr) (hst : St 0 s.heap) (F : Fr h₀ env.locals s.heap m₀) (N : News h₀ env.locals s.heap news) (hj : J 0 m₀ news)
    (turn : ∀ i v m₁ nx h tk own, i < n → P i v → OwnOff own (nx.map (·.1)) → J i m₁ nx → Fr h₀ env.locals h (fun y => if y = x then some v else m₁ y) → News h₀ env.locals h (nx ++ own) →
      wpAny (model prog w) A (execs body env) (PostG h₀ env.locals (J (i + 1)) own nx h { s with heap := h, toks := tk } Q) E { s with heap := h, toks := tk })
    (done : ∀ m₁ nx h tk, J n m₁ nx → Fr h₀ env.locals h m₁ → News h₀ env.locals h nx → Q .next { s with heap := h, toks := tk }) :
    LoopAtV prog w A h₀ env x body Q E (.ref I) s := by
  refine ⟨I, fp, wr, n, P, St, m₀, news, J, rfl, W, hLf, hwr, hnw, hst, F, N, hj, ?_, ?_⟩
  · rintro i v m₁ news₁ s₁ own ⟨hh', tk', rfl⟩ hin hP hJ hof hown hget hcomp hst' F₁ N₁
    have hsep : OwnOff own (news₁.map (·.1)) := by
      intro p hp b hb e
      obtain ⟨q, hq, rfl⟩ := List.mem_map.mp hb
      exact hof q hq (hoff i m₁ news₁ hJ q hq (e ▸ hown p hp))
    have N₂ : News h₀ env.locals hh' (news₁ ++ own) := fun p hp => N₁ p ((List.mem_append.mp hp).elim (fun h => List.mem_append.mpr (.inr h)) fun h => List.mem_append.mpr (.inl h))
    refine wpAny_mono (turn i v m₁ news₁ hh' tk' own hin hP hsep hJ F₁ N₂) (fun f s₂ p => ?_) fun _ _ e => e
    have fin : EndG h₀ env.locals (J (i + 1)) own news₁ hh' { s with heap := hh', toks := tk' } s₂ → LoopStepU h₀ env.locals wr own (J (i + 1)) { s with heap := hh', toks := tk' } .next s₂ := by
      rintro ⟨h', tk, m', news', nx, e, F', N', hn, ho, ha, hm⟩
      refine ⟨rfl, h', tk, m', nx, e, F', fun p hp => N' p ((List.mem_append.mp hp).elim (ho p) (hn p)), fun p hp hq => ?_, hm⟩
      rcases ha p hp with h1 | h1
      · obtain ⟨q, hq1, hq2⟩ := List.mem_map.mp h1
        exact hof q hq1 (by rw [hq2]; exact hq)
      · obtain ⟨o, ho'⟩ := hw2 _ _ hst' _ hq
        dsimp only at ho'
        rw [h1] at ho'; cases ho'
    cases f with
    | ret v => exact .ret p
    | brk => exact .brk p
    | next => exact .next (fin p)
    | cont => exact .cont (fin p)
  · rintro h' tk m' news' F' N' _ hJ
    exact done m' news' h' tk hJ F' N'

theorem iter_rangeG {r : Addr} {a₀ b₀ : Int} {t₀ u₀ v₀ : Tok} {n : Nat} {m₀ : Str → Option Value} {news : List (Addr × Obj)} (J : Nat → (Str → Option Value) → List (Addr × Obj) → Prop)
    (hh : A.handled = none) (hr : IsRange s.heap r a₀ b₀ 1 t₀ u₀ v₀) (hsmall : Builtin.Range.small a₀ b₀ 1 = true) (hn : Builtin.Range.rangeSize a₀ b₀ 1 = (n : Int)) (F : Fr h₀ env.locals s.heap m₀) (N : News h₀ env.locals s.heap news) (hj : J 0 m₀ news)
    (turn : ∀ i t m₁ nx h tk own, i < n → OwnOff own (nx.map (·.1)) → J i m₁ nx → Fr h₀ env.locals h (fun y => if y = x then some (.int (a₀ + (i : Int)) t) else m₁ y) → News h₀ env.locals h (nx ++ own) →
      wpAny (model prog w) A (execs body env) (PostG h₀ env.locals (J (i + 1)) own nx h { s with heap := h, toks := tk } Q) E { s with heap := h, toks := tk })
    (done : ∀ m₁ nx h tk, J n m₁ nx → Fr h₀ env.locals h m₁ → News h₀ env.locals h nx → Q .next { s with heap := h, toks := tk }) :
    wpAny (model prog w) A (pyIter (.ref r)) (fun it s₂ => LoopAtV prog w A h₀ env x body Q E it s₂) E s := by
  refine wpAny_pyIter_range hr hsmall ?_
  have W := Walks.range (prog := prog) (w := w) hh s.heap.objs.size a₀ 1 n
  refine loop_G J W ?_ ?_ ?_ ?_ ?_ (by show IsRangeIter _ _ _ _ _; rw [hn]; simpa using Heap.get?_push_size _ rfl) (F.push _) (fun p hp => ⟨Heap.get?_push_of_some _ (N p hp).1, (N p hp).2⟩) hj ?_ ?_
  · intro hm
    exact absurd F.ns.lt ((List.mem_singleton.mp hm) ▸ Nat.lt_irrefl _)
  · intro b hb
    rw [List.mem_singleton.mp hb]
    exact next_is_new F
  · intro i h st b hb
    rw [List.mem_singleton.mp hb]
    exact ⟨_, st⟩
  · intro p hp hI
    exact absurd (Heap.lt_size (N p hp).1) ((List.mem_singleton.mp hI) ▸ Nat.lt_irrefl _)
  · intro i m₁ nx _ p _ hq
    exact hq
  · rintro i v m₁ nx h tk own hi ⟨t, rfl⟩ ho hJ F' N'
    have e : a₀ + (i : Int) * 1 = a₀ + (i : Int) := by (clear hh hi hn hsmall; (first | lia | omega))
    rw [e] at F'
    exact turn i t m₁ nx h tk own hi ho hJ F' N'
  · exact done

theorem iter_listG {l : Addr} {items : Array Value} {m₀ : Str → Option Value} {news : List (Addr × Obj)} (J : Nat → (Str → Option Value) → List (Addr × Obj) → Prop)
    (hh : A.handled = none) (hl : s.heap.IsList l items) (hlL : l ≠ env.locals) (F : Fr h₀ env.locals s.heap m₀) (N : News h₀ env.locals s.heap news) (hj : J 0 m₀ news)
    (hoff : ∀ i m₁ nx, J i m₁ nx → ∀ p ∈ nx, p.1 ≠ l)
    (turn : ∀ i v m₁ nx h tk own, items[i]? = some v → OwnOff own (nx.map (·.1)) → J i m₁ nx → Fr h₀ env.locals h (fun y => if y = x then some v else m₁ y) → News h₀ env.locals h (nx ++ own) →
      wpAny (model prog w) A (execs body env) (PostG h₀ env.locals (J (i + 1)) own nx h { s with heap := h, toks := tk } Q) E { s with heap := h, toks := tk })
    (done : ∀ m₁ nx h tk, J items.size m₁ nx → Fr h₀ env.locals h m₁ → News h₀ env.locals h nx → Q .next { s with heap := h, toks := tk }) :
    wpAny (model prog w) A (pyIter (.ref l)) (fun it s₂ => LoopAtV prog w A h₀ env x body Q E it s₂) E s := by
  obtain ⟨ol, hol, _⟩ := id hl
  have hne : l ≠ s.heap.objs.size := Nat.ne_of_lt (Heap.lt_size hol)
  refine wpAny_pyIter_list hl ?_
  have W := Walks.list (prog := prog) (w := w) hh s.heap.objs.size l hne items
  refine loop_G J W ?_ ?_ ?_ ?_ ?_ ⟨⟨_, Heap.get?_push_size _ rfl, rfl, rfl⟩, hl.at fun o e => Heap.get?_push_of_some _ e⟩ (F.push _) (fun p hp => ⟨Heap.get?_push_of_some _ (N p hp).1, (N p hp).2⟩) hj ?_ ?_
  · intro hm
    rcases List.mem_cons.mp hm with e | hm
    · exact absurd F.ns.lt (e ▸ Nat.lt_irrefl _)
    · exact hlL (List.mem_singleton.mp hm).symm
  · intro b hb
    rw [List.mem_singleton.mp hb]
    exact next_is_new F
  · intro i h st b hb
    rw [List.mem_singleton.mp hb]
    obtain ⟨o, ho, _⟩ := st.1
    exact ⟨o, ho⟩
  · intro p hp hI
    exact absurd (Heap.lt_size (N p hp).1) ((List.mem_singleton.mp hI) ▸ Nat.lt_irrefl _)
  · intro i m₁ nx hJ p hp hq
    rcases List.mem_cons.mp hq with e | hm
    · rw [e]; exact List.mem_singleton_self _
    · exact absurd (List.mem_singleton.mp hm) (hoff i m₁ nx hJ p hp)
  · rintro i v m₁ nx h tk own hi hv ho hJ F' N'
    exact turn i v m₁ nx h tk own hv ho hJ F' N'
  · exact done
end
end Mine
end
section -- YLoop2
open PySem PySem.W PySem.Calls PyProof.Rows PyProof.V PySem.Spec
set_option maxRecDepth 100000
namespace Mine
theorem off_YLoop2 : True := by w_top off; trivial
noncomputable def EndO (h₀ : Heap) (L : Addr) (J : (Str → Option Value) → List (Addr × Obj) → Prop) (own nx : List (Addr × Obj)) (h : Heap) (s₁ s₂ : Shared) : Prop :=
  ∃ h' tk m' news' nx', s₂ = { s₁ with heap := h', toks := tk } ∧ Fr h₀ L h' m' ∧ News h₀ L h' news' ∧ (∀ p ∈ nx', p ∈ news') ∧ (∀ p ∈ own, p ∈ news') ∧ (∀ p ∈ nx', p.1 ∈ nx.map (·.1) ∨ ∀ q ∈ own, q.1 ≠ p.1) ∧ J m' nx'
noncomputable def PostO (h₀ : Heap) (L : Addr) (J : (Str → Option Value) → List (Addr × Obj) → Prop) (own nx : List (Addr × Obj)) (h : Heap) (s₁ : Shared) (Q : Flow → Shared → Prop) (f : Flow) (s₂ : Shared) : Prop :=
  match f with
  | .ret v => Q (.ret v) s₂
  | .brk => Q .next s₂
  | _ => EndO h₀ L J own nx h s₁ s₂
section
variable {prog : Program} {w : World} {A : Around} {E : Value → Shared → Prop} {s : Shared} {env : Env} {h₀ : Heap} {x : Str} {body : List Stmt} {Q : Flow → Shared → Prop}
theorem loop_O {I : Addr} {fp wr : List Addr} {n : Nat} {P : Nat → Value → Prop} {St : Nat → Heap → Prop} {m₀ : Str → Option Value} {news : List (Addr × Obj)} (J : Nat → (Str → Option Value) → List (Addr × Obj) → Prop)
    (W : Walks prog w A I fp wr n P St) (hLf : env.locals ∉ fp) (hwr : ∀ b ∈ wr, h₀.get? b = none) (hw2 : ∀ i h, St i h → ∀ b ∈ wr, ∃ o, h.get? b = some o) (hnw : ∀ p ∈ news, p.1 ∉ wr)
    (hoff : ∀ i m₁ nx, J i m₁ nx → ∀ p ∈ nx, p.1 ∈ fp → p.1 ∈ wr) (hst : St 0 s.heap) (F : Fr h₀ env.locals s.heap m₀) (N : News h₀ env.locals s.heap news) (hj : J 0 m₀ news)
    (turn : ∀ i v m₁ nx h tk own, i < n → P i v → (∀ b ∈ fp, h₀.get? b = none → ∀ o, h.get? b = some o → (b, o) ∈ own) → St (i + 1) h → OwnOff own (nx.map (·.1)) → J i m₁ nx → Fr h₀ env.locals h (fun y => if y = x then some v else m₁ y) → News h₀ env.locals h (nx ++ own) →
      wpAny (model prog w) A (execs body env) (PostO h₀ env.locals (J (i + 1)) own nx h { s with heap := h, toks := tk } Q) E { s with heap := h, toks := tk })
    (done : ∀ m₁ nx h tk, J n m₁ nx → Fr h₀ env.locals h m₁ → News h₀ env.locals h nx → Q .next { s with heap := h, toks := tk }) :
    LoopAtV prog w A h₀ env x body Q E (.ref I) s := by
  refine ⟨I, fp, wr, n, P, St, m₀, news, J, rfl, W, hLf, hwr, hnw, hst, F, N, hj, ?_, ?_⟩
  · rintro i v m₁ news₁ s₁ own ⟨hh', tk', rfl⟩ hin hP hJ hof hown hget hcomp hst' F₁ N₁
    have hsep : OwnOff own (news₁.map (·.1)) := by
      intro p hp b hb e
      obtain ⟨q, hq, rfl⟩ := List.mem_map.mp hb
      exact hof q hq (hoff i m₁ news₁ hJ q hq (e ▸ hown p hp))
    have N₂ : News h₀ env.locals hh' (news₁ ++ own) := fun p hp => N₁ p ((List.mem_append.mp hp).elim (fun h => List.mem_append.mpr (.inr h)) fun h => List.mem_append.mpr (.inl h))
    refine wpAny_mono (turn i v m₁ news₁ hh' tk' own hin hP hcomp hst' hsep hJ F₁ N₂) (fun f s₂ p => ?_) fun _ _ e => e
    have fin : EndO h₀ env.locals (J (i + 1)) own news₁ hh' { s with heap := hh', toks := tk' } s₂ → LoopStepU h₀ env.locals wr own (J (i + 1)) { s with heap := hh', toks := tk' } .next s₂ := by
      rintro ⟨h', tk, m', news', nx, e, F', N', hn, ho, ha, hm⟩
      refine ⟨rfl, h', tk, m', nx, e, F', fun p hp => N' p ((List.mem_append.mp hp).elim (ho p) (hn p)), fun p hp hq => ?_, hm⟩
      rcases ha p hp with h1 | h1
      · obtain ⟨q, hq1, hq2⟩ := List.mem_map.mp h1
        exact hof q hq1 (by rw [hq2]; exact hq)
      · obtain ⟨o, ho'⟩ := hw2 _ _ hst' _ hq
        exact absurd rfl (h1 (p.1, o) (hcomp _ (W.sub _ hq) (hwr _ hq) o ho'))
    cases f with
    | ret v => exact .ret p
    | brk => exact .brk p
    | next => exact .next (fin p)
    | cont => exact .cont (fin p)
  · rintro h' tk m' news' F' N' _ hJ
    exact done m' news' h' tk hJ F' N'

theorem iter_rangeO {r : Addr} {a₀ b₀ : Int} {t₀ u₀ v₀ : Tok} {n : Nat} {m₀ : Str → Option Value} {news : List (Addr × Obj)} (J : Nat → (Str → Option Value) → List (Addr × Obj) → Prop)
    (hh : A.handled = none) (hr : IsRange s.heap r a₀ b₀ 1 t₀ u₀ v₀) (hsmall : Builtin.Range.small a₀ b₀ 1 = true) (hn : Builtin.Range.rangeSize a₀ b₀ 1 = (n : Int)) (F : Fr h₀ env.locals s.heap m₀) (N : News h₀ env.locals s.heap news) (hj : J 0 m₀ news)
    (turn : ∀ i t m₁ nx h tk own, i < n → OwnOff own (nx.map (·.1)) → J i m₁ nx → Fr h₀ env.locals h (fun y => if y = x then some (.int (a₀ + (i : Int)) t) else m₁ y) → News h₀ env.locals h (nx ++ own) →
      wpAny (model prog w) A (execs body env) (PostO h₀ env.locals (J (i + 1)) own nx h { s with heap := h, toks := tk } Q) E { s with heap := h, toks := tk })
    (done : ∀ m₁ nx h tk, J n m₁ nx → Fr h₀ env.locals h m₁ → News h₀ env.locals h nx → Q .next { s with heap := h, toks := tk }) :
    wpAny (model prog w) A (pyIter (.ref r)) (fun it s₂ => LoopAtV prog w A h₀ env x body Q E it s₂) E s := by
  refine wpAny_pyIter_range hr hsmall ?_
  have W := Walks.range (prog := prog) (w := w) hh s.heap.objs.size a₀ 1 n
  refine loop_O J W ?_ ?_ ?_ ?_ ?_ (by show IsRangeIter _ _ _ _ _; rw [hn]; simpa using Heap.get?_push_size _ rfl) (F.push _) (fun p hp => ⟨Heap.get?_push_of_some _ (N p hp).1, (N p hp).2⟩) hj ?_ ?_
  · intro hm
    exact absurd F.ns.lt ((List.mem_singleton.mp hm) ▸ Nat.lt_irrefl _)
  · intro b hb
    rw [List.mem_singleton.mp hb]
    exact next_is_new F
  · intro i h st b hb
    rw [List.mem_singleton.mp hb]
    exact ⟨_, st⟩
  · intro p hp hI
    exact absurd (Heap.lt_size (N p hp).1) ((List.mem_singleton.mp hI) ▸ Nat.lt_irrefl _)
  · intro i m₁ nx _ p _ hq
    exact hq
  · rintro i v m₁ nx h tk own hi ⟨t, rfl⟩ _ _ ho hJ F' N'
    have e : a₀ + (i : Int) * 1 = a₀ + (i : Int) := by (clear hh hi hn hsmall; (first | lia | omega))
    rw [e] at F'
    exact turn i t m₁ nx h tk own hi ho hJ F' N'
  · exact done

theorem iter_listO {l : Addr} {items : Array Value} {m₀ : Str → Option Value} {news : List (Addr × Obj)} (J : Nat → (Str → Option Value) → List (Addr × Obj) → Prop)
    (hh : A.handled = none) (hl : s.heap.IsList l items) (hlL : l ≠ env.locals) (F : Fr h₀ env.locals s.heap m₀) (N : News h₀ env.locals s.heap news) (hj : J 0 m₀ news)
    (hoff : ∀ i m₁ nx, J i m₁ nx → ∀ p ∈ nx, p.1 ≠ l)
    (turn : ∀ i v m₁ nx h tk own, items[i]? = some v → (h₀.get? l = none → ∃ o, (l, o) ∈ own) → OwnOff own (nx.map (·.1)) → J i m₁ nx → Fr h₀ env.locals h (fun y => if y = x then some v else m₁ y) → News h₀ env.locals h (nx ++ own) →
      wpAny (model prog w) A (execs body env) (PostO h₀ env.locals (J (i + 1)) own nx h { s with heap := h, toks := tk } Q) E { s with heap := h, toks := tk })
    (done : ∀ m₁ nx h tk, J items.size m₁ nx → Fr h₀ env.locals h m₁ → News h₀ env.locals h nx → Q .next { s with heap := h, toks := tk }) :
    wpAny (model prog w) A (pyIter (.ref l)) (fun it s₂ => LoopAtV prog w A h₀ env x body Q E it s₂) E s := by
  obtain ⟨ol, hol, _⟩ := id hl
  have hne : l ≠ s.heap.objs.size := Nat.ne_of_lt (Heap.lt_size hol)
  refine wpAny_pyIter_list hl ?_
  have W := Walks.list (prog := prog) (w := w) hh s.heap.objs.size l hne items
  refine loop_O J W ?_ ?_ ?_ ?_ ?_ ⟨⟨_, Heap.get?_push_size _ rfl, rfl, rfl⟩, hl.at fun o e => Heap.get?_push_of_some _ e⟩ (F.push _) (fun p hp => ⟨Heap.get?_push_of_some _ (N p hp).1, (N p hp).2⟩) hj ?_ ?_
  · intro hm
    rcases List.mem_cons.mp hm with e | hm
    · exact absurd F.ns.lt (e ▸ Nat.lt_irrefl _)
    · exact hlL (List.mem_singleton.mp hm).symm
  · intro b hb
    rw [List.mem_singleton.mp hb]
    exact next_is_new F
  · intro i h st b hb
    rw [List.mem_singleton.mp hb]
    obtain ⟨o, ho, _⟩ := st.1
    exact ⟨o, ho⟩
  · intro p hp hI
    exact absurd (Heap.lt_size (N p hp).1) ((List.mem_singleton.mp hI) ▸ Nat.lt_irrefl _)
  · intro i m₁ nx hJ p hp hq
    rcases List.mem_cons.mp hq with e | hm
    · rw [e]; exact List.mem_singleton_self _
    · exact absurd (List.mem_singleton.mp hm) (hoff i m₁ nx hJ p hp)
  · rintro i v m₁ nx h tk own hi hv hc hst ho hJ F' N'
    obtain ⟨ol, hol, _⟩ := hst.2
    exact turn i v m₁ nx h tk own hv (fun h0 => ⟨ol, hc l (.tail _ (.head _)) h0 ol hol⟩) ho hJ F' N'
  · exact done
end
end Mine
end
section -- YBJ
open PySem PySem.W PySem.Calls PyProof.Rows PyProof.V PySem.Spec
set_option maxRecDepth 100000
namespace Mine
theorem off_YBJ : True := by w_top off; trivial
open Builtin.Re Builtin.Bytes
theorem slot_bjoin : Slot "bytes" "join" "bytes.join" :=
  .of (owner := "bytes") (n := "join") (by rw [typeLookup_type, builtinLookup_eq_fast]; kernel_rfl) (by decide +kernel) (by decide +kernel) (by decide +kernel)
    (by first | exact .inl (by decide +kernel) | exact .inr (by decide +kernel)) bytes_sub
theorem entry_bjoin : entryFor table "bytes.join" = some Builtin.«bytes.join» := entryFor_of_tree (by kernel_rfl)
theorem args_bjoin (a b : Value) : argsOk "bytes.join" ⟨[a, b], []⟩ := by
  unfold argsOk; kernel_rfl
noncomputable def bytesValues (l : List (Array UInt8 × Tok)) : List Value := l.map fun p => .bytes p.1 p.2
theorem forIn_range_inv {M₀ : Model} {A : Around} {E : Value → Shared → Prop} {β : Type} (f : Nat → β → Sem (ForInStep β)) (Inv : Nat → β → Shared → Prop) {Q : β → Shared → Prop} (n : Nat)
    (step : ∀ i b s, i < n → Inv i b s → wpAny M₀ A (f i b) (fun r s' => ∃ b', r = .yield b' ∧ Inv (i + 1) b' s') E s) (fin : ∀ b s, Inv n b s → Q b s) {b : β} {s : Shared} (h0 : Inv 0 b s) :
    wpAny M₀ A (forIn [:n] b f) Q E s := by
  rw [Std.Legacy.Range.forIn_eq_forIn_range']
  have key : ∀ (k i : Nat) (b : β) (s : Shared), i + k = n → Inv i b s → wpAny M₀ A (forIn (List.range' i k) b f) Q E s := by
    intro k
    induction k with
    | zero => intro i b s e h; rw [List.range'_zero, List.forIn_nil]; exact wpAny_pure (fin _ _ (by rw [← e]; exact h))
    | succ k ih =>
      intro i b s e h
      rw [List.range'_succ, List.forIn_cons]
      refine wpAny_bind (wpAny_mono (step i b s (by (first | lia | omega)) h) (fun r s' hr => ?_) fun _ _ x => x)
      obtain ⟨b', rfl, h'⟩ := hr
      exact ih (i + 1) b' s' (by (first | lia | omega)) h'
  have : (List.range' ([:n] : Std.Legacy.Range).start ([:n] : Std.Legacy.Range).size ([:n] : Std.Legacy.Range).step) = List.range' 0 n := by
    simp [Std.Legacy.Range.size]
  rw [this]
  exact key n 0 b s (by (clear this; (first | lia | omega))) h0
theorem bj_sum (l : List (Array UInt8 × Tok)) (k : Nat) : Array.foldl (fun x1 (x2 : Array UInt8) => x1 + x2.size) ((#[] : Array UInt8).size * k) (l.map (·.1)).toArray = (l.map (·.1.size)).sum := by
  have key : ∀ (l : List (Array UInt8 × Tok)) (a : Nat), List.foldl (fun x1 (x2 : Array UInt8) => x1 + x2.size) a (l.map (·.1)) = a + (l.map (·.1.size)).sum := by
    intro l
    induction l with
    | nil => intro a; rfl
    | cons x r ih => intro a; rw [List.map_cons, List.foldl_cons, ih, List.map_cons, List.sum_cons, Nat.add_assoc]
  rw [List.foldl_toArray, key]
  simp
theorem bj_joined (l : List (Array UInt8)) : joined #[] l = (l.map (·.toList)).flatten.toArray := by
  have key : ∀ (l : List (Array UInt8)) (k : Nat) (a : Array UInt8), (l.zipIdx k).foldl (fun out (x : Array UInt8 × Nat) => (if x.2 > 0 then out ++ #[] else out) ++ x.1) a = a ++ (l.map (·.toList)).flatten.toArray := by
    intro l
    induction l with
    | nil => intro k a; simp
    | cons x r ih => intro k a; rw [List.zipIdx_cons, List.foldl_cons, ih]; apply Array.toList_inj.mp; simp
  exact (key l 0 #[]).trans (by simp)
theorem bj_size (l : List (Array UInt8 × Tok)) : ((l.map (·.1)).map (·.toList)).flatten.toArray.size = (l.map (·.1.size)).sum := by
  rw [List.size_toArray]
  induction l with
  | nil => rfl
  | cons x r ih => simp only [List.map_cons, List.flatten_cons, List.length_append, List.sum_cons, ih, Array.length_toList]
theorem letGo_taken {M₀ : Model} {A : Around} {E : Value → Shared → Prop} {s : Shared} {Q : Unit → Shared → Prop} {keep : List Value} (h : Q () s) : ∀ (l : List (Value × Option Value)), (∀ p ∈ l, p.2 = none) → wpAny M₀ A (joinLetGo l keep) Q E s
  | [], _ => wpAny_pure h
  | (x, none) :: r, hl => by
    unfold joinLetGo
    exact wpAny_bind (wpAny_letGo (letGo_taken h r fun p hp => hl p (List.mem_cons_of_mem _ hp)))
  | (x, some w) :: r, hl => absurd (hl _ List.mem_cons_self) (by simp)
section
variable {prog : Program} {w : World} {A : Around} {E : Value → Shared → Prop} {s : Shared} {Q : Value → Shared → Prop}
theorem call_bjoin {L : Addr} {l : List (Array UInt8 × Tok)} {m : Nat} {t : Tok} (h1 : s.heap.get? L = some (listObj (bytesValues l).toArray m)) (hz : (l.map (·.1.size)).sum ≤ 800000)
    (h : ∀ t' tk, Q (.bytes ((l.map (·.1)).map (·.toList)).flatten.toArray t') { s with toks := tk }) :
    wpAny (model prog w) A (call (.builtin "bytes.join") [.bytes #[] t, .ref L]) Q E s := by
  refine wpAny_call (codeAny_call_builtin slot_bjoin.plain entry_bjoin (slot_bjoin.check _ _ _ _ _ _ _ _ rfl (args_bjoin _ _) ?_))
  unfold Builtin.«bytes.join» joinM
  dsimp only
  refine wpAny_bind (wpAny_pure ?_)
  dsimp only
  rw [if_pos (by decide)]
  unfold joinItems
  have hT : s.TypeIs (.ref L) "list" := ⟨_, h1, rfl⟩
  refine wpAny_bind (wpAny_bind (wpAny_typeOf hT ?_))
  rw [if_pos (by decide)]
  refine wpAny_pure ?_
  refine wpAny_bind (wpAny_seqItems h1 rfl ?_)
  dsimp only
  rw [if_pos (by decide)]
  generalize hv : (bytesValues l).toArray = arr at h1 ⊢
  have hsz : arr.size = l.length := by rw [← hv]; simp [bytesValues]
  have hget : ∀ i (hi : i < l.length), arr.getD i Value.none = .bytes l[i].1 l[i].2 := fun i hi => by rw [← hv]; simp [bytesValues, hi]
  rcases arr with ⟨al⟩
  by_cases hx1 : ∃ x, al = [x]
  · obtain ⟨x, rfl⟩ := hx1
    show wpAny _ _ (typeOf x >>= _) _ _ _
    obtain ⟨a, rfl⟩ : ∃ a, l = [a] := List.length_eq_one_iff.mp hsz.symm
    have hx : x = .bytes a.1 a.2 := by simpa [bytesValues] using hv.symm
    rw [hx]
    refine wpAny_bind (wpAny_pure ?_)
    rw [if_pos (by decide)]
    refine wpAny_bind (wpAny_rule (wpAny_pure ?_))
    have := h a.2 s.toks
    simp at this
    exact this
  · rcases al with _ | ⟨x1, _ | ⟨x2, xr⟩⟩
    rotate_left
    · exact absurd ⟨x1, rfl⟩ hx1
    all_goals (with_unfolding_all refine wpAny_bind ?_)
    all_goals (
      refine forIn_range_inv _ (fun i p s' => s' = s ∧ p.1 = ((l.take i).map (·.1)).toArray ∧ (∀ q ∈ p.2, q.2 = none ∧ q.1.onHeap = false)) _ ?_ ?_ ⟨rfl, rfl, fun q hq => absurd hq (by simp)⟩
      · intro i p s' hi hp
        obtain ⟨rfl, hp1, hp2⟩ := hp
        refine wpAny_bind (wpAny_seqItems h1 rfl ?_)
        dsimp only
        have hany : (p.snd.any fun x => x.fst.onHeap) = false := by
          rw [List.any_eq_false]
          intro q hq
          rw [(hp2 q hq).2]
          simp
        rw [if_neg (by rw [hany]; decide)]
        have hil : i < l.length := hsz ▸ hi
        rw [hget i hil]
        refine wpAny_bind (wpAny_holding (take_bytes ?_))
        dsimp only
        refine wpAny_bind (wpAny_seqItems h1 rfl ?_)
        dsimp only
        rw [if_neg (by simp)]
        refine wpAny_pure ⟨_, rfl, rfl, ?_, ?_⟩
        · dsimp only
          rw [hp1, List.take_add_one, List.getElem?_eq_getElem hil, Option.toList_some, List.map_append, List.push_toArray, List.map_singleton]
        · intro q hq
          rcases List.mem_append.mp hq with hq | hq
          · exact hp2 q hq
          · rw [List.mem_singleton.mp hq]; exact ⟨rfl, rfl⟩
      · intro p s' hp
        obtain ⟨rfl, hp1, hp2⟩ := hp
        rw [hsz, List.take_length] at hp1
        refine wpAny_bind (wpAny_bind (wpAny_pure (wpAny_pure ?_)))
        rw [hp1, if_neg (by
          rw [bj_sum]
          unfold tooLong
          have := sizeLine_eq
          simp
          (clear h1 hp1 hsz hv hx1; (first | lia | omega)))]
        unfold Kind.new
        rw [bj_joined]
        refine wpAny_bind ?_
        refine wpAny_mkBytes ?_ (by rw [bj_size]; have := sizeLine_eq; (clear h1 hp1 hsz hv hx1; (first | lia | omega)))
        refine wpAny_bind (wpAny_holding (wpAny_point ?_))
        refine wpAny_bind (letGo_taken ?_ _ fun q hq => (hp2 q hq).1)
        exact wpAny_pure (h _ _))
end
end Mine
end
section -- YSubB
open PySem PySem.W PySem.Calls PyProof.Rows PyProof.V PySem.Spec
set_option maxRecDepth 100000
namespace Mine
theorem off_YSubB : True := by w_top off; trivial
open Builtin.Re Builtin.Bytes

noncomputable def qR (text : Array Nat) : Nat → Nat → List Nat
  | 0, _ => []
  | k + 1, p => if p ≥ text.size then [] else match quoteAt text p with | some e => qR text k e | none => text.getD p 0 :: qR text k (p + 1)

theorem bodyEnd_ge (text : Array Nat) : ∀ (d p : Nat), p ≤ bodyEnd text d p := by
  intro d
  induction d with
  | zero => intro p; exact Nat.le_refl _
  | succ d ih =>
    intro p
    unfold bodyEnd
    repeat' split
    all_goals first | exact Nat.le_refl _ | (have := ih (p + 1 + 1); (first | lia | omega)) | (have := ih (p + 1); (first | lia | omega))
theorem quoteAt_some {text : Array Nat} {s e : Nat} (h : quoteAt text s = some e) : s + 2 ≤ e ∧ e ≤ text.size := by
  unfold quoteAt at h
  have := bodyEnd_ge text text.size (s + 1)
  split at h
  · cases h
  · split at h
    · split at h
      · cases h
      · split at h
        · cases h; (first | lia | omega)
        · cases h
    · cases h
theorem qR_fuel (text : Array Nat) : ∀ (k k' p : Nat), text.size - p ≤ k → text.size - p ≤ k' → qR text k p = qR text k' p := by
  intro k
  induction k with
  | zero =>
    intro k' p h h'
    cases k' with
    | zero => rfl
    | succ k' => unfold qR; rw [if_pos (by (clear h'; (first | lia | omega)))]
  | succ k ih =>
    intro k' p h h'
    cases k' with
    | zero => unfold qR; rw [if_pos (by (clear h; (first | lia | omega)))]
    | succ k' =>
      unfold qR
      by_cases hp : p ≥ text.size
      · rw [if_pos hp, if_pos hp]
      · rw [if_neg hp, if_neg hp]
        cases hq : quoteAt text p with
        | none => dsimp only; rw [ih k' (p + 1) (by (clear h' hq; (first | lia | omega))) (by (clear h hq; (first | lia | omega)))]
        | some e => have := quoteAt_some hq; dsimp only; exact ih k' e (by (clear h' hq; (first | lia | omega))) (by (clear h hq; (first | lia | omega)))
theorem extract_cons {text : Array Nat} {p q : Nat} (h : p < q) (hq : q ≤ text.size) : (text.extract p q).toList = text.getD p 0 :: (text.extract (p + 1) q).toList := by
  have hp : p < text.size := by (first | lia | omega)
  simp only [Array.toList_extract, List.extract_eq_take_drop]
  rw [List.drop_eq_getElem_cons (l := text.toList) (i := p) (by rw [Array.length_toList]; exact hp)]
  rw [show q - p = (q - (p + 1)) + 1 by (clear hp hq; (first | lia | omega)), List.take_succ_cons]
  congr 1
  simp [Array.getD, hp]
theorem nextQ_none {text : Array Nat} : ∀ (d p k : Nat), p + d = text.size → d ≤ k → nextQ text d p = none → qR text k p = (text.extract p text.size).toList := by
  intro d
  induction d with
  | zero =>
    intro p k h hk e
    cases k with
    | zero => unfold qR; simp; (clear e hk; (first | lia | omega))
    | succ k => unfold qR; rw [if_pos (by (clear e hk; (first | lia | omega)))]; simp; (clear e hk; (first | lia | omega))
  | succ d ih =>
    intro p k h hk e
    unfold nextQ at e
    cases hq : quoteAt text p with
    | some e' => rw [hq] at e; cases e
    | none =>
      rw [hq] at e
      cases k with
      | zero => (clear e h hq; (first | lia | omega))
      | succ k =>
        unfold qR
        rw [if_neg (by (clear e hk hq; (first | lia | omega))), hq]
        dsimp only at e ⊢
        rw [ih (p + 1) k (by (clear e hk hq; (first | lia | omega))) (by (clear e h hq; (first | lia | omega))) e, extract_cons (p := p) (q := text.size) (by (clear e hk hq; (first | lia | omega))) (Nat.le_refl _)]
theorem nextQ_some {text : Array Nat} : ∀ (d p k q e : Nat), p + d = text.size → d ≤ k → nextQ text d p = some (q, e) → p ≤ q ∧ q + 2 ≤ e ∧ e ≤ text.size ∧ qR text k p = (text.extract p q).toList ++ qR text (text.size - e) e := by
  intro d
  induction d with
  | zero =>
    intro p k q e h hk hn
    unfold nextQ at hn
    have : quoteAt text p = none := by unfold quoteAt; rw [if_pos (by (clear hk hn; (first | lia | omega)))]
    rw [this] at hn; cases hn
  | succ d ih =>
    intro p k q e h hk hn
    unfold nextQ at hn
    cases k with
    | zero => (clear h hn; (first | lia | omega))
    | succ k =>
      cases hq : quoteAt text p with
      | some e' =>
        rw [hq] at hn
        cases hn
        have := quoteAt_some hq
        refine ⟨Nat.le_refl _, this.1, this.2, ?_⟩
        conv => lhs; unfold qR
        rw [if_neg (by (clear hk hq this; (first | lia | omega))), hq]
        dsimp only
        rw [qR_fuel text k (text.size - e) e (by (clear hq; (first | lia | omega))) (by (clear h hk hq this; (first | lia | omega)))]
        simp
      | none =>
        rw [hq] at hn
        obtain ⟨h1, h2, h3, h4⟩ := ih (p + 1) k q e (by (clear hk hn hq; (first | lia | omega))) (by (clear h hn hq; (first | lia | omega))) hn
        refine ⟨by (clear h2 h3 h4 hk hn hq; (first | lia | omega)), h2, h3, ?_⟩
        conv => lhs; unfold qR
        rw [if_neg (by (clear h4 hk hn hq; (first | lia | omega))), hq]
        dsimp only
        rw [h4, extract_cons (p := p) (q := q) (by (clear h2 h3 h4 hk hn hq; (first | lia | omega))) (by (clear h h1 h4 hk hn hq; (first | lia | omega)))]
        rfl
theorem qR_short {text : Array Nat} {p k : Nat} (h : ¬ p + 2 ≤ text.size) (hk : text.size - p ≤ k) (hp : p ≤ text.size) : qR text k p = (text.extract p text.size).toList := by
  refine nextQ_none (text.size - p) p k (by (clear hk; (first | lia | omega))) hk ?_
  have hno : ∀ s, ¬ s + 2 ≤ text.size → quoteAt text s = none := fun s hs => by
    cases hq : quoteAt text s with
    | none => rfl
    | some e => have := quoteAt_some hq; (clear h hk hp hq; (first | lia | omega))
  have key : ∀ (d s : Nat), ¬ s + 2 ≤ text.size → nextQ text d s = none := by
    intro d
    induction d with
    | zero => intro s hs; unfold nextQ; rw [hno s hs]; rfl
    | succ d ih => intro s hs; unfold nextQ; rw [hno s hs]; exact ih (s + 1) (by (clear h hk hp; (first | lia | omega)))
  exact key _ _ h
end Mine
end
section -- YSubC
open PySem PySem.W PySem.Calls PyProof.Rows PyProof.V PySem.Spec
set_option maxRecDepth 100000
namespace Mine
theorem off_YSubC : True := by w_top off; trivial
open Builtin.Re Builtin.Bytes
theorem asStr_bytes (b : Array UInt8) (t : Tok) : asStr? (.bytes b t) = pure none := rfl
section
variable {M₀ : Model} {A : Around} {E : Value → Shared → Prop} {s : Shared}
theorem whole_bytes {Q : ReTarget → Shared → Prop} {pa ca : Addr} {fs : Array Value} {b : Array UInt8} {t t2 t6 : Tok} {cl : Value} {l : List Nat} {n : Nat} (hp : s.heap.get? pa = some (patObj fs)) (f2 : fs.getD 2 .none = .int 0 t2) (f5 : fs.getD 5 .none = .ref ca) (f6 : fs.getD 6 .none = .int 1 t6)
    (hc : s.heap.get? ca = some { cls := cl, data := .seq (intsOf l) n })
    (h : Q { pattern := .ref pa, string := .bytes b t, code := l.toArray, text := b.map (·.toNat), kind := 1, groups := 0, pos := 0, lim := (b.map (·.toNat)).size } s) :
    wpAny M₀ A (reWholeTarget (.ref pa) (.bytes b t)) Q E s := by
  unfold reWholeTarget fieldsOf
  refine wpAny_bind (wpAny_bind (wpAny_load hp ?_))
  refine wpAny_pure ?_
  unfold reTextOf
  refine wpAny_bind (wpAny_bind (wpAny_pure ?_))
  dsimp only
  refine wpAny_bind (quiet_bytes ?_)
  refine wpAny_pure ?_
  dsimp only
  rw [f6]
  show wpAny M₀ A (reNoCollectionInside (.bytes b t) 1 >>= _) Q E s
  refine wpAny_bind ?_
  unfold reNoCollectionInside
  rw [if_pos (by decide)]
  refine wpAny_bind (wpAny_isInstance_val rfl bytes_sub ?_)
  rw [if_neg (by decide)]
  refine wpAny_pure ?_
  rw [f5]
  unfold reRawItems
  refine wpAny_bind (wpAny_bind (wpAny_seqItems hc rfl (wpAny_pure ?_)))
  refine wpAny_pure ?_
  dsimp only [Option.getD_some]
  rw [ints_code, f2]
  exact h
end
noncomputable def bAll (l : List (Array UInt8 × Tok)) : List UInt8 := ((l.map (·.1)).map (·.toList)).flatten
theorem push_bytes (l : List (Array UInt8 × Tok)) (x : Array UInt8) (t : Tok) : (bytesValues l).toArray.push (.bytes x t) = (bytesValues (l ++ [(x, t)])).toArray := by
  unfold bytesValues; simp
theorem bAll_push (l : List (Array UInt8 × Tok)) (x : Array UInt8) (t : Tok) : bAll (l ++ [(x, t)]) = bAll l ++ x.toList := by
  unfold bAll; simp
theorem bAll_len (l : List (Array UInt8 × Tok)) : (bAll l).length = (l.map (·.1.size)).sum := by
  have := bj_size l
  rw [List.size_toArray] at this
  exact this
theorem bv_size (l : List (Array UInt8 × Tok)) : (bytesValues l).toArray.size = l.length := by simp [bytesValues]
section
variable {prog : Program} {w : World}
theorem sub2_loop {A : Around} {R : Result → Shared → Prop} {pa ca L : Addr} {fs : Array Value} {b : Array UInt8} {t t2 t6 ty : Tok} {cl : Value} {nc : Nat}
    (f2 : fs.getD 2 .none = .int 0 t2) (f5 : fs.getD 5 .none = .ref ca) (f6 : fs.getD 6 .none = .int 1 t6) (hpL : pa ≠ L) (hcL : ca ≠ L) (hz : b.size ≤ 100000) :
    ∀ (k p : Nat) (n : Int) (its : List (Array UInt8 × Tok)) (m : Nat) (s : Shared),
      b.size - p < k → p ≤ b.size →
      s.heap.get? pa = some (patObj fs) → s.heap.get? ca = some { cls := cl, data := .seq (intsOf c2.toList) nc } → s.heap.get? L = some (listObj (bytesValues its).toArray m) →
      its.length + 2 * (b.size - p) ≤ 2 * b.size →
      (bAll its).length + (b.size - p) ≤ b.size →
      (∀ h' t' tk, Heap.SameBut L s.heap h' → R (.ok (.ret (.bytes (bAll its ++ (qR (b.map (·.toNat)) (b.size - p) p).map (·.toUInt8)).toArray t'))) { s with heap := h', toks := tk }) →
      codeAny (model prog w) A (.builtin "re.Pattern.sub.loop" (loopArgs pa (.bytes b t) (.bytes #[] ty) n p false L)) R s
  | 0, p, n, its, m, s, hk, hp, h1, h2, h3, hb, hl, h => absurd hk (Nat.not_lt_zero _)
  | k + 1, p, n, its, m, s, hk, hp, h1, h2, h3, hb, hl, h => by
    have hbs : (b.map (·.toNat)).size = b.size := Array.size_map ..
    refine codeAny_bi entry_sub_loop ?_
    unfold Builtin.«re.Pattern.sub.loop» loopArgs rawInt
    dsimp only
    refine wpAny_bind (whole_bytes h1 f2 f5 f6 h2 ?_)
    dsimp only
    rw [if_pos (by decide)]
    unfold reLiteralCannotBeTurned
    refine wpAny_bind (wpAny_bind (wpAny_pure ?_))
    rw [if_pos (by simp)]
    refine wpAny_bind (wpAny_isInstance_val rfl bytes_sub ?_)
    rw [if_neg (by decide)]
    refine wpAny_pure ?_
    rw [if_neg (by simp)]
    refine wpAny_bind ?_
    have fin : qR (b.map (·.toNat)) (b.size - p) p = ((b.map (·.toNat)).extract p b.size).toList → wpAny (model prog w) (A.under (Code.builtin "re.Pattern.sub.loop" (loopArgs pa (.bytes b t) (.bytes #[] ty) n p false L)))
        (if (Int.toNat ↑p) < (b.map (·.toNat)).size then do
          let __do_lift ← reSlice (b.map (·.toNat)) 1 (Int.toNat ↑p) (b.map (·.toNat)).size
          updateSeq L fun x => x.push __do_lift
          let joiner ← reSlice (b.map (·.toNat)) 1 0 0
          let __do_lift ← seqItems? (Value.ref L)
          if (__do_lift.getD #[]).isEmpty = true then do
              let text ← pure joiner
              if false = true then do
                  let __do_lift ←
                    holding [text] do
                        let __do_lift ← mkInt n
                        newTuple [text, __do_lift]
                  ret __do_lift
                else ret text
            else do
              let text ← call (Value.builtin (if (1 == 0) = true then "str.join" else "bytes.join")) [joiner, Value.ref L]
              if false = true then do
                  let __do_lift ←
                    holding [text] do
                        let __do_lift ← mkInt n
                        newTuple [text, __do_lift]
                  ret __do_lift
                else ret text
        else do
          let joiner ← reSlice (b.map (·.toNat)) 1 0 0
          let __do_lift ← seqItems? (Value.ref L)
          if (__do_lift.getD #[]).isEmpty = true then do
              let text ← pure joiner
              if false = true then do
                  let __do_lift ←
                    holding [text] do
                        let __do_lift ← mkInt n
                        newTuple [text, __do_lift]
                  ret __do_lift
                else ret text
            else do
              let text ← call (Value.builtin (if (1 == 0) = true then "str.join" else "bytes.join")) [joiner, Value.ref L]
              if false = true then do
                  let __do_lift ←
                    holding [text] do
                        let __do_lift ← mkInt n
                        newTuple [text, __do_lift]
                  ret __do_lift
                else ret text) (fun fin s' => match fin with
              | Fin.done f => R (Except.ok f) s'
              | Fin.again c' => c'.quiet = true ∧ codeAny (model prog w) A c' R s') (fun e s' => R (Except.error e) s') s := by
      intro e
      have tail : ∀ (its' : List (Array UInt8 × Tok)) (m' : Nat) (s' : Shared), its'.length ≤ its.length + (if p < b.size then 1 else 0) → bAll its' = bAll its ++ (((b.map (·.toNat)).extract p b.size).map (·.toUInt8)).toList → Heap.SameBut L s.heap s'.heap → (∃ h' tk, s' = { s with heap := h', toks := tk }) → s'.heap.get? L = some (listObj (bytesValues its').toArray m') →
          wpAny (model prog w) (A.under (Code.builtin "re.Pattern.sub.loop" (loopArgs pa (.bytes b t) (.bytes #[] ty) n p false L))) (do
            let joiner ← reSlice (b.map (·.toNat)) 1 0 0
            let __do_lift ← seqItems? (Value.ref L)
            if (__do_lift.getD #[]).isEmpty = true then do
                let text ← pure joiner
                if false = true then do
                    let __do_lift ←
                      holding [text] do
                          let __do_lift ← mkInt n
                          newTuple [text, __do_lift]
                    ret __do_lift
                  else ret text
              else do
                let text ← call (Value.builtin (if (1 == 0) = true then "str.join" else "bytes.join")) [joiner, Value.ref L]
                if false = true then do
                    let __do_lift ←
                      holding [text] do
                          let __do_lift ← mkInt n
                          newTuple [text, __do_lift]
                    ret __do_lift
                  else ret text) (fun fin s' => match fin with
              | Fin.done f => R (Except.ok f) s'
              | Fin.again c' => c'.quiet = true ∧ codeAny (model prog w) A c' R s') (fun e s' => R (Except.error e) s') s' := by
        intro its' m' s' hlen hcp hsb hs' hL
        obtain ⟨h', tk, rfl⟩ := hs'
        unfold reSlice
        rw [if_neg (by decide)]
        refine wpAny_bind (wpAny_mkBytes ?_ (by rw [Array.size_map, Array.size_extract]; have := sizeLine_eq; (clear e f2 f5 f6 h1 h2 h3 hL hb hcL hcp hk hl hlen hp hpL; (first | lia | omega))))
        refine wpAny_bind (wpAny_seqItems hL rfl ?_)
        dsimp only [Option.getD_some]
        have hout : (bAll its').toArray = (bAll its ++ (qR (b.map (·.toNat)) (b.size - p) p).map (·.toUInt8)).toArray := by rw [e, hcp, Array.toList_map]
        have h0 : (Array.extract (b.map (·.toNat)) 0 0).map (·.toUInt8) = #[] := by simp
        rw [h0]
        cases its' with
        | nil =>
          rw [if_pos (show (bytesValues []).toArray.isEmpty = true from rfl)]
          refine wpAny_bind (wpAny_pure ?_)
          rw [if_neg (by decide)]
          have h1 : (#[] : Array UInt8) = (bAll []).toArray := by simp [bAll]
          rw [h1, hout]
          exact wpAny_pure (h h' _ _ hsb)
        | cons a r =>
          rw [if_neg (by simp [bytesValues])]
          rw [if_neg (by decide)]
          refine wpAny_bind (call_bjoin hL ?_ (fun t' k' => ?_))
          · rw [← bAll_len, hcp]
            simp
            (clear e f2 f5 f6 h0 h1 h2 h3 hL hb hcL hcp hk hlen hout hp hpL; (first | lia | omega))
          · rw [if_neg (by decide)]
            show wpAny _ _ (ret (Value.bytes (bAll (a :: r)).toArray t')) _ _ _
            rw [hout]
            exact wpAny_pure (h h' _ _ hsb)
      by_cases hpq : p < b.size
      · rw [if_pos (by rw [Int.toNat_natCast, hbs]; exact hpq)]
        refine wpAny_bind ?_
        unfold reSlice
        rw [if_neg (by decide)]
        refine wpAny_mkBytes ?_ (by rw [Array.size_map, Array.size_extract]; have := sizeLine_eq; (clear e f2 f5 f6 h1 h2 h3 hb hcL hk hl hp hpL; (first | lia | omega)))
        refine wpAny_bind (wpAny_updateSeq h3 rfl ?_ (by rw [bv_size]; have := sizeLine_eq; (clear e f2 f5 f6 h1 h2 h3 hcL hk hl hp hpL; (first | lia | omega))) (by rw [Array.size_push, bv_size]; have := sizeLine_eq; (clear e f2 f5 f6 h1 h2 h3 hcL hk hl hp hpL; (first | lia | omega))))
        obtain ⟨m2, e2⟩ := list_push (v := .bytes (((b.map (·.toNat)).extract (Int.toNat ↑p) (b.map (·.toNat)).size).map (·.toUInt8)) s.toks) h3
        rw [push_bytes] at e2
        refine tail _ m2 _ ?_ ?_ (Heap.SameBut.update ..) ⟨_, _, rfl⟩ e2
        · rw [if_pos hpq]; simp
        · rw [bAll_push, Int.toNat_natCast, hbs]
      · rw [if_neg (by rw [Int.toNat_natCast, hbs]; exact hpq)]
        refine tail its m _ (by (clear e f2 f5 f6 h1 h2 h3 hb hbs hcL hk hl hp hpL hpq hz; (first | lia | omega))) ?_ (Heap.SameBut.refl ..) ⟨_, _, rfl⟩ h3
        have : p = b.size := by (clear e f2 f5 f6 h1 h2 h3 hb hcL hk hl hpL hz; (first | lia | omega))
        subst this
        simp
    by_cases hsh : p + 2 ≤ (b.map (·.toNat)).size
    · refine found2 rfl rfl rfl (by dsimp only; (clear f2 f5 f6 h1 h2 h3 hb hcL hk hl hp hpL hsh; (first | lia | omega))) p hsh (fun mm q e hn hq1 hq2 => ?_) (fun hn => ?_)
      · dsimp only at hn ⊢
        obtain ⟨g1, g2, g3, g4⟩ := nextQ_some ((b.map (·.toNat)).size - p) p (b.size - p) q e (by (clear f2 f5 f6 h1 h2 h3 hb hbs hcL hk hl hn hp hpL hq1 hq2 hz; (first | lia | omega))) (by (clear f2 f5 f6 h1 h2 h3 hb hcL hk hl hn hp hpL hq1 hq2 hz; (first | lia | omega))) hn
        rw [hq1, hq2]
        have tail : ∀ (its' : List (Array UInt8 × Tok)) (m' : Nat) (s' : Shared), its'.length ≤ its.length + (if p < q then 1 else 0) → bAll its' = bAll its ++ (((b.map (·.toNat)).extract p q).map (·.toUInt8)).toList → Heap.SameBut L s.heap s'.heap → (∃ h' tk, s' = { s with heap := h', toks := tk }) → s'.heap.get? L = some (listObj (bytesValues its').toArray m') →
            wpAny (model prog w) (A.under (Code.builtin "re.Pattern.sub.loop" (loopArgs pa (.bytes b t) (.bytes #[] ty) n p false L))) (updateSeq L fun x => x.push (Value.bytes #[] ty)) (fun _ s'' => codeAny (model prog w) A (.builtin "re.Pattern.sub.loop" (loopArgs pa (.bytes b t) (.bytes #[] ty) (n + 1) e false L)) R s'') (fun e s' => R (Except.error e) s') s' := by
          intro its' m' s' hlen hcp hsb hs' hL
          obtain ⟨h', tk, rfl⟩ := hs'
          have hln : its'.length ≤ 200010 := by split at hlen <;> (clear f2 f5 f6 g1 g2 g3 g4 h1 h2 h3 hL hcL hcp hk hl hn hp hpL hq1 hq2; (first | lia | omega))
          refine wpAny_updateSeq hL rfl ?_ (by rw [bv_size]; have := sizeLine_eq; (clear f2 f5 f6 g1 g2 g3 g4 h1 h2 h3 hL hb hbs hcL hcp hk hl hlen hn hp hpL hq1 hq2 hsh hz; (first | lia | omega))) (by rw [Array.size_push, bv_size]; have := sizeLine_eq; (clear f2 f5 f6 g1 g2 g3 g4 h1 h2 h3 hL hb hbs hcL hcp hk hl hlen hn hp hpL hq1 hq2 hsh hz; (first | lia | omega)))
          obtain ⟨m2, e2⟩ := list_push (v := .bytes #[] ty) hL
          rw [push_bytes] at e2
          have hsb2 : Heap.SameBut L s.heap (h'.update L (Obj.mapSeq fun x => x.push (Value.bytes #[] ty))) := hsb.trans (Heap.SameBut.update ..)
          refine sub2_loop f2 f5 f6 hpL hcL hz k e (n + 1) _ m2 _ (by (clear e2 f2 f5 f6 g4 h1 h2 h3 hL hb hcL hcp hl hlen hln hn hp hpL hq1 hq2 hz; (first | lia | omega))) (by (clear e2 f2 f5 f6 g1 g2 g4 h1 h2 h3 hL hb hcL hcp hk hl hlen hln hn hp hpL hq1 hq2 hsh hz; (first | lia | omega))) ((hsb2.2 _ hpL).trans h1) ((hsb2.2 _ hcL).trans h2) e2 ?_ ?_ ?_
          · rw [List.length_append, List.length_singleton]
            split at hlen <;> (clear e2 f2 f5 f6 g4 h1 h2 h3 hL hcL hcp hk hl hln hn hp hpL hq1 hq2 hz; (first | lia | omega))
          · rw [bAll_push, hcp]
            simp only [List.length_append, Array.length_toList, Array.size_map, Array.size_extract, List.length_nil]
            simp
            (clear e2 f2 f5 f6 g4 h1 h2 h3 hL hb hcL hcp hk hlen hln hn hp hpL hq1 hq2; (first | lia | omega))
          · intro h'' t' tk' hsb3
            have := h h'' t' tk' (hsb2.trans hsb3)
            rw [g4, hbs] at this
            rw [bAll_push, hcp]
            simpa only [List.append_assoc, List.map_append, Array.toList_map, List.append_nil, List.nil_append] using this
        by_cases hpq : p < q
        · rw [if_pos (by rw [Int.toNat_natCast]; exact hpq)]
          refine wpAny_bind ?_
          unfold reSlice
          rw [if_neg (by decide)]
          refine wpAny_mkBytes ?_ (by rw [Array.size_map, Array.size_extract]; have := sizeLine_eq; (clear f2 f5 f6 g1 g4 h1 h2 h3 hb hcL hk hl hn hp hpL hpq hq1 hq2; (first | lia | omega)))
          refine wpAny_bind (wpAny_updateSeq h3 rfl ?_ (by rw [bv_size]; have := sizeLine_eq; (clear f2 f5 f6 g1 g2 g3 g4 h1 h2 h3 hcL hk hl hn hp hpL hpq hq1 hq2; (first | lia | omega))) (by rw [Array.size_push, bv_size]; have := sizeLine_eq; (clear f2 f5 f6 g1 g2 g3 g4 h1 h2 h3 hcL hk hl hn hp hpL hpq hq1 hq2; (first | lia | omega))))
          rw [if_pos (by decide)]
          refine wpAny_bind (wpAny_pure ?_)
          rw [if_pos (show (Value.bytes #[] ty != Value.none) = true from rfl)]
          obtain ⟨m2, e2⟩ := list_push (v := .bytes (((b.map (·.toNat)).extract (Int.toNat ↑p) q).map (·.toUInt8)) s.toks) h3
          rw [push_bytes] at e2
          refine wpAny_bind (wpAny_mono (tail _ m2 _ ?_ ?_ (Heap.SameBut.update ..) ⟨_, _, rfl⟩ e2) (fun _ s' h' => ?_) fun _ _ x => x)
          · rw [if_pos hpq]; simp
          · rw [bAll_push, Int.toNat_natCast]
          · rw [show (e == q) = false from beq_eq_false_iff_ne.mpr (by (clear e2 f2 f5 f6 g1 g3 g4 h1 h2 h3 hb hbs hcL hk hl hn hp hpL hpq hq1 hq2 hsh hz; (first | lia | omega)))]
            exact wpAny_pure ⟨Code.quiet_builtin _ (by decide +kernel), h'⟩
        · rw [if_neg (by rw [Int.toNat_natCast]; exact hpq)]
          rw [if_pos (by decide)]
          refine wpAny_bind (wpAny_pure ?_)
          rw [if_pos (show (Value.bytes #[] ty != Value.none) = true from rfl)]
          refine wpAny_bind (wpAny_mono (tail its m _ ?_ ?_ (Heap.SameBut.refl ..) ⟨_, _, rfl⟩ h3) (fun _ s' h' => ?_) fun _ _ x => x)
          · (clear f2 f5 f6 g1 g2 g3 g4 h1 h2 h3 hb hbs hcL hk hl hn hp hpL hpq hq1 hq2 hsh hz; (first | lia | omega))
          · have : p = q := by (clear f2 f5 f6 g2 g3 g4 h1 h2 h3 hb hbs hcL hk hl hn hp hpL hq1 hq2 hsh hz; (first | lia | omega))
            subst this
            simp
          · rw [show (e == q) = false from beq_eq_false_iff_ne.mpr (by (clear f2 f5 f6 g1 g3 g4 h1 h2 h3 hb hbs hcL hk hl hn hp hpL hpq hq1 hq2 hsh hz; (first | lia | omega)))]
            exact wpAny_pure ⟨Code.quiet_builtin _ (by decide +kernel), h'⟩
      · dsimp only at hn ⊢
        refine fin ?_
        have := nextQ_none ((b.map (·.toNat)).size - p) p (b.size - p) (by (clear f2 f5 f6 h1 h2 h3 hb hbs hcL hk hl hn hp hpL hz; (first | lia | omega))) (by (clear f2 f5 f6 h1 h2 h3 hb hcL hk hl hn hp hpL hz; (first | lia | omega))) hn
        rw [this, hbs]
    · refine found2_short rfl rfl p hsh ?_
      refine fin ?_
      have := qR_short hsh (k := b.size - p) (by (clear f2 f5 f6 h1 h2 h3 hb hcL hk hl hpL hz; (first | lia | omega))) (by (clear f2 f5 f6 h1 h2 h3 hb hcL hk hl hpL hz; (first | lia | omega)))
      rw [this, hbs]
end
end Mine
end
section -- YCnt
open PySem PySem.W PySem.Calls PyProof.Rows PyProof.V PySem.Spec
set_option maxRecDepth 100000
namespace Mine
theorem off_YCnt : True := by w_top off; trivial
open Builtin.Re Builtin.Bytes
theorem occ_one (b : Array UInt8) (c : UInt8) : (occurrences b #[c] 0 b.size).length = b.toList.count c := by
  unfold occurrences
  dsimp only
  rw [List.length_reverse]
  have hr : b.size + 1 - (0 + (#[c] : Array UInt8).size) = b.size := by simp
  have hs : (#[c] : Array UInt8).size = 1 := rfl
  rw [hr, hs]
  have hm : (List.range b.size).map (· + 0) = List.range b.size := by simp
  rw [hm]
  have key : ∀ n, n ≤ b.size → ((List.range n).foldl (fun (acc : List Nat × Nat) (i : Nat) => if (decide (i ≥ acc.2) && b.extract i (i + 1) == #[c]) = true then (i :: acc.1, i + 1) else acc) ([], 0)).2 ≤ n ∧
      ((List.range n).foldl (fun (acc : List Nat × Nat) (i : Nat) => if (decide (i ≥ acc.2) && b.extract i (i + 1) == #[c]) = true then (i :: acc.1, i + 1) else acc) ([], 0)).1.length = (b.toList.take n).count c := by
    intro n
    induction n with
    | zero => intro _; simp
    | succ n ih =>
      intro hn
      obtain ⟨h1, h2⟩ := ih (by (clear hm hr hs; (first | lia | omega)))
      rw [List.range_succ, List.foldl_append, List.foldl_cons, List.foldl_nil]
      generalize ((List.range n).foldl (fun (acc : List Nat × Nat) (i : Nat) => if (decide (i ≥ acc.2) && b.extract i (i + 1) == #[c]) = true then (i :: acc.1, i + 1) else acc) ([], 0)) = a at h1 h2 ⊢
      have hlt : n < b.toList.length := by rw [Array.length_toList]; (clear h1 h2 hm hr hs; (first | lia | omega))
      have he : b.extract n (n + 1) = #[b.toList[n]] := by
        apply Array.toList_inj.mp
        rw [Array.toList_extract, List.extract_eq_take_drop, List.drop_eq_getElem_cons hlt, show n + 1 - n = 0 + 1 by (clear h1 h2 hlt hm hn hr hs; (first | lia | omega)), List.take_succ_cons]
        simp
      rw [List.take_succ_eq_append_getElem hlt, List.count_append, ← h2]
      by_cases hc : b.toList[n] = c
      · have ht : (decide (n ≥ a.2) && b.extract n (n + 1) == #[c]) = true := by
          rw [he, hc]; simp [h1]
        rw [if_pos ht, hc]
        refine ⟨Nat.le_refl _, ?_⟩
        simp
      · have hf : ¬ (decide (n ≥ a.2) && b.extract n (n + 1) == #[c]) = true := by
          rw [he]; simp; intro _ h; exact hc h
        rw [if_neg hf]
        refine ⟨by (clear h2 hc he hf hm hn hr hs; (first | lia | omega)), ?_⟩
        have : [b.toList[n]].count c = 0 := by rw [List.count_singleton, if_neg (by simpa using hc)]
        rw [this]
        rfl
  have := (key b.size (Nat.le_refl _)).2
  rw [List.take_of_length_le (by simp)] at this
  exact this

theorem slot_bcount : Slot "bytes" "count" "bytes.count" :=
  .of (owner := "bytes") (n := "count") (by rw [typeLookup_type, builtinLookup_eq_fast]; kernel_rfl) (by decide +kernel) (by decide +kernel) (by decide +kernel)
    (by first | exact .inl (by decide +kernel) | exact .inr (by decide +kernel)) bytes_sub
theorem entry_bcount : entryFor table "bytes.count" = some Builtin.«bytes.count» := entryFor_of_tree (by kernel_rfl)
theorem args_bcount (a b : Value) : argsOk "bytes.count" ⟨[a, b], []⟩ := by
  unfold argsOk; kernel_rfl
section
variable {prog : Program} {w : World} {A : Around} {E : Value → Shared → Prop} {s : Shared} {Q : Value → Shared → Prop}
theorem call_count {b : Array UInt8} {c : UInt8} {t t' : Tok} (h : ∀ t'' tk, Q (.int (b.toList.count c : Nat) t'') { s with toks := tk }) :
    wpAny (model prog w) A (call (.builtin "bytes.count") [.bytes b t, .bytes #[c] t']) Q E s := by
  refine wpAny_call (codeAny_call_builtin slot_bcount.plain entry_bcount (slot_bcount.check _ _ _ _ _ _ _ _ rfl (args_bcount _ _) ?_))
  unfold Builtin.«bytes.count» countM searchArgs
  dsimp only
  refine wpAny_bind (wpAny_bind (wpAny_pure ?_))
  dsimp only
  refine wpAny_bind (wpAny_pure ?_)
  refine wpAny_bind (wpAny_pure ?_)
  refine wpAny_bind (buffer_bytes ?_)
  refine wpAny_bind (wpAny_pure ?_)
  refine wpAny_bind (wpAny_pure ?_)
  have hw : window b.size none none = (0, (b.size : Int)) := by
    unfold window
    simp
    rw [if_neg (by (first | lia | omega))]
    (first | lia | omega)
  rw [hw]
  dsimp only
  refine wpAny_pure ?_
  dsimp only
  by_cases hb : ((b.size : Int) - 0 < ((#[c] : Array UInt8).size : Int))
  · rw [if_pos hb]
    have : b.toList = [] := by
      have h0 : b.size = 0 := by simp at hb; (clear hw; (first | lia | omega))
      simpa using h0
    have h' := h s.toks (s.toks + 1)
    rw [this] at h'
    exact wpAny_bind (wpAny_mkInt (wpAny_pure h'))
  · rw [if_neg hb]
    dsimp only
    rw [if_neg (by simp)]
    have h' := h s.toks (s.toks + 1)
    rw [← occ_one] at h'
    refine wpAny_bind (wpAny_mkInt (wpAny_pure ?_))
    exact h'
theorem call_sub2 {pa ca : Addr} {fs : Array Value} {b : Array UInt8} {t t2 t6 ty : Tok} {cl : Value} {nc : Nat}
    (f2 : fs.getD 2 .none = .int 0 t2) (f5 : fs.getD 5 .none = .ref ca) (f6 : fs.getD 6 .none = .int 1 t6) (hz : b.size ≤ 100000)
    (h1 : s.heap.get? pa = some (patObj fs)) (h2 : s.heap.get? ca = some { cls := cl, data := .seq (intsOf c2.toList) nc })
    (h : ∀ h' t' tk, (∀ b o, s.heap.get? b = some o → h'.get? b = some o) → s.heap.objs.size ≤ h'.objs.size → Q (.bytes ((qR (b.map (·.toNat)) b.size 0).map (·.toUInt8)).toArray t') { s with heap := h', toks := tk }) :
    wpAny (model prog w) A (call (.builtin "re.Pattern.sub") [.ref pa, .bytes #[] ty, .bytes b t]) Q E s := by
  refine wpAny_call (codeAny_call_builtin slot_sub.plain entry_sub (slot_sub.check _ _ _ _ _ _ _ _ ⟨_, h1, rfl⟩ (args_sub _ _ _) ?_))
  unfold Builtin.«re.Pattern.sub» reSubstitute
  dsimp only
  rw [named_sub]
  refine wpAny_bind (wpAny_pure ?_)
  dsimp only
  refine wpAny_bind (wpAny_pure ?_)
  refine wpAny_bind (wpAny_specialOf_val rfl bytes_call ?_)
  dsimp only [Option.isSome]
  rw [if_neg (by decide)]
  refine wpAny_bind ?_
  refine wpAny_pure ?_
  dsimp only
  refine wpAny_bind (quiet_bytes ?_)
  dsimp only
  refine wpAny_bind (wpAny_pure ?_)
  rw [if_neg (by decide), if_pos (by decide +kernel)]
  refine wpAny_bind (wpAny_pure ?_)
  dsimp only
  refine wpAny_bind (wpAny_holding (whole_bytes h1 f2 f5 f6 h2 ?_))
  rw [if_neg (by decide)]
  refine wpAny_bind (wpAny_newList ?_ (by decide))
  refine wpAny_pure ⟨Code.quiet_builtin _ (by decide +kernel), ?_⟩
  have k0 : ∀ b o, s.heap.get? b = some o → (s.heap.push (listObj (bytesValues []).toArray 0)).get? b = some o := fun b o e => (Heap.get?_push_ne _ _ _ (Nat.ne_of_lt (Heap.lt_size e))).trans e
  refine sub2_loop f2 f5 f6 (Nat.ne_of_lt (Heap.lt_size h1)) (Nat.ne_of_lt (Heap.lt_size h2)) hz (b.size + 3) 0 0 [] 0 _ (by (clear f2 f5 f6 h1 h2; (first | lia | omega))) (Nat.zero_le _) (k0 _ _ h1) (k0 _ _ h2) (Heap.get?_push_size _ rfl) (by simp) (by simp [bAll]) ?_
  intro h' t' tk hsb
  refine h h' t' tk (fun b o e => (hsb.2 _ (Nat.ne_of_lt (Heap.lt_size e))).trans (k0 b o e)) ?_
  have e1 : h'.objs.size = (s.heap.push (listObj (bytesValues []).toArray 0)).objs.size := hsb.1
  have e2 := Heap.size_push s.heap (listObj (bytesValues []).toArray 0)
  (clear f2 f5 f6 h1 h2 hz; (first | lia | omega))
end
end Mine
end
section -- YPar
open PySem PySem.W PySem.Calls PyProof.Rows PyProof.V PySem.Spec
set_option maxRecDepth 100000
set_option maxHeartbeats 8000000
namespace Mine
theorem off_YPar : True := by w_top off; trivial
theorem tab_YPar {M : PySem.Model} {A : PySem.Around} {E Q : PySem.Value → PySem.Shared → Prop} {s : PySem.Shared} (h : PySem.wpAny M A (PySem.call .none []) Q E s) : PySem.wpAny M A (PySem.call .none []) Q E s := by first | (walk1; fail) | exact h
variable {prog : Program} {w : World} {p : Program} {loose : List Str} {mean : ExcName → Option Value} {mg mb : Str → Option Value}
noncomputable def stripQ (b : Array UInt8) : List UInt8 := (qR (b.map (·.toNat)) b.size 0).map (·.toUInt8)
noncomputable def pdOf (b : Array UInt8) (dep : Int) : Int := dep + ((stripQ b).count 40 : Nat) - ((stripQ b).count 41 : Nat)
theorem fr_grow {h₀ h h' : Heap} {L : Addr} {m : Str → Option Value} (F : Fr h₀ L h m) (k : ∀ b o, h.get? b = some o → h'.get? b = some o) : Fr h₀ L h' m := by
  obtain ⟨oL, es, ep, hL, hLd, hLk, hLf⟩ := F.ns
  exact ⟨⟨oL, es, ep, k _ _ hL, hLd, hLk, hLf⟩, fun b o e => k _ _ (F.keep b o e), F.above⟩
theorem news_grow {h₀ h h' : Heap} {L : Addr} {news : List (Addr × Obj)} (N : News h₀ L h news) (k : ∀ b o, h.get? b = some o → h'.get? b = some o) : News h₀ L h' news :=
  fun p hp => ⟨k _ _ (N p hp).1, (N p hp).2⟩
theorem bytes_ga : typeLookup (.type "bytes") "__getattribute__" = pure (some (.builtin "bytes.__getattribute__")) := by rw [typeLookup_type, builtinLookup_eq_fast]; kernel_rfl
theorem bytes_gx : typeLookup (.type "bytes") "__getattr__" = pure none := by rw [typeLookup_type, builtinLookup_eq_fast]; kernel_rfl
theorem type_bcount : typeOf (.builtin "bytes.count") = pure (.type "method_descriptor") := by show builtinType _ = _; rw [builtinType_eq_fast]; kernel_rfl
theorem method_bytes {A : Around} {E : Value → Shared → Prop} {s : Shared} {b : Array UInt8} {t : Tok} {name : Str} {id : String} {pl : Sem Bool} {Q : Value × List Value → Shared → Prop} (hs : typeLookup (.type "bytes") name = pure (some (.builtin id))) (ht : typeOf (.builtin id) = pure (.type "method_descriptor"))
    (h : Q (.builtin id, [.bytes b t]) s) :
    wpAny (model prog w) A (getMethod (.bytes b t) name pl) Q E s := by
  unfold getMethod
  refine wpAny_bind (wpAny_specialOf_val rfl bytes_ga ?_)
  dsimp only
  rw [if_neg (by decide +kernel)]
  refine wpAny_bind (wpAny_specialOf_val rfl bytes_gx ?_)
  refine wpAny_bind (wpAny_specialOf_val rfl hs ?_)
  refine wpAny_bind ?_
  rw [ht]
  refine wpAny_pure ?_
  rw [if_neg (by decide +kernel)]
  exact wpAny_bind (wpAny_rule (wpAny_pure h))
local macro_rules | `(tactic| walk_at "getMethod bytes") => `(tactic| (k_here; k_dflt (refine' method_bytes slot_bcount.lookup type_bcount ?_; k_whole)))
local macro_rules | `(tactic| walk_at "call builtin:bytes.count") => `(tactic| (k_here; k_dflt (refine' call_count ?_; k_whole); intro tc kc))
local macro_rules | `(tactic| walk_at "getMethod ref") => `(tactic| (k_here; k_dflt (refine' method_pat (by exact Fr.keep (by k_asm) _ _ (by assumption)) ?_; k_whole)))
local macro_rules | `(tactic| walk_at "call builtin:re.Pattern.sub") => `(tactic| (k_here; k_dflt (refine' call_sub2 (by assumption) (by assumption) (by assumption) (by assumption) (by exact Fr.keep (by k_asm) _ _ (by assumption)) (by exact Fr.keep (by k_asm) _ _ (by assumption)) ?_; k_whole); intro hx tx kx keepx sizex; have Fx := fr_grow (by k_asm) keepx; have Nx := news_grow (by k_asm) keepx))
theorem paren_spec {A : Around} (hdep : A.depth < recursionLimit) {s : Shared} {b : Array UInt8} {t ti : Tok} {dep : Int} {Q E : Value → Shared → Prop}
   (X : (hd.heap_1 w.params).In s.heap) (T : Top p loose mean mg mb s.heap) (hz : b.size ≤ 100000)
   (h : ∀ h' t' tk, (∀ b o, s.heap.get? b = some o → h'.get? b = some o) → Q (.int (pdOf b dep) t') { s with heap := h', toks := tk }) :
   wpAny (model prog w) A (call (.ref 148) [.bytes b t, .int dep ti]) Q E s := by
  obtain ⟨fs, cl, n, e1, f2, f5, f6, e2⟩ := (pat2 X).ex
  k_dflt (refine' enter [("data", .bytes b t), ("depth", .int dep ti)] ?X ?l ?o ?c ?r ?b ?lo ?c2 ?c3 ?c4 ?c5 ?_; (case X => assumption); (case l => exact Top.nolimit (by assumption)); (case o => k_is); (case c => k_is); (case b => first | exact BindsTo.of_eq rfl | exact binds_K (by assumption) rfl (by k_is) rfl rfl rfl); (case c5 => decide); (case r => (walk_at "m_room")); (case lo => exact locs rfl); (case c2 => exact rfl); (case c3 => exact rfl); (case c4 => exact rfl); (walk_at "m_enter2"))
  w_strict (repeat' ((fail_if_success (with_reducible show wpAny _ _ (exec (Stmt.For _ _ _ _ _) _) _ _ _)); walk1))
  exact h _ _ _ (Fr.keep (by assumption))
end Mine
end
section -- YDep
open PySem PySem.W PySem.Calls PyProof.Rows PyProof.V PySem.Spec
set_option maxRecDepth 100000
set_option maxHeartbeats 8000000
namespace Mine
theorem off_YDep : True := by w_top off; trivial
variable {prog : Program} {w : World} {p : Program} {loose : List Str} {mean : ExcName → Option Value} {mg mb : Str → Option Value}
noncomputable def Forest (ms : List Int) : Prop := ms.getD 0 0 = 0 ∧ ∀ k, k + 1 < ms.length → 0 ≤ ms.getD (k + 1) 0 ∧ ms.getD (k + 1) 0 ≤ ms.getD k 0 + 1
theorem Forest.nonneg {ms : List Int} (h : Forest ms) (k : Nat) (hk : k < ms.length) : 0 ≤ ms.getD k 0 := by
  cases k with
  | zero => rw [h.1]; exact Int.le_refl _
  | succ k => exact (h.2 k hk).1
theorem endG_one {h₀ h h' : Heap} {L : Addr} {J : (Str → Option Value) → List (Addr × Obj) → Prop} {own nx rest : List (Addr × Obj)} {s₁ : Shared} {tk : Nat} {m' : Str → Option Value} {D : Addr} {o : Obj}
    (F : Fr h₀ L h' m') (N : News h₀ L h' ((D, o) :: rest)) (hown : ∀ p ∈ own, p ∈ rest) (hD : D ∈ nx.map (·.1) ∨ h.get? D = none) (hJ : J m' [(D, o)]) : EndG h₀ L J own nx h s₁ { s₁ with heap := h', toks := tk } :=
  ⟨_, _, _, _, [(D, o)], rfl, F, N, fun p hp => by rw [List.mem_singleton.mp hp]; exact .head _, fun p hp => .tail _ (hown p hp), fun p hp => by rw [List.mem_singleton.mp hp]; exact hD, hJ⟩
theorem ints_snoc {us : List Value} {ms : List Int} (h : IntsAre us ms) (x : Int) (t : Tok) : IntsAre (us ++ [.int x t]) (ms ++ [x]) := by
  induction h with
  | nil => exact .cons _ _ .nil
  | cons n t' _ ih => exact .cons _ _ ih
theorem getD_snoc_lt {ms : List Int} {x : Int} {k : Nat} (h : k < ms.length) : (ms ++ [x]).getD k 0 = ms.getD k 0 := by
  simp [List.getD, List.getElem?_append_left h]
theorem getD_snoc_eq {ms : List Int} {x : Int} : (ms ++ [x]).getD ms.length 0 = x := by
  simp [List.getD]
theorem Forest.snoc {ms : List Int} {i : Nat} (hl : ms.length = i + 1) (h : Forest ms) {x : Int} (h0 : 0 ≤ x) (h1 : x ≤ ms.getD i 0 + 1) : Forest (ms ++ [x]) := by
  refine ⟨by rw [getD_snoc_lt (by (clear h0 h1; (first | lia | omega)))]; exact h.1, fun k hk => ?_⟩
  rw [List.length_append, List.length_singleton] at hk
  by_cases e : k + 1 < ms.length
  · rw [getD_snoc_lt e, getD_snoc_lt (by (clear h0 h1 hk; (first | lia | omega)))]; exact h.2 k e
  · have e2 : k + 1 = ms.length := by (clear h0 h1; (first | lia | omega))
    have e3 : k = i := by (clear e2 h0 h1; (first | lia | omega))
    rw [e2, getD_snoc_eq, getD_snoc_lt (by (clear e2 e3 h0 h1; (first | lia | omega))), e3]
    exact ⟨h0, h1⟩
theorem depths_spec {A : Around} (hdep : A.depth < recursionLimit) (hh : A.handled = none) {s : Shared} {dr : Addr} {vs : List Value} {ns : List Int} {Q E : Value → Shared → Prop}
   (X : (hd.heap_1 w.params).In s.heap) (T : Top p loose mean mg mb s.heap) (hl : s.heap.IsList dr vs.toArray) (hi : IntsAre vs ns) (h6 : ns.length = 6)
   (h : ∀ h' D us ms n tk, (∀ b o, s.heap.get? b = some o → h'.get? b = some o) → s.heap.get? D = none → h'.get? D = some (listObj us.toArray n) → IntsAre us ms → ms.length = 6 → Forest ms → Q (.ref D) { s with heap := h', toks := tk }) :
   wpAny (model prog w) A (call (.ref 169) [.ref dr]) Q E s := by
  k_dflt (refine' enter [("draws", .ref dr)] ?X ?l ?o ?c ?r ?b ?lo ?c2 ?c3 ?c4 ?c5 ?_; (case X => assumption); (case l => exact Top.nolimit (by assumption)); (case o => k_is); (case c => k_is); (case b => first | exact BindsTo.of_eq rfl | exact binds_K (by assumption) rfl (by k_is) rfl rfl rfl); (case c5 => decide); (case r => (walk_at "m_room")); (case lo => exact locs rfl); (case c2 => exact rfl); (case c3 => exact rfl); (case c4 => exact rfl); (walk_at "m_enter2"))
  w_strict (repeat' ((fail_if_success (with_reducible show wpAny _ _ (exec (Stmt.For _ _ _ _ _) _) _ _ _)); walk1))
  (walk_at "m_for")
  w_strict (repeat' ((fail_if_success (with_reducible show wpAny _ _ (exec (Stmt.For _ _ _ _ _) _) _ _ _)); (fail_if_success (with_reducible show wpAny _ _ (pyIter _) _ _ _)); walk1))
  rename_i h₁ tk1 D h2 _ h3 F3 N3 h4 tk4 t1 u1 v1 hr F N _
  refine iter_rangeG (a₀ := 1) (b₀ := 6) (n := 5) (fun i m nx => (∃ us ms n, nx = [(D, W.listOf us.toArray n)] ∧ IntsAre us ms ∧ ms.length = i + 1 ∧ Forest ms) ∧ ∀ z : Str, z ≠ "k" → m z = if z = "depths" then some (.ref D) else List.lookup z [(Str.ofString "draws", Value.ref dr)].reverse) hh hr (by decide) (by decide) F N ⟨⟨_, [0], _, rfl, .cons _ _ .nil, rfl, rfl, fun k hk => by simp at hk⟩, fun _ _ => rfl⟩ ?_ ?_
  · rintro i t m₁ nx h5 tk5 own hi ho ⟨⟨us, ms, n, rfl, hus, hlen, hfor⟩, hm⟩ F5 N5
    rw [map_none hm] at F5
    have e1 : (1 + (i : Int) - 1).toNat = i := by (clear h6 hdep hh; (first | lia | omega))
    have hd : 0 ≤ ms.getD (1 + (i : Int) - 1).toNat 0 := by rw [e1]; exact hfor.nonneg i (by (clear e1 h6 hdep hh hi; (first | lia | omega)))
    w_strict (repeat' ((fail_if_success (with_reducible show wpAny _ _ (exec (Stmt.For _ _ _ _ _) _) _ _ _)); walk1))
    rename_i ta tb h6 F6 N6
    rw [List.push_toArray] at N6
    rw [e1] at N6
    have hd' : 0 ≤ ms.getD i 0 := hfor.nonneg i (by (clear e1 hd hdep hh hi; (first | lia | omega)))
    refine endG_one F6 N6 (fun p hp => hp) (.inl (.head _)) ⟨⟨_, _, _, rfl, ints_snoc hus _ _, by simp [hlen], hfor.snoc hlen ?_ ?_⟩, fun z hz => by dsimp only; rw [if_neg hz]⟩
    · exact Int.fmod_nonneg_of_pos _ (by (clear e1 hd hdep hh hi hlen; (first | lia | omega)))
    · have := Int.fmod_lt_of_pos (ns.getD (1 + (i : Int)).toNat 0) (show 0 < ms.getD i 0 + 2 by (clear e1 hd hdep hh hi hlen; (first | lia | omega)))
      (clear e1 hd hd' hdep hh hi hlen; (first | lia | omega))
  · rintro m₁ nx h5 tk5 ⟨⟨us, ms, n, rfl, hus, hlen, hfor⟩, hm⟩ F5 N5
    rw [← done_none hm] at F5
    w_strict (repeat' ((fail_if_success (with_reducible show wpAny _ _ (exec (Stmt.For _ _ _ _ _) _) _ _ _)); walk1))
    exact h _ D us ms n _ (Fr.keep (by assumption)) (News.fresh N5 (.head _)) (N5.get (.head _)) hus hlen hfor
end Mine
end
section -- YPile
open PySem PySem.W PySem.Calls PyProof.Rows PyProof.V PySem.Spec
set_option maxRecDepth 100000
set_option maxHeartbeats 1000000
namespace Mine
theorem off_YPile : True := by w_top off; trivial
variable {w : World} {p : Program} {loose : List Str} {mean : ExcName → Option Value} {mg mb : Str → Option Value}
theorem hide_in {K : Frag} {h₀ h : Heap} {L x : Addr} {m : Str → Option Value} (F : Fr h₀ L h m) (hx : h₀.get? x = none) : ∀ b o, h₀.get? b = some o → (h.hide x).get? b = some o := fun b o e => by
  have hb : b ≠ x := fun q => by rw [q, hx] at e; cases e
  exact (Heap.hide_ne _ hb).trans (F.keep b o e)
theorem fr_but {h₀ h h' : Heap} {L x : Addr} {m : Str → Option Value} (F : Fr h₀ L h m) (hx : h₀.get? x = none) (hL : x ≠ L) (k : ∀ b o, b ≠ x → h.get? b = some o → h'.get? b = some o) : Fr h₀ L h' m := by
  obtain ⟨oL, es, ep, hLg, hLd, hLk, hLf⟩ := F.ns
  exact ⟨⟨oL, es, ep, k _ _ (Ne.symm hL) hLg, hLd, hLk, hLf⟩, fun b o e => k _ _ (fun q => by rw [q, hx] at e; cases e) (F.keep b o e), F.above⟩
theorem news_but {h₀ h h' : Heap} {L x : Addr} {o o' : Obj} {news : List (Addr × Obj)} {g : Obj → List (Addr × Obj)} (N : News h₀ L h news) (U : UpdF x o news g) (hx' : h'.get? x = some o') (k : ∀ b o, b ≠ x → h.get? b = some o → h'.get? b = some o) : News h₀ L h' (g o') := by
  obtain ⟨pre, post, rfl, hg, a, c⟩ := U.split
  rw [hg]
  have z := N (x, o) (List.mem_append_right _ (.head _))
  intro q hq
  rcases List.mem_append.mp hq with h1 | h1
  · exact ⟨k _ _ (a q h1) (N q (List.mem_append_left _ h1)).1, (N q (List.mem_append_left _ h1)).2⟩
  · rcases List.mem_cons.mp h1 with rfl | h1
    · exact ⟨hx', z.2⟩
    · have hq' := List.mem_append_right pre (List.mem_cons_of_mem (x, o) h1)
      exact ⟨k _ _ (c q h1) (N q hq').1, (N q hq').2⟩
theorem updF_mem {x : Addr} {o : Obj} {news : List (Addr × Obj)} {g : Obj → List (Addr × Obj)} (U : UpdF x o news g) : (x, o) ∈ news := by
  obtain ⟨pre, post, rfl, _⟩ := U.split
  exact List.mem_append_right _ (.head _)
theorem push_call {prog : Program} {A : Around} {E : Value → Shared → Prop} {s : Shared} {h₀ : Heap} {L : Addr} {m : Str → Option Value} {news : List (Addr × Obj)} {g : Obj → List (Addr × Obj)} {x dx : Addr} {its : Array Value} {n : Nat} {od : Obj} {a b : Str} {ta tb : Tok} {Q : Value → Shared → Prop}
    (F : Fr h₀ L s.heap m) (N : News h₀ L s.heap news) (X : (hd.heap_1 w.params).In h₀) (T : Top p loose mean mg mb h₀) (hdep : A.depth < recursionLimit)
    (U : UpdF x (pileObj dx its n) news g) (hdx : (dx, od) ∈ news) (hne : dx ≠ x) (hod : lookIn "append" od = some none) (hsz : its.size ≤ 1000)
    (h : ∀ h' t tk, Fr h₀ L h' m → News h₀ L h' ((t, tupOf [.str a ta, .str b tb]) :: g (pileObj dx (its.push (.ref t)) (n + 1))) → s.heap.get? t = none → Q .none { s with heap := h', toks := tk }) :
    wpAny (model prog w) A (call (.ref 75) [.ref x, .str a ta, .str b tb]) Q E s := by
  have z := N _ (updF_mem U)
  have kk := hide_in (K := hd.heap_1 w.params) F z.2.2
  refine push_spec hdep (X.keeps kk) (T.keeps kk) z.1 ((Heap.hide_ne _ hne).trans (N _ hdx).1) hod hsz fun h' t tk nt ht hx kp => ?_
  have htx : t ≠ x := fun q => by rw [q, z.1] at nt; cases nt
  have N1 := news_but N U hx kp
  refine h h' t tk (fr_but F z.2.2 z.2.1 kp) (fun q hq => ?_) nt
  rcases List.mem_cons.mp hq with rfl | hq
  · refine ⟨ht, fun e => ?_, ?_⟩
    · obtain ⟨oL, _, _, hL, _⟩ := F.ns
      dsimp only at e
      rw [e, hL] at nt; cases nt
    · cases q : h₀.get? t with
      | none => rfl
      | some o' => rw [F.keep _ _ q] at nt; cases nt
  · exact N1 q hq
theorem pop_call {A : Around} {E : Value → Shared → Prop} {s : Shared} {h₀ : Heap} {L : Addr} {m : Str → Option Value} {news : List (Addr × Obj)} {g : Obj → List (Addr × Obj)} {x dx : Addr} {l : List Value} {v : Value} {n : Nat} {od : Obj} {Q : Value → Shared → Prop}
    (F : Fr h₀ L s.heap m) (N : News h₀ L s.heap news) (X : (hd.heap_1 w.params).In h₀) (T : Top p loose mean mg mb h₀) (hdep : A.depth + 1 < recursionLimit)
    (U : UpdF x (pileObj dx (l ++ [v]).toArray n) news g) (hdx : (dx, od) ∈ news) (hne : dx ≠ x) (hod : lookIn "part_count" od = some none) (hsz : l.length ≤ 1000)
    (h : ∀ h' n' tk, Fr h₀ L h' m → News h₀ L h' (g (pileObj dx l.toArray n')) → Q v { s with heap := h', toks := tk }) :
    wpAny (model PySem.Challenge.pw_xo0007_01 w) A (call (.ref 91) [.ref x]) Q E s := by
  have z := N _ (updF_mem U)
  have kk := hide_in (K := hd.heap_1 w.params) F z.2.2
  exact pop_spec hdep (X.keeps kk) (T.keeps kk) z.1 ((Heap.hide_ne _ hne).trans (N _ hdx).1) hod hsz fun h' n' tk hx kp =>
    h h' n' tk (fr_but F z.2.2 z.2.1 kp) (news_but N U hx kp)
end Mine
end
section -- YNum
open PySem PySem.W PySem.Calls PyProof.Rows PyProof.V PySem.Spec
set_option maxRecDepth 100000
set_option maxHeartbeats 8000000
namespace Mine
theorem off_YNum : True := by w_top off; trivial
theorem tab_YNum {M : PySem.Model} {A : PySem.Around} {E Q : PySem.Value → PySem.Shared → Prop} {s : PySem.Shared} (h : PySem.wpAny M A (PySem.call .none []) Q E s) : PySem.wpAny M A (PySem.call .none []) Q E s := by first | (walk1; fail) | exact h
variable {prog : Program} {w : World} {p : Program} {loose : List Str} {mean : ExcName → Option Value} {mg mb : Str → Option Value}
noncomputable def Small (b : Int) (ms : List Int) : Prop := ∀ k, k < ms.length → 0 ≤ ms.getD k 0 ∧ ms.getD k 0 ≤ b
local macro_rules | `(tactic| walk_at "call builtin:min") => `(tactic| (k_here; k_dflt (refine' min_two_N (by with_unfolding_all assumption) (by k_asm) (by k_asm) ?_; k_whole); intro hm' km' Fm' Nm'))
theorem range_size (c : Nat) : Builtin.Range.rangeSize 0 ((c : Nat) : Int) 1 = (c : Int) := by
  unfold Builtin.Range.rangeSize
  rw [if_pos (by decide)]
  split
  · rw [Int.ediv_one]; (first | lia | omega)
  · (first | lia | omega)
theorem range_small (c : Nat) (h : c < 2 ^ 40) : Builtin.Range.small 0 ((c : Nat) : Int) 1 = true := by
  unfold Builtin.Range.small
  rw [range_size]
  unfold Builtin.Range.rangeFitsLong
  simp
  (first | lia | omega)
theorem small_set {ms : List Int} {i k : Nat} {d : Int} (h : Small (182 + 1000000 * (i : Int)) ms) (hk : k < ms.length) (h0 : 0 ≤ d) (h1 : d ≤ 1000000) : Small (182 + 1000000 * ((i + 1 : Nat) : Int)) (ms.set k (ms.getD k 0 + d)) := by
  intro j hj
  rw [List.length_set] at hj
  by_cases e : k = j
  · subst e
    have := h k hk
    have e2 : (ms.set k (ms.getD k 0 + d)).getD k 0 = ms.getD k 0 + d := by simp [List.getD, hk]
    rw [e2]
    (clear hj hk; (first | lia | omega))
  · have := h j hj
    have e2 : (ms.set k (ms.getD k 0 + d)).getD j 0 = ms.getD j 0 := by simp [List.getD, List.getElem?_set_ne e]
    rw [e2]
    (clear e h0 h1 hj hk; (first | lia | omega))
theorem numbers_spec {A : Around} (hdep : A.depth < recursionLimit) (hh : A.handled = none) {s : Shared} {S : Addr} {vs : List Value} {ns : List Int} {Q E : Value → Shared → Prop}
   (X : (hd.heap_1 w.params).In s.heap) (T : Top p loose mean mg mb s.heap) (hl : s.heap.IsList S vs.toArray) (hi : IntsAre vs ns) (h6 : ns.length ≤ 63)
   (h : ∀ h' D us ms n tk, (∀ b o, s.heap.get? b = some o → h'.get? b = some o) → s.heap.get? D = none → h'.get? D = some (listObj us.toArray n) → IntsAre us ms → ms.length = 6 → Small 25000000 ms → Q (.ref D) { s with heap := h', toks := tk }) :
   wpAny (model prog w) A (call (.ref 162) [.ref S]) Q E s := by
  k_dflt (refine' enter [("script", .ref S)] ?X ?l ?o ?c ?r ?b ?lo ?c2 ?c3 ?c4 ?c5 ?_; (case X => assumption); (case l => exact Top.nolimit (by assumption)); (case o => k_is); (case c => k_is); (case b => first | exact BindsTo.of_eq rfl | exact binds_K (by assumption) rfl (by k_is) rfl rfl rfl); (case c5 => decide); (case r => (walk_at "m_room")); (case lo => exact locs rfl); (case c2 => exact rfl); (case c3 => exact rfl); (case c4 => exact rfl); (walk_at "m_enter2"))
  w_strict (repeat' ((fail_if_success (with_reducible show wpAny _ _ (exec (Stmt.For _ _ _ _ _) _) _ _ _)); walk1))
  (walk_at "m_for")
  w_strict (repeat' ((fail_if_success (with_reducible show wpAny _ _ (exec (Stmt.For _ _ _ _ _) _) _ _ _)); (fail_if_success (with_reducible show wpAny _ _ (pyIter _) _ _ _)); walk1))
  rename_i tk1 D h2 _ h3 F3 N3 hm1 km1 F4 N4 h5 tk5 t1 u1 v1 hr F N _
  have hc : (if 24 < (ns.length : Int) then (24 : Int) else ns.length) = ((min ns.length 24 : Nat) : Int) := by split <;> (clear hdep hh; (first | lia | omega))
  rw [hc] at hr
  refine iter_rangeG (a₀ := 0) (b₀ := ((min ns.length 24 : Nat) : Int)) (n := min ns.length 24) (fun i m nx => (∃ us ms n, nx = [(D, W.listOf us.toArray n)] ∧ IntsAre us ms ∧ ms.length = 6 ∧ Small (182 + 1000000 * i) ms) ∧ ∀ z : Str, z ≠ "i" → m z = if z = "draws" then some (.ref D) else List.lookup z [(Str.ofString "script", Value.ref S)].reverse) hh hr ?_ ?_ F N ⟨⟨_, [121, 61, 182, 6, 125, 63], _, rfl, .cons _ _ (.cons _ _ (.cons _ _ (.cons _ _ (.cons _ _ (.cons _ _ .nil))))), rfl, ?_⟩, fun _ _ => rfl⟩ ?_ ?_
  · exact range_small _ (by (clear hc hdep hh; (first | lia | omega)))
  · exact range_size _
  · intro k hk
    have : k < 6 := hk
    rcases (by (clear h6 hc hdep hh hk; (first | lia | omega)) : k = 0 ∨ k = 1 ∨ k = 2 ∨ k = 3 ∨ k = 4 ∨ k = 5) with rfl | rfl | rfl | rfl | rfl | rfl <;> decide
  · rintro i t m₁ nx h6 tk6 own hi ho ⟨⟨us, ms, n, rfl, hus, hlen, hsm⟩, hm⟩ F5 N5
    rw [map_none hm] at F5
    w_strict (repeat' ((fail_if_success (with_reducible show wpAny _ _ (exec (Stmt.For _ _ _ _ _) _) _ _ _)); walk1))
    rename_i ta tb h7 F7 N7 hi7 hl7 hs7
    refine endG_one F7 N7 (fun p hp => hp) (.inl (.head _)) ⟨⟨_, _, _, rfl, hi7, hl7.trans hlen, ?_⟩, fun z hz => by dsimp only; rw [if_neg hz]⟩
    refine small_set hsm ?_ ?_ ?_
    · have := Int.fmod_lt_of_pos (0 + (i : Int)) (show (0 : Int) < 6 by decide)
      have := Int.fmod_nonneg_of_pos (0 + (i : Int)) (show (0 : Int) < 6 by decide)
      (clear hc hdep hh hi hl7 hs7; (first | lia | omega))
    · exact Int.fmod_nonneg_of_pos _ (by decide)
    · have := Int.fmod_lt_of_pos (ns.getD (0 + (i : Int)).toNat 0) (show (0 : Int) < 10 ^ Int.toNat 6 by decide)
      have e : (10 : Int) ^ Int.toNat 6 = 1000000 := by decide
      (clear hc hdep hh hi hl7 hlen hs7; (first | lia | omega))
  · rintro m₁ nx h5 tk5 ⟨⟨us, ms, n, rfl, hus, hlen, hsm⟩, hm⟩ F5 N5
    rw [← done_none hm] at F5
    w_strict (repeat' ((fail_if_success (with_reducible show wpAny _ _ (exec (Stmt.For _ _ _ _ _) _) _ _ _)); walk1))
    exact h _ D us ms n _ (Fr.keep (by assumption)) (News.fresh N5 (.head _)) (N5.get (.head _)) hus hlen fun k hk => ⟨(hsm k hk).1, by have := (hsm k hk).2; (clear hc hdep hh hk hlen; (first | lia | omega))⟩
end Mine
end
section -- YB1
open PySem PySem.W PySem.Calls PyProof.Rows PyProof.V PySem.Spec PySem.W.X
set_option maxRecDepth 100000
set_option maxHeartbeats 8000000
namespace Mine
theorem off_YB1 : True := by w_top off; trivial
variable {w : World} {A : Around} {s : Shared} {Q : Value → Shared → Prop} {E : Value → Shared → Prop}
theorem bytes_one (hh : A.handled = none) {l : Addr} {t : Tok} {i : Nat} (hi : i < 6) (h1 : s.heap.get? l = some { cls := .type "list", data := .seq #[.int ((97 + i : Nat) : Int) t] })
   (hQ : ∀ h' t k, (∀ b o, s.heap.get? b = some o → h'.get? b = some o) → Q (.bytes #[(97 + i).toUInt8] t) { s with heap := h', toks := k }) :
   wpAny (model PySem.Challenge.pw_xo0007_01 w) A (call (.type "bytes") [.ref l]) Q E s := by
  refine call_bytes_ints (vs := [.int ((97 + i : Nat) : Int) t]) (ns := [((97 + i : Nat) : Int)]) ⟨_, h1, rfl, _, rfl⟩ (.cons _ _ .nil) (fun n hn => ?_) (by rw [sizeLine_eq]; simp) hh fun h' t k hk => ?_
  · rw [List.mem_singleton.mp hn]
    (clear h1 hh; (first | lia | omega))
  · have := hQ h' t k hk
    have e : byteArr [((97 + i : Nat) : Int)] = #[(97 + i).toUInt8] := by
      unfold byteArr
      rw [List.map_cons, List.map_nil, Int.toNat_natCast]
    rw [e]
    exact this
end Mine
end
section -- YRep
open PySem PySem.W PySem.Calls PyProof.Rows PyProof.V PySem.Spec
set_option maxRecDepth 100000
set_option maxHeartbeats 8000000
namespace Mine
theorem off_YRep : True := by w_top off; trivial
theorem tab_YRep {M : PySem.Model} {A : PySem.Around} {E Q : PySem.Value → PySem.Shared → Prop} {s : PySem.Shared} (h : PySem.wpAny M A (PySem.call .none []) Q E s) : PySem.wpAny M A (PySem.call .none []) Q E s := by first | (walk1; fail) | exact h
variable {prog : Program} {w : World} {p : Program} {loose : List Str} {mean : ExcName → Option Value} {mg mb : Str → Option Value}
noncomputable def dressOf : Nat → List UInt8
  | 0 => []
  | 1 => [34, 41, 41, 34]
  | 2 => [34, 92, 34, 41, 34]
  | _ => [34, 40, 92, 92, 34]
noncomputable def openCell (k : Nat) (q : Nat) : Array UInt8 := ([40, (97 + k).toUInt8] ++ dressOf q).toArray
noncomputable def closeCell : Array UInt8 := #[41]
noncomputable def qOf (ns : List Int) (k : Nat) : Nat := (((ns.getD k 0).fdiv 60).fmod 4).toNat
noncomputable def ajarAt (ms : List Int) : Nat → Int
  | 0 => 0
  | k + 1 => ms.getD k 0 + 1
noncomputable def cellsTo (ms : List Int) (q : Nat → Nat) : Nat → List (Array UInt8)
  | 0 => []
  | k + 1 => cellsTo ms q k ++ List.replicate (ajarAt ms k - ms.getD k 0).toNat closeCell ++ [openCell k (q k)]
noncomputable def cellsOf (ms : List Int) (q : Nat → Nat) : List (Array UInt8) := cellsTo ms q 6 ++ List.replicate (ajarAt ms 6).toNat closeCell
noncomputable def dressObj (t : Tok) : Obj := W.listOf #[.bytes #[] t, .bytes #[34, 41, 41, 34] (t + 1), .bytes #[34, 92, 34, 41, 34] (t + 1 + 1), .bytes #[34, 40, 92, 92, 34] (t + 1 + 1 + 1)] 0
theorem Forest.le_ajar {ms : List Int} (h : Forest ms) (k : Nat) (hk : k < ms.length) : ms.getD k 0 ≤ ajarAt ms k := by
  cases k with
  | zero => rw [h.1]; exact Int.le_refl _
  | succ k => exact (h.2 k hk).2
theorem Forest.ajar_le {ms : List Int} (h : Forest ms) : ∀ (k : Nat), k ≤ ms.length → ajarAt ms k ≤ k
  | 0, _ => Int.le_refl _
  | k + 1, hk => by
    have := h.le_ajar k (by (first | lia | omega))
    have := Forest.ajar_le h k (by (clear this; (first | lia | omega)))
    show ms.getD k 0 + 1 ≤ _
    (clear hk; (first | lia | omega))
theorem cellsTo_len {ms : List Int} (h : Forest ms) (q : Nat → Nat) : ∀ (k : Nat), k ≤ 6 → k ≤ ms.length → (cellsTo ms q k).length ≤ 8 * k
  | 0, _, _ => Nat.le_refl _
  | k + 1, hk, hl => by
    have := cellsTo_len h q k (by (clear hl; (first | lia | omega))) (by (clear hk; (first | lia | omega)))
    have := h.nonneg k (by (clear hk this; (first | lia | omega)))
    have := h.ajar_le k (by (clear hk this; (first | lia | omega)))
    unfold cellsTo
    simp only [List.length_append, List.length_replicate, List.length_singleton]
    (clear hl; (first | lia | omega))
theorem bv_step (cs : List (Array UInt8 × Tok)) (n : Nat) (a b : Array UInt8) (t t' : Tok) :
    ((bytesValues cs).toArray ++ (List.replicate n [Value.bytes a t]).flatten.toArray).push (.bytes b t') = (bytesValues (cs ++ List.replicate n (a, t) ++ [(b, t')])).toArray := by
  have e : (List.replicate n [Value.bytes a t]).flatten = bytesValues (List.replicate n (a, t)) := by
    unfold bytesValues
    rw [List.map_replicate]
    induction n with
    | zero => rfl
    | succ n ih => rw [List.replicate_succ, List.flatten_cons, ih]; rfl
  rw [e]
  unfold bytesValues
  simp
theorem bv_end (cs : List (Array UInt8 × Tok)) (n : Nat) (a : Array UInt8) (t : Tok) :
    bytesValues cs ++ (List.replicate n [Value.bytes a t]).flatten = bytesValues (cs ++ List.replicate n (a, t)) := by
  have e : (List.replicate n [Value.bytes a t]).flatten = bytesValues (List.replicate n (a, t)) := by
    unfold bytesValues
    rw [List.map_replicate]
    induction n with
    | zero => rfl
    | succ n ih => rw [List.replicate_succ, List.flatten_cons, ih]; rfl
  rw [e]
  unfold bytesValues
  simp
theorem bv_fst {cs : List (Array UInt8 × Tok)} {ms : List Int} {q : Nat → Nat} {i n : Nat} {b : Array UInt8} {t t' : Tok} (h : cs.map (·.1) = cellsTo ms q i) (hn : n = (ajarAt ms i - ms.getD i 0).toNat) (hb : b = openCell i (q i)) :
    (cs ++ List.replicate n ((#[41] : Array UInt8), t) ++ [(b, t')]).map (fun x => x.1) = cellsTo ms q (i + 1) := by
  subst hn hb
  rw [List.map_append, List.map_append, h, List.map_replicate]
  rfl
theorem endG_two {h₀ h h' : Heap} {L : Addr} {J : (Str → Option Value) → List (Addr × Obj) → Prop} {own nx pre rest : List (Addr × Obj)} {s₁ : Shared} {tk : Nat} {m' : Str → Option Value} {C D : Addr} {o o' : Obj}
    (F : Fr h₀ L h' m') (N : News h₀ L h' (pre ++ (C, o) :: (D, o') :: rest)) (hown : ∀ p ∈ own, p ∈ rest) (hC : C ∈ nx.map (·.1)) (hD : D ∈ nx.map (·.1)) (hJ : J m' [(C, o), (D, o')]) : EndG h₀ L J own nx h s₁ { s₁ with heap := h', toks := tk } :=
  ⟨_, _, _, _, [(C, o), (D, o')], rfl, F, N, fun p hp => List.mem_append_right _ (by
    rcases List.mem_cons.mp hp with e | hp
    · rw [e]; exact .head _
    · rw [List.mem_singleton.mp hp]; exact .tail _ (.head _)), fun p hp => List.mem_append_right _ (.tail _ (.tail _ (hown p hp))), fun p hp => by
    rcases List.mem_cons.mp hp with e | hp
    · rw [e]; exact .inl hC
    · rw [List.mem_singleton.mp hp]; exact .inl hD, hJ⟩
theorem mul_list_N {A : Around} {E : Value → Shared → Prop} {s : Shared} {h₀ : Heap} {L : Addr} {m : Str → Option Value} {news : List (Addr × Obj)} {l : Addr} {vs : List Value} {x : Int} {u : Tok} {k : Nat} {Q : Value → Shared → Prop}
    (Fm : Fr h₀ L s.heap m) (N : News h₀ L s.heap news) (ho : s.heap.get? l = some (W.listOf vs.toArray k))
    (hlo : -(2 ^ 63 : Int) ≤ x) (hhi : x < 2 ^ 63) (hsz : vs.length * x.toNat ≤ 2 ^ 24)
    (h : ∀ h' a, Fr h₀ L h' m → News h₀ L h' ((a, W.listOf (List.replicate x.toNat vs).flatten.toArray 0) :: news) → (∀ p ∈ news, p.1 < a) → Q (.ref a) { s with heap := h' }) :
    wpAny (model prog w) A (binaryOp .Mult (.ref l) (.int x u)) Q E s := by
  have hsz' : vs.toArray.size * x.toNat ≤ 2 ^ 24 := by simpa using hsz
  refine wpAny_binaryOp_repeat_ref (T := "list") (U := "int") (by decide) ⟨_, ho, rfl⟩ (fun s' => typeIs_int s' x u) noFill_list_mul F.fills_int_mul F.slot_int_rmul repeat_list F.slot_int_index.lookup
    (call_meets F.slot_int_rmul (typeIs_int s x u) F.entry_int_rmul (F.args_int_rmul_2 _ _) (lm_int_rmul_list_any x u l vs.toArray k none #[])
      ⟨ho, rfl, ⟨_, ho, rfl⟩, call_meets F.slot_list_mul ⟨_, ho, rfl⟩ F.entry_list_mul (F.args_list_mul_2 _ _)
        (lm_list_mul_any l vs.toArray k none #[] x u (by simp [Builtin.List.listFitsIndex]; (clear ho hsz hsz'; (first | lia | omega))) (by (clear hhi hlo ho hsz; (first | lia | omega))) (by simp [Builtin.List.listTooLong, sizeLine]; (clear hhi hlo ho hsz'; (first | lia | omega))))
        ⟨ho, ?_⟩⟩)
  have N' := News.push Fm N { cls := Value.type "list", data := Data.seq (List.foldl (fun x1 x2 => x1 ++ x2) #[] (List.replicate (if vs.toArray.isEmpty = true then 0 else x.toNat) vs.toArray)) }
  rw [listMul_foldl_if] at N'
  refine h _ _ (Fm.push _) ?_ fun p hp => Heap.lt_size (N p hp).1
  rw [listMul_foldl_if]
  exact N'
theorem extend_K {A : Around} {E : Value → Shared → Prop} {s : Shared} {h₀ : Heap} {L : Addr} {m : Str → Option Value} {news : List (Addr × Obj)} {D b : Addr} {its its2 : Array Value} {n n2 : Nat} {g : Obj → List (Addr × Obj)} {Q : Value → Shared → Prop}
    (F : Fr h₀ L s.heap m) (N : News h₀ L s.heap news) (U : UpdF D (W.listOf its n) news g) (hb : s.heap.get? b = some (W.listOf its2 n2))
    (h : ∀ h' n', Fr h₀ L h' m → News h₀ L h' (g (W.listOf (its ++ its2) n')) → Q .none { s with heap := h' })
    (hsz : its.size + its2.size ≤ sizeLine := by size_fits) :
    wpAny (model prog w) A (call (.builtin "list.extend") [.ref D, .ref b]) Q E s := by
  obtain ⟨pre, post, rfl, hg, a, c⟩ := U.split
  refine extend_in (ys := its.toList) (own := pre) (rest := post) F N a c hb (fun h' n' F' N' => ?_) (by rw [Array.length_toList]; exact hsz)
  have e : (its.toList ++ its2.toList).toArray = its ++ its2 := by simp
  rw [e] at N'
  exact h h' n' F' (by rw [hg]; exact N')
theorem bytes_call_N {A : Around} {E : Value → Shared → Prop} {s : Shared} {h₀ : Heap} {L : Addr} {m : Str → Option Value} {news : List (Addr × Obj)} {P : Addr} {t : Tok} {i : Nat} {c : Int} {Q : Value → Shared → Prop} (hh : A.handled = none) (hi : i < 6) (hc : c = ((97 + i : Nat) : Int)) (X : (hd.heap_1 w.params).In h₀)
    (F : Fr h₀ L s.heap m) (N : News h₀ L s.heap news) (h1 : s.heap.get? P = some (W.listOf #[.int c t] 0))
    (h : ∀ t' h' tk, Fr h₀ L h' m → News h₀ L h' news → Q (.bytes #[(97 + i).toUInt8] t') { s with heap := h', toks := tk }) :
    wpAny (model PySem.Challenge.pw_xo0007_01 w) A (call (.type "bytes") [.ref P]) Q E s := by
  subst hc
  exact bytes_one hh hi h1 fun h' t' tk kp => h t' h' tk (fr_grow F kp) (news_grow N kp)
local macro_rules | `(tactic| walk_at "call type:bytes") => `(tactic| (k_here; (rename (_ < 6) => hlt; k_dflt (refine' bytes_call_N ?hh hlt ?c ?X ?F ?N ?o ?_; (case hh => with_unfolding_all assumption); (case F => k_asm); (case N => k_asm); (case o => exact News.get (by k_asm) (by k_mem)); (case c => (push_cast; (first | lia | omega))); (case X => k_in); k_whole)); intro tb hb kb Fb Nb))
local macro_rules | `(tactic| walk_at "call builtin:list.extend") => `(tactic| (k_here; k_dflt (refine' extend_K ?F ?N ?U ?o ?_ ?z; (case F => k_asm); (case N => k_asm); (case U => k_updF); (case o => exact News.get (by k_asm) (by k_mem)); (case z => ((rename (∀ _ : Value, _ ≤ sizeLine) => hzz); exact hzz _)); k_whole); intro he ne Fe Ne))
local macro_rules | `(tactic| walk_at "binaryOp Mult ref int") => `(tactic| (k_here; k_dflt (refine' mul_list_N ?F ?N ?o ?lo ?hi ?z ?_; (case F => k_asm); (case N => k_asm); (case o => exact News.get (by k_asm) (by k_mem)); (case lo => (first | lia | omega)); (case hi => (first | lia | omega)); (case z => (simp only [List.length_cons, List.length_nil]; (first | lia | omega))); k_whole); intro hm am Fm Nm l1; (try k_lt l1)))
local macro_rules | `(tactic| walk_at "call builtin:list.append") => `(tactic| (k_here; k_dflt (refine' append_K ?k1 ?k2 ?k3 ?_ ?z; (case k1 => k_asm); (case k2 => k_asm); (case k3 => k_upd); (case z => ((rename (∀ _ : Value, _ ≤ sizeLine) => hzz); rw [Array.size_append]; exact hzz _)); k_whole); intro h' F' N'; (try k_sweep)))
local macro_rules | `(tactic| walk_at "binaryOp Add ref ref") => `(tactic| (k_here; k_dflt (refine' add_lists ?F ?N ?o ?b ?_ ?z; (case F => k_asm); (case N => k_asm); (case o => exact News.isList (by k_asm) (by k_mem)); (case b => exact News.isList (by k_asm) (by k_mem)); (case z => ((rename (∀ _ : Value, _ ≤ sizeLine) => hzz); simpa only [List.size_toArray] using hzz _)); k_whole); intro h' F' N'))
theorem reply_spec {A : Around} (hdep : A.depth < recursionLimit) (hh : A.handled = none) {s : Shared} {S D : Addr} {vs us : List Value} {ns ms : List Int} {Q E : Value → Shared → Prop}
   (X : (hd.heap_1 w.params).In s.heap) (T : Top p loose mean mg mb s.heap) (hl : s.heap.IsList S vs.toArray) (hi : IntsAre vs ns) (h6 : ns.length = 6) (hsm : Small 25000000 ns)
   (hl' : s.heap.IsList D us.toArray) (hi' : IntsAre us ms) (h6' : ms.length = 6) (hfor : Forest ms)
   (h : ∀ h' C cs n tk, (∀ b o, s.heap.get? b = some o → h'.get? b = some o) → s.heap.get? C = none → h'.get? C = some (listObj (bytesValues cs).toArray n) → cs.map (·.1) = cellsOf ms (qOf ns) → Q (.ref C) { s with heap := h', toks := tk }) :
   wpAny (model PySem.Challenge.pw_xo0007_01 w) A (call (.ref 176) [.ref S, .ref D]) Q E s := by
  k_dflt (refine' enter [("draws", .ref S), ("depths", .ref D)] ?X ?l ?o ?c ?r ?b ?lo ?c2 ?c3 ?c4 ?c5 ?_; (case X => assumption); (case l => exact Top.nolimit (by assumption)); (case o => k_is); (case c => k_is); (case b => first | exact BindsTo.of_eq rfl | exact binds_K (by assumption) rfl (by k_is) rfl rfl rfl); (case c5 => decide); (case r => (walk_at "m_room")); (case lo => exact locs rfl); (case c2 => exact rfl); (case c3 => exact rfl); (case c4 => exact rfl); (walk_at "m_enter2"))
  w_strict (repeat' ((fail_if_success (with_reducible show wpAny _ _ (exec (Stmt.For _ _ _ _ _) _) _ _ _)); walk1))
  (walk_at "m_for")
  w_strict (repeat' ((fail_if_success (with_reducible show wpAny _ _ (exec (Stmt.For _ _ _ _ _) _) _ _ _)); (fail_if_success (with_reducible show wpAny _ _ (pyIter _) _ _ _)); walk1))
  rename_i tk2 Dr hh5 _ hh4 tk1 C hh3 _ hh2 hh1 F3 N3 hh0 tk0 t1 u1 v1 hr F N _
  refine iter_rangeG (a₀ := 0) (b₀ := 6) (n := 6) (fun i m nx => (∃ cs n, nx = [(C, W.listOf (bytesValues cs).toArray n), (Dr, dressObj tk2)] ∧ cs.map (·.1) = cellsTo ms (qOf ns) i) ∧ (∃ t, m "ajar" = some (.int (ajarAt ms i) t)) ∧ ∀ z : Str, z ≠ "k" → z ≠ "ajar" → m z = if z = "cells" then some (.ref C) else if z = "dress" then some (.ref Dr) else List.lookup z [(Str.ofString "draws", Value.ref S), (Str.ofString "depths", Value.ref D)].reverse) hh hr (by decide) (by decide) F N ⟨⟨[], _, rfl, rfl⟩, ⟨_, if_pos rfl⟩, fun z h1 h2 => if_neg h2⟩ ?_ ?_
  · rintro i t m₁ nx h6 tk6 own hi ho ⟨⟨cs, n, rfl, hcs⟩, ⟨ta, ha⟩, hm⟩ F5 N5
    rw [map_one ha hm] at F5
    rw [List.cons_append, List.cons_append, List.nil_append] at N5
    have e0 : (0 + (i : Int)).toNat = i := by (clear h6' ha hcs hdep hh; (first | lia | omega))
    have ea : ajarAt ms i - ms.getD (0 + (i : Int)).toNat 0 ≥ 0 ∧ ajarAt ms i ≤ 6 ∧ ms.getD (0 + (i : Int)).toNat 0 ≥ 0 := by
      rw [e0]
      have := hfor.le_ajar i (by (clear ha hcs hdep hh; (first | lia | omega)))
      have := hfor.nonneg i (by (clear ha hcs hdep hh this; (first | lia | omega)))
      have := hfor.ajar_le i (by (clear ha hcs hdep hh this; (first | lia | omega)))
      (clear h6' ha hcs hdep hh; (first | lia | omega))
    obtain ⟨ea1, ea2, ea3⟩ := ea
    have hlc : cs.length ≤ 8 * i := by
      have := congrArg List.length hcs
      rw [List.length_map] at this
      rw [this]
      exact cellsTo_len hfor _ i (by (clear ea1 ea2 ea3 h6' ha hcs hdep hh this; (first | lia | omega))) (by (clear ea1 ea2 ea3 ha hcs hdep hh this; (first | lia | omega)))
    have hz1 : ∀ v : Value, (bytesValues cs).toArray.size + (List.replicate (ajarAt ms i - ms.getD (0 + (i : Int)).toNat 0).toNat [v]).flatten.toArray.size ≤ sizeLine := by
      intro v
      have := sizeLine_eq
      rw [bv_size]
      simp
      simp at ea3
      (clear ea1 h6' ha hcs hdep hh; (first | lia | omega))
    have hi6 : i < 6 := hi
    w_strict (repeat' ((fail_if_success (with_reducible show wpAny _ _ (exec (Stmt.For _ _ _ _ _) _) _ _ _)); walk1))
    all_goals
      rename_i kE _ _ _ _ _ _ _ _ F7 N7
      rw [e0] at kE
      have hq : qOf ns i = Int.toNat _ := congrArg Int.toNat kE
      rw [bv_step] at N7
      refine endG_two (pre := [_, _, _]) F7 N7 (fun p hp => hp) (.head _) (.tail _ (.head _)) ⟨⟨_, _, rfl, bv_fst hcs (by rw [e0]) (by rw [hq]; rfl)⟩, ⟨_, by dsimp only; rw [if_pos rfl, e0]; rfl⟩, fun z h1 h2 => by dsimp only; rw [if_neg h2, if_neg h1, if_neg h2]⟩
  · rintro m₁ nx h5 tk5 ⟨⟨cs, n, rfl, hcs⟩, ⟨ta, ha⟩, hm⟩ F5 N5
    rw [← done_one ha hm] at F5
    have ea2 : ajarAt ms 6 ≤ 6 := hfor.ajar_le 6 (by (clear h6 ha hcs hdep hh; (first | lia | omega)))
    have ea1 : 0 ≤ ajarAt ms 6 := by
      have := hfor.le_ajar 5 (by (clear ea2 h6 ha hcs hdep hh; (first | lia | omega)))
      have := hfor.nonneg 5 (by (clear ea2 h6 ha hcs hdep hh this; (first | lia | omega)))
      show 0 ≤ ms.getD 5 0 + 1
      (clear ea2 h6 h6' ha hcs hdep hh; (first | lia | omega))
    have hlc : cs.length ≤ 8 * 6 := by
      have := congrArg List.length hcs
      rw [List.length_map] at this
      rw [this]
      exact cellsTo_len hfor _ 6 (by (clear ea1 ea2 h6 h6' ha hcs hdep hh this; (first | lia | omega))) (by (clear ea1 ea2 h6 ha hcs hdep hh this; (first | lia | omega)))
    have hz1 : ∀ v : Value, (bytesValues cs).toArray.size + (List.replicate (ajarAt ms 6).toNat [v]).flatten.toArray.size ≤ sizeLine := by
      intro v
      have := sizeLine_eq
      rw [bv_size]
      simp
      (clear h6 h6' ha hcs hdep hh; (first | lia | omega))
    w_strict (repeat' ((fail_if_success (with_reducible show wpAny _ _ (exec (Stmt.For _ _ _ _ _) _) _ _ _)); walk1))
    rename_i F9 N9
    rw [bv_end] at N9
    refine h _ _ _ 0 _ (Fr.keep F9) (News.fresh N9 (.head _)) (N9.get (.head _)) ?_
    rw [List.map_append, hcs, List.map_replicate]
    rfl
end Mine
end
section -- YTold
open PySem PySem.W PySem.Calls PyProof.Rows PyProof.V PySem.Spec
set_option maxRecDepth 100000
set_option maxHeartbeats 8000000
namespace Mine
theorem off_YTold : True := by w_top off; trivial
theorem tab_YTold {M : PySem.Model} {A : PySem.Around} {E Q : PySem.Value → PySem.Shared → Prop} {s : PySem.Shared} (h : PySem.wpAny M A (PySem.call .none []) Q E s) : PySem.wpAny M A (PySem.call .none []) Q E s := by first | (walk1; fail) | exact h
variable {prog : Program} {w : World} {p : Program} {loose : List Str} {mean : ExcName → Option Value} {mg mb : Str → Option Value}
noncomputable def toldTo (cs : List (Array UInt8)) : Nat → List Int
  | 0 => [0]
  | i + 1 => toldTo cs i ++ [pdOf (cs.getD i #[]) ((toldTo cs i).getD i 0)]
theorem toldTo_len (cs : List (Array UInt8)) : ∀ i, (toldTo cs i).length = i + 1
  | 0 => rfl
  | i + 1 => by unfold toldTo; rw [List.length_append, toldTo_len cs i]; rfl
theorem bytes_at {cs : List (Array UInt8 × Tok)} {i : Nat} {v : Value} (h : (bytesValues cs).toArray[i]? = some v) : ∃ t, v = .bytes ((cs.map (·.1)).getD i #[]) t ∧ i < cs.length ∧ ((cs.map (·.1)).getD i #[], t) ∈ cs := by
  rw [List.getElem?_toArray] at h
  unfold bytesValues at h
  rw [List.getElem?_map] at h
  obtain ⟨a, ha, rfl⟩ := Option.map_eq_some_iff.mp h
  obtain ⟨hi, e⟩ := List.getElem?_eq_some_iff.mp ha
  refine ⟨a.2, ?_, hi, ?_⟩
  · simp [List.getD, hi, e]
  · have : (cs.map (·.1)).getD i #[] = a.1 := by simp [List.getD, hi, e]
    rw [this, ← e]
    exact List.getElem_mem hi
local macro_rules | `(tactic| walk_at "call ref") => `(tactic| (k_here; k_dflt (refine' paren_spec (by (walk_at "m_room")) (by exact Frag.In.keeps (by assumption) (Fr.keep (by k_asm))) (by exact Top.keeps (by assumption) (Fr.keep (by k_asm))) (by assumption) ?_; k_whole); intro hx tx kx keepx; have Fx := fr_grow (by k_asm) keepx; have Nx := news_grow (by k_asm) keepx))
theorem told_spec {A : Around} (hdep : A.depth + 1 < recursionLimit) (hh : A.handled = none) {s : Shared} {C : Addr} {cs : List (Array UInt8 × Tok)} {Q E : Value → Shared → Prop}
   (X : (hd.heap_1 w.params).In s.heap) (T : Top p loose mean mg mb s.heap) (hl : s.heap.IsList C (bytesValues cs).toArray) (hsz : ∀ c ∈ cs, c.1.size ≤ 100000) (hlen : cs.length ≤ 1000)
   (h : ∀ h' D us n tk, (∀ b o, s.heap.get? b = some o → h'.get? b = some o) → s.heap.get? D = none → h'.get? D = some (listObj us.toArray n) → IntsAre us (toldTo (cs.map (·.1)) cs.length) → Q (.ref D) { s with heap := h', toks := tk }) :
   wpAny (model prog w) A (call (.ref 183) [.ref C]) Q E s := by
  k_dflt (refine' enter [("cells", .ref C)] ?X ?l ?o ?c ?r ?b ?lo ?c2 ?c3 ?c4 ?c5 ?_; (case X => assumption); (case l => exact Top.nolimit (by assumption)); (case o => k_is); (case c => k_is); (case b => first | exact BindsTo.of_eq rfl | exact binds_K (by assumption) rfl (by k_is) rfl rfl rfl); (case c5 => decide); (case r => (walk_at "m_room")); (case lo => exact locs rfl); (case c2 => exact rfl); (case c3 => exact rfl); (case c4 => exact rfl); (walk_at "m_enter2"))
  w_strict (repeat' ((fail_if_success (with_reducible show wpAny _ _ (exec (Stmt.For _ _ _ _ _) _) _ _ _)); walk1))
  (walk_at "m_for")
  w_strict (repeat' ((fail_if_success (with_reducible show wpAny _ _ (exec (Stmt.For _ _ _ _ _) _) _ _ _)); (fail_if_success (with_reducible show wpAny _ _ (pyIter _) _ _ _)); walk1))
  rename_i tk1 D hh1 _ hh2 F N
  refine iter_listG (fun i m nx => (∃ us n, nx = [(D, W.listOf us.toArray n)] ∧ IntsAre us (toldTo (cs.map (·.1)) i)) ∧ ∀ z : Str, z ≠ "cell" → m z = if z = "told" then some (.ref D) else List.lookup z [(Str.ofString "cells", Value.ref C)].reverse) hh (hl.at fun o e => F.keep _ _ e) ?_ F N ⟨⟨_, _, rfl, .cons _ _ .nil⟩, fun _ _ => rfl⟩ ?_ ?_ ?_
  · obtain ⟨o, ho, _⟩ := hl
    exact Nat.ne_of_lt (Heap.lt_size ho)
  · rintro i m₁ nx ⟨⟨us, n, rfl, hus⟩, hm⟩ q hq
    rw [List.mem_singleton.mp hq]
    obtain ⟨o, ho, _⟩ := hl
    have := News.fresh N (.head _)
    intro e
    dsimp only at e this
    rw [e, ho] at this
    cases this
  · rintro i v m₁ nx h6 tk6 own hv ho ⟨⟨us, n, rfl, hus⟩, hm⟩ F5 N5
    rw [map_none hm] at F5
    rw [List.cons_append, List.nil_append] at N5
    obtain ⟨tv, rfl, hilt, hmem⟩ := bytes_at hv
    have hlt := toldTo_len (cs.map (·.1)) i
    have hcz := hsz _ hmem
    w_strict (repeat' ((fail_if_success (with_reducible show wpAny _ _ (exec (Stmt.For _ _ _ _ _) _) _ _ _)); walk1))
    rename_i F7 N7
    rw [List.push_toArray] at N7
    refine endG_one F7 N7 (fun p hp => hp) (.inl (.head _)) ⟨⟨_, _, rfl, ?_⟩, fun z hz => by dsimp only; rw [if_neg hz]⟩
    have e1 : ((-1 : Int) + ((toldTo (cs.map (·.1)) i).length : Int)).toNat = i := by rw [hlt]; (clear hcz hdep hh hilt hlen hv; (first | lia | omega))
    rw [e1]
    exact ints_snoc hus _ _
  · rintro m₁ nx h5 tk5 ⟨⟨us, n, rfl, hus⟩, hm⟩ F5 N5
    rw [← done_none hm] at F5
    w_strict (repeat' ((fail_if_success (with_reducible show wpAny _ _ (exec (Stmt.For _ _ _ _ _) _) _ _ _)); walk1))
    have e : (bytesValues cs).toArray.size = cs.length := bv_size cs
    rw [e] at hus
    exact h _ D us n _ (Fr.keep (by assumption)) (News.fresh N5 (.head _)) (N5.get (.head _)) hus
end Mine
end
section -- YDec
open PySem PySem.W PySem.Calls PyProof.Rows PyProof.V PySem.Spec PySem.W.X
set_option maxRecDepth 100000
set_option maxHeartbeats 2000000
namespace Mine
theorem off_YDec : True := by w_top off; trivial
variable {w : World} {A : Around} {s : Shared} {Q : Value → Shared → Prop} {E : Value → Shared → Prop}
local macro_rules | `(tactic| x_close) => `(tactic| (first | refine x_endB (by assumption) (by assumption) ?_ | refine x_endB (by assumption) (Mem.start _) ?_); first | exact ⟨_, rfl⟩ | exact ⟨_, rfl, rfl⟩)
noncomputable abbrev NameB (b : Array UInt8) : Prop := b = #[] ∨ b = #[97] ∨ b = #[98] ∨ b = #[99] ∨ b = #[100] ∨ b = #[101] ∨ b = #[102]
theorem endbox_conv {c : Array Nat} (c' : Array Nat) (e : c = c') (h : EndBox s Q fun v _ => ∃ t, v = .str ⟨c⟩ t) : EndBox s Q fun v _ => ∃ t, v = .str ⟨c'⟩ t := e ▸ h
theorem dec_one (hh : A.handled = none) {b : Array UInt8} {t t' : Tok} (hb : NameB b) (X : (hd.heap_1 w.params).In s.heap)
   (hQ : EndBox s Q fun v _ => ∃ t, v = .str ⟨b.map (·.toNat)⟩ t) :
   wpAny (model PySem.Challenge.pw_xo0007_01 w) A (call (.builtin "bytes.decode") [.bytes b t, .str "ascii" t']) Q E s := by
  rcases A
  cases hh
  rcases hb with rfl | rfl | rfl | rfl | rfl | rfl | rfl
  · replace hQ := endbox_conv #[] (by simp) hQ; x_run
  · replace hQ := endbox_conv #[97] (by simp) hQ; x_run
  · replace hQ := endbox_conv #[98] (by simp) hQ; x_run
  · replace hQ := endbox_conv #[99] (by simp) hQ; x_run
  · replace hQ := endbox_conv #[100] (by simp) hQ; x_run
  · replace hQ := endbox_conv #[101] (by simp) hQ; x_run
  · replace hQ := endbox_conv #[102] (by simp) hQ; x_run
end Mine
end
section -- YOut
open PySem PySem.W PySem.Calls PyProof.Rows PyProof.V PySem.Spec
set_option maxRecDepth 100000
set_option maxHeartbeats 1000000
namespace Mine
theorem off_YOut : True := by w_top off; trivial
theorem tab_YOut {M : PySem.Model} {A : PySem.Around} {E Q : PySem.Value → PySem.Shared → Prop} {s : PySem.Shared} (h : PySem.wpAny M A (PySem.call .none []) Q E s) : PySem.wpAny M A (PySem.call .none []) Q E s := by first | (walk1; fail) | exact h
variable {prog : Program} {w : World} {p : Program} {loose : List Str} {mean : ExcName → Option Value} {mg mb : Str → Option Value}
noncomputable def findC (tl : List Int) (i j : Nat) : Nat → Nat → Nat
  | 0, c => c
  | f + 1, c => if c + 1 < j ∧ tl.getD (c + 1) 0 ≠ tl.getD i 0 then findC tl i j f (c + 1) else c
noncomputable def nameAt (cs : List (Array UInt8)) (i : Nat) : List Nat := (((cs.getD i #[]).extract 1 2).map (·.toNat)).toList
noncomputable def outl (cs : List (Array UInt8)) (tl : List Int) (wd : Nat) : Nat → Nat → Nat → List Nat × List Nat
  | 0, _, _ => ([], [])
  | k + 1, i, j => if i ≥ j then ([], []) else
    let c := findC tl i j (j - (i + 1)) (i + 1)
    let a := outl cs tl wd k (i + 1) c
    let b := outl cs tl wd k (c + 1) j
    (nameAt cs i ++ [10] ++ indOf wd a.1 ++ b.1, nameAt cs i ++ [10] ++ indOf wd b.2 ++ a.2)
noncomputable def outlOk (cs : List (Array UInt8)) (tl : List Int) (wd : Nat) : Nat → Nat → Nat → Bool
  | 0, i, j => decide (i ≥ j)
  | k + 1, i, j => if i ≥ j then true else
    let c := findC tl i j (j - (i + 1)) (i + 1)
    outlOk cs tl wd k (i + 1) c && outlOk cs tl wd k (c + 1) j && decide ((outl cs tl wd k (i + 1) c).1.length ≤ 1000) && decide ((outl cs tl wd k (c + 1) j).2.length ≤ 1000)
      && decide ((outl cs tl wd k (i + 1) c).2.length ≤ 1000) && decide ((outl cs tl wd k (c + 1) j).1.length ≤ 1000) && decide (NameB ((cs.getD i #[]).extract 1 2)) && decide ((cs.getD i #[]).size ≤ 100)
theorem findC_of {tl : List Int} {i j : Nat} : ∀ (f c0 c : Nat), c0 ≤ c → c - c0 ≤ f → (∀ d, c0 ≤ d → d < c → d + 1 < j ∧ tl.getD (d + 1) 0 ≠ tl.getD i 0) → ¬ (c + 1 < j ∧ tl.getD (c + 1) 0 ≠ tl.getD i 0) → findC tl i j f c0 = c
  | 0, c0, c, h1, h2, _, _ => by show c0 = c; (first | lia | omega)
  | f + 1, c0, c, h1, h2, h3, h4 => by
    unfold findC
    by_cases e : c0 = c
    · subst e; rw [if_neg h4]
    · rw [if_pos (h3 c0 (Nat.le_refl _) (by (clear h2 h4; (first | lia | omega))))]
      exact findC_of f (c0 + 1) c (by (clear h2 h4; (first | lia | omega))) (by (clear h1; (first | lia | omega))) (fun d hd1 hd2 => h3 d (by (clear e h1 h2 h4 hd2; (first | lia | omega))) hd2) h4
theorem findC_int {tl : List Int} {i j : Nat} {k : Int} (hij : i < j) (h1 : (i : Int) + 1 ≤ k) (h2 : k ≤ max ((i : Int) + 1) ((j : Int) - 1))
    (h3 : ∀ d : Int, (i : Int) + 1 ≤ d → d < k → (if d + 1 < (j : Int) then if (tl.getD (d + 1).toNat 0 != tl.getD (i : Int).toNat 0) = true then true else false else false) = true)
    (h4 : (if k + 1 < (j : Int) then if (tl.getD (k + 1).toNat 0 != tl.getD (i : Int).toNat 0) = true then true else false else false) = false) :
    k = ((findC tl i j (j - (i + 1)) (i + 1) : Nat) : Int) ∧ findC tl i j (j - (i + 1)) (i + 1) < j + 1 := by
  obtain ⟨c, rfl⟩ : ∃ c : Nat, k = (c : Int) := ⟨k.toNat, by (clear h2 h4 hij; (first | lia | omega))⟩
  have hc : c ≤ j := by (clear h1 h4; (first | lia | omega))
  have e := findC_of (tl := tl) (i := i) (j := j) (j - (i + 1)) (i + 1) c (by (clear h2 h4 hc hij; (first | lia | omega))) (by (clear h2 h4; (first | lia | omega))) (fun d hd1 hd2 => by
    have := h3 (d : Int) (by (clear h1 h2 h4 hc hd2 hij; (first | lia | omega))) (by (clear h1 h2 h4 hc hd1 hij; (first | lia | omega)))
    have e1 : ((d : Int) + 1).toNat = d + 1 := by (clear h1 h2 h4 hc hd1 hd2 hij this; (first | lia | omega))
    have e2 : ((i : Int)).toNat = i := by (clear e1 h1 h2 h4 hc hd1 hd2 hij this; (first | lia | omega))
    rw [e1, e2] at this
    by_cases a : (d : Int) + 1 < (j : Int)
    · rw [if_pos a] at this
      by_cases b : (tl.getD (d + 1) 0 != tl.getD i 0) = true
      · exact ⟨by (clear b e2 h1 h2 h4 hc hd1 hd2 hij this; (first | lia | omega)), by simpa using b⟩
      · rw [if_neg b] at this; cases this
    · rw [if_neg a] at this; cases this) (fun hn => by
    have e1 : ((c : Int) + 1).toNat = c + 1 := by (clear h1 h2 h4 hc hij hn; (first | lia | omega))
    have e2 : ((i : Int)).toNat = i := by (clear e1 h1 h2 h4 hc hij hn; (first | lia | omega))
    rw [e1, e2, if_pos (by (clear e2 h1 h2 h4 hc hij; (first | lia | omega))), if_pos (by simpa using hn.2)] at h4
    cases h4)
  rw [e]
  exact ⟨rfl, by (clear h1 h2 h4 hij; (first | lia | omega))⟩
noncomputable def OutSpec (w : World) (C D : Addr) (cs : List (Array UInt8 × Tok)) (us : List Value) (tl : List Int) (wd : Nat) (tw : Tok) (k : Nat) : Prop :=
   ∀ {p : Program} {loose : List Str} {mean : ExcName → Option Value} {mg mb : Str → Option Value} (A : Around) (s : Shared) (i j : Nat) (iv jv : Int) (ti tj : Tok) (Q E : Value → Shared → Prop), iv = (i : Int) → jv = (j : Int) → A.depth + k + 3 < recursionLimit → A.handled = none → (hd.heap_1 w.params).In s.heap → Top p loose mean mg mb s.heap →
   s.heap.IsList C (bytesValues cs).toArray → s.heap.IsList D us.toArray → j ≤ cs.length → outlOk (cs.map (·.1)) tl wd k i j = true →
   (∀ h' R ta tb tk, (∀ b o, s.heap.get? b = some o → h'.get? b = some o) → s.heap.get? R = none → h'.get? R = some (tupOf [.str ⟨(outl (cs.map (·.1)) tl wd k i j).1.toArray⟩ ta, .str ⟨(outl (cs.map (·.1)) tl wd k i j).2.toArray⟩ tb]) → Q (.ref R) { s with heap := h', toks := tk }) →
   wpAny (model PySem.Challenge.pw_xo0007_01 w) A (call (.ref 190) [.ref C, .ref D, .int iv ti, .int jv tj, .int (wd : Int) tw]) Q E s
theorem news_new {h₀ h h' : Heap} {L R : Addr} {m : Str → Option Value} {news : List (Addr × Obj)} {o : Obj} (F : Fr h₀ L h m) (N : News h₀ L h news) (k : ∀ b o, h.get? b = some o → h'.get? b = some o) (hn : h.get? R = none) (hR : h'.get? R = some o) :
    News h₀ L h' ((R, o) :: news) ∧ ∀ p ∈ news, p.1 ≠ R := by
  refine ⟨fun p hp => ?_, fun p hp e => ?_⟩
  · rcases List.mem_cons.mp hp with rfl | hp
    · refine ⟨hR, fun e => ?_, ?_⟩
      · obtain ⟨oL, _, _, hL, _⟩ := F.ns
        dsimp only at e
        rw [e, hL] at hn; cases hn
      · cases q : h₀.get? R with
        | none => rfl
        | some o' => rw [F.keep _ _ q] at hn; cases hn
    · exact ⟨k _ _ (N p hp).1, (N p hp).2⟩
  · rw [← e, (N p hp).1] at hn; cases hn
theorem out_call {w : World} {C D : Addr} {cs : List (Array UInt8 × Tok)} {us : List Value} {tl : List Int} {wd : Nat} {tw : Tok} {k : Nat} (ih : OutSpec w C D cs us tl wd tw k)
    {h₀ : Heap} {L : Addr} {m : Str → Option Value} {news : List (Addr × Obj)} {A : Around} {s : Shared} {i j : Nat} {iv jv : Int} {ti tj : Tok} {Q E : Value → Shared → Prop} (F : Fr h₀ L s.heap m) (N : News h₀ L s.heap news) (X : (hd.heap_1 w.params).In h₀) (T : Top p loose mean mg mb h₀)
    (hc : h₀.IsList C (bytesValues cs).toArray) (hd : h₀.IsList D us.toArray) (hi : iv = (i : Int)) (hj : jv = (j : Int)) (hr : A.depth + k + 3 < recursionLimit) (hh : A.handled = none) (hl : j ≤ cs.length) (hok : outlOk (cs.map (·.1)) tl wd k i j = true)
    (h : ∀ h' R ta tb tk, Fr h₀ L h' m → News h₀ L h' ((R, tupOf [.str ⟨(outl (cs.map (·.1)) tl wd k i j).1.toArray⟩ ta, .str ⟨(outl (cs.map (·.1)) tl wd k i j).2.toArray⟩ tb]) :: news) → Q (.ref R) { s with heap := h', toks := tk }) :
    wpAny (model PySem.Challenge.pw_xo0007_01 w) A (call (.ref 190) [.ref C, .ref D, .int iv ti, .int jv tj, .int (wd : Int) tw]) Q E s :=
  ih A s i j iv jv ti tj Q E hi hj hr hh (X.keeps F.keep) (T.keeps F.keep) (hc.at fun o e => F.keep _ _ e) (hd.at fun o e => F.keep _ _ e) hl hok fun h' R ta tb tk kp hn hR =>
    h h' R ta tb tk (fr_grow F kp) (news_new F N kp hn hR).1
theorem ind_call {h₀ : Heap} {L : Addr} {m : Str → Option Value} {news : List (Addr × Obj)} {A : Around} {s : Shared} {x : List Nat} {t ti : Tok} {wd : Nat} {Q E : Value → Shared → Prop} (F : Fr h₀ L s.heap m) (N : News h₀ L s.heap news) (X : (hd.heap_1 w.params).In h₀) (T : Top p loose mean mg mb h₀)
    (hdep : A.depth < recursionLimit) (hz : x.length ≤ 1000) (hw : 1 ≤ wd ∧ wd ≤ 3)
    (h : ∀ h' t' tk, Fr h₀ L h' m → News h₀ L h' news → Q (.str ⟨(indOf wd x).toArray⟩ t') { s with heap := h', toks := tk }) :
    wpAny (model prog w) A (call (.ref 51) [.str ⟨x.toArray⟩ t, .int (wd : Int) ti]) Q E s :=
  indent_spec hdep (X.keeps F.keep) (T.keeps F.keep) (by (clear hdep hw; (first | lia | omega))) hw fun h' t' tk kp => h h' t' tk (fr_grow F kp) (news_grow N kp)
local macro_rules | `(tactic| walk_at "call ref") => `(tactic| (k_here; first
  | (k_dflt (refine' ind_call (by k_asm) (by k_asm) (by assumption) (by assumption) (by (walk_at "m_room")) (by assumption) (by assumption) ?_; k_whole); intro hx tx kx Fx Nx)
  | ((rename OutSpec _ _ _ _ _ _ _ _ _ => ihh); (first
     | ((rename (outlOk _ _ _ _ (_ + 1) (findC _ _ _ _ _) = true) => ok1); k_dflt (refine' out_call ihh (by k_asm) (by k_asm) (by assumption) (by assumption) (by assumption) (by assumption) (by lia) (by lia) (by (walk_at "m_room")) (by with_unfolding_all assumption) (by lia) ok1 ?_; k_whole))
     | ((rename (outlOk _ _ _ _ (findC _ _ _ _ _ + 1) _ = true) => ok1); k_dflt (refine' out_call ihh (by k_asm) (by k_asm) (by assumption) (by assumption) (by assumption) (by assumption) (by lia) (by lia) (by (walk_at "m_room")) (by with_unfolding_all assumption) (by lia) ok1 ?_; k_whole))); intro hx rx ta tb kx Fx Nx)))
local macro_rules | `(tactic| walk_at "assign Tuple") => `(tactic| (k_here; k_dflt (refine' unpackN_ (by k_asm) (by k_asm) (by exact News.isTup (by k_asm) (by k_mem)) (by with_unfolding_all assumption) (by with_unfolding_all rfl) (by with_unfolding_all rfl) ?_; k_whole); intro hu Fu Nu))
theorem item_bytes {A : Around} {E : Value → Shared → Prop} {s : Shared} {h₀ : Heap} {L : Addr} {m : Str → Option Value} {value slice : PySem.Expr} {l : Addr} {items : Array Value} {i : Nat} {u : Tok} {x : Value} {Q : Value → Shared → Prop} (F : Fr h₀ L s.heap m) (hl : h₀.IsList l items) (h2 : i < 1000) (hx : items[i]? = some x)
    (h : Q x s) (hs : subscripted slice false (.ref l) (.int (i : Int) u) = operate [.ref l, .int (i : Int) u] (getItem (.ref l) (.int (i : Int) u)) := by with_unfolding_all rfl) :
    wpAny (model prog w) A (subscriptTail value slice (.ref l) (.int (i : Int) u)) Q E s := by
  have hl' : s.heap.IsList l items := hl.at fun o e => F.keep _ _ e
  refine tail_any hl'.typeIs slot_list_getitem.lookup (wpAny_getItem_list hl' (by (clear hs hx; (first | lia | omega))) (by (clear hs hx; (first | lia | omega))) ?_ h) hs
  rw [Int.toNat_natCast]
  exact hx
theorem slice_tail {A : Around} {E : Value → Shared → Prop} {s : Shared} {value slice : PySem.Expr} {b : Array UInt8} {t t1 t2 : Tok} {sl : Addr} {Q : Value → Shared → Prop} (hz : b.size ≤ 100) (hs' : s.heap.IsSliceOf sl (.int 1 t1) (.int 2 t2) .none)
    (h : ∀ t' tk, Q (.bytes (b.extract 1 2) t') { s with toks := tk })
    (hs : subscripted slice false (.bytes b t) (.ref sl) = operate [.bytes b t, .ref sl] (getItem (.bytes b t) (.ref sl)) := by with_unfolding_all rfl) :
    wpAny (model prog w) A (subscriptTail value slice (.bytes b t) (.ref sl)) Q E s :=
  tail_any (T := "bytes") rfl slot_bget.lookup (getItem_slice12 (by (clear hs; (first | lia | omega))) hs' h) hs
theorem slot_bdec : Slot "bytes" "decode" "bytes.decode" :=
  .of (owner := "bytes") (n := "decode") (by rw [typeLookup_type, builtinLookup_eq_fast]; kernel_rfl) (by decide +kernel) (by decide +kernel) (by decide +kernel)
    (by first | exact .inl (by decide +kernel) | exact .inr (by decide +kernel)) bytes_sub
theorem type_bdec : typeOf (.builtin "bytes.decode") = pure (.type "method_descriptor") := by show builtinType _ = _; rw [builtinType_eq_fast]; kernel_rfl
theorem dec_call {w : World} {A : Around} {E : Value → Shared → Prop} {s : Shared} {h₀ : Heap} {L : Addr} {m : Str → Option Value} {news : List (Addr × Obj)} {b : Array UInt8} {t t' : Tok} {Q : Value → Shared → Prop} (F : Fr h₀ L s.heap m) (N : News h₀ L s.heap news) (X : (hd.heap_1 w.params).In h₀) (hh : A.handled = none) (hb : NameB b)
    (h : ∀ h' t' tk, Fr h₀ L h' m → News h₀ L h' news → Q (.str ⟨b.map (·.toNat)⟩ t') { s with heap := h', toks := tk }) :
    wpAny (model PySem.Challenge.pw_xo0007_01 w) A (call (.builtin "bytes.decode") [.bytes b t, .str "ascii" t']) Q E s :=
  dec_one hh hb (X.keeps F.keep) fun v h' tk l D hv => by
    obtain ⟨t', rfl⟩ := hv
    exact h h' t' tk (fr_grow F (mem_keep D)) (news_grow N (mem_keep D))
local macro_rules | `(tactic| walk_at "getMethod bytes") => `(tactic| (k_here; k_dflt (refine' method_bytes slot_bdec.lookup type_bdec ?_; k_whole)))
local macro_rules | `(tactic| walk_at "call builtin:bytes.decode") => `(tactic| (k_here; k_dflt (refine' dec_call (by k_asm) (by k_asm) (by assumption) (by with_unfolding_all assumption) (by assumption) ?_; k_whole); intro hx tx kx Fx Nx))
theorem str_app_len (x y : Str) : (x ++ y).length = x.length + y.length := by
  show (x.cps ++ y.cps).size = _
  rw [Array.size_append]; rfl
theorem str_eq4 (a : Array Nat) (i b : List Nat) : (((⟨a⟩ : Str) ++ Str.ofString "\n") ++ (⟨i.toArray⟩ : Str)) ++ (⟨b.toArray⟩ : Str) = ⟨(a.toList ++ [10] ++ i ++ b).toArray⟩ := by
  have e : Str.ofString "\n" = ⟨#[10]⟩ := by decide +kernel
  rw [e]
  show (⟨((a ++ #[10]) ++ i.toArray) ++ b.toArray⟩ : Str) = _
  congr 1
  apply Array.toList_inj.mp
  simp
theorem str_mk_len (a : Array Nat) : (⟨a⟩ : Str).length = a.size := rfl
theorem str_nl_len : (Str.ofString "\n").length = 1 := by decide +kernel
theorem indOf_len (wd : Nat) (x : List Nat) (hw : wd ≤ 3) (hx : x.length ≤ 1000) : (indOf wd x).length ≤ 4000 := by
  have := indR_skip_len (sp := List.replicate wd 32) (text := x.toArray) x.length 0 false
  rw [List.length_replicate] at this
  have h2 : x.length * (wd + 1) ≤ 1000 * 4 := Nat.mul_le_mul hx (by (clear hx this; (first | lia | omega)))
  exact Nat.le_trans this h2
local macro_rules | `(tactic| walk_at "binaryOp Add str str") => `(tactic| (k_here; k_dflt (refine' PyProof.Rows.add_str ?_ (by (simp only [str_app_len, str_mk_len, List.size_toArray, str_nl_len]; have := sizeLine_eq; lia)); k_whole); intro ta ka))
theorem outl_spec {w : World} {C D : Addr} {cs : List (Array UInt8 × Tok)} {us : List Value} {tl : List Int} {wd : Nat} {tw : Tok} (hw : 1 ≤ wd ∧ wd ≤ 3) (hlen : cs.length ≤ 12) (hi : IntsAre us tl) (htl : tl.length = cs.length + 1) :
   ∀ (k : Nat), OutSpec w C D cs us tl wd tw k := by
  intro k
  induction k with
  | zero =>
    intro p loose mean mg mb A s i j iv jv ti tj Q E ei ej hdep hh X T hc hd hj hok h
    subst ei ej
    have hij : i ≥ j := by simpa [outlOk] using hok
    have ho : outl (cs.map (·.1)) tl wd 0 i j = ([], []) := rfl
    rw [ho] at h
    k_dflt (refine' enter [("cells", .ref C), ("told", .ref D), ("i", .int (i : Int) ti), ("j", .int (j : Int) tj), ("width", .int (wd : Int) tw)] ?X ?l ?o ?c ?r ?b ?lo ?c2 ?c3 ?c4 ?c5 ?_; (case X => assumption); (case l => exact Top.nolimit (by assumption)); (case o => k_is); (case c => k_is); (case b => first | exact BindsTo.of_eq rfl | exact binds_K (by assumption) rfl (by k_is) rfl rfl rfl); (case c5 => decide); (case r => (walk_at "m_room")); (case lo => exact locs rfl); (case c2 => exact rfl); (case c3 => exact rfl); (case c4 => exact rfl); (walk_at "m_enter2"))
    w_strict (repeat' ((fail_if_success (with_reducible show wpAny _ _ (exec (Stmt.For _ _ _ _ _) _) _ _ _)); walk1))
    rename_i F N _
    exact h _ _ _ _ _ (Fr.keep F) (News.fresh N (.head _)) (N.get (.head _))
  | succ k ih =>
    intro p loose mean mg mb A s i j iv jv ti tj Q E ei ej hdep hh X T hc hd hj hok h
    subst ei ej
    by_cases hij : i ≥ j
    · have ho : outl (cs.map (·.1)) tl wd (k + 1) i j = ([], []) := if_pos hij
      rw [ho] at h
      k_dflt (refine' enter [("cells", .ref C), ("told", .ref D), ("i", .int (i : Int) ti), ("j", .int (j : Int) tj), ("width", .int (wd : Int) tw)] ?X ?l ?o ?c ?r ?b ?lo ?c2 ?c3 ?c4 ?c5 ?_; (case X => assumption); (case l => exact Top.nolimit (by assumption)); (case o => k_is); (case c => k_is); (case b => first | exact BindsTo.of_eq rfl | exact binds_K (by assumption) rfl (by k_is) rfl rfl rfl); (case c5 => decide); (case r => (walk_at "m_room")); (case lo => exact locs rfl); (case c2 => exact rfl); (case c3 => exact rfl); (case c4 => exact rfl); (walk_at "m_enter2"))
      w_strict (repeat' ((fail_if_success (with_reducible show wpAny _ _ (exec (Stmt.For _ _ _ _ _) _) _ _ _)); walk1))
      rename_i F N _
      exact h _ _ _ _ _ (Fr.keep F) (News.fresh N (.head _)) (N.get (.head _))
    · have ho : outl (cs.map (·.1)) tl wd (k + 1) i j = _ := if_neg hij
      rw [ho] at h
      unfold outlOk at hok
      rw [if_neg hij] at hok
      simp only [Bool.and_eq_true, decide_eq_true_eq] at hok
      obtain ⟨⟨⟨⟨⟨⟨⟨o1, o2⟩, o3⟩, o4⟩, o5⟩, o6⟩, o7⟩, o8⟩ := hok
      k_dflt (refine' enter [("cells", .ref C), ("told", .ref D), ("i", .int (i : Int) ti), ("j", .int (j : Int) tj), ("width", .int (wd : Int) tw)] ?X ?l ?o ?c ?r ?b ?lo ?c2 ?c3 ?c4 ?c5 ?_; (case X => assumption); (case l => exact Top.nolimit (by assumption)); (case o => k_is); (case c => k_is); (case b => first | exact BindsTo.of_eq rfl | exact binds_K (by assumption) rfl (by k_is) rfl rfl rfl); (case c5 => decide); (case r => (walk_at "m_room")); (case lo => exact locs rfl); (case c2 => exact rfl); (case c3 => exact rfl); (case c4 => exact rfl); (walk_at "m_enter2"))
      w_strict (repeat' ((fail_if_success (with_reducible show wpAny _ _ (exec (Stmt.For _ _ _ _ _) _) _ _ _)); walk1))
      rename_i a1 a2 a3 a4 _ F5 N5
      obtain ⟨tc, hx⟩ : ∃ tc, (bytesValues cs).toArray[i]? = some (.bytes ((cs.map (·.1)).getD i #[]) tc) := by
        have hil : i < cs.length := by (clear a1 a2 a4 hdep hh hlen ho hw o1 o2 o3 o4 o5 o6 o8; (first | lia | omega))
        exact ⟨cs[i].2, by simp [bytesValues, hil]⟩
      obtain ⟨ek, hk⟩ := findC_int (by (clear a1 a2 a4 hdep hh hj hlen ho htl hw hx o1 o2 o3 o4 o5 o6 o8; (first | lia | omega))) a1 a2 a3 a4
      w_strict (repeat' ((fail_if_success (with_reducible show wpAny _ _ (exec (Stmt.For _ _ _ _ _) _) _ _ _)); walk1))
      k_here
      k_dflt (refine' item_bytes ?zF hc ?zi hx ?_ ?zs)
      case zF => k_asm
      case zi => (clear a1 a2 a4 ek hdep hh hk ho hw hx o3 o4 o5 o6 o8; (first | lia | omega))
      case zs => with_unfolding_all rfl
      k_whole
      w_strict (repeat' ((fail_if_success (with_reducible show wpAny _ _ (exec (Stmt.For _ _ _ _ _) _) _ _ _)); walk1))
      k_here
      k_dflt (refine' slice_tail o8 ?ys ?_ ?yt)
      case ys => exact Heap.IsSliceOf.new _ _ _ _
      case yt => with_unfolding_all rfl
      k_whole
      intro tsl ksl
      w_strict (repeat' ((fail_if_success (with_reducible show wpAny _ _ (exec (Stmt.For _ _ _ _ _) _) _ _ _)); walk1))
      have f1 := indOf_len wd _ hw.2 o3
      have f2 := indOf_len wd _ hw.2 o4
      have f3 : (Array.map (fun (x : UInt8) => x.toNat) (((cs.map (·.1)).getD i #[]).extract 1 2)).size ≤ 100 := by
        rw [Array.size_map, Array.size_extract]; (clear a1 a2 a4 ek f1 f2 hdep hh hij hj hk hlen ho htl hw hx o3 o4 o5 o6; (first | lia | omega))
      rename Fr _ _ _ _ => FF
      rename News _ _ _ _ => NN
      k_here
      k_dflt (refine' dec_call (Fr.push FF _) (fun p hp => ⟨Heap.get?_push_of_some _ (NN p hp).1, (NN p hp).2⟩) X ?yh o7 ?_)
      case yh => with_unfolding_all assumption
      k_whole
      intro hd1 td1 kd1 Fd1 Nd1
      w_strict (repeat' ((fail_if_success (with_reducible show wpAny _ _ (exec (Stmt.For _ _ _ _ _) _) _ _ _)); walk1))
      rename Fr _ _ _ _ => FE
      rename News _ _ _ _ => NE
      rw [str_eq4, str_eq4] at NE
      exact h _ _ _ _ _ (Fr.keep FE) (News.fresh NE (.head _)) (NE.get (.head _))
end Mine
end
section -- YSw4
open PySem PySem.W PySem.Calls PyProof.Rows PyProof.V PySem.Spec
set_option maxRecDepth 100000
set_option maxHeartbeats 1000000
namespace Mine
theorem off_YSw4 : True := by w_top off; trivial
variable {w : World} {p : Program} {loose : List Str} {mean : ExcName → Option Value} {mg mb : Str → Option Value}
section
variable {prog : Program} {A : Around} {E : Value → Shared → Prop} {s : Shared} {env : Env} {h₀ : Heap} {x : Str} {body : List Stmt} {Q : Flow → Shared → Prop}
theorem iter_rangeS {r : Addr} {a₀ b₀ c₀ : Int} {t₀ u₀ v₀ : Tok} {n : Nat} {m₀ : Str → Option Value} {news : List (Addr × Obj)} (J : Nat → (Str → Option Value) → List (Addr × Obj) → Prop)
    (hh : A.handled = none) (hr : IsRange s.heap r a₀ b₀ c₀ t₀ u₀ v₀) (hsmall : Builtin.Range.small a₀ b₀ c₀ = true) (hn : Builtin.Range.rangeSize a₀ b₀ c₀ = (n : Int)) (F : Fr h₀ env.locals s.heap m₀) (N : News h₀ env.locals s.heap news) (hj : J 0 m₀ news)
    (turn : ∀ i t m₁ nx h tk own, i < n → OwnOff own (nx.map (·.1)) → J i m₁ nx → Fr h₀ env.locals h (fun y => if y = x then some (.int (a₀ + (i : Int) * c₀) t) else m₁ y) → News h₀ env.locals h (nx ++ own) →
      wpAny (model prog w) A (execs body env) (PostO h₀ env.locals (J (i + 1)) own nx h { s with heap := h, toks := tk } Q) E { s with heap := h, toks := tk })
    (done : ∀ m₁ nx h tk, J n m₁ nx → Fr h₀ env.locals h m₁ → News h₀ env.locals h nx → Q .next { s with heap := h, toks := tk }) :
    wpAny (model prog w) A (pyIter (.ref r)) (fun it s₂ => LoopAtV prog w A h₀ env x body Q E it s₂) E s := by
  refine wpAny_pyIter_range hr hsmall ?_
  have W := Walks.range (prog := prog) (w := w) hh s.heap.objs.size a₀ c₀ n
  refine loop_O J W ?_ ?_ ?_ ?_ ?_ (by show IsRangeIter _ _ _ _ _; rw [hn]; simpa using Heap.get?_push_size _ rfl) (F.push _) (fun p hp => ⟨Heap.get?_push_of_some _ (N p hp).1, (N p hp).2⟩) hj ?_ ?_
  · intro hm
    exact absurd F.ns.lt ((List.mem_singleton.mp hm) ▸ Nat.lt_irrefl _)
  · intro b hb
    rw [List.mem_singleton.mp hb]
    exact next_is_new F
  · intro i h st b hb
    rw [List.mem_singleton.mp hb]
    exact ⟨_, st⟩
  · intro p hp hI
    exact absurd (Heap.lt_size (N p hp).1) ((List.mem_singleton.mp hI) ▸ Nat.lt_irrefl _)
  · intro i m₁ nx _ p _ hq
    exact hq
  · rintro i v m₁ nx h tk own hi ⟨t, rfl⟩ _ _ ho hJ F' N'
    exact turn i t m₁ nx h tk own hi ho hJ F' N'
  · exact done
end
theorem ba_set_N {prog : Program} {A : Around} {E : Value → Shared → Prop} {s : Shared} {h₀ : Heap} {L : Addr} {m : Str → Option Value} {news : List (Addr × Obj)} {g : Obj → List (Addr × Obj)} {a : Addr} {b : Array UInt8} {k x : Int} {t u : Tok} {Q : Unit → Shared → Prop}
    (F : Fr h₀ L s.heap m) (N : News h₀ L s.heap news) (U : UpdF a (baObj b) news g) (h0 : 0 ≤ k) (hk : k < b.size) (hx0 : 0 ≤ x) (hx1 : x < 256) (hz : b.size ≤ 1000)
    (h : ∀ h', Fr h₀ L h' m → News h₀ L h' (g (baObj (b.setIfInBounds k.toNat x.toNat.toUInt8))) → Q () { s with heap := h' }) :
    wpAny (model prog w) A (setItem (.ref a) (.int k t) (.int x u)) Q E s := by
  have z := N _ (updF_mem U)
  refine ba_set z.1 h0 hk hx0 hx1 hz fun h' e k' => ?_
  have kp : ∀ b o, b ≠ a → s.heap.get? b = some o → h'.get? b = some o := fun b o hb q => k'.extBut b o hb q
  exact h h' (fr_but F z.2.2 z.2.1 kp) (news_but N U e kp)
noncomputable def swapTo (b : List UInt8) : Nat → Array UInt8
  | 0 => Array.replicate 12 0
  | n + 1 => (swapTo b n).setIfInBounds (n / 6 * 6 + 5 - n % 6) (b.getD n 0)
theorem swapTo_size (b : List UInt8) : ∀ n, (swapTo b n).size = 12
  | 0 => rfl
  | n + 1 => by unfold swapTo; rw [Array.size_setIfInBounds, swapTo_size b n]
theorem swap_two (x0 x1 x2 x3 x4 x5 y0 y1 y2 y3 y4 y5 : UInt8) : swapTo [x0, x1, x2, x3, x4, x5, y0, y1, y2, y3, y4, y5] 12 = #[x5, x4, x3, x2, x1, x0, y5, y4, y3, y2, y1, y0] := by kernel_rfl
theorem map_ij {m f : Str → Option Value} {v : Option Value} {a b : Str} (hm : ∀ z : Str, z ≠ a → z ≠ b → m z = f z) :
    (fun z => if z = a then v else m z) = fun z => if z = a then v else if z = b then m b else f z := by
  funext z
  by_cases h1 : z = a
  · rw [if_pos h1, if_pos h1]
  · rw [if_neg h1, if_neg h1]
    by_cases h2 : z = b
    · rw [if_pos h2, h2]
    · rw [if_neg h2]; exact hm z h1 h2
theorem twelve {b : List UInt8} (h : b.length = 12) : ∃ x0 x1 x2 x3 x4 x5 y0 y1 y2 y3 y4 y5, b = [x0, x1, x2, x3, x4, x5, y0, y1, y2, y3, y4, y5] := by
  match b, h with
  | [x0, x1, x2, x3, x4, x5, y0, y1, y2, y3, y4, y5], _ => exact ⟨_, _, _, _, _, _, _, _, _, _, _, _, rfl⟩
theorem map_two {m : Str → Option Value} {a b : Str} {f : Str → Option Value} (hm : ∀ z : Str, z ≠ a → z ≠ b → m z = f z) :
    m = fun z => if z = a then m a else if z = b then m b else f z := by
  funext z
  by_cases h1 : z = a
  · rw [if_pos h1, h1]
  · rw [if_neg h1]
    by_cases h2 : z = b
    · rw [if_pos h2, h2]
    · rw [if_neg h2]; exact hm z h1 h2
theorem swap_spec {A : Around} (hdep : A.depth < recursionLimit) (hh : A.handled = none) (hg : A.guards = some []) {s : Shared} {b : List UInt8} {t t6 : Tok} {Q E : Value → Shared → Prop} (hb : b.length = 12)
   (X : (hd.heap_1 w.params).In s.heap) (T : Top p loose mean mg mb s.heap)
   (h : ∀ h' t' tk, (∀ b o, s.heap.get? b = some o → h'.get? b = some o) → Q (.bytes (swapTo b 12) t') { s with heap := h', toks := tk }) :
   wpC (model PySem.Challenge.pw_xo0007_01 w) A (call (.ref 155) [.bytes b.toArray t, .int 6 t6]) Q E s := by
  k_dflt (refine' enterPC [("data", .bytes b.toArray t), ("width", .int 6 t6)] ?X ?l ?o ?c ?r ?b ?lo ?c2 ?c3 ?c4 ?c5 ?_; (case X => assumption); (case l => exact Top.nolimit (by assumption)); (case o => k_is); (case c => k_is); (case b => first | exact BindsTo.of_eq rfl | exact binds_K (by assumption) rfl (by k_is) rfl rfl rfl); (case c5 => decide); (case r => (walk_at "m_room")); (case lo => exact locs rfl); (case c2 => exact rfl); (case c3 => exact rfl); (case c4 => exact rfl))
  intro h₁ F N
  try dsimp only [List.reverse_cons, List.reverse_nil, List.nil_append, List.append_nil, List.cons_append, List.length_cons, List.length_nil] at F ⊢
  try k_fold
  refine wpC_execs_cons (wpC_Assign_Name ?_ (wpC_Call_Name ?_))
  · with_unfolding_all rfl
  w_strict (repeat' ((fail_if_success (with_reducible show wpAny _ _ (exec (Stmt.For _ _ _ _ _) _) _ _ _)); walk1))
  refine wpC_callWith_type (by with_unfolding_all rfl) ?_
  refine Calls.evalArgs_plain (x := eval _ _) (rest := []) ?_
  refine Calls.spliced_cons ?_
  w_strict (repeat' ((fail_if_success (with_reducible show wpAny _ _ (exec (Stmt.For _ _ _ _ _) _) _ _ _)); walk1))
  refine Calls.spliced_nil ?_
  have e12 : ((b.toArray.size : Nat) : Int) = 12 := by simp [hb]
  rw [e12]
  refine ba_make hg ?_
  intro S h2 nS eS kS zS
  dsimp only at nS kS zS
  rename Fr _ _ _ _ => F
  have F2 := fr_grow F kS
  have N2 : News s.heap s.heap.objs.size h2 [(S, baObj (Array.replicate 12 0))] := by
    intro q hq
    rw [List.mem_singleton.mp hq]
    refine ⟨eS, fun e => ?_, ?_⟩
    · obtain ⟨oL, _, _, hL, _⟩ := F.ns
      dsimp only at e
      rw [e, hL] at nS; cases nS
    · cases q : s.heap.get? S with
      | none => rfl
      | some o' => rw [F.keep _ _ q] at nS; cases nS
  clear N
  clear F
  w_strict (repeat' ((fail_if_success (with_reducible show wpAny _ _ (exec (Stmt.For _ _ _ _ _) _) _ _ _)); walk1))
  refine wpC_any ?_
  w_strict (repeat' ((fail_if_success (with_reducible show wpAny _ _ (exec (Stmt.For _ _ _ _ _) _) _ _ _)); walk1))
  (walk_at "m_for")
  w_strict (repeat' ((fail_if_success (with_reducible show wpAny _ _ (exec (Stmt.For _ _ _ _ _) _) _ _ _)); (fail_if_success (with_reducible show wpAny _ _ (pyIter _) _ _ _)); walk1))
  rename_i h3 F3 N3 h4 tk4 t1 u1 v1 hr F N k4
  have hr6 : ((b.toArray.size : Nat) : Int) = 12 := e12
  rw [hr6] at hr
  refine iter_rangeS (a₀ := 0) (b₀ := 12) (c₀ := 6) (n := 2) (fun i m nx => nx = [(S, baObj (swapTo b (6 * i)))] ∧ ∀ z : Str, z ≠ "i" → z ≠ "j" → m z = if z = "swapped_data" then some (.ref S) else List.lookup z [(Str.ofString "data", Value.bytes b.toArray t), (Str.ofString "width", Value.int 6 t6)].reverse) hh hr (by decide) (by decide) F N ⟨rfl, fun _ _ _ => rfl⟩ ?_ ?_
  · rintro i ti m₁ nx h5 tk5 own hi ho ⟨rfl, hm⟩ F5 N5
    rw [map_ij hm] at F5
    rw [List.cons_append, List.nil_append] at N5
    have hoS : ∀ q ∈ own, q.1 ≠ S := fun q hq => ho q hq S (.head _)
    w_strict (repeat' ((fail_if_success (with_reducible show wpAny _ _ (exec (Stmt.For _ _ _ _ _) _) _ _ _)); walk1))
    (walk_at "m_for")
    w_strict (repeat' ((fail_if_success (with_reducible show wpAny _ _ (exec (Stmt.For _ _ _ _ _) _) _ _ _)); (fail_if_success (with_reducible show wpAny _ _ (pyIter _) _ _ _)); walk1))
    rename_i h6 tk6 t2 u2 v2 hr6 F6 N6 k6
    refine iter_rangeO (a₀ := 0) (b₀ := 6) (n := 6) (fun j m nx => nx = (S, baObj (swapTo b (6 * i + j))) :: own ∧ ∀ z : Str, z ≠ "j" → m z = if z = "i" then some (.int (0 + (i : Int) * 6) ti) else if z = "swapped_data" then some (.ref S) else List.lookup z [(Str.ofString "data", Value.bytes b.toArray t), (Str.ofString "width", Value.int 6 t6)].reverse) hh hr6 (by decide) (by decide) F6 N6 ⟨rfl, ?_⟩ ?_ ?_
    · intro z hz

      by_cases h1 : z = "i"
      · rw [if_pos h1, if_pos h1]
      · rw [if_neg h1, if_neg h1, if_neg hz]
    · rintro j tj m₂ nx h7 tk7 own2 hj ho2 ⟨rfl, hm2⟩ F7 N7
      rw [map_none hm2] at F7
      rw [List.cons_append] at N7
      have ho2S : ∀ q ∈ own2, q.1 ≠ S := fun q hq => ho2 q hq S (.head _)
      w_strict (repeat' ((fail_if_success (with_reducible show wpAny _ _ (exec (Stmt.For _ _ _ _ _) _) _ _ _)); walk1))
      k_here
      k_dflt (refine' ba_set_N ?bF ?bN ?bU ?b0 ?b1 ?b2 ?b3 ?b4 ?_)
      case bF => k_asm
      case bN => k_asm
      case bU => exact UpdF.head (fun q hq => (List.mem_append.mp hq).elim (hoS q) (ho2S q))
      case b0 => (clear e12 eS hb hdep hg hh nS zS; (first | lia | omega))
      case b1 => rw [swapTo_size]; (clear e12 eS hb hdep hg hh nS zS; (first | lia | omega))
      case b2 => (clear e12 eS hb hdep hg hh hi hj nS zS; (first | lia | omega))
      case b3 => have := UInt8.toNat_lt (b.getD (0 + (i : Int) * 6 + (0 + (j : Int))).toNat 0); (clear e12 eS hb hdep hg hh hi hj nS zS; (first | lia | omega))
      case b4 => rw [swapTo_size]; decide
      k_whole
      intro h8 F8 N8
      w_strict (repeat' ((fail_if_success (with_reducible show wpAny _ _ (exec (Stmt.For _ _ _ _ _) _) _ _ _)); walk1))
      have q1 : (0 + (i : Int) * 6 + 6 - 1 - (0 + (j : Int))).toNat = (6 * i + j) / 6 * 6 + 5 - (6 * i + j) % 6 := by (clear e12 eS hb hdep hg hh hi nS zS; (first | lia | omega))
      have q2 : (0 + (i : Int) * 6 + (0 + (j : Int))).toNat = 6 * i + j := by (clear e12 eS hb hdep hg hh nS q1 zS; (first | lia | omega))
      rw [q1, q2, Int.toNat_natCast] at N8
      have q3 : ∀ x : UInt8, x.toNat.toUInt8 = x := fun x => by simp
      rw [q3] at N8
      refine ⟨h8, _, _, _, (S, baObj (swapTo b (6 * i + (j + 1)))) :: own, rfl, F8, N8, fun q hq => ?_, fun q hq => by simp [hq], fun q hq => ?_, rfl, fun z hz => by dsimp only; rw [if_neg hz]⟩
      · rcases List.mem_cons.mp hq with rfl | hq
        · exact .head _
        · exact .tail _ (List.mem_append_left _ hq)
      · rcases List.mem_cons.mp hq with rfl | hq
        · exact .inl (.head _)
        · exact .inl (.tail _ (List.mem_map_of_mem hq))
    · rintro m₂ nx h7 tk7 ⟨rfl, hm2⟩ F7 N7
      refine wpAny_execs_nil ?_
      refine ⟨h7, _, _, _, [(S, baObj (swapTo b (6 * (i + 1))))], rfl, F7, N7, fun q hq => ?_, fun q hq => .tail _ hq, fun q hq => ?_, rfl, fun z hz hz2 => by rw [hm2 z hz2, if_neg hz]⟩
      · rw [List.mem_singleton.mp hq]; exact .head _
      · rw [List.mem_singleton.mp hq]; exact .inl (.head _)
  · rintro m₁ nx h6 tk6 ⟨rfl, hm⟩ F5 N5
    rw [map_two hm] at F5
    w_strict (repeat' ((fail_if_success (with_reducible show wpAny _ _ (exec (Stmt.For _ _ _ _ _) _) _ _ _)); walk1))
    have hS5 := (N5 _ (.head _)).1
    obtain ⟨x0, x1, x2, x3, x4, x5, y0, y1, y2, y3, y4, y5, rfl⟩ := twelve hb
    have kp := Fr.keep F5
    k_here
    k_dflt (refine' ba_bytes ?zh (X.keeps kp) (hS5.trans (congrArg some (congrArg baObj (swap_two x0 x1 x2 x3 x4 x5 y0 y1 y2 y3 y4 y5)))) ?_)
    case zh => with_unfolding_all assumption
    rintro v h7 tk l D ⟨t', rfl⟩
    rw [swap_two] at h
    exact h h7 t' tk fun b o e => mem_keep D b o (kp b o e)
end Mine
end
section -- YPl
open PySem PySem.W PySem.Calls PyProof.Rows PyProof.V PySem.Spec
set_option maxRecDepth 100000
set_option maxHeartbeats 1000000
namespace Mine
theorem off_YPl : True := by w_top off; trivial
noncomputable def delta (c : Array UInt8) : Int := ((stripQ c).count 40 : Nat) - ((stripQ c).count 41 : Nat)
theorem pdOf_delta (c : Array UInt8) (d : Int) : pdOf c d = d + delta c := by unfold pdOf delta; (first | lia | omega)
theorem delta_open : ∀ k, k < 6 → ∀ q, q < 4 → delta (openCell k q) = 1 := by decide +kernel
theorem delta_close : delta closeCell = -1 := by decide +kernel
theorem name_open : ∀ k, k < 6 → ∀ q, q < 4 → (openCell k q).extract 1 2 = (openCell k 0).extract 1 2 := by decide +kernel
/-- what is seen of a cell -/
noncomputable def seenOf (c : Array UInt8) : Int × Array UInt8 := (delta c, c.extract 1 2)
theorem seen_open {k q : Nat} (hk : k < 6) (hq : q < 4) : seenOf (openCell k q) = seenOf (openCell k 0) := by
  unfold seenOf
  rw [delta_open k hk q hq, delta_open k hk 0 (by (clear hk hq; (first | lia | omega))), name_open k hk q hq]
theorem cellsTo_seen (ms : List Int) (q : Nat → Nat) (hq : ∀ k, q k < 4) : ∀ i, i ≤ 6 → (cellsTo ms q i).map seenOf = (cellsTo ms (fun _ => 0) i).map seenOf
  | 0, _ => rfl
  | i + 1, hi => by
    unfold cellsTo
    rw [List.map_append, List.map_append, List.map_append, List.map_append, cellsTo_seen ms q hq i (by (first | lia | omega))]
    rw [List.map_singleton, List.map_singleton, seen_open (by (first | lia | omega)) (hq i)]
theorem cellsOf_seen (ms : List Int) (q : Nat → Nat) (hq : ∀ k, q k < 4) : (cellsOf ms q).map seenOf = (cellsOf ms (fun _ => 0)).map seenOf := by
  unfold cellsOf
  rw [List.map_append, List.map_append, cellsTo_seen ms q hq 6 (Nat.le_refl _)]
theorem seen_getD {a b : List (Array UInt8)} (h : a.map seenOf = b.map seenOf) (i : Nat) : seenOf (a.getD i #[]) = seenOf (b.getD i #[]) := by
  have h1 : (a.map seenOf)[i]? = (b.map seenOf)[i]? := by rw [h]
  rw [List.getElem?_map, List.getElem?_map] at h1
  rw [List.getD_eq_getElem?_getD, List.getD_eq_getElem?_getD]
  cases ha : a[i]? <;> cases hb : b[i]? <;> rw [ha, hb] at h1 <;> simp_all
theorem told_seen {a b : List (Array UInt8)} (h : a.map seenOf = b.map seenOf) : ∀ i, toldTo a i = toldTo b i
  | 0 => rfl
  | i + 1 => by
    unfold toldTo
    rw [told_seen h i, pdOf_delta, pdOf_delta]
    have : delta (a.getD i #[]) = delta (b.getD i #[]) := congrArg Prod.fst (seen_getD h i)
    rw [this]
theorem nameAt_seen {a b : List (Array UInt8)} (h : a.map seenOf = b.map seenOf) (i : Nat) : nameAt a i = nameAt b i := by
  unfold nameAt
  have : (a.getD i #[]).extract 1 2 = (b.getD i #[]).extract 1 2 := congrArg Prod.snd (seen_getD h i)
  rw [this]
theorem outl_seen {a b : List (Array UInt8)} (h : a.map seenOf = b.map seenOf) (tl : List Int) (wd : Nat) : ∀ k i j, outl a tl wd k i j = outl b tl wd k i j := by
  intro k
  induction k with
  | zero => intro i j; rfl
  | succ k ih =>
    intro i j
    unfold outl
    by_cases hij : i ≥ j
    · rw [if_pos hij, if_pos hij]
    · rw [if_neg hij, if_neg hij]
      simp only [ih, nameAt_seen h]
end Mine
end
section -- YPl2
open PySem PySem.W PySem.Calls PyProof.Rows PyProof.V PySem.Spec
set_option maxRecDepth 100000
set_option maxHeartbeats 1000000
namespace Mine
theorem off_YPl2 : True := by w_top off; trivial
theorem outlOk_seen {a b : List (Array UInt8)} (h : a.map seenOf = b.map seenOf) (ha : ∀ i, (a.getD i #[]).size ≤ 100) (hb : ∀ i, (b.getD i #[]).size ≤ 100) (tl : List Int) (wd : Nat) : ∀ k i j, outlOk a tl wd k i j = outlOk b tl wd k i j := by
  intro k
  induction k with
  | zero => intro i j; rfl
  | succ k ih =>
    intro i j
    unfold outlOk
    by_cases hij : i ≥ j
    · rw [if_pos hij, if_pos hij]
    · rw [if_neg hij, if_neg hij]
      have e : (a.getD i #[]).extract 1 2 = (b.getD i #[]).extract 1 2 := congrArg Prod.snd (seen_getD h i)
      simp only [ih, outl_seen h, e, ha i, hb i]
theorem openCell_size : ∀ k, k < 6 → ∀ q, q < 4 → (openCell k q).size ≤ 100 := by decide +kernel
theorem cellsTo_size (ms : List Int) (q : Nat → Nat) (hq : ∀ k, q k < 4) : ∀ i, i ≤ 6 → ∀ c ∈ cellsTo ms q i, c.size ≤ 100
  | 0, _, c, hc => by cases hc
  | i + 1, hi, c, hc => by
    unfold cellsTo at hc
    rcases List.mem_append.mp hc with hc | hc
    · rcases List.mem_append.mp hc with hc | hc
      · exact cellsTo_size ms q hq i (by (first | lia | omega)) c hc
      · rw [(List.mem_replicate.mp hc).2]; decide
    · rw [List.mem_singleton.mp hc]; exact openCell_size i (by (first | lia | omega)) _ (hq i)
theorem cellsOf_size (ms : List Int) (q : Nat → Nat) (hq : ∀ k, q k < 4) : ∀ c ∈ cellsOf ms q, c.size ≤ 100 := by
  intro c hc
  unfold cellsOf at hc
  rcases List.mem_append.mp hc with hc | hc
  · exact cellsTo_size ms q hq 6 (Nat.le_refl _) c hc
  · rw [(List.mem_replicate.mp hc).2]; decide
theorem getD_size {l : List (Array UInt8)} (h : ∀ c ∈ l, c.size ≤ 100) (i : Nat) : (l.getD i #[]).size ≤ 100 := by
  rw [List.getD_eq_getElem?_getD]
  cases e : l[i]? with
  | none => simp
  | some c => simpa using h c (List.mem_of_getElem? e)
/-- all the forests of n + 1 names -/
noncomputable def forests : Nat → List (List Int)
  | 0 => [[0]]
  | n + 1 => (forests n).flatMap fun f => (List.range ((f.getD n 0).toNat + 2)).map fun (d : Nat) => f ++ [Int.ofNat d]
theorem forest_mem : ∀ (n : Nat) (ms : List Int), ms.length = n + 1 → Forest ms → ms ∈ forests n
  | 0, ms, hl, hf => by
    match ms, hl with
    | [a], _ => have : a = 0 := hf.1; subst this; exact List.mem_singleton_self _
  | n + 1, ms, hl, hf => by
    have hne : ms ≠ [] := by intro e; subst e; simp at hl
    have e : ms = ms.dropLast ++ [ms.getLast hne] := (List.dropLast_concat_getLast hne).symm
    have hdl : ms.dropLast.length = n + 1 := by rw [List.length_dropLast, hl]; rfl
    generalize ms.getLast hne = x at e
    generalize ms.dropLast = f at e hdl
    subst e
    have hff : Forest f := by
      refine ⟨by have := hf.1; rwa [getD_snoc_lt (by (clear hne this; (first | lia | omega)))] at this, fun k hk => ?_⟩
      have := hf.2 k (by rw [List.length_append]; (clear hne; (first | lia | omega)))
      rwa [getD_snoc_lt hk, getD_snoc_lt (by (clear hne this; (first | lia | omega)))] at this
    have hx := hf.2 n (by rw [List.length_append, hdl]; simp)
    have e1 : (f ++ [x]).getD (n + 1) 0 = x := by rw [← hdl]; exact getD_snoc_eq
    rw [e1, getD_snoc_lt (by (clear e1 hl hne hx; (first | lia | omega)))] at hx
    refine List.mem_flatMap.mpr ⟨f, forest_mem n f hdl hff, List.mem_map.mpr ⟨x.toNat, List.mem_range.mpr (by (clear hdl hl hne; (first | lia | omega))), ?_⟩⟩
    have : Int.ofNat x.toNat = x := Int.toNat_of_nonneg hx.1
    rw [this]
theorem forests_count : (forests 5).length = 132 := by decide +kernel
/-- the cells as they stand without dress -/
noncomputable def plainCells (ms : List Int) : List (Array UInt8) := cellsOf ms fun _ => 0
end Mine
end
section -- YPl3
open PySem PySem.W PySem.Calls PyProof.Rows PyProof.V PySem.Spec
set_option maxRecDepth 100000
set_option maxHeartbeats 1000000
namespace Mine
theorem off_YPl3 : True := by w_top off; trivial
noncomputable def pageOf (ms : List Int) (wd : Nat) : List Nat := (List.range 6).flatMap fun k => List.replicate (wd * (ms.getD k 0).toNat) 32 ++ [97 + k, 10]
end Mine
end
section -- YFn
open PySem PySem.W PySem.Calls PyProof.Rows PyProof.V PySem.Spec
set_option maxRecDepth 100000
set_option maxHeartbeats 1000000
namespace Mine
theorem off_YFn : True := by w_top off; trivial
/-- popped: the pile's names and the names popped after k cells -/
noncomputable def popTo (cs : List (Array UInt8)) (tl : List Int) : Nat → List (List Nat) × List (List Nat)
  | 0 => ([], [])
  | k + 1 => let r := popTo cs tl k; if tl.getD (k + 1) 0 > tl.getD k 0 then (r.1 ++ [nameAt cs k], r.2) else (r.1.dropLast, r.2 ++ [r.1.getLastD []])
noncomputable def popOk (cs : List (Array UInt8)) (tl : List Int) (k : Nat) : Bool := decide (tl.getD (k + 1) 0 > tl.getD k 0) || !(popTo cs tl k).1.isEmpty
theorem popTo_seen {a b : List (Array UInt8)} (h : a.map seenOf = b.map seenOf) (tl : List Int) : ∀ k, popTo a tl k = popTo b tl k
  | 0 => rfl
  | k + 1 => by unfold popTo; simp only [popTo_seen h tl k, nameAt_seen h]
theorem popOk_seen {a b : List (Array UInt8)} (h : a.map seenOf = b.map seenOf) (tl : List Int) (k : Nat) : popOk a tl k = popOk b tl k := by unfold popOk; rw [popTo_seen h]
/-- read: popping while the pile is longer than the row's lead lets; the top of the pile is the head -/
noncomputable def popW (wd lead : Nat) : List (List Nat) → List (List Nat) → List (List Nat) × List (List Nat)
  | [], ns => ([], ns)
  | x :: r, ns => if (r.length + 1) * wd > lead then popW wd lead r (ns ++ [x]) else (x :: r, ns)
noncomputable def nameOf (row : Str) : Str := Txt.lstripChars row (Str.ofString " ")
noncomputable def leadOf (row : Str) : Int := (row.length : Int) - ((nameOf row).length : Int)
structure ReadSt where
  pile : List (List Nat)
  names : List (List Nat)
  leads : List (Str × Int)
noncomputable def readStep (wd : Nat) (st : ReadSt) (row : Str) : ReadSt :=
  let r := popW wd (leadOf row).toNat st.pile st.names
  ⟨(nameOf row).cps.toList :: r.1, r.2, kdpPut st.leads (nameOf row) (leadOf row)⟩
noncomputable def rowsOf (o : List Nat) : List Str := (Txt.split ⟨o.toArray⟩ (Str.ofString "\n")).dropLast
noncomputable def readAll (wd : Nat) (rows : List Str) : ReadSt := rows.foldl (readStep wd) ⟨[], [], []⟩
noncomputable def readNames (wd : Nat) (rows : List Str) : List (List Nat) := (readAll wd rows).names ++ (readAll wd rows).pile
/-- closing -/
noncomputable def minOf (d : Nat) : List Nat → Nat
  | [] => d
  | x :: r => min x (minOf d r)
noncomputable def endsOf (ms : List Int) (k : Nat) : Nat := minOf 6 ((List.range' (k + 1) (5 - k)).filter fun m => decide (ms.getD m 0 ≤ ms.getD k 0))
noncomputable def lexlt (keys : Nat → Int × Int) (i j : Nat) : Bool := if (keys i).1 == (keys j).1 then (if (keys i).2 == (keys j).2 then false else decide ((keys i).2 < (keys j).2)) else decide ((keys i).1 < (keys j).1)
noncomputable def keysOf (ms : List Int) (i : Nat) : Int × Int := ((endsOf ms i : Nat), -(ms.getD i 0))
noncomputable def evalT {α : Type} (lt : Nat → Nat → Bool) : KasT α → α
  | .ret a => a
  | .ask i j k => evalT lt (k (lt i j))
noncomputable def closing (ms : List Int) : List Nat := (evalT (lexlt (keysOf ms)) (kas_sort 6)).toList
/-- elders -/
noncomputable def aboveOf (ms : List Int) (k : Nat) : Int := ((List.range k).filter fun j => decide (ms.getD j 0 < ms.getD k 0)).foldl (fun (a : Int) (j : Nat) => max a (j : Int)) (-1 : Int)
noncomputable def besideOf (ms : List Int) (k : Nat) : Nat := ((List.range' (aboveOf ms k + 1).toNat (k - (aboveOf ms k + 1).toNat)).filter fun j => decide (ms.getD j 0 = ms.getD k 0)).length
noncomputable def eldersTo (ms : List Int) : Nat → List Int
  | 0 => []
  | k + 1 => eldersTo ms k ++ [(besideOf ms k : Int) + if aboveOf ms k ≥ 0 then (eldersTo ms k).getD (aboveOf ms k).toNat 0 else 0]
noncomputable def poppedOf (ms : List Int) : List (List Nat) := (popTo (plainCells ms) (toldTo (plainCells ms) 12) 12).2
noncomputable def crossedOf (ms : List Int) (wd : Nat) : List Nat := (outl (plainCells ms) (toldTo (plainCells ms) 12) wd 12 0 12).2
end Mine
end
section -- YPop
open PySem PySem.W PySem.Calls PyProof.Rows PyProof.V PySem.Spec
set_option maxRecDepth 100000
set_option maxHeartbeats 1000000
namespace Mine
theorem off_YPop : True := by w_top off; trivial
theorem tab_YPop {M : PySem.Model} {A : PySem.Around} {E Q : PySem.Value → PySem.Shared → Prop} {s : PySem.Shared} (h : PySem.wpAny M A (PySem.call .none []) Q E s) : PySem.wpAny M A (PySem.call .none []) Q E s := by first | (walk1; fail) | exact h
variable {prog : Program} {w : World} {p : Program} {loose : List Str} {mean : ExcName → Option Value} {mg mb : Str → Option Value}
theorem new_call {A : Around} {E : Value → Shared → Prop} {s : Shared} {h₀ : Heap} {L : Addr} {m : Str → Option Value} {news : List (Addr × Obj)} {Q : Value → Shared → Prop} (F : Fr h₀ L s.heap m) (N : News h₀ L s.heap news) (X : (hd.heap_1 w.params).In h₀) (T : Top p loose mean mg mb h₀) (hdep : A.depth + 1 < recursionLimit)
    (h : ∀ x dx od n h' tk, Fr h₀ L h' m → News h₀ L h' ((x, pileObj dx #[] n) :: (dx, od) :: news) → Plain4 od → dx ≠ x → (∀ q ∈ news, q.1 ≠ x) → (∀ q ∈ news, q.1 ≠ dx) → Q (.ref x) { s with heap := h', toks := tk }) :
    wpAny (model PySem.Challenge.pw_xo0007_01 w) A (call (.ref 131) []) Q E s := by
  refine new_spec hdep (X.keeps F.keep) (T.keeps F.keep) fun x dx od n h' tk nx ndx hne hx hdx hp kp => ?_
  obtain ⟨N1, a1⟩ := news_new F N kp ndx hdx
  obtain ⟨N2, a2⟩ := news_new F N kp nx hx
  refine h x dx od n h' tk (fr_grow F kp) (fun q hq => ?_) hp hne a2 a1
  rcases List.mem_cons.mp hq with rfl | hq
  · exact N2 _ (.head _)
  · exact N1 _ hq
local macro_rules | `(tactic| walk_at "call ref") => `(tactic| (k_here; k_dflt (refine' new_call (by k_asm) (by k_asm) (by assumption) (by assumption) (by (walk_at "m_room")) ?_; k_whole); intro xp dxp odp np hxp kxp Fxp Nxp plp nep ap1 ap2))
noncomputable abbrev PT := Addr × List Nat × Str × Tok × Tok
noncomputable def ptObj (t : PT) : Addr × Obj := (t.1, tupOf [.str t.2.2.1 t.2.2.2.1, .str ⟨t.2.1.toArray⟩ t.2.2.2.2])
noncomputable def ptRefs (ts : List PT) : List Value := ts.map fun t => .ref t.1
theorem ptRefs_snoc (ts : List PT) (t : PT) : ptRefs (ts ++ [t]) = ptRefs ts ++ [.ref t.1] := by simp [ptRefs]
theorem ptRefs_len (ts : List PT) : (ptRefs ts).length = ts.length := by simp [ptRefs]
/-- the pile's ledger: the names, the pile, its namespace, the tuples -/
noncomputable abbrev pileL (Ns xp dxp : Addr) (odp : Obj) (vs : List Value) (n3 n2 : Nat) (ts : List PT) : List (Addr × Obj) := (Ns, W.listOf vs.toArray n3) :: (xp, pileObj dxp (ptRefs ts).toArray n2) :: (dxp, odp) :: ts.map ptObj
theorem pt_off {Ns xp : Addr} {ts : List PT} {own : List (Addr × Obj)} {x : Addr} (h : ∀ t ∈ ts, t.1 ≠ x) (ho : ∀ q ∈ own, q.1 ≠ x) : ∀ q ∈ ts.map ptObj ++ own, q.1 ≠ x := fun q hq => by
  rcases List.mem_append.mp hq with hq | hq
  · obtain ⟨t, ht, rfl⟩ := List.mem_map.mp hq; exact h t ht
  · exact ho q hq
theorem strs_snoc {vs : List Value} {ss : List Str} (h : StrsAre vs ss) (x : Str) (t : Tok) : StrsAre (vs ++ [.str x t]) (ss ++ [x]) := h.append' (.cons _ _ .nil)
theorem popTo_len (cs : List (Array UInt8)) (tl : List Int) : ∀ k, (popTo cs tl k).1.length ≤ k ∧ (popTo cs tl k).2.length ≤ k
  | 0 => ⟨Nat.le_refl _, Nat.le_refl _⟩
  | k + 1 => by
    have := popTo_len cs tl k
    unfold popTo
    dsimp only
    split
    · simp; (first | lia | omega)
    · simp; (first | lia | omega)
theorem pile_push_mem {Ns xp dxp : Addr} {odp : Obj} {vs : List Value} {n3 n2 : Nat} {ts : List PT} {t : PT} {own : List (Addr × Obj)} :
    ∀ q ∈ pileL Ns xp dxp odp vs n3 n2 (ts ++ [t]), q ∈ ptObj t :: (Ns, W.listOf vs.toArray n3) :: (xp, pileObj dxp ((ptRefs ts).toArray.push (.ref t.1)) n2) :: (dxp, odp) :: (ts.map ptObj ++ own) := by
  intro q hq
  have e : (ptRefs ts).toArray.push (.ref t.1) = (ptRefs (ts ++ [t])).toArray := by rw [ptRefs_snoc, List.push_toArray]
  rw [e]
  unfold pileL at hq
  rw [List.map_append, List.map_singleton] at hq
  simp only [List.mem_cons, List.mem_append, List.mem_nil_iff, or_false] at hq ⊢
  rcases hq with h | h | h | h | h
  · exact .inr (.inl h)
  · exact .inr (.inr (.inl h))
  · exact .inr (.inr (.inr (.inl h)))
  · exact .inr (.inr (.inr (.inr (.inl h))))
  · exact .inl h
theorem pile_addr {Ns xp dxp : Addr} {odp : Obj} {vs vs' : List Value} {n3 n2 n3' n2' : Nat} {ts : List PT} {t : PT} {own : List (Addr × Obj)} (hn : ∀ r ∈ own, r.1 ≠ t.1) :
    ∀ q ∈ pileL Ns xp dxp odp vs' n3' n2' (ts ++ [t]), q.1 ∈ (pileL Ns xp dxp odp vs n3 n2 ts).map (·.1) ∨ ∀ r ∈ own, r.1 ≠ q.1 := by
  intro q hq
  unfold pileL at hq ⊢
  rw [List.map_append, List.map_singleton] at hq
  simp only [List.mem_cons, List.mem_append, List.mem_nil_iff, or_false, List.map_cons] at hq ⊢
  rcases hq with rfl | rfl | rfl | h | rfl
  · exact .inl (.inl rfl)
  · exact .inl (.inr (.inl rfl))
  · exact .inl (.inr (.inr (.inl rfl)))
  · exact .inl (.inr (.inr (.inr (List.mem_map_of_mem h))))
  · exact .inr hn
theorem pile_pop_mem {Ns xp dxp : Addr} {odp : Obj} {vs : List Value} {n3 n2 : Nat} {ts : List PT} {t : PT} {own : List (Addr × Obj)} :
    ∀ q ∈ pileL Ns xp dxp odp vs n3 n2 ts, q ∈ ptObj t :: (Ns, W.listOf vs.toArray n3) :: (xp, pileObj dxp (ptRefs ts).toArray n2) :: (dxp, odp) :: (ts.map ptObj ++ own) := by
  intro q hq
  unfold pileL at hq
  simp only [List.mem_cons, List.mem_append] at hq ⊢
  rcases hq with h | h | h | h
  · exact .inr (.inl h)
  · exact .inr (.inr (.inl h))
  · exact .inr (.inr (.inr (.inl h)))
  · exact .inr (.inr (.inr (.inr (.inl h))))
theorem pile_pop_addr {Ns xp dxp : Addr} {odp : Obj} {vs vs' : List Value} {n3 n2 n3' n2' : Nat} {ts : List PT} {t : PT} {own : List (Addr × Obj)} :
    ∀ q ∈ pileL Ns xp dxp odp vs' n3' n2' ts, q.1 ∈ (pileL Ns xp dxp odp vs n3 n2 (ts ++ [t])).map (·.1) ∨ ∀ r ∈ own, r.1 ≠ q.1 := by
  intro q hq
  unfold pileL at hq ⊢
  refine .inl ?_
  simp only [List.mem_cons, List.map_cons, List.map_append, List.mem_append] at hq ⊢
  rcases hq with rfl | rfl | rfl | h
  · exact .inl rfl
  · exact .inr (.inl rfl)
  · exact .inr (.inr (.inl rfl))
  · exact .inr (.inr (.inr (.inl (List.mem_map_of_mem h))))
theorem popTo_yes {cs : List (Array UInt8)} {tl : List Int} {k : Nat} (h : tl.getD k 0 < tl.getD (k + 1) 0) : popTo cs tl (k + 1) = ((popTo cs tl k).1 ++ [nameAt cs k], (popTo cs tl k).2) := if_pos h
theorem popTo_no {cs : List (Array UInt8)} {tl : List Int} {k : Nat} (h : ¬ tl.getD k 0 < tl.getD (k + 1) 0) : popTo cs tl (k + 1) = ((popTo cs tl k).1.dropLast, (popTo cs tl k).2 ++ [(popTo cs tl k).1.getLastD []]) := if_neg h
theorem pile_last {h₀ h : Heap} {L : Addr} {Ns xp dxp : Addr} {odp : Obj} {vs : List Value} {n3 n2 : Nat} {ts : List PT} {t : PT} {own : List (Addr × Obj)}
    (N : News h₀ L h ((Ns, W.listOf vs.toArray n3) :: (xp, pileObj dxp (ptRefs (ts ++ [t])).toArray n2) :: (dxp, odp) :: ((ts ++ [t]).map ptObj ++ own))) :
    News h₀ L h ((t.1, tupOf [.str t.2.2.1 t.2.2.2.1, .str ⟨t.2.1.toArray⟩ t.2.2.2.2]) :: (Ns, W.listOf vs.toArray n3) :: (xp, pileObj dxp (ptRefs ts ++ [Value.ref t.1]).toArray n2) :: (dxp, odp) :: (ts.map ptObj ++ own)) := by
  rw [ptRefs_snoc, List.map_append, List.map_singleton] at N
  intro q hq
  refine N q ?_
  simp only [List.mem_cons, List.mem_append, List.mem_nil_iff, or_false] at hq ⊢
  rcases hq with h | h | h | h | h | h
  · exact .inr (.inr (.inr (.inl (.inr h))))
  · exact .inl h
  · exact .inr (.inl h)
  · exact .inr (.inr (.inl h))
  · exact .inr (.inr (.inr (.inl (.inl h))))
  · exact .inr (.inr (.inr (.inr h)))
theorem news_ne {h₀ h : Heap} {L t : Addr} {news : List (Addr × Obj)} (N : News h₀ L h news) (ht : h.get? t = none) : ∀ q ∈ news, q.1 ≠ t := fun q hq e => by
  have := (N q hq).1
  rw [e, ht] at this; cases this
local macro_rules | `(tactic| walk_at "call builtin:len") => `(tactic| (k_here; k_dflt (refine' call_len_list (Heap.IsList.at (by assumption) fun o e => Fr.keep (by k_asm) _ _ e) (by (rw [bv_size]; lia)) ?_; k_whole)))
local macro_rules | `(tactic| walk_at "getMethod ref") => `(tactic| (k_here; k_dflt (refine' method_x "list.__getattribute__" (by k_in) (by exact inst_pile (News.get (by k_asm) (by k_mem)) (News.get (by k_asm) (by k_mem))) (by k_is) (by decide +kernel) (by k_is) (by k_is) (by k_is) (by decide +kernel) (by (show (lookIn _ _).map _ = _; simp only [*]; rfl)) ?_; k_whole)))
theorem popped_spec {A : Around} (hdep : A.depth + 3 < recursionLimit) (hh : A.handled = none) {s : Shared} {C D : Addr} {cs : List (Array UInt8 × Tok)} {us : List Value} {tl : List Int} {Q E : Value → Shared → Prop}
   (X : (hd.heap_1 w.params).In s.heap) (T : Top p loose mean mg mb s.heap) (hl : s.heap.IsList C (bytesValues cs).toArray) (hd' : s.heap.IsList D us.toArray) (hi : IntsAre us tl) (htl : tl.length = cs.length + 1) (hlen : cs.length ≤ 12) (hnm : ∀ k, k < cs.length → NameB (((cs.map (·.1)).getD k #[]).extract 1 2) ∧ ((cs.map (·.1)).getD k #[]).size ≤ 100) (hpo : ∀ k, k < cs.length → popOk (cs.map (·.1)) tl k = true)
   (h : ∀ h' R vs n tk, (∀ b o, s.heap.get? b = some o → h'.get? b = some o) → s.heap.get? R = none → h'.get? R = some (listObj vs.toArray n) → StrsAre vs ((popTo (cs.map (·.1)) tl cs.length).2.map fun a => ⟨a.toArray⟩) → Q (.ref R) { s with heap := h', toks := tk }) :
   wpAny (model PySem.Challenge.pw_xo0007_01 w) A (call (.ref 197) [.ref C, .ref D]) Q E s := by
  k_dflt (refine' enter [("cells", .ref C), ("told", .ref D)] ?X ?l ?o ?c ?r ?b ?lo ?c2 ?c3 ?c4 ?c5 ?_; (case X => assumption); (case l => exact Top.nolimit (by assumption)); (case o => k_is); (case c => k_is); (case b => first | exact BindsTo.of_eq rfl | exact binds_K (by assumption) rfl (by k_is) rfl rfl rfl); (case c5 => decide); (case r => (walk_at "m_room")); (case lo => exact locs rfl); (case c2 => exact rfl); (case c3 => exact rfl); (case c4 => exact rfl); (walk_at "m_enter2"))
  w_strict (repeat' ((fail_if_success (with_reducible show wpAny _ _ (exec (Stmt.For _ _ _ _ _) _) _ _ _)); walk1))
  (walk_at "m_for")
  w_strict (repeat' ((fail_if_success (with_reducible show wpAny _ _ (exec (Stmt.For _ _ _ _ _) _) _ _ _)); (fail_if_success (with_reducible show wpAny _ _ (pyIter _) _ _ _)); walk1))
  rename_i xp dxp odp np hxp kxp plp nep ap1 ap2 hh2 Ns hh3 l1 hh4 F3 N3 _ hh5 tk5 t1 u1 v1 hr F N _
  have hbl : (bytesValues cs).length = cs.length := by simp [bytesValues]
  rw [hbl] at hr
  refine iter_rangeO (a₀ := 0) (b₀ := ((cs.length : Nat) : Int)) (n := cs.length) (fun k m nx => (∃ (ts : List PT) (vs : List Value) (n2 n3 : Nat), nx = pileL Ns xp dxp odp vs n3 n2 ts ∧
      ts.map (fun t => t.2.1) = (popTo (cs.map (·.1)) tl k).1 ∧ StrsAre vs ((popTo (cs.map (·.1)) tl k).2.map fun a => ⟨a.toArray⟩) ∧ (∀ t ∈ ts, t.1 ≠ Ns ∧ t.1 ≠ xp)) ∧
      ∀ z : Str, z ≠ "k" → m z = if z = "names" then some (.ref Ns) else if z = "pile" then some (.ref xp) else List.lookup z [(Str.ofString "cells", Value.ref C), (Str.ofString "told", Value.ref D)].reverse) hh hr (range_small _ (by (clear hdep hh l1 nep; (first | lia | omega)))) (range_size _) F N ⟨⟨[], [], _, _, rfl, rfl, .nil, fun t ht => by cases ht⟩, fun _ _ => rfl⟩ ?_ ?_
  · rintro k t m₁ nx h6 tk6 own hk ho ⟨⟨ts, vs, n2, n3, rfl, hts, hvs, hoff⟩, hm⟩ F5 N5
    rw [map_none hm] at F5
    rw [List.cons_append, List.cons_append, List.cons_append] at N5
    rw [Int.zero_add] at F5
    obtain ⟨q1, q2, q3, q4⟩ := plp
    obtain ⟨o7, o8⟩ := hnm k hk
    obtain ⟨tc, hx⟩ : ∃ tc, (bytesValues cs).toArray[k]? = some (.bytes ((cs.map (·.1)).getD k #[]) tc) :=
      ⟨cs[k].2, by simp [bytesValues, hk]⟩
    have eN : (k : Int).toNat = k := Int.toNat_natCast k
    have eN1 : ((k : Int) + 1).toNat = k + 1 := by (clear hbl hdep hh hk hlen htl hts hx l1 nep o8 q1 q2 q3 q4; (first | lia | omega))
    have hlts : ts.length ≤ 12 := by
      have := congrArg List.length hts
      rw [List.length_map] at this
      have := (popTo_len (cs.map (·.1)) tl k).1
      (clear hdep hh hts hx l1 nep o8 q1 q2 q3 q4; (first | lia | omega))
    have hlvs : vs.length ≤ 12 := by
      have := hvs.len_eq
      rw [List.length_map] at this
      have := (popTo_len (cs.map (·.1)) tl k).2
      (clear hdep hh hlts hts hx l1 nep o8 q1 q2 q3 q4; (first | lia | omega))
    have hoN : ∀ q ∈ own, q.1 ≠ Ns := fun q hq => ho q hq Ns (.head _)
    have hoX : ∀ q ∈ own, q.1 ≠ xp := fun q hq => ho q hq xp (.tail _ (.head _))
    have hoD : ∀ q ∈ own, q.1 ≠ dxp := fun q hq => ho q hq dxp (.tail _ (.tail _ (.head _)))
    w_strict (repeat' ((fail_if_success (with_reducible show wpAny _ _ (exec (Stmt.For _ _ _ _ _) _) _ _ _)); walk1))
    · rename_i hgt
      rw [eN, eN1] at hgt
      k_here
      k_dflt (refine' item_bytes ?zF hl ?zi hx ?_ ?zs)
      case zF => k_asm
      case zi => (clear hdep hgt hh hlts hlvs hts hx l1 nep o8 q1 q2 q3 q4; (first | lia | omega))
      case zs => with_unfolding_all rfl
      k_whole
      w_strict (repeat' ((fail_if_success (with_reducible show wpAny _ _ (exec (Stmt.For _ _ _ _ _) _) _ _ _)); walk1))
      k_here
      k_dflt (refine' slice_tail o8 ?ys ?_ ?yt)
      case ys => exact Heap.IsSliceOf.new _ _ _ _
      case yt => with_unfolding_all rfl
      k_whole
      intro tsl ksl
      w_strict (repeat' ((fail_if_success (with_reducible show wpAny _ _ (exec (Stmt.For _ _ _ _ _) _) _ _ _)); walk1))
      rename Fr _ _ _ _ => FF
      rename News _ _ _ _ => NN
      k_here
      k_dflt (refine' dec_call (Fr.push FF _) (fun p hp => ⟨Heap.get?_push_of_some _ (NN p hp).1, (NN p hp).2⟩) X ?yh o7 ?_)
      case yh => with_unfolding_all assumption
      k_whole
      intro hd1 td1 kd1 Fd1 Nd1
      w_strict (repeat' ((fail_if_success (with_reducible show wpAny _ _ (exec (Stmt.For _ _ _ _ _) _) _ _ _)); walk1))
      k_here
      k_dflt (refine' push_call ?pF ?pN X T ?pr ?pU ?pd ?pn ?po ?pz ?_)
      case pF => k_asm
      case pN => k_asm
      case pr => (walk_at "m_room")
      case pU => exact UpdF.tail (Nat.ne_of_gt l1.1) (UpdF.head (List.forall_mem_cons.mpr ⟨nep, pt_off (Ns := Ns) (xp := xp) (fun t ht => (hoff t ht).2) hoX⟩))
      case pd => k_mem
      case pn => assumption
      case po => exact q1
      case pz => rw [List.size_toArray, ptRefs_len]; (clear eN eN1 hbl hdep hgt hh hk hlen hlvs htl hts hx l1 nep o8 q1 q2 q3 q4; (first | lia | omega))
      k_whole
      intro hp1 t1 kp1 Fp1 Np1 np1
      w_strict (repeat' ((fail_if_success (with_reducible show wpAny _ _ (exec (Stmt.For _ _ _ _ _) _) _ _ _)); walk1))
      have hn := news_ne Nd1 np1
      refine ⟨hp1, _, _, _, pileL Ns xp dxp odp vs n3 (n2 + 1) (ts ++ [((t1, nameAt (cs.map (·.1)) k, Str.ofString " ", _, td1) : PT)]), rfl, Fp1, Np1, pile_push_mem, fun q hq => by simp [hq], pile_addr (fun r hr => hn r (by simp [hr])), ⟨⟨_, _, _, _, rfl, ?_, ?_, ?_⟩, fun z hz => by dsimp only; rw [if_neg hz]⟩⟩
      · rw [List.map_append, hts, popTo_yes hgt]
        rfl
      · rw [popTo_yes hgt]
        exact hvs
      · intro t ht
        rcases List.mem_append.mp ht with ht | ht
        · exact hoff t ht
        · rw [List.mem_singleton.mp ht]
          exact ⟨fun e => hn _ (.head _) e.symm, fun e => hn _ (.tail _ (.head _)) e.symm⟩
    · rename_i hgt
      rw [eN, eN1] at hgt
      obtain ⟨ts', lt, rfl⟩ : ∃ ts' lt, ts = ts' ++ [lt] := by
        have h1 := hpo k hk
        unfold popOk at h1
        have hne : ts ≠ [] := by
          rintro rfl
          rw [← hts] at h1
          simp only [Bool.or_eq_true, decide_eq_true_eq, List.map_nil, List.isEmpty_nil, Bool.not_true, Bool.false_eq_true, or_false] at h1
          exact hgt h1
        exact ⟨ts.dropLast, ts.getLast hne, (List.dropLast_concat_getLast hne).symm⟩
      have N6 := pile_last N5
      clear N5
      k_here
      k_dflt (refine' pop_call ?pF ?pN X T ?pr ?pU ?pd ?pn ?po ?pz ?_)
      case pF => k_asm
      case pN => exact N6
      case pr => (walk_at "m_room")
      case pU => exact UpdF.tail (hoff lt (by simp)).2 (UpdF.tail (Nat.ne_of_gt l1.1) (UpdF.head (List.forall_mem_cons.mpr ⟨nep, pt_off (Ns := Ns) (xp := xp) (fun t ht => (hoff t (by simp [ht])).2) hoX⟩)))
      case pd => k_mem
      case pn => assumption
      case po => exact q2
      case pz => rw [ptRefs_len]; simp at hlts; (clear eN eN1 hbl hdep hgt hh hk hlen hlvs htl hts hx l1 nep o8 q1 q2 q3 q4; (first | lia | omega))
      k_whole
      intro hp1 n4 kp1 Fp1 Np1
      w_strict (repeat' ((fail_if_success (with_reducible show wpAny _ _ (exec (Stmt.For _ _ _ _ _) _) _ _ _)); walk1))
      k_here
      k_dflt (refine' append_K ?aF ?aN ?aU ?_ ?az)
      case aF => k_asm
      case aN => exact Np1
      case aU => exact Upd.tail (hoff lt (by simp)).1 (Upd.head (List.forall_mem_cons.mpr ⟨Nat.ne_of_lt l1.1, List.forall_mem_cons.mpr ⟨Nat.ne_of_lt l1.2, pt_off (Ns := Ns) (xp := xp) (fun t ht => (hoff t (by simp [ht])).1) hoN⟩⟩))
      case az => rw [List.size_toArray]; have := sizeLine_eq; (clear eN eN1 hbl hdep hgt hh hk hlen hlts htl hts hx l1 nep o8 q1 q2 q3 q4; (first | lia | omega))
      k_whole
      intro hp2 Fp2 Np2
      w_strict (repeat' ((fail_if_success (with_reducible show wpAny _ _ (exec (Stmt.For _ _ _ _ _) _) _ _ _)); walk1))
      rw [List.push_toArray] at Np2
      have e1 : (popTo (cs.map (·.1)) tl k).1 = ts'.map (fun t => t.2.1) ++ [lt.2.1] := by rw [← hts, List.map_append, List.map_singleton]
      refine ⟨hp2, _, _, _, pileL Ns xp dxp odp (vs ++ [.str ⟨lt.2.1.toArray⟩ lt.2.2.2.2]) (n3 + 1) n4 ts', rfl, Fp2, Np2, pile_pop_mem (t := lt), fun q hq => by simp [hq], pile_pop_addr, ⟨⟨_, _, _, _, rfl, ?_, ?_, fun t ht => hoff t (by simp [ht])⟩, fun z hz => by dsimp only; rw [if_neg hz]⟩⟩
      · rw [popTo_no hgt, e1, List.dropLast_concat]
      · rw [popTo_no hgt, e1]
        dsimp only
        rw [List.map_append, List.getLastD_concat]
        exact strs_snoc hvs _ _
  · rintro m₁ nx h6 tk6 ⟨⟨ts, vs, n2, n3, rfl, hts, hvs, hoff⟩, hm⟩ F5 N5
    rw [← done_none hm] at F5
    w_strict (repeat' ((fail_if_success (with_reducible show wpAny _ _ (exec (Stmt.For _ _ _ _ _) _) _ _ _)); walk1))
    exact h _ Ns vs n3 _ (Fr.keep (by assumption)) (News.fresh N5 (.head _)) (N5.get (.head _)) hvs
end Mine
end
section -- YRead
open PySem PySem.W PySem.Calls PyProof.Rows PyProof.V PySem.Spec
set_option maxRecDepth 100000
set_option maxHeartbeats 1000000
namespace Mine
theorem off_YRead : True := by w_top off; trivial
theorem tab_YRead {M : PySem.Model} {A : PySem.Around} {E Q : PySem.Value → PySem.Shared → Prop} {s : PySem.Shared} (h : PySem.wpAny M A (PySem.call .none []) Q E s) : PySem.wpAny M A (PySem.call .none []) Q E s := by first | (walk1; fail) | exact h
variable {prog : Program} {w : World} {p : Program} {loose : List Str} {mean : ExcName → Option Value} {mg mb : Str → Option Value}
theorem count_call {A : Around} {E : Value → Shared → Prop} {s : Shared} {h₀ : Heap} {L : Addr} {m : Str → Option Value} {news : List (Addr × Obj)} {x dx : Addr} {its : Array Value} {n : Nat} {od : Obj} {Q : Value → Shared → Prop}
    (F : Fr h₀ L s.heap m) (N : News h₀ L s.heap news) (X : (hd.heap_1 w.params).In h₀) (T : Top p loose mean mg mb h₀) (hdep : A.depth < recursionLimit) (hx : (x, pileObj dx its n) ∈ news) (hdx : (dx, od) ∈ news)
    (h : ∀ h' tk tk', Fr h₀ L h' m → News h₀ L h' news → Q (.int its.size tk) { s with heap := h', toks := tk' }) :
    wpAny (model PySem.Challenge.pw_xo0007_01 w) A (call (.ref 128) [.ref x]) Q E s :=
  count_spec hdep (X.keeps F.keep) (T.keeps F.keep) (N _ hx).1 (N _ hdx).1 fun h' tk tk' kp => h h' tk tk' (fr_grow F kp) (news_grow N kp)
local macro_rules | `(tactic| walk_at "call ref") => `(tactic| (k_here; first
  | (k_dflt (refine' new_call (by k_asm) (by k_asm) (by assumption) (by assumption) (by (walk_at "m_room")) ?_; k_whole); intro xp dxp odp np hxp kxp Fxp Nxp plp nep ap1 ap2)
  | (k_dflt (refine' count_call (by k_asm) (by k_asm) (by assumption) (by assumption) (by (walk_at "m_room")) (by k_mem) (by k_mem) ?_; k_whole); intro hct kct kct' Fct Nct)))
local macro_rules | `(tactic| walk_at "getMethod ref") => `(tactic| (k_here; k_dflt (refine' method_x "list.__getattribute__" (by k_in) (by exact inst_pile (News.get (by k_asm) (by k_mem)) (News.get (by k_asm) (by k_mem))) (by k_is) (by decide +kernel) (by k_is) (by k_is) (by k_is) (by decide +kernel) (by (show (lookIn _ _).map _ = _; simp only [*]; rfl)) ?_; k_whole)))
theorem slicePick_but (items : Array Value) : slicePick items none (some (-1)) none = items.toList.dropLast.toArray := by
  by_cases hz : items.size = 0
  · have : items = #[] := Array.eq_empty_of_size_eq_zero hz
    subst this
    rfl
  · have e : sliceBounds none (some (-1)) none items.size = (((0 : Nat) : Int), ((items.size - 1 : Nat) : Int), 1) := by
      simp only [sliceBounds, Option.getD_none]
      simp only [show ((-1 : Int) < 0) by decide, show (1 : Int) > 0 by decide, if_true]
      congr 1
      congr 1; (clear hz; (first | lia | omega))
    unfold slicePick
    rw [e]
    simp only [sliceRange_one, pick_run]
    rw [List.dropLast_eq_take]
    simp
theorem map_three {m : Str → Option Value} {a b c : Str} {f : Str → Option Value} (hm : ∀ z : Str, z ≠ a → z ≠ b → z ≠ c → m z = f z) (v : Option Value) :
    (fun z => if z = a then v else m z) = fun z => if z = a then v else if z = b then m b else if z = c then m c else f z := by
  funext z
  by_cases h1 : z = a
  · rw [if_pos h1, if_pos h1]
  · rw [if_neg h1, if_neg h1]
    by_cases h2 : z = b
    · rw [if_pos h2, h2]
    · rw [if_neg h2]
      by_cases h3 : z = c
      · rw [if_pos h3, h3]
      · rw [if_neg h3]; exact hm z h1 h2 h3
theorem done_three {m : Str → Option Value} {a b c : Str} {f : Str → Option Value} (hm : ∀ z : Str, z ≠ a → z ≠ b → z ≠ c → m z = f z) :
    (fun z => if z = a then m a else if z = b then m b else if z = c then m c else f z) = m := by
  funext z
  by_cases h1 : z = a
  · rw [if_pos h1, h1]
  · rw [if_neg h1]
    by_cases h2 : z = b
    · rw [if_pos h2, h2]
    · rw [if_neg h2]
      by_cases h3 : z = c
      · rw [if_pos h3, h3]
      · rw [if_neg h3]; exact (hm z h1 h2 h3).symm
theorem strValues_drop (l : List (Str × Tok)) : (strValues l).dropLast = strValues l.dropLast := by
  unfold strValues
  rw [List.map_dropLast]
theorem news_perm {h₀ h : Heap} {L : Addr} {a b : List (Addr × Obj)} (N : News h₀ L h a) (k : ∀ q ∈ b, q ∈ a) : News h₀ L h b := fun q hq => N q (k q hq)
theorem popW_len (wd lead : Nat) : ∀ (P ns : List (List Nat)), (popW wd lead P ns).1.length + (popW wd lead P ns).2.length = P.length + ns.length
  | [], ns => rfl
  | x :: r, ns => by
    unfold popW
    split
    · rw [popW_len wd lead r (ns ++ [x])]; simp; (first | lia | omega)
    · rfl
theorem popW_stop {wd lead : Nat} {st : List (List Nat) × List (List Nat)} (h : st.1.length * wd ≤ lead) : popW wd lead st.1 st.2 = st := by
  obtain ⟨P, ns⟩ := st
  cases P with
  | nil => rfl
  | cons x r =>
    have h' : (r.length + 1) * wd ≤ lead := h
    exact if_neg (by (clear h; (first | lia | omega)))
theorem pile_push_memL {Ld Ns xp dxp : Addr} {od odp : Obj} {vs : List Value} {n3 n2 : Nat} {ts : List PT} {t : PT} {own : List (Addr × Obj)} :
    ∀ q ∈ (Ld, od) :: pileL Ns xp dxp odp vs n3 n2 (ts ++ [t]), q ∈ ptObj t :: (Ld, od) :: (Ns, W.listOf vs.toArray n3) :: (xp, pileObj dxp ((ptRefs ts).toArray.push (.ref t.1)) n2) :: (dxp, odp) :: (ts.map ptObj ++ own) := by
  intro q hq
  rcases List.mem_cons.mp hq with h | h
  · rw [h]; exact .tail _ (.head _)
  · have := pile_push_mem (own := own) q h
    rcases List.mem_cons.mp this with h | h
    · rw [h]; exact .head _
    · exact .tail _ (.tail _ h)
theorem readAll_snoc (wd : Nat) (rows : List Str) (row : Str) : readAll wd (rows ++ [row]) = readStep wd (readAll wd rows) row := by
  unfold readAll
  rw [List.foldl_append]; rfl
theorem fold_len (wd : Nat) : ∀ (rows : List Str) (st : ReadSt), ((rows.foldl (readStep wd) st).pile.length + (rows.foldl (readStep wd) st).names.length = st.pile.length + st.names.length + rows.length) ∧ (rows.foldl (readStep wd) st).leads.length ≤ st.leads.length + rows.length
  | [], st => ⟨rfl, Nat.le_refl _⟩
  | x :: r, st => by
    have h := fold_len wd r (readStep wd st x)
    rw [List.foldl_cons, List.length_cons]
    have h2 : (readStep wd st x).pile.length + (readStep wd st x).names.length = st.pile.length + st.names.length + 1 := by
      have := popW_len wd (leadOf x).toNat st.pile st.names
      unfold readStep
      dsimp only
      rw [List.length_cons]
      (clear h; (first | lia | omega))
    have h3 : (readStep wd st x).leads.length ≤ st.leads.length + 1 := kdpPut_len _ _ _
    (first | lia | omega)
theorem readAll_len (wd : Nat) (rows : List Str) : (readAll wd rows).pile.length + (readAll wd rows).names.length = rows.length ∧ (readAll wd rows).leads.length ≤ rows.length := by
  have h := fold_len wd rows ⟨[], [], []⟩
  unfold readAll
  simpa using h
theorem read_spec {A : Around} (hdep : A.depth + 3 < recursionLimit) (hh : A.handled = none) {s : Shared} {o : List Nat} {to tw : Tok} {wd : Nat} {Q E : Value → Shared → Prop}
   (X : (hd.heap_1 w.params).In s.heap) (T : Top p loose mean mg mb s.heap) (hw : 1 ≤ wd ∧ wd ≤ 3) (hz : o.length ≤ 1000) (hrl : (rowsOf o).length ≤ 100) (hrz : ∀ r ∈ rowsOf o, r.length ≤ 1000)
   (h : ∀ h' R Ns Ld vs n od kvs tk, (∀ b o, s.heap.get? b = some o → h'.get? b = some o) → s.heap.get? R = none → s.heap.get? Ns = none → s.heap.get? Ld = none → h'.get? R = some (tupOf [.ref Ns, .ref Ld]) → h'.get? Ns = some (listObj vs.toArray n) → h'.get? Ld = some od → StrsAre vs ((readNames wd (rowsOf o)).map fun a => ⟨a.toArray⟩) → od.IsDictOf (PySem.strKind PySem.Challenge.pw_xo0007_01 w) kvs → FlatPairs PyData.str kvs (kdpD (readAll wd (rowsOf o)).leads) → Ns ≠ Ld → Q (.ref R) { s with heap := h', toks := tk }) :
   wpAny (model PySem.Challenge.pw_xo0007_01 w) A (call (.ref 204) [.str ⟨o.toArray⟩ to, .int (wd : Int) tw]) Q E s := by
  k_dflt (refine' enter [("outline", .str ⟨o.toArray⟩ to), ("width", .int (wd : Int) tw)] ?X ?l ?o ?c ?r ?b ?lo ?c2 ?c3 ?c4 ?c5 ?_; (case X => assumption); (case l => exact Top.nolimit (by assumption)); (case o => k_is); (case c => k_is); (case b => first | exact BindsTo.of_eq rfl | exact binds_K (by assumption) rfl (by k_is) rfl rfl rfl); (case c5 => decide); (case r => (walk_at "m_room")); (case lo => exact locs rfl); (case c2 => exact rfl); (case c3 => exact rfl); (case c4 => exact rfl); (walk_at "m_enter2"))
  w_strict (repeat' ((fail_if_success (with_reducible show wpAny _ _ (exec (Stmt.For _ _ _ _ _) _) _ _ _)); walk1))
  (walk_at "m_for")
  w_strict (repeat' ((fail_if_success (with_reducible show wpAny _ _ (exec (Stmt.For _ _ _ _ _) _) _ _ _)); (fail_if_success (with_reducible show wpAny _ _ (pyIter _) _ _ _)); walk1))
  rename_i xp dxp odp np _ _ plp nep _ _ h6 Ns _ l1 _ Ld _ od lod hsd fsd _ _ l2 h2 F2 N2 l h1 k1 el sl _ il _ N1 h7 F N
  obtain ⟨q1, q2, q3, q4⟩ := plp
  rw [slicePick_but] at N
  change News _ _ _ ((_, W.listOf (strValues l).dropLast.toArray 0) :: _) at N
  rw [strValues_drop] at N
  have hrows : StrsAre (strValues l.dropLast) (rowsOf o) := by
    have := strsAre_of_values l.dropLast
    rw [List.map_dropLast, el] at this
    exact this
  have hNd : News s.heap s.heap.objs.size h7 [(Ld, od), (Ns, W.listOf #[] 0), (xp, pileObj dxp #[] np), (dxp, odp)] := fun q hq => N q (.tail _ (.tail _ hq))
  have hRL := (N _ (.head _)).1
  have hRL0 : s.heap.get? (h1.objs.size + 1) = none := (N _ (.head _)).2.2
  have hlt : ∀ q ∈ [(Ld, od), (Ns, W.listOf #[] 0), (xp, pileObj dxp #[] np), (dxp, odp)], q.1 ≠ h1.objs.size + 1 := fun q hq => Nat.ne_of_lt (Nat.lt_succ_of_lt (Heap.lt_size (N1 q (.tail _ hq)).1))
  refine iter_listO (news := [(Ld, od), (Ns, W.listOf #[] 0), (xp, pileObj dxp #[] np), (dxp, odp)]) (items := (strValues l.dropLast).toArray) (fun i m nx => (∃ (ts : List PT) (vs : List Value) (n2 n3 : Nat) (od : Obj) (kvs : List (Str × Value)), nx = (Ld, od) :: pileL Ns xp dxp odp vs n3 n2 ts ∧
      ts.map (fun t => t.2.1) = (readAll wd ((rowsOf o).take i)).pile.reverse ∧ StrsAre vs ((readAll wd ((rowsOf o).take i)).names.map fun a => ⟨a.toArray⟩) ∧ od.IsDictOf (PySem.strKind PySem.Challenge.pw_xo0007_01 w) kvs ∧ FlatPairs PyData.str kvs (kdpD (readAll wd ((rowsOf o).take i)).leads) ∧ (∀ t ∈ ts, t.1 ≠ Ns ∧ t.1 ≠ xp ∧ t.1 ≠ Ld ∧ t.1 ≠ h1.objs.size + 1)) ∧
      ∀ z : Str, z ≠ "row" → z ≠ "name" → z ≠ "lead" → m z = if z = "leads" then some (.ref Ld) else if z = "names" then some (.ref Ns) else if z = "pile" then some (.ref xp) else List.lookup z [(Str.ofString "outline", Value.str ⟨o.toArray⟩ to), (Str.ofString "width", .int (wd : Int) tw)].reverse) hh ⟨_, hRL, rfl, _, rfl⟩ ?_ F hNd ⟨⟨[], [], _, _, _, _, rfl, rfl, .nil, hsd, fsd, fun t ht => by cases ht⟩, fun _ _ _ _ => rfl⟩ ?_ ?_ ?_
  · exact (N _ (.head _)).2.1
  · rintro i m nx ⟨⟨ts, vs, n2, n3, od', kvs, rfl, hts, hvs, hd1, hf1, hoff⟩, hm⟩ q hq
    simp only [List.mem_cons] at hq
    rcases hq with rfl | rfl | rfl | rfl | hq
    · exact hlt (Ld, od) (.head _)
    · exact hlt (Ns, W.listOf #[] 0) (.tail _ (.head _))
    · exact hlt (xp, pileObj dxp #[] np) (.tail _ (.tail _ (.head _)))
    · exact hlt (dxp, odp) (.tail _ (.tail _ (.tail _ (.head _))))
    · obtain ⟨t, ht, rfl⟩ := List.mem_map.mp hq
      exact (hoff t ht).2.2.2
  · rintro i v m₁ nx h8 tk8 own hv hlo ho ⟨⟨ts, vs, n2, n3, od', kvs, rfl, hts, hvs, hd1, hf1, hoff⟩, hm⟩ F5 N5
    rw [map_three hm] at F5
    rw [List.cons_append, List.cons_append, List.cons_append, List.cons_append] at N5
    refine hideQ fun Q1 hQ1 => ?_
    obtain ⟨row, tr, rfl, hrow⟩ := hrows.item i v (by simpa using hv)
    have hrz1 : row.length ≤ 1000 := hrz row (List.mem_of_getElem? hrow)
    w_strict (repeat' ((fail_if_success (with_reducible show wpAny _ _ (exec (Stmt.For _ _ _ _ _) _) _ _ _)); (fail_if_success (with_reducible show wpAny _ _ (exec (Stmt.While _ _ _ _) _) _ _ _)); walk1))
    rename_i tn1 _ hlen1 _ _ _ F6 N6
    have hiN : i < (rowsOf o).length := (List.getElem?_eq_some_iff.mp hrow).1
    have hrl2 := readAll_len wd ((rowsOf o).take i)
    rw [List.length_take] at hrl2
    have hlts : ts.length + vs.length ≤ 100 := by
      have e1 := congrArg List.length hts
      have e2 := hvs.len_eq
      rw [List.length_map, List.length_reverse] at e1
      rw [List.length_map] at e2
      (clear el hRL hRL0 hdep hh hlen1 hrow hrz1 hts hv hw hz l1 l2 lod nep q1 q2 q3 q4; (first | lia | omega))
    have hlead : leadOf row = (row.length : Int) - ((Txt.lstripChars row (Str.ofString " ")).length : Int) := rfl
    have hlead0 : 0 ≤ leadOf row := by (clear el hRL hRL0 hdep hh hiN hlts hrl hrl2 hrow hrz1 hts hv hw hz l1 l2 lod nep q1 q2 q3 q4; (first | lia | omega))
    have hoL : ∀ q ∈ own, q.1 ≠ Ld := fun q hq => ho q hq Ld (.head _)
    have hoN : ∀ q ∈ own, q.1 ≠ Ns := fun q hq => ho q hq Ns (.tail _ (.head _))
    have hoX : ∀ q ∈ own, q.1 ≠ xp := fun q hq => ho q hq xp (.tail _ (.tail _ (.head _)))
    k_here
    k_dflt (refine' While_inv (n₀ := ts.length) (fun n m nx => m = _ ∧ ∃ (ts' : List PT) (vs' : List Value) (st' : List (List Nat) × List (List Nat)) (n2 n3 : Nat), nx = (Ld, od') :: (pileL Ns xp dxp odp vs' n3 n2 ts' ++ own) ∧ n = ts'.length ∧ (∃ r, ts = ts' ++ r) ∧ ts'.map (fun t => t.2.1) = st'.1.reverse ∧ StrsAre vs' (st'.2.map fun a => ⟨a.toArray⟩) ∧
       popW wd (leadOf row).toNat st'.1 st'.2 = popW wd (leadOf row).toNat (readAll wd ((rowsOf o).take i)).pile (readAll wd ((rowsOf o).take i)).names ∧ ts'.length + vs'.length = ts.length + vs.length) F6 N6 ⟨rfl, ts, vs, (_, _), _, _, rfl, rfl, ⟨[], (List.append_nil _).symm⟩, hts, hvs, rfl, rfl⟩ ?_ ?_)
    all_goals k_whole
    · rintro n m₂ nx h9 tk9 F7 N7 ⟨rfl, ts', vs', st', n4, n5, rfl, rfl, ⟨rr, hr⟩, hts', hvs', hpw, hll⟩
      have hoff' : ∀ t ∈ ts', t.1 ≠ Ns ∧ t.1 ≠ xp ∧ t.1 ≠ Ld ∧ t.1 ≠ h1.objs.size + 1 := fun t ht => hoff t (by rw [hr]; exact List.mem_append_left _ ht)
      w_strict (repeat' ((fail_if_success (with_reducible show wpAny _ _ (exec (Stmt.For _ _ _ _ _) _) _ _ _)); (fail_if_success (with_reducible show wpAny _ _ (exec (Stmt.While _ _ _ _) _) _ _ _)); walk1))
      · rename_i N8 hgt
        rw [List.size_toArray, ptRefs_len] at hgt
        obtain ⟨ts2, lt, rfl⟩ : ∃ ts2 lt, ts' = ts2 ++ [lt] := by
          have hne : ts' ≠ [] := by
            rintro rfl
            simp at hgt
            (clear el hRL hRL0 hdep hh hiN hlead0 hll hlts hpw hr hrl hrl2 hrow hrz1 hts hts' hv hw hz l1 l2 lod nep q1 q2 q3 q4; (first | lia | omega))
          exact ⟨ts'.dropLast, ts'.getLast hne, (List.dropLast_concat_getLast hne).symm⟩
        have N9 := pile_last (news_perm (b := (Ns, W.listOf vs'.toArray n5) :: (xp, pileObj dxp (ptRefs (ts2 ++ [lt])).toArray n4) :: (dxp, odp) :: ((ts2 ++ [lt]).map ptObj ++ ((Ld, od') :: own))) N8 (fun q hq => by
          simp only [List.mem_cons, List.mem_append, List.cons_append] at hq ⊢
          rcases hq with h | h | h | h | h | h
          · exact .inr (.inl h)
          · exact .inr (.inr (.inl h))
          · exact .inr (.inr (.inr (.inl h)))
          · exact .inr (.inr (.inr (.inr (.inl h))))
          · exact .inl h
          · exact .inr (.inr (.inr (.inr (.inr h))))))
        clear N8
        have hLtl : ∀ q ∈ ts2.map ptObj ++ ((Ld, od') :: own), q.1 ≠ xp ∧ q.1 ≠ Ns := fun q hq => by
          simp only [List.mem_append, List.mem_cons] at hq
          rcases hq with h | rfl | h
          · obtain ⟨t, ht, rfl⟩ := List.mem_map.mp h
            have := hoff' t (by simp [ht])
            exact ⟨this.2.1, this.1⟩
          · exact ⟨Nat.ne_of_gt l2.2.1, Nat.ne_of_gt l2.1⟩
          · exact ⟨hoX q h, hoN q h⟩
        k_here
        k_dflt (refine' pop_call ?pF ?pN X T ?pr ?pU ?pd ?pn ?po ?pz ?_)
        case pF => k_asm
        case pN => exact N9
        case pr => (walk_at "m_room")
        case pU => exact UpdF.tail (hoff' lt (by simp)).2.1 (UpdF.tail (Nat.ne_of_gt l1.1) (UpdF.head (List.forall_mem_cons.mpr ⟨nep, fun q hq => (hLtl q hq).1⟩)))
        case pd => k_mem
        case pn => assumption
        case po => exact q2
        case pz => rw [ptRefs_len]; simp at hll; (clear el hRL hRL0 hdep hgt hh hiN hlead hlead0 hlen1 hpw hr hrl hrl2 hrow hrz1 hts hts' hv hw hz l1 l2 lod nep q1 q2 q3 q4; (first | lia | omega))
        k_whole
        intro hp1 n6 kp1 Fp1 Np1
        w_strict (repeat' ((fail_if_success (with_reducible show wpAny _ _ (exec (Stmt.For _ _ _ _ _) _) _ _ _)); (fail_if_success (with_reducible show wpAny _ _ (exec (Stmt.While _ _ _ _) _) _ _ _)); walk1))
        k_here
        k_dflt (refine' append_K ?aF ?aN ?aU ?_ ?az)
        case aF => k_asm
        case aN => exact Np1
        case aU => exact Upd.tail (hoff' lt (by simp)).1 (Upd.head (List.forall_mem_cons.mpr ⟨Nat.ne_of_lt l1.1, List.forall_mem_cons.mpr ⟨Nat.ne_of_lt l1.2, fun q hq => (hLtl q hq).2⟩⟩))
        case az => rw [List.size_toArray]; have := sizeLine_eq; (clear el hRL hRL0 hdep hgt hh hiN hlead hlead0 hlen1 hpw hr hrl hrl2 hrow hrz1 hts hts' hv hw hz l1 l2 lod nep q1 q2 q3 q4; (first | lia | omega))
        k_whole
        intro hp2 Fp2 Np2
        w_strict (repeat' ((fail_if_success (with_reducible show wpAny _ _ (exec (Stmt.For _ _ _ _ _) _) _ _ _)); (fail_if_success (with_reducible show wpAny _ _ (exec (Stmt.While _ _ _ _) _) _ _ _)); walk1))
        rw [List.push_toArray] at Np2
        rw [List.map_append, List.map_singleton] at hts'
        have hst : st'.1 = lt.2.1 :: (ts2.map (fun t => t.2.1)).reverse := by
          have := congrArg List.reverse hts'
          rw [List.reverse_reverse, List.reverse_append] at this
          exact this.symm
        refine WhileStep.intro (n' := ts2.length) Fp2 (news_perm (b := (Ld, od') :: (pileL Ns xp dxp odp (vs' ++ [.str ⟨lt.2.1.toArray⟩ lt.2.2.2.2]) (n5 + 1) n6 ts2 ++ own)) Np2 fun q hq => ?_) (by simp) ⟨rfl, ts2, _, ((ts2.map (fun t => t.2.1)).reverse, st'.2 ++ [lt.2.1]), _, _, rfl, rfl, ⟨lt :: rr, by rw [hr, List.append_assoc]; rfl⟩, (List.reverse_reverse _).symm, ?_, ?_, ?_⟩
        · simp only [List.mem_cons, List.mem_append, List.cons_append] at hq ⊢
          rcases hq with h | h | h | h | h | h
          · exact .inr (.inr (.inr (.inr (.inr (.inl h)))))
          · exact .inr (.inl h)
          · exact .inr (.inr (.inl h))
          · exact .inr (.inr (.inr (.inl h)))
          · exact .inr (.inr (.inr (.inr (.inl h))))
          · exact .inr (.inr (.inr (.inr (.inr (.inr h)))))
        · dsimp only
          rw [List.map_append]
          exact strs_snoc hvs' _ _
        · rw [← hpw, hst]
          have hgt' : ((ts2.map (fun t => t.2.1)).reverse.length + 1) * wd > (leadOf row).toNat := by
            rw [List.length_reverse, List.length_map]
            rw [List.length_append, List.length_singleton] at hgt
            have : ((ts2.length + 1 : Nat) : Int) * (wd : Int) = (((ts2.length + 1) * wd : Nat) : Int) := by rw [Int.natCast_mul]
            (clear el hRL hRL0 hdep hh hiN hlead0 hll hlts hpw hr hrl hrl2 hrow hrz1 hst hts hts' hv hw hz l1 l2 lod nep q1 q2 q3 q4 this; (first | lia | omega))
          exact (if_pos hgt').symm
        · simp at hll ⊢
          (clear el hRL hRL0 hdep hgt hh hiN hlead hlead0 hlen1 hlts hpw hr hrl hrl2 hrow hrz1 hst hts hts' hv hw hz l1 l2 lod nep q1 q2 q3 q4; (first | lia | omega))
      · rename_i hgt h10 t10 k10 F8 N8 hsl
        have hpop : popW wd (leadOf row).toNat st'.1 st'.2 = st' := by
          refine popW_stop ?_
          have e1 := congrArg List.length hts'
          rw [List.length_map, List.length_reverse] at e1
          rw [List.size_toArray, ptRefs_len, e1] at hgt
          have : ((st'.1.length : Nat) : Int) * (wd : Int) = ((st'.1.length * wd : Nat) : Int) := by rw [Int.natCast_mul]
          (clear e1 el hRL hRL0 hdep hh hiN hlead0 hll hlts hpw hr hrl hrl2 hrow hrz1 hsl hts hts' hv hw hz l1 l2 lod nep q1 q2 q3 q4 this; (first | lia | omega))
        have hst : readAll wd ((rowsOf o).take (i + 1)) = ⟨(nameOf row).cps.toList :: st'.1, st'.2, kdpPut (readAll wd ((rowsOf o).take i)).leads (nameOf row) (leadOf row)⟩ := by
          rw [List.take_add_one, hrow]
          show readAll wd (_ ++ [row]) = _
          rw [readAll_snoc]
          unfold readStep
          rw [← hpw, hpop]
        k_here
        k_dflt (refine' push_call ?pF ?pN X T ?pr ?pU ?pd ?pn ?po ?pz ?_)
        case pF => k_asm
        case pN => exact news_perm (b := (Ld, od') :: (Ns, W.listOf vs'.toArray n5) :: (xp, pileObj dxp (ptRefs ts').toArray n4) :: (dxp, odp) :: (ts'.map ptObj ++ own)) N8 fun q hq => hq
        case pr => (walk_at "m_room")
        case pU => exact UpdF.tail (Nat.ne_of_gt l2.2.1) (UpdF.tail (Nat.ne_of_gt l1.1) (UpdF.head (List.forall_mem_cons.mpr ⟨nep, pt_off (Ns := Ns) (xp := xp) (fun t ht => (hoff' t ht).2.1) hoX⟩)))
        case pd => k_mem
        case pn => assumption
        case po => exact q1
        case pz => rw [List.size_toArray, ptRefs_len]; (clear el hRL hRL0 hdep hgt hh hiN hlead hlead0 hlen1 hpop hpw hr hrl hrl2 hrow hrz1 hsl hst hts hts' hv hw hz l1 l2 lod nep q1 q2 q3 q4; (first | lia | omega))
        k_whole
        intro hp1 t1 kp1 Fp1 Np1 np1
        w_strict (repeat' ((fail_if_success (with_reducible show wpAny _ _ (exec (Stmt.For _ _ _ _ _) _) _ _ _)); (fail_if_success (with_reducible show wpAny _ _ (exec (Stmt.While _ _ _ _) _) _ _ _)); walk1))
        have hn := news_ne N8 np1
        have hn2 : ∀ q ∈ own, q.1 ≠ t1 := fun q hq => hn q (.tail _ (List.mem_append_right _ hq))
        k_here
        k_dflt (refine' kdp_setItem (d := Ld) (c := (readAll wd ((rowsOf o).take i)).leads) ?sF ?sN ?sU hd1 hf1 ?sz ?_)
        case sF => k_asm
        case sN => exact Np1
        case sU => exact UpdF.tail (fun e => hn (Ld, od') (.head _) e.symm) (UpdF.head (List.forall_mem_cons.mpr ⟨Nat.ne_of_lt l2.1, List.forall_mem_cons.mpr ⟨Nat.ne_of_lt l2.2.1, List.forall_mem_cons.mpr ⟨Nat.ne_of_lt l2.2.2, pt_off (Ns := Ns) (xp := xp) (fun t ht => (hoff' t ht).2.2.1) hoL⟩⟩⟩))
        case sz => (clear el hRL hRL0 hdep hgt hh hlead hlead0 hlen1 hll hlts hpop hpw hr hrow hrz1 hsl hst hts hts' hv hw hz l1 l2 lod nep np1 q1 q2 q3 q4; (first | lia | omega))
        k_whole
        intro h11 od2 kvs2 F11 N11 hd2 hf2
        w_strict (repeat' ((fail_if_success (with_reducible show wpAny _ _ (exec (Stmt.For _ _ _ _ _) _) _ _ _)); (fail_if_success (with_reducible show wpAny _ _ (exec (Stmt.While _ _ _ _) _) _ _ _)); walk1))
        refine hQ1 _ _ ?_
        refine ⟨h11, _, _, _, (Ld, od2) :: pileL Ns xp dxp odp vs' n5 (n4 + 1) (ts' ++ [((t1, (nameOf row).cps.toList, Txt.slice row none (some (leadOf row)), t10, tn1) : PT)]), rfl, F11, N11, pile_push_memL, fun q hq => by simp [hq], ?_, ⟨⟨_, _, _, _, _, _, rfl, ?_, ?_, hd2, ?_, ?_⟩, ?_⟩⟩
        · intro q hq
          rcases List.mem_cons.mp hq with rfl | hq
          · exact .inl (.head _)
          · rcases pile_addr (vs := vs) (n3 := n3) (n2 := n2) hn2 q hq with h | h
            · refine .inl ?_
              rw [hr]
              simp only [List.map_cons, List.map_append, List.mem_cons, List.mem_append] at h ⊢
              rcases h with h | h | h | h
              · exact .inr (.inl h)
              · exact .inr (.inr (.inl h))
              · exact .inr (.inr (.inr (.inl h)))
              · exact .inr (.inr (.inr (.inr (.inl h))))
            · exact .inr h
        · rw [List.map_append, hts', hst, List.reverse_cons]; rfl
        · rw [hst]; exact hvs'
        · rw [hst]; exact hf2
        · intro t ht
          rcases List.mem_append.mp ht with ht | ht
          · exact hoff' t ht
          · rw [List.mem_singleton.mp ht]
            obtain ⟨olr, hlr⟩ := hlo hRL0
            exact ⟨fun e => hn _ (.tail _ (.head _)) e.symm, fun e => hn _ (.tail _ (.tail _ (.head _))) e.symm, fun e => hn _ (.head _) e.symm, fun e => hn2 _ hlr e.symm⟩
        · intro z z1 z2 z3
          dsimp only
          rw [if_neg z3, if_neg z2, if_neg z1, if_neg z2, if_neg z3]
    · passes_own
  · rintro m₁ nx h8 tk8 ⟨⟨ts, vs, n2, n3, od', kvs, rfl, hts, hvs, hd1, hf1, hoff⟩, hm⟩ F5 N5
    rw [← done_three hm] at F5
    have hsz : (strValues l.dropLast).toArray.size = (rowsOf o).length := by rw [List.size_toArray]; exact hrows.len_eq
    rw [hsz, List.take_length] at hts hvs hf1
    have hrl2 := readAll_len wd (rowsOf o)
    have hlts : ts.length + vs.length ≤ 100 := by
      have e1 := congrArg List.length hts
      have e2 := hvs.len_eq
      rw [List.length_map, List.length_reverse] at e1
      rw [List.length_map] at e2
      (clear el hRL hRL0 hdep hh hts hw hz l1 l2 lod nep q1 q2 q3 q4; (first | lia | omega))
    w_strict (repeat' ((fail_if_success (with_reducible show wpAny _ _ (exec (Stmt.For _ _ _ _ _) _) _ _ _)); (fail_if_success (with_reducible show wpAny _ _ (exec (Stmt.While _ _ _ _) _) _ _ _)); walk1))
    k_here
    k_dflt (refine' While_inv (n₀ := ts.length) (fun n m nx => m = _ ∧ ∃ (ts' : List PT) (vs' : List Value) (st' : List (List Nat) × List (List Nat)) (n2 n3 : Nat), nx = (Ld, od') :: (pileL Ns xp dxp odp vs' n3 n2 ts') ∧ n = ts'.length ∧ (∃ r, ts = ts' ++ r) ∧ ts'.map (fun t => t.2.1) = st'.1.reverse ∧ StrsAre vs' (st'.2.map fun a => ⟨a.toArray⟩) ∧
       st'.2 ++ st'.1 = readNames wd (rowsOf o) ∧ ts'.length + vs'.length = ts.length + vs.length) F5 N5 ⟨rfl, ts, vs, (_, _), _, _, rfl, rfl, ⟨[], (List.append_nil _).symm⟩, hts, hvs, rfl, rfl⟩ ?_ ?_)
    all_goals k_whole
    · rintro n m₂ nx h9 tk9 F7 N7 ⟨rfl, ts', vs', st', n4, n5, rfl, rfl, ⟨rr, hr⟩, hts', hvs', hpw, hll⟩
      have hoff' : ∀ t ∈ ts', t.1 ≠ Ns ∧ t.1 ≠ xp ∧ t.1 ≠ Ld ∧ t.1 ≠ h1.objs.size + 1 := fun t ht => hoff t (by rw [hr]; exact List.mem_append_left _ ht)
      w_strict (repeat' ((fail_if_success (with_reducible show wpAny _ _ (exec (Stmt.For _ _ _ _ _) _) _ _ _)); (fail_if_success (with_reducible show wpAny _ _ (exec (Stmt.While _ _ _ _) _) _ _ _)); walk1))
      · rename_i N8 hgt
        rw [List.size_toArray, ptRefs_len] at hgt
        obtain ⟨ts2, lt, rfl⟩ : ∃ ts2 lt, ts' = ts2 ++ [lt] := by
          have hne : ts' ≠ [] := by
            rintro rfl
            simp at hgt
          exact ⟨ts'.dropLast, ts'.getLast hne, (List.dropLast_concat_getLast hne).symm⟩
        have N9 := pile_last (news_perm (b := (Ns, W.listOf vs'.toArray n5) :: (xp, pileObj dxp (ptRefs (ts2 ++ [lt])).toArray n4) :: (dxp, odp) :: ((ts2 ++ [lt]).map ptObj ++ [(Ld, od')])) N8 (fun q hq => by
          simp only [List.mem_cons, List.mem_append, List.cons_append, List.mem_nil_iff, or_false] at hq ⊢
          rcases hq with h | h | h | h | h
          · exact .inr (.inl h)
          · exact .inr (.inr (.inl h))
          · exact .inr (.inr (.inr (.inl h)))
          · exact .inr (.inr (.inr (.inr h)))
          · exact .inl h))
        clear N8
        have hLtl : ∀ q ∈ ts2.map ptObj ++ [(Ld, od')], q.1 ≠ xp ∧ q.1 ≠ Ns := fun q hq => by
          simp only [List.mem_append, List.mem_cons, List.mem_nil_iff, or_false] at hq
          rcases hq with h | rfl
          · obtain ⟨t, ht, rfl⟩ := List.mem_map.mp h
            have := hoff' t (by simp [ht])
            exact ⟨this.2.1, this.1⟩
          · exact ⟨Nat.ne_of_gt l2.2.1, Nat.ne_of_gt l2.1⟩
        k_here
        k_dflt (refine' pop_call ?pF ?pN X T ?pr ?pU ?pd ?pn ?po ?pz ?_)
        case pF => k_asm
        case pN => exact N9
        case pr => (walk_at "m_room")
        case pU => exact UpdF.tail (hoff' lt (by simp)).2.1 (UpdF.tail (Nat.ne_of_gt l1.1) (UpdF.head (List.forall_mem_cons.mpr ⟨nep, fun q hq => (hLtl q hq).1⟩)))
        case pd => k_mem
        case pn => assumption
        case po => exact q2
        case pz => rw [ptRefs_len]; simp at hll; (clear el hRL hRL0 hdep hgt hh hpw hr hrl hrl2 hsz hts hts' hw hz l1 l2 lod nep q1 q2 q3 q4; (first | lia | omega))
        k_whole
        intro hp1 n6 kp1 Fp1 Np1
        w_strict (repeat' ((fail_if_success (with_reducible show wpAny _ _ (exec (Stmt.For _ _ _ _ _) _) _ _ _)); (fail_if_success (with_reducible show wpAny _ _ (exec (Stmt.While _ _ _ _) _) _ _ _)); walk1))
        k_here
        k_dflt (refine' append_K ?aF ?aN ?aU ?_ ?az)
        case aF => k_asm
        case aN => exact Np1
        case aU => exact Upd.tail (hoff' lt (by simp)).1 (Upd.head (List.forall_mem_cons.mpr ⟨Nat.ne_of_lt l1.1, List.forall_mem_cons.mpr ⟨Nat.ne_of_lt l1.2, fun q hq => (hLtl q hq).2⟩⟩))
        case az => rw [List.size_toArray]; have := sizeLine_eq; (clear el hRL hRL0 hdep hh hpw hr hrl hrl2 hsz hts hts' hw hz l1 l2 lod nep q1 q2 q3 q4; (first | lia | omega))
        k_whole
        intro hp2 Fp2 Np2
        w_strict (repeat' ((fail_if_success (with_reducible show wpAny _ _ (exec (Stmt.For _ _ _ _ _) _) _ _ _)); (fail_if_success (with_reducible show wpAny _ _ (exec (Stmt.While _ _ _ _) _) _ _ _)); walk1))
        rw [List.push_toArray] at Np2
        rw [List.map_append, List.map_singleton] at hts'
        have hst : st'.1 = lt.2.1 :: (ts2.map (fun t => t.2.1)).reverse := by
          have := congrArg List.reverse hts'
          rw [List.reverse_reverse, List.reverse_append] at this
          exact this.symm
        refine WhileStep.intro (n' := ts2.length) Fp2 (news_perm (b := (Ld, od') :: (pileL Ns xp dxp odp (vs' ++ [.str ⟨lt.2.1.toArray⟩ lt.2.2.2.2]) (n5 + 1) n6 ts2)) Np2 fun q hq => ?_) (by simp) ⟨rfl, ts2, _, ((ts2.map (fun t => t.2.1)).reverse, st'.2 ++ [lt.2.1]), _, _, rfl, rfl, ⟨lt :: rr, by rw [hr, List.append_assoc]; rfl⟩, (List.reverse_reverse _).symm, ?_, ?_, ?_⟩
        · simp only [List.mem_cons, List.mem_append, List.mem_nil_iff, or_false] at hq ⊢
          rcases hq with h | h | h | h | h
          · exact .inr (.inr (.inr (.inr (.inr h))))
          · exact .inr (.inl h)
          · exact .inr (.inr (.inl h))
          · exact .inr (.inr (.inr (.inl h)))
          · exact .inr (.inr (.inr (.inr (.inl h))))
        · dsimp only
          rw [List.map_append]
          exact strs_snoc hvs' _ _
        · rw [← hpw, hst]
          simp
        · simp at hll ⊢
          (clear el hRL hRL0 hdep hgt hh hlts hpw hr hrl hrl2 hst hsz hts hts' hw hz l1 l2 lod nep q1 q2 q3 q4; (first | lia | omega))
      · rename_i hz0 R hR FR NR hlR
        have hts0 : ts' = [] := by
          rw [List.size_toArray, ptRefs_len] at hz0
          exact List.length_eq_zero_iff.mp (by (clear el hRL hRL0 hdep hh hlR hll hlts hpw hr hrl hrl2 hsz hts hts' hw hz l1 l2 lod nep q1 q2 q3 q4; (first | lia | omega)))
        subst hts0
        have hst0 : st'.1 = [] := by
          have := congrArg List.reverse hts'
          rw [List.reverse_reverse] at this
          exact this.symm
        rw [hst0, List.append_nil] at hpw
        rw [hpw] at hvs'
        exact h _ R Ns Ld vs' n5 od' kvs _ (Fr.keep FR) (News.fresh NR (.head _)) (News.fresh NR (.tail _ (.tail _ (.head _)))) (News.fresh NR (.tail _ (.head _))) (NR.get (.head _)) (NR.get (.tail _ (.tail _ (.head _)))) (NR.get (.tail _ (.head _))) hvs' hd1 hf1 (Nat.ne_of_lt l2.1)
    · passes_own
end Mine
end
section -- YCell
open PySem PySem.W PySem.Calls PyProof.Rows PyProof.V PySem.Spec
set_option maxRecDepth 100000
set_option maxHeartbeats 1000000
namespace Mine
theorem off_YCell : True := by w_top off; trivial
section
variable {prog : Program} {w : World} {A : Around} {E : Value → Shared → Prop} {s : Shared} {env : Env} {h₀ : Heap} {x : Str} {px pos : Pos} {iter : PySem.Expr} {body : List Stmt} {Q : Flow → Shared → Prop}
noncomputable def CellEnd (h₀ : Heap) (L c I : Addr) (oI : Obj) (Jn : (Str → Option Value) → List (Addr × Obj) → Prop) (s : Shared) (Q : Flow → Shared → Prop) (f : Flow) (s₂ : Shared) : Prop :=
  match f with
  | .ret v => Q (.ret v) s₂
  | .brk => Q .next s₂
  | _ => ∃ h' tk' m' news' nx' oc' v', s₂ = { s with heap := h', toks := tk' } ∧ Fr h₀ L h' m' ∧ News h₀ L h' news' ∧ (c, oc') ∈ news' ∧ oc'.data = .cell v' ∧ (I, oI) ∈ news' ∧ (∀ p ∈ nx', p ∈ news') ∧ (∀ p ∈ nx', p.1 ≠ I) ∧ Jn m' nx'
theorem loop_cell {I c : Addr} {a : Int} {n : Nat} {oc : Obj} {v₀ : Option Value} {m₀ : Str → Option Value} {news : List (Addr × Obj)} (J : Nat → (Str → Option Value) → List (Addr × Obj) → Prop)
    (hh : A.handled = none) (hk : env.scope.kind = .function) (hx : env.kindOf x = some .cell) (hc : env.cells.lookup x = some c)
    (hI : IsRangeIter s.heap I (a + ((0 : Nat) : Int) * 1) ((n : Int) - ((0 : Nat) : Int)) 1) (hI0 : h₀.get? I = none) (hIL : env.locals ≠ I) (F : Fr h₀ env.locals s.heap m₀) (N : News h₀ env.locals s.heap ((c, oc) :: news)) (hoc : oc.data = .cell v₀)
    (hcI : c ≠ I) (hnI : ∀ p ∈ news, p.1 ≠ I) (hj : J 0 m₀ news) (hne : ∀ i m nx, J i m nx → ∀ p ∈ nx, p.1 ≠ c)
    (turn : ∀ i t m₁ nx oc oI h tk, i < n → J i m₁ nx → oc.data = .cell (some (.int (a + (i : Int)) t)) → (∀ p ∈ nx, p.1 ≠ I) → c ≠ I → Fr h₀ env.locals h m₁ → News h₀ env.locals h ((c, oc) :: (nx ++ [(I, oI)])) →
      wpAny (model prog w) A (execs body env) (CellEnd h₀ env.locals c I oI (J (i + 1)) s Q) E { s with heap := h, toks := tk })
    (done : ∀ m₁ nx oc h tk, J n m₁ nx → Fr h₀ env.locals h m₁ → News h₀ env.locals h ((c, oc) :: nx) → Q .next { s with heap := h, toks := tk })
    (hE : PassesOwn (model prog w) A env E) :
    codeAny (model prog w) A (.forLoop (.Name x px) (.ref I) body [] env) (fun r s' => match r with | .ok f => Q f s' | .error e => cameBackBy (model prog w) A env E e s') s := by
  have W := LCg.range_walks (prog := prog) (w := w) (I := I) hh a n
  refine codeAny_forLoop
    (fun k s' => ∃ h' tk m' nx oc v₀ i, s' = { s with heap := h', toks := tk } ∧ IsRangeIter h' I (a + (i : Nat) * 1) ((n : Int) - (i : Nat)) 1 ∧ Fr h₀ env.locals h' m' ∧ News h₀ env.locals h' ((c, oc) :: nx) ∧ oc.data = .cell v₀ ∧ (∀ p ∈ nx, p.1 ≠ I) ∧ J i m' nx ∧ i ≤ n ∧ k = n + 1 - i) ?_ (n + 1)
    ⟨s.heap, s.toks, m₀, news, oc, v₀, 0, rfl, hI, F, N, hoc, hnI, hj, Nat.zero_le _, rfl⟩
  rintro k s' ⟨h', tk, m', nx, oc, v₀, i, rfl, hst', F', N', hoc', hnI', hJ, hi, rfl⟩
  have next : ∀ h₁ : Heap, (∀ b o, b ∉ [I] → h'.get? b = some o → h₁.get? b = some o) → Fr h₀ env.locals h₁ m' ∧ News h₀ env.locals h₁ ((c, oc) :: nx) := fun h₁ hk₁ =>
    ⟨LCg.fr_but F' hk₁ hIL hI0, LCg.news_but N' hk₁ fun p hp => by
      rcases List.mem_cons.mp hp with rfl | hp
      · exact hcI
      · exact hnI' p hp⟩
  by_cases hlt : i < n
  · refine W.item i _ _ _ hlt hst' fun v h₁ tk₁ hP hst₁ hk₁ => ?_
    obtain ⟨t, rfl⟩ := hP
    obtain ⟨F₁, N₁⟩ := next h₁ hk₁
    have zc := N₁ (c, oc) (.head _)
    refine wpAny_assign_Name (wpAny_storeName_cell hk hx hc ⟨oc, zc.1, hoc'⟩ fun h₂ hv hs => ?_)
    obtain ⟨oc2, ho2, hd2⟩ := hv
    have F₂ : Fr h₀ env.locals h₂ m' := F₁.change hs zc.2.1 zc.2.2
    obtain ⟨oI, hrI⟩ : ∃ oI, h₁.get? I = some oI := ⟨_, hst₁⟩
    have hrI2 : h₂.get? I = some oI := (hs.2 I (Ne.symm hcI)).trans hrI
    have N₂ : ∀ p ∈ nx, h₂.get? p.1 = some p.2 := fun p hp => (hs.2 p.1 (hne i m' nx hJ p hp)).trans (N₁ p (.tail _ hp)).1
    refine wpAny_mono (wpAny_passesOwn hE (turn i t m' nx oc2 oI h₂ tk₁ hlt hJ hd2 hnI' hcI F₂ (fun p hp => ?_))) (fun f s₃ h₃ => ?_) fun _ _ e => e
    · rcases List.mem_cons.mp hp with rfl | hp
      · exact ⟨ho2, zc.2⟩
      · rcases List.mem_append.mp hp with hp | hp
        · exact ⟨N₂ p hp, (N₁ p (.tail _ hp)).2⟩
        · rw [List.mem_singleton.mp hp]
          exact ⟨hrI2, Ne.symm hIL, hI0⟩
    · have fin : CellEnd h₀ env.locals c I oI (J (i + 1)) s Q .next s₃ → ∃ m, m < n + 1 - i ∧ (fun k s' => ∃ h' tk m' nx oc v₀ i, s' = { s with heap := h', toks := tk } ∧ IsRangeIter h' I (a + (i : Nat) * 1) ((n : Int) - (i : Nat)) 1 ∧ Fr h₀ env.locals h' m' ∧ News h₀ env.locals h' ((c, oc) :: nx) ∧ oc.data = .cell v₀ ∧ (∀ p ∈ nx, p.1 ≠ I) ∧ J i m' nx ∧ i ≤ n ∧ k = n + 1 - i) m s₃ := by
        rintro ⟨h₃', tk₃, m₂, news', nx', oc3, v3, rfl, F₃, N₃, hc3, hd3, hI3, hnx3, hnI3, hJ3⟩
        refine ⟨n + 1 - (i + 1), by (clear hI0 hIL hc hcI hd2 hd3 hh hi hk ho2 hoc hoc' hrI hrI2 hx zc; (first | lia | omega)), h₃', tk₃, m₂, nx', oc3, v3, i + 1, rfl, ?_, F₃, fun p hp => ?_, hd3, hnI3, hJ3, hlt, rfl⟩
        · show h₃'.get? I = some _
          rw [(N₃ _ hI3).1, ← hrI]; exact hst₁
        rcases List.mem_cons.mp hp with rfl | hp
        · exact N₃ _ hc3
        · exact N₃ p (hnx3 p hp)
      cases f with
      | ret v => exact h₃
      | brk => exact h₃
      | cont => exact fin h₃
      | next => exact fin h₃
  · have hin : i = n := by (clear hI0 hIL hc hcI hh hk hoc hoc' hx; (first | lia | omega))
    subst hin
    refine W.done _ _ _ hst' fun h₁ tk₁ hk₁ => wpAny_execs_nil ?_
    obtain ⟨F₁, N₁⟩ := next h₁ hk₁
    exact done m' nx oc h₁ tk₁ hJ F₁ N₁
theorem For_cell (h : wpAny (model prog w) A (eval iter env) (fun xv s₁ => wpAny (model prog w) A (pyIter xv) (fun it s₂ => codeAny (model prog w) A (.forLoop (.Name x px) it body [] env) (fun r s' => match r with | .ok f => Q f s' | .error e => cameBackBy (model prog w) A env E e s') s₂) E s₁) E s)
    (hs : ∀ x, foldedSetIterable iter env x = pure x := by intro _; rfl) :
    wpAny (model prog w) A (exec (.For (.Name x px) iter body [] pos) env) Q E s :=
  wpAny_For h hs
theorem iter_rangeC {r c : Addr} {a₀ b₀ : Int} {t₀ u₀ v₀ : Tok} {n : Nat} {oc : Obj} {vc : Option Value} {m₀ : Str → Option Value} {news : List (Addr × Obj)} (J : Nat → (Str → Option Value) → List (Addr × Obj) → Prop)
    (hh : A.handled = none) (hk : env.scope.kind = .function) (hx : env.kindOf x = some .cell) (hc : env.cells.lookup x = some c)
    (hr : IsRange s.heap r a₀ b₀ 1 t₀ u₀ v₀) (hsmall : Builtin.Range.small a₀ b₀ 1 = true) (hn : Builtin.Range.rangeSize a₀ b₀ 1 = (n : Int)) (F : Fr h₀ env.locals s.heap m₀) (N : News h₀ env.locals s.heap ((c, oc) :: news)) (hoc : oc.data = .cell vc)
    (hj : J 0 m₀ news) (hne : ∀ i m nx, J i m nx → ∀ p ∈ nx, p.1 ≠ c)
    (turn : ∀ I i t m₁ nx oc oI h tk, i < n → J i m₁ nx → oc.data = .cell (some (.int (a₀ + (i : Int)) t)) → (∀ p ∈ nx, p.1 ≠ I) → c ≠ I → Fr h₀ env.locals h m₁ → News h₀ env.locals h ((c, oc) :: (nx ++ [(I, oI)])) →
      wpAny (model prog w) A (execs body env) (CellEnd h₀ env.locals c I oI (J (i + 1)) s Q) E { s with heap := h, toks := tk })
    (done : ∀ m₁ nx oc h tk, J n m₁ nx → Fr h₀ env.locals h m₁ → News h₀ env.locals h ((c, oc) :: nx) → Q .next { s with heap := h, toks := tk })
    (hE : PassesOwn (model prog w) A env E) :
    wpAny (model prog w) A (pyIter (.ref r)) (fun it s₂ => codeAny (model prog w) A (.forLoop (.Name x px) it body [] env) (fun r s' => match r with | .ok f => Q f s' | .error e => cameBackBy (model prog w) A env E e s') s₂) E s := by
  refine wpAny_pyIter_range hr hsmall ?_
  refine loop_cell (I := s.heap.objs.size) (a := a₀) (n := n) (oc := oc) (v₀ := vc) J hh hk hx hc (by show IsRangeIter _ _ _ _ _; rw [hn]; simpa using Heap.get?_push_size _ rfl) (next_is_new F) (Nat.ne_of_lt F.ns.lt) (F.push _) (fun p hp => ⟨Heap.get?_push_of_some _ (N p hp).1, (N p hp).2⟩) hoc
    (Nat.ne_of_lt (Heap.lt_size (N _ (.head _)).1)) (fun p hp => Nat.ne_of_lt (Heap.lt_size (N p (.tail _ hp)).1)) hj hne (fun i t m₁ nx oc oI h tk => turn _ i t m₁ nx oc oI h tk) done hE
end
end Mine
end
section -- YComp
open PySem PySem.W PySem.Calls PyProof.Rows PyProof.V PySem.Spec
set_option maxRecDepth 100000
set_option maxHeartbeats 1000000
namespace Mine
theorem off_YComp : True := by w_top off; trivial
section
variable {prog : Program} {w : World} {A : Around} {E : Value → Shared → Prop} {s : Shared} {h₀ : Heap} {L : Addr} {m : Str → Option Value} {env : Env}
theorem ints_snoc' {us : List Value} {ms : List Int} (h : IntsAre us ms) (x : Int) (t : Tok) : IntsAre (us ++ [.int x t]) (ms ++ [x]) := by
  induction h with
  | nil => exact .cons _ _ .nil
  | cons n t' _ ih => exact .cons _ _ ih
theorem comp_aux {ct : PySem.Expr} {x : Str} {px : Pos} {scope : Scope} {cl : List (Str × Addr)} {a : Int} {n : Nat} {Fin : List Value → List (Addr × Obj) → Prop} {news : List (Addr × Obj)} (p : Nat → Bool)
    (hx : scope.names.lookup x = some .local) (hkind : scope.kind = .function) (hb : (x == ("__debug__" : Str)) = false)
    (turn : ∀ i t ys I oI C oC D m₂ h tk (E' : Value → Shared → Prop), i < n → LCg.NsObj oC m₂ → m₂ x = some (.int (a + (i : Int)) t) → Fr h₀ L h m → News h₀ L h ((I, oI) :: (C, oC) :: (D, LCg.lst ys) :: news) → LCg.Off3 I C D news → ((@Ne Nat I C) ∧ (@Ne Nat I D) ∧ (@Ne Nat C D)) →
      wpAny (model prog w) A (isTrue ct (compEnvC scope cl C env) (eval ct (compEnvC scope cl C env))) (fun ok s' => ok = p i ∧ ∃ h' tk', s' = { s with heap := h', toks := tk' } ∧ Fr h₀ L h' m ∧ News h₀ L h' ((I, oI) :: (C, oC) :: (D, LCg.lst ys) :: news)) E' { s with heap := h, toks := tk })
    (fin : ∀ ys, IntsAre ys (((List.range n).filter p).map fun (i : Nat) => a + (i : Int)) → Fin ys news) :
    ∀ (k i : Nat) (ys : List Value), i + k = n → IntsAre ys (((List.range i).filter p).map fun (i : Nat) => a + (i : Int)) →
    LCt.CompRestT prog w A h₀ L m env ct (.Name x px) x scope cl s (fun _ => True) (fun i v => ∃ t, v = .int (a + (i : Int)) t) Fin k i ys news := by
  intro k
  induction k with
  | zero =>
    intro i ys hik hi
    refine LCt.CompRestT.zero ?_
    have : i = n := by (clear hb hkind hx; (first | lia | omega))
    subst this
    exact fin ys hi
  | succ k ih =>
    intro i ys hik hi
    refine LCt.CompRestT.succ ?_
    intro v I oI C oC D m₂ h tk E' hP hC hm F N off ne
    obtain ⟨t, rfl⟩ := hP
    refine wpAny_mono (turn i t ys I oI C oC D m₂ h tk E' (by (clear hb hkind hm hx ne; (first | lia | omega))) hC hm F N off ne) (fun ok s' hok => ?_) fun _ _ e => e
    obtain ⟨rfl, h', tk', rfl, F', N'⟩ := hok
    have er : (List.range (i + 1)).filter p = (List.range i).filter p ++ (if p i then [i] else []) := by
      rw [List.range_succ, List.filter_append]
      cases hp : p i <;> simp [hp]
    cases hp : p i with
    | true =>
      simp only [if_true]
      have hns := hC.ns (N' (C, oC) (.tail _ (.head _))).1
      refine wpAny_Name (wpAny_loadName_local hkind (lookup_relabel_local hx) hns hm ?_) hb
      refine ⟨h', tk', news, rfl, F', N', off, trivial, ih (i + 1) (ys ++ [.int (a + (i : Int)) t]) (by (clear er hb hkind hm hp hx ne; (first | lia | omega))) ?_⟩
      rw [er, hp, if_pos rfl, List.map_append]
      exact ints_snoc' hi _ _
    | false =>
      simp only [Bool.false_eq_true, if_false]
      refine ⟨h', tk', news, rfl, F', N', off, trivial, ih (i + 1) ys (by (clear er hb hkind hm hp hx ne; (first | lia | omega))) ?_⟩
      rw [er, hp, if_neg (by simp), List.append_nil]
      exact hi
theorem comp_ints {ct : PySem.Expr} {x : Str} {px : Pos} {scope : Scope} {cl : List (Str × Addr)} {a : Int} {n : Nat} {Fin : List Value → List (Addr × Obj) → Prop} {news : List (Addr × Obj)} (p : Nat → Bool)
    (hx : scope.names.lookup x = some .local) (hkind : scope.kind = .function) (hb : (x == ("__debug__" : Str)) = false)
    (turn : ∀ i t ys I oI C oC D m₂ h tk (E' : Value → Shared → Prop), i < n → LCg.NsObj oC m₂ → m₂ x = some (.int (a + (i : Int)) t) → Fr h₀ L h m → News h₀ L h ((I, oI) :: (C, oC) :: (D, LCg.lst ys) :: news) → LCg.Off3 I C D news → ((@Ne Nat I C) ∧ (@Ne Nat I D) ∧ (@Ne Nat C D)) →
      wpAny (model prog w) A (isTrue ct (compEnvC scope cl C env) (eval ct (compEnvC scope cl C env))) (fun ok s' => ok = p i ∧ ∃ h' tk', s' = { s with heap := h', toks := tk' } ∧ Fr h₀ L h' m ∧ News h₀ L h' ((I, oI) :: (C, oC) :: (D, LCg.lst ys) :: news)) E' { s with heap := h, toks := tk })
    (fin : ∀ ys, IntsAre ys (((List.range n).filter p).map fun (i : Nat) => a + (i : Int)) → Fin ys news) :
    LCt.CompRestT prog w A h₀ L m env ct (.Name x px) x scope cl s (fun _ => True) (fun i v => ∃ t, v = .int (a + (i : Int)) t) Fin n 0 [] news :=
  comp_aux p hx hkind hb turn fin n 0 [] (by (clear hb hkind hx; (first | lia | omega))) .nil
end
end Mine
end
section -- YEld
open PySem PySem.W PySem.Calls PyProof.Rows PyProof.V PySem.Spec
set_option maxRecDepth 100000
set_option maxHeartbeats 1000000
namespace Mine
theorem off_YEld : True := by w_top off; trivial
variable {prog : Program} {w : World} {p : Program} {loose : List Str} {mean : ExcName → Option Value} {mg mb : Str → Option Value}
theorem map_twoE {m : Str → Option Value} {a b : Str} {f : Str → Option Value} (hm : ∀ z : Str, z ≠ a → z ≠ b → m z = f z) :
    m = fun z => if z = a then m a else if z = b then m b else f z := by
  funext z
  by_cases h1 : z = a
  · rw [if_pos h1, h1]
  · rw [if_neg h1]
    by_cases h2 : z = b
    · rw [if_pos h2, h2]
    · rw [if_neg h2]; exact hm z h1 h2
theorem news_permE {h₀ h : Heap} {L : Addr} {a b : List (Addr × Obj)} (N : News h₀ L h a) (k : ∀ q ∈ b, q ∈ a) : News h₀ L h b := fun q hq => N q (k q hq)
theorem foldl_max (l : List Nat) : ∀ (a : Int), (l.foldl (fun (a : Int) (j : Nat) => max a (j : Int)) a = a ∨ ∃ j ∈ l, l.foldl (fun (a : Int) (j : Nat) => max a (j : Int)) a = (j : Int)) ∧ a ≤ l.foldl (fun (a : Int) (j : Nat) => max a (j : Int)) a ∧ ∀ j ∈ l, (j : Int) ≤ l.foldl (fun (a : Int) (j : Nat) => max a (j : Int)) a := by
  induction l with
  | nil => intro a; exact ⟨.inl rfl, Int.le_refl _, fun j hj => by cases hj⟩
  | cons x r ih =>
    intro a
    obtain ⟨h1, h2, h3⟩ := ih (max a (x : Int))
    rw [List.foldl_cons]
    refine ⟨?_, by (clear h1; (first | lia | omega)), fun j hj => ?_⟩
    · rcases h1 with h1 | ⟨j, hj, h1⟩
      · by_cases hx : a ≤ (x : Int)
        · exact .inr ⟨x, .head _, by rw [h1]; (clear h1 h2; (first | lia | omega))⟩
        · exact .inl (by rw [h1]; (clear h1 h2; (first | lia | omega)))
      · exact .inr ⟨j, .tail _ hj, h1⟩
    · rcases List.mem_cons.mp hj with rfl | hj
      · (clear h1; (first | lia | omega))
      · exact h3 j hj
theorem above_eq {ms : List Int} {i : Nat} {M : Int} (h1 : M ∈ ((List.range i).filter fun j => decide (ms.getD j 0 < ms.getD i 0)).map (fun (j : Nat) => (0 : Int) + (j : Int)) ++ [-1]) (h2 : ∀ a, a ∈ ((List.range i).filter fun j => decide (ms.getD j 0 < ms.getD i 0)).map (fun (j : Nat) => (0 : Int) + (j : Int)) ++ [-1] → a ≤ M) : M = aboveOf ms i := by
  obtain ⟨f1, f2, f3⟩ := foldl_max ((List.range i).filter fun j => decide (ms.getD j 0 < ms.getD i 0)) (-1)
  have hm1 : (-1 : Int) ≤ M := h2 _ (by simp)
  refine Int.le_antisymm ?_ ?_
  · rcases List.mem_append.mp h1 with h | h
    · obtain ⟨j, hj, rfl⟩ := List.mem_map.mp h
      rw [Int.zero_add]
      exact f3 j hj
    · rw [List.mem_singleton.mp h]; exact f2
  · unfold aboveOf
    rcases f1 with f1 | ⟨j, hj, f1⟩
    · rw [f1]; exact hm1
    · rw [f1]
      exact h2 _ (List.mem_append_left _ (List.mem_map.mpr ⟨j, hj, Int.zero_add _⟩))
theorem above_bound (ms : List Int) (i : Nat) : -1 ≤ aboveOf ms i ∧ aboveOf ms i < i := by
  obtain ⟨f1, f2, f3⟩ := foldl_max ((List.range i).filter fun j => decide (ms.getD j 0 < ms.getD i 0)) (-1)
  refine ⟨f2, ?_⟩
  unfold aboveOf
  rcases f1 with f1 | ⟨j, hj, f1⟩
  · rw [f1]; (clear f1 f2; (first | lia | omega))
  · rw [f1]
    have := List.mem_range.mp (List.mem_filter.mp hj).1
    (clear f1 f2; (first | lia | omega))
theorem beside_eq (ms : List Int) (i : Nat) : ((List.range ((i : Int) - (aboveOf ms i + 1)).toNat).filter fun (j : Nat) => decide (ms.getD (aboveOf ms i + 1 + (j : Int)).toNat 0 = ms.getD i 0)).length = besideOf ms i := by
  obtain ⟨h1, h2⟩ := above_bound ms i
  unfold besideOf
  have e : i - (aboveOf ms i + 1).toNat = ((i : Int) - (aboveOf ms i + 1)).toNat := by (first | lia | omega)
  rw [e, List.range'_eq_map_range, List.filter_map, List.length_map]
  congr 1
  refine List.filter_congr fun j _ => ?_
  show _ = decide (ms.getD ((aboveOf ms i + 1).toNat + j) 0 = ms.getD i 0)
  have e2 : (aboveOf ms i + 1 + (j : Int)).toNat = (aboveOf ms i + 1).toNat + j := by (clear e h2; (first | lia | omega))
  rw [e2]
theorem eldersTo_len (ms : List Int) : ∀ k, (eldersTo ms k).length = k
  | 0 => rfl
  | k + 1 => by unfold eldersTo; rw [List.length_append, eldersTo_len ms k]; rfl
theorem elders_spec {A : Around} (hdep : A.depth + 3 < recursionLimit) (hh : A.handled = none) {s : Shared} {D : Addr} {us : List Value} {ms : List Int} {Q E : Value → Shared → Prop}
   (X : (hd.heap_1 w.params).In s.heap) (T : Top p loose mean mg mb s.heap) (hl : s.heap.IsList D us.toArray) (hi : IntsAre us ms) (h6 : ms.length = 6)
   (h : ∀ h' R us n tk, (∀ b o, s.heap.get? b = some o → h'.get? b = some o) → s.heap.get? R = none → h'.get? R = some (listObj us.toArray n) → IntsAre us (eldersTo ms 6) → Q (.ref R) { s with heap := h', toks := tk }) :
   wpAny (model PySem.Challenge.pw_xo0007_01 w) A (call (.ref 214) [.ref D]) Q E s := by
  k_dflt (refine' enterC [("depths", .ref D)] ?X ?l ?o ?c ?r ?b ?lo ?nd ?c2 ?c3 ?c4 ?_; (case X => assumption); (case l => exact Top.nolimit (by assumption)); (case o => k_is); (case c => k_is); (case b => first | exact BindsTo.of_eq rfl | exact binds_K (by assumption) rfl (by k_is) rfl rfl rfl); (case r => (walk_at "m_room")); (case lo => exact rfl); (case nd => decide); (case c2 => exact rfl); (case c3 => exact rfl); (case c4 => exact rfl); (walk_at "m_enterC2"))
  w_strict (repeat' ((fail_if_success (with_reducible show wpAny _ _ (exec (Stmt.For _ _ _ _ _) _) _ _ _)); (fail_if_success (with_reducible show wpAny _ _ (pyIter _) _ _ _)); walk1))
  rename_i L h1 tk1 ock ocd dck dcd El h2 l1 h3 F3 N3
  k_here
  k_dflt (refine' For_cell ?_)
  k_whole
  w_strict (repeat' ((fail_if_success (with_reducible show wpAny _ _ (exec (Stmt.For _ _ _ _ _) _) _ _ _)); (fail_if_success (with_reducible show wpAny _ _ (pyIter _) _ _ _)); walk1))
  rename_i h4 tk4 t4 u4 v4 hr F4 N4 _
  have dcd' : ocd.data = .cell (some (.ref D)) := dcd
  have hN4 : News s.heap L h4 [(L + 1 + 1, ock), (El, W.listOf #[] 0), (L + 1, ocd)] := fun q hq => by
    simp only [List.mem_cons, List.mem_nil_iff, or_false] at hq
    rcases hq with rfl | rfl | rfl
    · exact N4 _ (.tail _ (.head _))
    · exact N4 _ (.head _)
    · exact N4 _ (.tail _ (.tail _ (.head _)))
  have dck' : ock.data = .cell none := dck
  refine iter_rangeC (c := L + 1 + 1) (oc := ock) (vc := none) (a₀ := 0) (b₀ := 6) (n := 6) (news := [(El, W.listOf #[] 0), (L + 1, ocd)]) (fun i m nx => (∃ us n, nx = [(El, W.listOf us.toArray n), (L + 1, ocd)] ∧ IntsAre us (eldersTo ms i)) ∧ ∀ z : Str, z ≠ "above" → z ≠ "beside" → m z = if z = "elders" then some (.ref El) else none) hh rfl rfl rfl hr (by decide) (by decide) F4 hN4 dck' ⟨⟨[], 0, rfl, .nil⟩, fun _ _ _ => rfl⟩ ?_ ?_ ?_ ?_
  · rintro i m nx ⟨⟨us', n', rfl, hus⟩, hm⟩ q hq
    simp only [List.mem_cons, List.mem_nil_iff, or_false] at hq
    rcases hq with rfl | rfl
    · exact Nat.ne_of_gt l1.1
    · exact Nat.ne_of_lt (Nat.lt_succ_self _)
  · rintro I i t m₁ nx oc oI h5 tk5 hin ⟨⟨us', n', rfl, hus⟩, hm⟩ hoc hnI hcI F5 N5
    rw [map_twoE hm] at F5
    rw [List.cons_append, List.cons_append, List.nil_append] at N5
    have hlen := hus.length
    rw [Int.zero_add] at hoc
    w_strict (repeat' ((fail_if_success (with_reducible show wpAny _ _ (exec (Stmt.For _ _ _ _ _) _) _ _ _)); walk1))
    k_here
    k_dflt (refine LCt.ListComp_T (F₀ := by k_asm) (by with_unfolding_all rfl) (by decide) (by rfl) (by decide) (by rfl) ?_)
    w_strict (repeat' ((fail_if_success (with_reducible show wpAny _ _ (exec (Stmt.For _ _ _ _ _) _) _ _ _)); walk1))
    rename_i h6 tk6 t6 u6 v6 hr6 F6 N6 _
    refine LCt.CompSrcT.range (n := i) hh F6 N6 hr6 (range_small _ (by (clear dcd dcd' dck dck' hcI hdep hh hlen hoc l1; (first | lia | omega)))) (range_size _) (by rw [sizeLine_eq]; (clear dcd dcd' dck dck' hcI hdep hh hlen hoc l1; (first | lia | omega))) fun g => ?_
    refine comp_ints (fun j => decide (ms.getD j 0 < ms.getD i 0)) rfl rfl (by decide) ?_ ?_
    · intro j tj ys I2 oI2 C2 oC2 D2 m2 h7 tk7 E' hj hC hm2 F7 N7 off ne
      w_strict (repeat' ((fail_if_success (with_reducible show wpAny _ _ (exec (Stmt.For _ _ _ _ _) _) _ _ _)); walk1))
      · have e1 : (0 + (j : Int)).toNat = j := by (clear dcd dcd' dck dck' hcI hdep hh hin hj hlen hm2 hoc l1 ne; (first | lia | omega))
        have e2 : ((i : Int)).toNat = i := by (clear dcd dcd' dck dck' hcI hdep hh hlen hm2 hoc l1 ne; (first | lia | omega))
        rw [e1, e2]
      · exact F7
      · exact N7
    · intro ys hys D3 h7 tk7 F7 N7 off
      w_strict (repeat' ((fail_if_success (with_reducible show wpAny _ _ (exec (Stmt.For _ _ _ _ _) _) _ _ _)); walk1))
      rename_i l2 h8 F8 N8 l2lt
      have hysl : ys.length ≤ 6 := by
        have e1 := hys.length
        rw [List.length_map] at e1
        have e2 := List.length_filter_le (fun j => decide (ms.getD j 0 < ms.getD i 0)) (List.range i)
        rw [List.length_range] at e2
        (clear dcd dcd' dck dck' hcI hdep hh hlen hoc l1 l2lt; (first | lia | omega))
      k_here
      k_dflt (refine' add_lists (vs := ys) (ws := [.int (-1) (tk7 + 1)]) ?aF ?aN ?aa ?ab ?_ ?az)
      case aF => k_asm
      case aN => k_asm
      case aa => exact ⟨_, N8.get (.tail _ (.head _)), rfl, _, rfl⟩
      case ab => exact ⟨_, N8.get (.head _), rfl, _, rfl⟩
      case az => rw [sizeLine_eq]; simp; (clear dcd dcd' dck dck' hcI hdep hh hin hlen hoc l1 l2lt; (first | lia | omega))
      k_whole
      intro h9 F9 N9
      w_strict (repeat' ((fail_if_success (with_reducible show wpAny _ _ (exec (Stmt.For _ _ _ _ _) _) _ _ _)); walk1))
      k_here
      k_dflt (refine' kso_max ?aF ?aN ?aa (ints_snoc' hys (-1) (tk7 + 1)) ?an ?ah ?_)
      case aF => k_asm
      case aN => k_asm
      case aa => exact ⟨_, N9.get (.head _), rfl, _, rfl⟩
      case an => simp
      case ah => with_unfolding_all assumption
      k_whole
      intro h10 M tM kM F10 N10 hM1 hM2
      have hM : M = aboveOf ms i := above_eq hM1 hM2
      obtain ⟨hMl, hMh⟩ := above_bound ms i
      rw [← hM] at hMl hMh
      have N11 := news_permE (b := [(L + 1 + 1, oc), (El, W.listOf us'.toArray n'), (L + 1, ocd), (I, oI)]) N10 (fun q hq => by simp only [List.mem_cons, List.mem_nil_iff, or_false] at hq ⊢; rcases hq with h | h | h | h <;> simp [h])
      clear N10 N9 N8 hM1 hM2
      w_strict (repeat' ((fail_if_success (with_reducible show wpAny _ _ (exec (Stmt.For _ _ _ _ _) _) _ _ _)); walk1))
      k_here
      k_dflt (refine LCt.Assign_ListComp_T (F₀ := by k_asm) (by rfl) (by with_unfolding_all rfl) (by with_unfolding_all rfl) (by decide) (by rfl) (by decide) (by rfl) (by rfl) (by rfl) ?_)
      w_strict (repeat' ((fail_if_success (with_reducible show wpAny _ _ (exec (Stmt.For _ _ _ _ _) _) _ _ _)); walk1))
      rename_i h12 tk12 t12 u12 v12 hr12 F12 N12 _
      refine LCt.CompSrcT.range (n := ((i : Int) - (M + 1)).toNat) hh F12 N12 hr12 (small_one (by (clear dcd dcd' dck dck' hMh hcI hdep hh hin hlen hoc hysl l1 l2lt; (first | lia | omega))) (by (clear dcd dcd' dck dck' hMl hcI hdep hh hlen hoc hysl l1 l2lt; (first | lia | omega))) (by (clear dcd dcd' dck dck' hM hMh hMl hcI hdep hh hlen hoc hysl l1 l2lt; (first | lia | omega))) (by (clear dcd dcd' dck dck' hM hMh hMl hcI hdep hh hlen hoc hysl l1 l2lt; (first | lia | omega)))) (rangeSize_nat _ _) (by rw [sizeLine_eq]; (clear dcd dcd' dck dck' hMh hcI hdep hh hlen hoc hysl l1 l2lt; (first | lia | omega))) fun g2 => ?_
      refine comp_ints (fun j => decide (ms.getD (M + 1 + (j : Int)).toNat 0 = ms.getD i 0)) rfl rfl (by decide) ?_ ?_
      · intro j tj ys2 I2 oI2 C2 oC2 D2 m2 h13 tk13 E' hj hC hm2 F13 N13 off ne
        w_strict (repeat' ((fail_if_success (with_reducible show wpAny _ _ (exec (Stmt.For _ _ _ _ _) _) _ _ _)); walk1))
        · exact F13
        · exact N13
      · intro ys2 hys2 D4 h13 tk13 F13 N13 off4
        have hysl2 : ys2.length ≤ 6 := by
          have e1 := hys2.length
          rw [List.length_map] at e1
          have e2 := List.length_filter_le (fun (j : Nat) => decide (ms.getD (M + 1 + (j : Int)).toNat 0 = ms.getD i 0)) (List.range ((i : Int) - (M + 1)).toNat)
          rw [List.length_range] at e2
          (clear dcd dcd' dck dck' hMh hcI hdep hh hlen hoc hysl l1 l2lt; (first | lia | omega))
        have hbe : ys2.length = besideOf ms i := by
          have e1 := hys2.length
          rw [List.length_map] at e1
          rw [e1, hM]
          exact beside_eq ms i
        w_strict (repeat' ((fail_if_success (with_reducible show wpAny _ _ (exec (Stmt.For _ _ _ _ _) _) _ _ _)); walk1))
        k_here
        k_dflt (refine' call_len_list (items := ys2.toArray) ?ll ?lz ?_)
        case ll => exact ⟨_, (News.get (by k_asm) (.head _)), rfl, _, rfl⟩
        case lz => rw [List.size_toArray]; (clear dcd dcd' dck dck' hM hMh hMl hcI hdep hh hin hlen hoc hysl l1 l2lt; (first | lia | omega))
        k_whole
        have hMb : M < ((eldersTo ms i).length : Int) := by rw [eldersTo_len]; exact hMh
        have hle : us'.length = i := by rw [hlen, eldersTo_len]
        have hD4 : D4 ≠ El := fun e => off4.2.1 e.symm
        w_strict (repeat' ((fail_if_success (with_reducible show wpAny _ _ (exec (Stmt.For _ _ _ _ _) _) _ _ _)); walk1))
        · rename_i hMs _
          k_here
          k_dflt (refine' append_K ?aF ?aN ?aU ?_ ?az)
          case aF => k_asm
          case aN => k_asm
          case aU => exact Upd.tail hD4 (Upd.tail (Nat.ne_of_lt l1.1) (Upd.head (List.forall_mem_cons.mpr ⟨Nat.ne_of_lt l1.2, List.forall_mem_cons.mpr ⟨fun e => hnI (El, W.listOf us'.toArray n') (.head _) e.symm, fun _ hq => by cases hq⟩⟩)))
          case az => rw [List.size_toArray, sizeLine_eq]; (clear dcd dcd' dck dck' hD4 hM hMb hMh hMl hMs hbe hcI hdep hh hoc hysl hysl2 l1 l2lt; (first | lia | omega))
          k_whole
          intro h14 F14 N14
          w_strict (repeat' ((fail_if_success (with_reducible show wpAny _ _ (exec (Stmt.For _ _ _ _ _) _) _ _ _)); walk1))
          rw [List.push_toArray] at N14
          have ee : eldersTo ms (i + 1) = eldersTo ms i ++ [(ys2.toArray.size : Int) + (eldersTo ms i).getD M.toNat 0] := by
            show eldersTo ms i ++ [(besideOf ms i : Int) + if aboveOf ms i ≥ 0 then (eldersTo ms i).getD (aboveOf ms i).toNat 0 else 0] = _
            rw [← hM, if_pos hMs, ← hbe, List.size_toArray]
          refine ⟨h14, _, _, _, _, oc, _, rfl, F14, N14, .tail _ (.head _), hoc, .tail _ (.tail _ (.tail _ (.tail _ (.head _)))), List.forall_mem_cons.mpr ⟨.tail _ (.tail _ (.head _)), List.forall_mem_cons.mpr ⟨.tail _ (.tail _ (.tail _ (.head _))), fun _ hq => by cases hq⟩⟩, fun q hq => ?_, ⟨⟨_, _, rfl, ?_⟩, fun z z1 z2 => ?_⟩⟩
          · simp only [List.mem_cons, List.mem_nil_iff, or_false] at hq
            rcases hq with rfl | rfl
            · exact hnI (El, W.listOf us'.toArray n') (.head _)
            · exact hnI (L + 1, ocd) (.tail _ (.head _))
          · rw [ee]
            exact ints_snoc' hus _ _
          · dsimp only
            rw [if_neg z2, if_neg z1, if_neg z1, if_neg z2]
        · rename_i hMs
          k_here
          k_dflt (refine' append_K ?bF ?bN ?bU ?_ ?bz)
          case bF => k_asm
          case bN => k_asm
          case bU => exact Upd.tail hD4 (Upd.tail (Nat.ne_of_lt l1.1) (Upd.head (List.forall_mem_cons.mpr ⟨Nat.ne_of_lt l1.2, List.forall_mem_cons.mpr ⟨fun e => hnI (El, W.listOf us'.toArray n') (.head _) e.symm, fun _ hq => by cases hq⟩⟩)))
          case bz => rw [List.size_toArray, sizeLine_eq]; (clear dcd dcd' dck dck' hD4 hM hMb hMh hMl hMs hbe hcI hdep hh hoc hysl hysl2 l1 l2lt; (first | lia | omega))
          k_whole
          intro h14 F14 N14
          w_strict (repeat' ((fail_if_success (with_reducible show wpAny _ _ (exec (Stmt.For _ _ _ _ _) _) _ _ _)); walk1))
          rw [List.push_toArray] at N14
          have ee : eldersTo ms (i + 1) = eldersTo ms i ++ [(ys2.toArray.size : Int) + 0] := by
            show eldersTo ms i ++ [(besideOf ms i : Int) + if aboveOf ms i ≥ 0 then (eldersTo ms i).getD (aboveOf ms i).toNat 0 else 0] = _
            rw [← hM, if_neg hMs, ← hbe, List.size_toArray]
          refine ⟨h14, _, _, _, _, oc, _, rfl, F14, N14, .tail _ (.head _), hoc, .tail _ (.tail _ (.tail _ (.tail _ (.head _)))), List.forall_mem_cons.mpr ⟨.tail _ (.tail _ (.head _)), List.forall_mem_cons.mpr ⟨.tail _ (.tail _ (.tail _ (.head _))), fun _ hq => by cases hq⟩⟩, fun q hq => ?_, ⟨⟨_, _, rfl, ?_⟩, fun z z1 z2 => ?_⟩⟩
          · simp only [List.mem_cons, List.mem_nil_iff, or_false] at hq
            rcases hq with rfl | rfl
            · exact hnI (El, W.listOf us'.toArray n') (.head _)
            · exact hnI (L + 1, ocd) (.tail _ (.head _))
          · rw [ee]
            exact ints_snoc' hus _ _
          · dsimp only
            rw [if_neg z2, if_neg z1, if_neg z1, if_neg z2]
  · rintro m₁ nx oc h5 tk5 ⟨⟨us', n', rfl, hus⟩, hm⟩ F5 N5
    rw [map_twoE hm] at F5
    w_strict (repeat' ((fail_if_success (with_reducible show wpAny _ _ (exec (Stmt.For _ _ _ _ _) _) _ _ _)); walk1))
    exact h _ El us' n' _ (Fr.keep F5) (News.fresh N5 (.tail _ (.head _))) (N5.get (.tail _ (.head _))) hus
  · passes_own
end Mine
end
section -- YSort
open PySem PySem.W PySem.Calls PyProof.Rows PyProof.V PySem.Spec
set_option maxRecDepth 100000
set_option maxHeartbeats 1000000
namespace Mine
theorem off_YSort : True := by w_top off; trivial
noncomputable def evalOk {α : Type} (n : Nat) (lt : Nat → Nat → Bool) : KasT α → Bool
  | .ret _ => true
  | .ask i j k => decide (i < n) && decide (j < n) && evalOk n lt (k (lt i j))
theorem kas_eval {α : Type} {n : Nat} {lt : Nat → Nat → Bool} {St : Shared → Prop} {cmp : Nat → Nat → (Bool → Shared → Prop) → Shared → Prop} {Q : α → Shared → Prop}
    (ask : ∀ i j C s, i < n → j < n → St s → (∀ s', St s' → C (lt i j) s') → cmp i j C s) :
    ∀ (t : KasT α) (s : Shared), evalOk n lt t = true → St s → (∀ s', St s' → Q (evalT lt t) s') → t.kasWp cmp Q s
  | .ret a, s, _, hs, hq => hq s hs
  | .ask i j k, s, hok, hs, hq => by
    unfold evalOk at hok
    simp only [Bool.and_eq_true, decide_eq_true_eq] at hok
    exact ask i j _ s hok.1.1 hok.1.2 hs fun s' hs' => kas_eval ask (k (lt i j)) s' hok.2 hs' hq
section
variable {prog : Program} {w : World} {A : Around} {E : Value → Shared → Prop} {s : Shared} {h₀ : Heap} {L : Addr} {m : Str → Option Value} {news : List (Addr × Obj)}
theorem collect_rangeX {R : List Value → Shared → Prop} {r : Addr} {a b : Int} {t u v : Tok} {n : Nat} (hh : A.handled = none) (hr : IsRange s.heap r a b 1 t u v) (hsmall : Builtin.Range.small a b 1 = true)
    (hn : Builtin.Range.rangeSize a b 1 = n) (hlen : n ≤ 2 ^ 24)
    (h : ∀ (h' : Heap) (tk : Nat) (acc : Array Value), (∀ b o, s.heap.get? b = some o → h'.get? b = some o) → ItemsOf (fun i v => ∃ t, v = .int (a + i * 1) t) acc n → R acc.toList { s with heap := h', toks := tk }) :
    wpAny (model prog w) A (collect (.ref r)) R E s := by
  unfold collect
  refine wpAny_bind (wpAny_runValue (codeAny_builtin entry_proto_collect' ?_))
  rw [Around.under_plainId PySem.F.plain_proto_collect _]
  show wpAny _ A.in1 (newList [] >>= fun l => again (.builtin "list.__iadd__" ⟨[l, .ref r], []⟩)) _ _ s
  refine wpAny_bind (wpAny_newObj_type ?_)
  refine wpAny_pure ⟨plainId_quiet PySem.F.plain_list_iadd _, codeAny_builtin entry_list_iadd' ?_⟩
  rw [Around.under_plainId PySem.F.plain_list_iadd _]
  have hS₁ : (s.heap.push { cls := .type "list", data := .seq ([] : List Value).toArray }).get? s.heap.objs.size = some { cls := .type "list", data := .seq #[] } := Heap.get?_push_size _ rfl
  show wpAny _ A.in1 (Builtin.List.listExtendWith (.ref s.heap.objs.size) (.ref r) (.ref s.heap.objs.size)) _ _ _
  have key := wpAny_extend_range (prog := prog) (w := w) (A := A) (s := { s with heap := s.heap.push { cls := .type "list", data := .seq ([] : List Value).toArray } })
    (R := fun (q : Result) (s' : Shared) => ∃ (h' : Heap) (tk : Nat) (acc' : Array Value) (c' : Nat), q = .ok (.ret (.ref s.heap.objs.size)) ∧ s' = { s with heap := h', toks := tk } ∧
      (∀ b o, s.heap.get? b = some o → h'.get? b = some o) ∧ h'.get? s.heap.objs.size = some { cls := .type "list", dict := none, data := .seq acc' c', slots := #[] } ∧ ItemsOf (fun i v => ∃ t, v = .int (a + i * 1) t) acc' n)
    hh (Heap.get?_push_of_some _ hr) hsmall hn hlen s.heap.objs.size (.ref s.heap.objs.size) 0 hS₁
    (fun h' tk acc' c' hk hS' hacc => ⟨h', tk, acc', c', rfl, rfl, fun b o e => hk b o (Nat.ne_of_lt (Heap.lt_size e)) (Heap.get?_push_of_some _ e), hS', hacc⟩)
  refine wpAny_mono key (fun fin s' x => ?_) fun e s' x => ?_
  · cases fin with
    | done f =>
      obtain ⟨h', tk, acc', c', e, rfl, hk, hS', hacc⟩ := x
      cases e
      show wpAny _ A (load s.heap.objs.size >>= _) _ _ _
      refine wpAny_bind (wpAny_load hS' ?_)
      exact wpAny_pure (h h' tk acc' hk hacc)
    | again c₁ =>
      refine ⟨x.1, codeAny_mono x.2 fun q s₂ y => ?_⟩
      obtain ⟨h', tk, acc', c', rfl, rfl, hk, hS', hacc⟩ := y
      show wpAny _ A (load s.heap.objs.size >>= _) _ _ _
      refine wpAny_bind (wpAny_load hS' ?_)
      exact wpAny_pure (h h' tk acc' hk hacc)
  · obtain ⟨_, _, _, _, e', _⟩ := x
    cases e'
theorem sortedK_range {r q : Addr} {a b : Int} {t u v : Tok} {n : Nat} {Q : Value → Shared → Prop} (hh : A.handled = none) (F : Fr h₀ L s.heap m) (N : News h₀ L s.heap news) (hr : IsRange s.heap r a b 1 t u v) (hsmall : Builtin.Range.small a b 1 = true)
    (hn : Builtin.Range.rangeSize a b 1 = n) (h2 : 2 ≤ n) (h64 : n < 64)
    (h : ∀ (D kS : Addr) (e1 : Nat) (h' : Heap) (tk : Nat) (vs : List Value), vs.length = n → (∀ (i : Nat) (v : Value), vs[i]? = some v → ∃ t, v = Value.int (a + (i : Int)) t) → Fr h₀ L h' m → News h₀ L h' ((kS, seqObj "list" #[] 0) :: (D, seqObj "list" #[] e1) :: news) → D < kS → (∀ q ∈ news, q.1 < D) →
      KatKeys prog w A.in1.in1 h₀ L m kS (.ref q) (fun ks e s' => wpAny (model prog w) A.in1.in1 (keyKind' (List.toArray ks)) (fun κ s'' => (kas_sort vs.length).kasWp (kas_ask prog w A.in1.in1 κ ks) (fun p s3 => KatFin h₀ L m kS D ks e e1 (p.toList.map fun i => vs.getD i Value.none) (fun s4 => Q (.ref D) s4) s3) s'') (fun _ _ => False) s') vs [] 0 { s with heap := h', toks := tk }) :
    wpAny (model prog w) A (call (.builtin "sorted") [.ref r] [(Str.ofString "key", .ref q)]) Q E s := by
  refine call_function_entry_kw kind_sorted plain_sorted entry_sorted (ksk_s1 _ _) ?_
  unfold Builtin.«sorted»
  refine wpAny_bind (m := checkCount "sorted" 1 1 _) (wpAny_pure ?_)
  refine wpAny_bind (collect_rangeX (A := A.in1) hh hr hsmall hn (by (clear hh hn hsmall; (first | lia | omega))) fun h1 tk acc hk hacc => ?_)
  have hl : acc.toList.length = n := by rw [Array.length_toList]; exact hacc.1
  refine wpAny_bind (wpAny_newList ?_ (by rw [hl, sizeLine_eq]; (clear hh hn hsmall; (first | lia | omega))))
  have hoL : (h1.push (seqObj "list" acc.toList.toArray 0)).get? h1.objs.size = some (seqObj "list" acc.toList.toArray 0) := Heap.get?_push_size _ rfl
  have keep : ∀ b o, s.heap.get? b = some o → (h1.push (seqObj "list" acc.toList.toArray 0)).get? b = some o := fun b o e => Heap.get?_push_of_some _ (hk b o e)
  have F1 := F.kept hk
  have hL : L < h1.objs.size := F1.ns.lt
  refine wpAny_bind (wpAny_holding (wpAny_call_entry_kw slot_list_sort ⟨_, hoL, rfl⟩ entry_list_sort ?body (ksk_l1 _ _)))
  case body =>
    show wpAny (model prog w) A.in1.in1 (Builtin.«list.sort» ⟨[.ref h1.objs.size], _⟩) _ _ _
    rw [ksk_t1]
    refine kat_keyed (s := { s with heap := h1.push (seqObj "list" acc.toList.toArray 0), toks := tk })
      (F.kept keep) (N.grown keep) hoL (Nat.ne_of_gt hL) (Heap.get?_none_of_le (Nat.le_trans F1.above (Nat.le_of_lt hL)))
      (fun p hp => Nat.ne_of_lt (Heap.lt_size (hk _ _ (N p hp).1))) (by (clear hL hh hn hoL hsmall; (first | lia | omega))) (by (clear hL hh hn hoL hsmall; (first | lia | omega))) fun kS e1 h' F' N' l0 l1 => ?_
    refine kat_keys_mono (h _ kS e1 h' tk acc.toList hl (fun i v e => by
      obtain ⟨t, ht⟩ := hacc.2 i v (by rw [← Array.getElem?_toList]; exact e)
      exact ⟨t, by rw [ht, Int.mul_one]⟩) F' N' l0 fun q hq => Heap.lt_size (hk _ _ (N q hq).1)) fun ks e s' hl' hd => ?_
    have hl2 : ks.length = acc.toList.length := by simpa using hl'
    refine wpAny_mono hd (fun κ s'' hk => ?_) fun _ _ x => x
    show (kas_sort acc.toList.length).kasWp (kas_ask prog w A.in1.in1 κ ks) _ s''
    rw [kat_ask_eq (vs := acc.toList) hl2] at hk ⊢
    exact kas_wp_mono hk fun p s3 hk' => hk'.mono fun s4 hq => ⟨_, rfl, wpAny_pure ⟨_, rfl, hq⟩⟩
end
end Mine
end
section -- YSort2
open PySem PySem.W PySem.Calls PyProof.Rows PyProof.V PySem.Spec
set_option maxRecDepth 100000
set_option maxHeartbeats 1000000
namespace Mine
theorem off_YSort2 : True := by w_top off; trivial
section
variable {prog : Program} {w : World} {A : Around} {E : Value → Shared → Prop} {s : Shared} {h₀ : Heap} {L : Addr} {m : Str → Option Value} {news : List (Addr × Obj)}
noncomputable abbrev tup2 (k : Int × Int) (t1 t2 : Tok) : Obj := { cls := .type "tuple", data := .seq [Value.int k.1 t1, Value.int k.2 t2].toArray }
noncomputable def TupsAre (keys : Nat → Int × Int) (T : List (Addr × Obj)) : Prop := ∀ (j : Nat) (p : Addr × Obj), T[j]? = some p → ∃ t1 t2, p.2 = tup2 (keys j) t1 t2
theorem tups_kat {h : Heap} : ∀ (T : List (Addr × Obj)) (keys : Nat → Int × Int), TupsAre keys T → (∀ p ∈ T, h.get? p.1 = some p.2) → ∃ fs : List Value, KatTups h (T.map fun p => Value.ref p.1) fs ∧ fs.length = T.length ∧ ∀ v ∈ fs, ∃ n t, v = Value.int n t
  | [], _, _, _ => ⟨[], KatTups.nil, rfl, fun v hv => by cases hv⟩
  | p :: r, keys, hT, hg => by
    obtain ⟨fs, k, hl, hv⟩ := tups_kat r (fun j => keys (j + 1)) (fun j p hp => hT (j + 1) p (by simpa using hp)) fun q hq => hg q (.tail _ hq)
    obtain ⟨t1, t2, e⟩ := hT 0 p rfl
    have g := hg p (.head _)
    rw [e] at g
    refine ⟨Value.int (keys 0).1 t1 :: fs, KatTups.cons (f := Value.int (keys 0).1 t1) g rfl rfl rfl k, by simp [hl], fun v hv' => ?_⟩
    rcases List.mem_cons.mp hv' with rfl | hv'
    · exact ⟨_, _, rfl⟩
    · exact hv v hv'
theorem lt_tup {keys : Nat → Int × Int} {T : List (Addr × Obj)} {i j : Nat} {C : Bool → Shared → Prop} {n : Nat} (hT : TupsAre keys T) (hg : ∀ p ∈ T, s.heap.get? p.1 = some p.2) (hn : T.length = n) (hi : i < n) (hj : j < n) (h : C (lexlt keys i j) s) :
    kas_ask prog w A (tuples' true) (T.map fun p => Value.ref p.1) i j C s := by
  unfold kas_ask
  have hi' : i < T.length := by (clear hj; (first | lia | omega))
  have hj' : j < T.length := by (clear hi hi'; (first | lia | omega))
  have ei : (T.map fun p => Value.ref p.1).getD i Value.none = Value.ref T[i].1 := by simp [hi']
  have ej : (T.map fun p => Value.ref p.1).getD j Value.none = Value.ref T[j].1 := by simp [hj']
  rw [ei, ej]
  obtain ⟨t1, t2, e1⟩ := hT i T[i] (by simp [hi'])
  obtain ⟨u1, u2, e2⟩ := hT j T[j] (by simp [hj'])
  have g1 := hg T[i] (List.getElem_mem hi')
  have g2 := hg T[j] (List.getElem_mem hj')
  rw [e1] at g1
  rw [e2] at g2
  refine kat_lt g1 rfl g2 rfl (kat_cons (wpAny_eqBool_int ?_))
  unfold lexlt at h
  cases c1 : ((keys i).1 == (keys j).1) with
  | true =>
    rw [c1] at h
    simp only [if_true] at h
    refine kat_yes (kat_cons (wpAny_eqBool_int ?_))
    cases c2 : ((keys i).2 == (keys j).2) with
    | true =>
      rw [c2] at h
      simp only [if_true] at h
      exact kat_yes (kat_nil h)
    | false =>
      rw [c2] at h
      simp only [Bool.false_eq_true, if_false] at h
      exact kat_no (kat_one _ _ (wpAny_lt_int h))
  | false =>
    rw [c1] at h
    simp only [Bool.false_eq_true, if_false] at h
    exact kat_no (oneLt_int h)
noncomputable def KeyEnd (h₀ : Heap) (L : Addr) (m : Str → Option Value) (news : List (Addr × Obj)) (key : Int × Int) (s : Shared) (k : Value) (s' : Shared) : Prop :=
  ∃ h' tk' tp t1 t2, k = .ref tp ∧ s' = { s with heap := h', toks := tk' } ∧ Fr h₀ L h' m ∧ News h₀ L h' ((tp, tup2 key t1 t2) :: news) ∧ (∀ q ∈ news, q.1 ≠ tp)
theorem sorted_by {r q : Addr} {t u v : Tok} {keys : Nat → Int × Int} {Q : Value → Shared → Prop} (hh : A.handled = none) (F : Fr h₀ L s.heap m) (N : News h₀ L s.heap news) (hr : IsRange s.heap r 0 6 1 t u v)
    (turn : ∀ (i : Nat) (t : Tok) (own : List (Addr × Obj)) (h : Heap) (tk : Nat), i < 6 → Fr h₀ L h m → News h₀ L h (own ++ news) → wpAny (model prog w) A.in1.in1 (call (.ref q) [.int (i : Int) t]) (KeyEnd h₀ L m (own ++ news) (keys i) s) (fun _ _ => False) { s with heap := h, toks := tk })
    (hok : evalOk 6 (lexlt keys) (kas_sort 6) = true) (hperm : ∀ i ∈ (evalT (lexlt keys) (kas_sort 6)).toList, i < 6)
    (fin : ∀ D vs c h tk, Fr h₀ L h m → News h₀ L h ((D, PySem.W.listOf (List.toArray vs) c) :: news) → (∀ q ∈ news, q.1 < D) → IntsAre vs ((evalT (lexlt keys) (kas_sort 6)).toList.map fun (i : Nat) => (i : Int)) → Q (.ref D) { s with heap := h, toks := tk }) :
    wpAny (model prog w) A (call (.builtin "sorted") [.ref r] [(Str.ofString "key", .ref q)]) Q E s := by
  refine sortedK_range (n := 6) hh F N hr (by decide) (by decide) (by decide) (by decide) fun D kS e1 h1 tk1 vs hvl hvs F1 N1 hDk hnD => ?_
  have hnk : ∀ p ∈ news, @LT.lt Nat _ p.1 kS := fun p hp => Nat.lt_trans (hnD p hp) hDk
  have step : ∀ (k i : Nat) (T : List (Addr × Obj)) (e : Nat) (h' : Heap) (tk : Nat), i + k = 6 → T.length = i → TupsAre keys T → (∀ p ∈ T, p.1 ≠ kS ∧ p.1 ≠ D) → Fr h₀ L h' m →
      News h₀ L h' ((kS, seqObj "list" (List.toArray (T.map fun p => Value.ref p.1)) e) :: (D, seqObj "list" #[] e1) :: (T ++ news)) →
      KatKeys prog w A.in1.in1 h₀ L m kS (.ref q) (fun ks e s' => wpAny (model prog w) A.in1.in1 (keyKind' (List.toArray ks)) (fun κ s'' => (kas_sort vs.length).kasWp (kas_ask prog w A.in1.in1 κ ks) (fun p s3 => KatFin h₀ L m kS D ks e e1 (p.toList.map fun i => vs.getD i Value.none) (fun s4 => Q (.ref D) s4) s3) s'') (fun _ _ => False) s') (vs.drop i) (T.map fun p => Value.ref p.1) e { s with heap := h', toks := tk } := by
    intro k
    induction k with
    | zero =>
      intro i T e h' tk hik hTl hT hTn F' N'
      have : i = 6 := by (clear hDk hTl hh hok hvl; (first | lia | omega))
      subst this
      have hd : vs.drop 6 = [] := by rw [List.drop_eq_nil_iff]; (clear hDk hTl hh hik hok; (first | lia | omega))
      rw [hd]
      refine KatKeys.nil ?_
      have hg : ∀ p ∈ T, h'.get? p.1 = some p.2 := fun p hp => (N' p (.tail _ (.tail _ (List.mem_append_left _ hp)))).1
      obtain ⟨fs, kt, hfl, hfi⟩ := tups_kat T keys hT hg
      refine kat_kind (T := .type "int") kt (by (clear hDk hd hh hik hok hvl; (first | lia | omega))) (fun v hv => by obtain ⟨n, t, rfl⟩ := hfi v hv; exact Looks.of_pure rfl) rfl ?_
      rw [hvl]
      refine kas_eval (n := 6) (lt := lexlt keys) (St := fun s' => s' = { s with heap := h', toks := tk }) (fun i j C s' hi hj hs hC => ?_) _ _ hok rfl ?_
      · subst hs
        exact lt_tup hT hg hTl hi hj (hC _ rfl)
      · rintro s' rfl
        refine KatFin.intro F' N' (UpdF.head ?_) fun h2 c2 F2 N2 => ?_
        · intro p hp
          rcases List.mem_cons.mp hp with rfl | hp
          · exact Nat.ne_of_lt hDk
          · rcases List.mem_append.mp hp with hp | hp
            · exact (hTn p hp).1
            · exact Nat.ne_of_lt (hnk p hp)
        · refine KasFin.intro F2 N2 (UpdF.tail (Nat.ne_of_gt hDk) (UpdF.head ?_)) fun h3 c3 F3 N3 => ?_
          · intro p hp
            rcases List.mem_append.mp hp with hp | hp
            · exact (hTn p hp).2
            · exact Nat.ne_of_lt (hnD p hp)
          · refine fin D ((evalT (lexlt keys) (kas_sort 6)).toList.map fun i => vs.getD i Value.none) c3 h3 tk F3 (fun p hp => ?_) hnD ?_
            · rcases List.mem_cons.mp hp with rfl | hp
              · exact N3 _ (.tail _ (.head _))
              · exact N3 p (.tail _ (.tail _ (List.mem_append_right _ hp)))
            · generalize (evalT (lexlt keys) (kas_sort 6)).toList = P at hperm
              induction P with
              | nil => exact .nil
              | cons x r ih =>
                have hx := hperm x (.head _)
                have hx' : x < vs.length := by (clear hDk hTl hd hfl hh hik hok; (first | lia | omega))
                obtain ⟨t, ht⟩ := hvs x vs[x] (by simp [hx'])
                have e : vs.getD x Value.none = Value.int (x : Int) t := by
                  have : vs.getD x Value.none = vs[x] := by simp [hx']
                  rw [this, ht, Int.zero_add]
                rw [List.map_cons, List.map_cons, e]
                exact .cons _ _ (ih fun i hi => hperm i (.tail _ hi))
    | succ k ih =>
      intro i T e h' tk hik hTl hT hTn F' N'
      have hi' : i < vs.length := by (clear hDk hh hok; (first | lia | omega))
      have hd : vs.drop i = vs[i] :: vs.drop (i + 1) := List.drop_eq_getElem_cons hi'
      rw [hd]
      obtain ⟨t, ht⟩ := hvs i vs[i] (by simp [hi'])
      rw [ht, Int.zero_add]
      refine KatKeys.cons (wpAny_mono (turn i t ((kS, seqObj "list" (List.toArray (T.map fun (p : Addr × Obj) => Value.ref p.1)) e) :: (D, seqObj "list" #[] e1) :: T) h' tk (by (clear hDk hd hh hok ht hvl; (first | lia | omega))) F' N') (fun kv s' hk => ?_) fun _ _ x => x)
      obtain ⟨h2, tk2, tp, t1, t2, rfl, rfl, F2, N2, hne⟩ := hk
      refine KatBack.intro F2 N2 (UpdF.tail (fun e => hne _ (.head _) e.symm) (UpdF.head (r := (D, seqObj "list" #[] e1) :: (T ++ news)) ?_)) fun h3 c F3 N3 => ?_
      · intro p hp
        rcases List.mem_cons.mp hp with rfl | hp
        · exact Nat.ne_of_lt hDk
        · rcases List.mem_append.mp hp with hp | hp
          · exact (hTn p hp).1
          · exact Nat.ne_of_lt (hnk p hp)
      · have e3 : (T.map fun p => Value.ref p.1) ++ [Value.ref tp] = (T ++ [(tp, tup2 (keys i) t1 t2)]).map fun p => Value.ref p.1 := by simp
        rw [e3] at N3 ⊢
        refine ih (i + 1) (T ++ [(tp, tup2 (keys i) t1 t2)]) c h3 tk2 (by (clear e3 hDk hTl hd hh hok ht hvl; (first | lia | omega))) (by simp [hTl]) ?_ ?_ F3 ?_
        · intro j p hp
          rw [List.getElem?_append] at hp
          split at hp
          · exact hT j p hp
          · rename_i hjn
            have hj := (List.getElem?_eq_some_iff.mp hp).1
            simp at hj
            have : j = T.length := by (clear e3 hDk hTl hd hh hik hok hp ht hvl; (first | lia | omega))
            subst this
            simp at hp
            rw [← hp, hTl]
            exact ⟨t1, t2, rfl⟩
        · intro p hp
          rcases List.mem_append.mp hp with hp | hp
          · exact hTn p hp
          · rw [List.mem_singleton.mp hp]
            exact ⟨fun e => hne _ (.head _) e.symm, fun e => hne _ (.tail _ (.head _)) e.symm⟩
        · intro p hp
          refine N3 p ?_
          simp only [List.mem_cons, List.mem_append, List.mem_nil_iff, or_false] at hp ⊢
          rcases hp with h | h | (h | h) | h
          · exact .inr (.inl h)
          · exact .inr (.inr (.inl h))
          · exact .inr (.inr (.inr (.inl h)))
          · exact .inl h
          · exact .inr (.inr (.inr (.inr h)))
  have := step 6 0 [] 0 h1 tk1 rfl rfl (fun j p hp => by simp at hp) (fun p hp => by cases hp) F1 N1
  exact this
end
end Mine
end
section -- YCompC
open PySem PySem.W PySem.Calls PyProof.Rows PyProof.V PySem.Spec
set_option maxRecDepth 100000
set_option maxHeartbeats 1000000
namespace Mine
theorem off_YCompC : True := by w_top off; trivial
section
variable {prog : Program} {w : World} {A : Around} {E : Value → Shared → Prop} {s : Shared} {h₀ : Heap} {L : Addr} {m : Str → Option Value} {env : Env}
theorem neA {a b : Nat} (h : @LT.lt Nat _ a b ∨ @LT.lt Nat _ b a) : @Ne Addr a b := by
  intro e
  have e' : @Eq Nat a b := e
  (clear e; (first | lia | omega))
theorem newEnv_comp1 {M : Model} {scope : Scope} {cl : List (Str × Addr)} {x : Str} {Q : Env → Shared → Prop}
    (hcells : ∀ n, cellsFrom n scope.names cl = (x, n) :: cl) (hpush : ∀ h, pushCells h scope.names = h.push { cls := .type "cell", data := .cell none })
    (hQ : Q (newEnv scope s.heap.objs.size env.globals ((x, s.heap.objs.size + 1) :: cl) env.qual none .none (some env) builtinsNs) { s with heap := (s.heap.push { cls := .type "dict", data := .dict #[] }).push { cls := .type "cell", data := .cell none } }) :
    wpAny M A (newFunctionEnv scope env.globals cl [] env.qual none .none (some env)) Q E s := by
  simp only [newFunctionEnv, Option.isSome_some, if_true]
  refine wpAny_bind (wpAny_alloc ?_)
  refine wpAny_bind (wpAny_layCells _ (fun name kind cells => by cases hkc : kind == NameKind.cell <;> simp [hkc]) _ _ _ _ ?_)
  rw [show ({ s with heap := s.heap.push { cls := .type "dict", data := .dict #[] } } : Shared).heap.objs.size = s.heap.objs.size + 1 from Heap.size_push .., hcells]
  dsimp only
  rw [hpush]
  exact wpAny_bind (wpAny_pure (wpAny_pure hQ))
noncomputable def TurnC (prog : Program) (w : World) (A : Around) (h₀ : Heap) (L : Addr) (m : Str → Option Value) (env : Env) (elt : PySem.Expr) (x : Str) (scope : Scope) (cl : List (Str × Addr)) (s₁ : Shared) (a : Int) (n : Nat) (news : List (Addr × Obj)) (R : Nat → Value → Prop) : Prop :=
  ∀ i t I oI C oC c oc D ys h tk (E' : Value → Shared → Prop), i < n → oc.data = .cell (some (.int (a + (i : Int)) t)) → Fr h₀ L h m → News h₀ L h ((c, oc) :: (I, oI) :: (C, oC) :: (D, LCg.lst ys) :: news) →
    wpAny (model prog w) A (eval elt (compEnvC scope ((x, c) :: cl) C env)) (fun y s' => ∃ h' tk', s' = { s₁ with heap := h', toks := tk' } ∧ Fr h₀ L h' m ∧ News h₀ L h' ((c, oc) :: (I, oI) :: (C, oC) :: (D, LCg.lst ys) :: news) ∧ R i y) E' { s₁ with heap := h, toks := tk }
theorem block_C {elt iter : PySem.Expr} {x : Str} {px : Pos} {scope : Scope} {cl : List (Str × Addr)} {pos : Pos} {s₂ : Shared} {I : Addr} {a : Int} {n : Nat} {news : List (Addr × Obj)} {R : Nat → Value → Prop}
    {RR : Value → Addr → Result → Shared → Prop} (hh : A.handled = none) (hsz : n ≤ sizeLine)
    (hcells : ∀ n, cellsFrom n scope.names cl = (x, n) :: cl) (hpush : ∀ h, pushCells h scope.names = h.push { cls := .type "cell", data := .cell none })
    (hkind : scope.kind = .function) (hx : (relabel scope env).names.lookup x = some .cell) (hst : IsRangeIter s₂.heap I (a + ((0 : Nat) : Int) * 1) ((n : Int) - ((0 : Nat) : Int)) 1)
    (F : Fr h₀ L s₂.heap m) (N : News h₀ L s₂.heap news) (hIL : L ≠ I) (hI₀ : h₀.get? I = none) (off : ∀ p ∈ news, p.1 ≠ I)
    (turn : TurnC prog w A h₀ L m env elt x scope cl s₂ a n news R)
    (hRR : ∀ D C h tk m' ys, ys.length = n → (∀ i y, ys[i]? = some y → R i y) → Fr h₀ L h m → News h₀ L h ((D, LCg.lst ys) :: news) → h.Ns C m' → h₀.get? C = none → C ≠ L → C ≠ D → (∀ p ∈ news, p.1 ≠ C) → (∀ p ∈ news, p.1 < D) → RR (.ref D) C (.ok .next) { s₂ with heap := h, toks := tk }) :
    wpAny (model prog w) A (newList []) (fun acc s₃ => wpAny (model prog w) A (newFunctionEnv scope env.globals cl [] env.qual none .none (some env)) (fun cenv s₄ =>
      codeAny (model prog w) A (.compStart (.ListComp elt [⟨.Name x px, iter, [], 0⟩] scope pos) 0 (.ref I) acc { cenv with scope := relabel scope env }) (RR acc cenv.locals) s₄) E s₃) E s₂ := by
  have W := LCg.range_walks (prog := prog) (w := w) (I := I) hh a n
  refine wpAny_newObj_type (newEnv_comp1 hcells hpush ?_)
  dsimp only
  generalize hH2 : s₂.heap.push { cls := .type "list", dict := none, data := .seq ([] : List Value).toArray } = H2
  have hC : H2.objs.size = s₂.heap.objs.size + 1 := by rw [← hH2, Heap.size_push]
  have hLlt : @LT.lt Nat _ L s₂.heap.objs.size := F.ns.lt
  have hIlt : @LT.lt Nat _ I s₂.heap.objs.size := by
    have st : s₂.heap.get? I = some _ := hst
    exact Heap.lt_size st
  generalize hH3 : (H2.push { cls := .type "dict", data := .dict #[] }) = H3
  have hC3 : H3.objs.size = H2.objs.size + 1 := by rw [← hH3, Heap.size_push]
  generalize hH4 : (H3.push { cls := .type "cell", data := .cell none }) = H4
  have old : ∀ b o, s₂.heap.get? b = some o → H4.get? b = some o := fun b o e => hH4 ▸ Heap.get?_push_of_some _ (hH3 ▸ Heap.get?_push_of_some _ (hH2 ▸ Heap.get?_push_of_some _ e))
  have hD : H4.get? s₂.heap.objs.size = some (LCg.lst []) := hH4 ▸ Heap.get?_push_of_some _ (hH3 ▸ Heap.get?_push_of_some _ (hH2 ▸ Heap.get?_push_size _ rfl))
  have hCo : H4.get? H2.objs.size = some { cls := .type "dict", data := .dict #[] } := hH4 ▸ Heap.get?_push_of_some _ (hH3 ▸ Heap.get?_push_size _ rfl)
  have hco : H4.get? (H2.objs.size + 1) = some { cls := .type "cell", data := .cell none } := by rw [← hC3]; exact hH4 ▸ Heap.get?_push_size _ rfl
  have hNs : H4.Ns H2.objs.size fun _ => none := (hH3 ▸ Heap.Ns.new H2 (.type "dict")).keeps fun b o e => hH4 ▸ Heap.get?_push_of_some _ e
  have fresh₀ : ∀ b, s₂.heap.objs.size ≤ b → h₀.get? b = none := fun b hb => by
    cases e : h₀.get? b with
    | none => rfl
    | some o' => exact absurd (Heap.lt_size (F.keep b o' e)) (Nat.not_lt.mpr hb)
  have hst₁ : IsRangeIter H4 I (a + ((0 : Nat) : Int) * 1) ((n : Int) - ((0 : Nat) : Int)) 1 := old I _ hst
  have nlt : ∀ p ∈ news, @LT.lt Nat _ p.1 s₂.heap.objs.size := fun p hp => Heap.lt_size (N p hp).1
  generalize hDD : s₂.heap.objs.size = D at *
  generalize hCC : H2.objs.size = C at *
  generalize hcc : C + 1 = c at *
  have hDC : @LT.lt Nat _ D C := by (clear hC3 hCC hCo hD hDD hH2 hH3 hH4 hIL hIlt hI₀ hLlt hcc hco hh hkind hsz hx; (first | lia | omega))
  have hCc : @LT.lt Nat _ C c := by (clear hC hC3 hCC hCo hD hDC hDD hH2 hH3 hH4 hIL hIlt hI₀ hLlt hco hh hkind hsz hx; (first | lia | omega))
  have loop : ∀ s₃ : Shared, s₃ = { s₂ with heap := H4 } →
      codeAny (model prog w) A (.compLoop (.ListComp elt [⟨.Name x px, iter, [], 0⟩] scope pos) 0 (.ref I) (.ref D) (compEnvC scope ((x, c) :: cl) C env)) (RR (.ref D) C) s₃ := by
    rintro s₃ rfl
    refine codeAny_compLoop_tests
      (fun k s' => ∃ h' tk i ys oc oC v₀, s' = { s₂ with heap := h', toks := tk } ∧ i ≤ n ∧ k = n + 1 - i ∧ ys.length = i ∧ (∀ i y, ys[i]? = some y → R i y) ∧ IsRangeIter h' I (a + (i : Nat) * 1) ((n : Int) - (i : Nat)) 1 ∧ Fr h₀ L h' m ∧ (∃ m', h'.Ns C m') ∧ h'.get? C = some oC ∧ oc.data = .cell v₀ ∧ News h₀ L h' ((c, oc) :: (D, LCg.lst ys) :: news)) ?_ (n + 1)
      ⟨H4, _, 0, [], { cls := .type "cell", data := .cell none }, _, none, rfl, Nat.zero_le _, rfl, rfl, fun i y e => by simp at e, hst₁, F.keeps old, ⟨_, hNs⟩, hCo, rfl, fun p hp => ?_⟩
    · rintro k s' ⟨h', tk, i, ys, oc, oC, v₀, rfl, hi, rfl, hyl, hys, hst', F', ⟨m', hn'⟩, hoC, hoc, N'⟩
      have nI : ∀ p ∈ (c, oc) :: (D, LCg.lst ys) :: news, p.1 ≠ I := fun p hp => by
        rcases List.mem_cons.mp hp with rfl | hp
        · exact neA (by (clear hCC hCc hCo hD hDC hDD hH2 hH3 hH4 hIL hI₀ hLlt hco hh hi hkind hoC hoc hsz hx hyl; (first | lia | omega)))
        · rcases List.mem_cons.mp hp with rfl | hp
          · exact Nat.ne_of_gt hIlt
          · exact off p hp
      by_cases hlt : i < n
      · refine W.item i _ _ _ hlt hst' fun v h₂ tk₂ hPv hst₂ hk₂ => ?_
        obtain ⟨t, rfl⟩ := hPv
        have N₂ := LCg.news_but N' hk₂ nI
        have F₂ := LCg.fr_but F' hk₂ hIL hI₀
        have zc := N₂ (c, oc) (.head _)
        refine wpAny_assign_Name (wpAny_storeName_cell (c := c) hkind hx (by simp [compEnvC]) ⟨oc, zc.1, hoc⟩ fun h₃ hv hs₃ => ?_)
        refine wpAny_tests_nil ?_
        simp only [if_true]
        obtain ⟨oc2, ho2, hd2⟩ := hv
        have F₃ := F₂.change hs₃ zc.2.1 zc.2.2
        obtain ⟨oI, hrI⟩ : ∃ oI, h₂.get? I = some oI := ⟨_, hst₂⟩
        have hrI3 : h₃.get? I = some oI := (hs₃.2 I (neA (by (clear hCC hCc hCo hD hDC hDD hH2 hH3 hH4 hIL hI₀ hLlt hco hd2 hh hi hkind hlt ho2 hoC hoc hrI hsz hx hyl zc; (first | lia | omega))))).trans hrI
        have hoC2 : h₂.get? C = some oC := hk₂ C oC (by simp only [List.mem_singleton]; exact neA (by (clear hCC hCc hCo hD hDC hDD hH2 hH3 hH4 hIL hI₀ hLlt hco hd2 hh hi hkind hlt ho2 hoC hoc hrI hrI3 hsz hx hyl zc; (first | lia | omega)))) hoC
        have hoC3 : h₃.get? C = some oC := (hs₃.2 C (neA (by (clear hC hC3 hCC hCc hCo hD hDC hDD hH2 hH3 hH4 hIL hIlt hI₀ hLlt hco hd2 hh hi hkind hlt ho2 hoC hoC2 hoc hrI hrI3 hsz hx hyl zc; (first | lia | omega))))).trans hoC2
        have hLC : @Ne Addr C L := neA (by (clear hCC hCc hCo hD hDC hDD hH2 hH3 hH4 hIL hIlt hI₀ hco hd2 hh hi hkind hlt ho2 hoC hoC2 hoC3 hoc hrI hrI3 hsz hx hyl zc; (first | lia | omega)))
        have N₃ : News h₀ L h₃ ((c, oc2) :: (I, oI) :: (C, oC) :: (D, LCg.lst ys) :: news) := fun p hp => by
          rcases List.mem_cons.mp hp with rfl | hp
          · exact ⟨ho2, zc.2⟩
          · rcases List.mem_cons.mp hp with rfl | hp
            · exact ⟨hrI3, Ne.symm hIL, hI₀⟩
            · rcases List.mem_cons.mp hp with rfl | hp
              · exact ⟨hoC3, hLC, fresh₀ _ (by (clear hC3 hCC hCc hCo hD hDC hDD hH2 hH3 hH4 hIL hIlt hI₀ hLC hLlt hcc hco hd2 hh hi hkind hlt ho2 hoC hoC2 hoC3 hoc hrI hrI3 hsz hx hyl zc; (first | lia | omega)))⟩
              · have z := N₂ p (.tail _ hp)
                refine ⟨(hs₃.2 p.1 ?_).trans z.1, z.2⟩
                rcases List.mem_cons.mp hp with rfl | hp
                · exact neA (by (clear hC3 hCC hCc hCo hD hDC hDD hH2 hH3 hH4 hIL hIlt hI₀ hLC hLlt hco hd2 hh hi hkind hlt ho2 hoC hoC2 hoC3 hoc hrI hrI3 hsz hx hyl z zc; (first | lia | omega)))
                · have := nlt p hp; exact neA (by (clear hCC hCc hCo hD hDC hDD hH2 hH3 hH4 hIL hIlt hI₀ hLC hLlt hco hd2 hh hi hkind hlt ho2 hoC hoC2 hoC3 hoc hrI hrI3 hsz hx hyl z zc; (first | lia | omega)))
        refine wpAny_mono (turn i t I oI C oC c oc2 D ys h₃ _ _ hlt hd2 F₃ N₃) (fun y s₄ h₄ => ?_) fun _ _ e => e
        obtain ⟨h₄, tk₄, rfl, F₄, N₄, hy⟩ := h₄
        have zD := (N₄ (D, LCg.lst ys) (.tail _ (.tail _ (.tail _ (.head _)))))
        have zI := (N₄ (I, oI) (.tail _ (.head _))).1
        have zC := (N₄ (C, oC) (.tail _ (.tail _ (.head _)))).1
        refine append_at (hsz := by show ys.toArray.size ≤ sizeLine; rw [List.size_toArray, hyl]; exact Nat.le_trans hi hsz) zD.1 fun h₅ hs₅ hD₅ => ?_
        have hDL : @Ne Addr D L := neA (by (clear hCC hCc hCo hD hDC hDD hD₅ hH2 hH3 hH4 hIL hIlt hI₀ hLC hco hd2 hh hi hkind hlt ho2 hoC hoC2 hoC3 hoc hrI hrI3 hsz hx hyl zC zD zI zc; (first | lia | omega)))
        have hC5 : h₅.get? C = some oC := (hs₅.2 C (neA (by (clear hC3 hCC hCc hCo hD hDC hDD hDL hD₅ hH2 hH3 hH4 hIL hIlt hI₀ hLC hLlt hcc hco hd2 hh hi hkind hlt ho2 hoC hoC2 hoC3 hoc hrI hrI3 hsz hx hyl zC zD zI zc; (first | lia | omega))))).trans zC
        refine ⟨n + 1 - (i + 1), by (clear hC hC3 hC5 hCC hCc hCo hD hDC hDD hDL hD₅ hH2 hH3 hH4 hIL hIlt hI₀ hLC hLlt hcc hco hd2 hh hi hkind ho2 hoC hoC2 hoC3 hoc hrI hrI3 hsz hx zC zD zI zc; (first | lia | omega)), h₅, tk₄, i + 1, ys ++ [y], oc2, oC, _, rfl, hlt, rfl, by rw [List.length_append, List.length_singleton, hyl], ?_, ?_, F₄.change hs₅ hDL zD.2.2, ?_, hC5, hd2, fun p hp => ?_⟩
        · intro j y' hj
          rw [List.getElem?_append] at hj
          split at hj
          · exact hys j y' hj
          · rename_i hjn
            have : j = ys.length := by
              have := (List.getElem?_eq_some_iff.mp hj).1
              simp at this; (clear hC hC3 hC5 hCC hCc hCo hD hDC hDD hDL hD₅ hH2 hH3 hH4 hIL hIlt hI₀ hLC hLlt hcc hco hd2 hh hi hj hkind hlt ho2 hoC hoC2 hoC3 hoc hrI hrI3 hsz hx hyl zC zD zI zc; (first | lia | omega))
            subst this
            simp at hj
            rw [hyl, ← hj]; exact hy
        · show h₅.get? I = some _
          rw [hs₅.2 I (neA (by (clear hC5 hCC hCc hCo hD hDC hDD hDL hD₅ hH2 hH3 hH4 hIL hI₀ hLC hLlt hco hd2 hh hi hkind hlt ho2 hoC hoC2 hoC3 hoc hrI hrI3 hsz hx hyl zC zD zI zc; (first | lia | omega)))), zI, ← hrI]; exact hst₂
        · obtain ⟨oC', es, ep, e1, e2, e3, e4⟩ := hn'
          rw [hoC] at e1; cases e1
          exact ⟨_, oC, es, ep, hC5, e2, e3, e4⟩
        · rcases List.mem_cons.mp hp with rfl | hp
          · have z := N₄ (c, oc2) (.head _)
            exact ⟨(hs₅.2 c (neA (by (clear hC3 hC5 hCC hCc hCo hD hDC hDD hDL hD₅ hH2 hH3 hH4 hIL hIlt hI₀ hLC hLlt hco hd2 hh hi hkind hlt ho2 hoC hoC2 hoC3 hoc hrI hrI3 hsz hx hyl z zC zD zI zc; (first | lia | omega))))).trans z.1, z.2⟩
          · rcases List.mem_cons.mp hp with rfl | hp
            · exact ⟨hD₅.trans (congrArg some (LCg.lst_snoc ys y)), hDL, zD.2.2⟩
            · have z := N₄ p (.tail _ (.tail _ (.tail _ (.tail _ hp))))
              exact ⟨(hs₅.2 p.1 (by have := nlt p hp; exact neA (by (clear hC5 hCC hCc hCo hD hDC hDD hDL hD₅ hH2 hH3 hH4 hIL hIlt hI₀ hLC hLlt hco hd2 hh hi hkind hlt ho2 hoC hoC2 hoC3 hoc hrI hrI3 hsz hx hyl z zC zD zI zc; (first | lia | omega))))).trans z.1, z.2⟩
      · obtain rfl : i = n := Nat.le_antisymm hi (Nat.not_lt.mp hlt)
        refine W.done _ _ _ hst' fun h₂ tk₂ hk₂ => ?_
        have N₂ := LCg.news_but N' hk₂ nI
        exact hRR D C h₂ tk₂ m' ys hyl hys (LCg.fr_but F' hk₂ hIL hI₀) (fun p hp => N₂ p (.tail _ hp)) (hn'.at' fun o e => hk₂ _ o (by simp only [List.mem_singleton]; exact neA (by (clear e hCC hCc hCo hD hDC hDD hH2 hH3 hH4 hIL hI₀ hLlt hco hh hi hkind hlt hoC hoc hsz hx hyl; (first | lia | omega)))) e) (fresh₀ _ (by (clear hC3 hCC hCc hCo hD hDC hDD hH2 hH3 hH4 hIL hIlt hI₀ hLlt hcc hco hh hi hkind hlt hoC hoc hsz hx hyl; (first | lia | omega)))) (neA (by (clear hCC hCc hCo hD hDC hDD hH2 hH3 hH4 hIL hIlt hI₀ hco hh hi hkind hlt hoC hoc hsz hx hyl; (first | lia | omega)))) (neA (by (clear hC3 hCC hCc hCo hD hDC hDD hH2 hH3 hH4 hIL hIlt hI₀ hLlt hcc hco hh hi hkind hlt hoC hoc hsz hx hyl; (first | lia | omega)))) (fun p hp => by have := nlt p hp; exact neA (by (clear hCC hCc hCo hD hDC hDD hH2 hH3 hH4 hIL hIlt hI₀ hLlt hco hh hi hkind hlt hoC hoc hsz hx hyl; (first | lia | omega)))) nlt
    · rcases List.mem_cons.mp hp with rfl | hp
      · exact ⟨hco, neA (by (clear hCC hCc hCo hD hDC hDD hH2 hH3 hH4 hIL hIlt hI₀ hco hh hkind hsz hx; (first | lia | omega))), fresh₀ _ (by (clear hC3 hCC hCc hCo hD hDC hDD hH2 hH3 hH4 hIL hIlt hI₀ hLlt hco hh hkind hsz hx; (first | lia | omega)))⟩
      · rcases List.mem_cons.mp hp with rfl | hp
        · exact ⟨hD, Nat.ne_of_gt hLlt, fresh₀ _ (Nat.le_refl _)⟩
        · exact ⟨old _ _ (N p hp).1, (N p hp).2⟩
  exact codeAny_compStart_list (loop _ rfl) (W.self 0 _ _ _ hst₁ (loop _ rfl))
noncomputable def SrcC (prog : Program) (w : World) (A : Around) (h₀ : Heap) (L : Addr) (m : Str → Option Value) (env : Env) (elt : PySem.Expr) (x : Str) (scope : Scope) (cl : List (Str × Addr)) (Q : Value → Shared → Prop) (xv : Value) (s₁ : Shared) : Prop :=
  ∃ r a b t u v n news R, xv = .ref r ∧ A.handled = none ∧ Fr h₀ L s₁.heap m ∧ News h₀ L s₁.heap news ∧ IsRange s₁.heap r a b 1 t u v ∧ Builtin.Range.small a b 1 = true ∧ Builtin.Range.rangeSize a b 1 = ((n : Nat) : Int) ∧ n ≤ sizeLine ∧
    (∀ g, TurnC prog w A h₀ L m env elt x scope cl { s₁ with heap := g } a n news R) ∧
    (∀ D ys h tk, ys.length = n → (∀ i y, ys[i]? = some y → R i y) → Fr h₀ L h m → News h₀ L h ((D, LCg.lst ys) :: news) → (∀ p ∈ news, p.1 < D) → Q (.ref D) { s₁ with heap := h, toks := tk })
theorem ListComp_C {elt iter : PySem.Expr} {x : Str} {px : Pos} {scope : Scope} {cl : List (Str × Addr)} {pos : Pos} {Q : Value → Shared → Prop} (F₀ : Fr h₀ L s.heap m)
    (hclos : closureFor scope env = pure cl) (hcells : ∀ n, cellsFrom n scope.names cl = (x, n) :: cl) (hpush : ∀ h, pushCells h scope.names = h.push { cls := .type "cell", data := .cell none })
    (hkind : scope.kind = .function) (hnames : ∀ y ∈ scope.names, y.2 = .local → scope.names.lookup y.1 = some .local) (hx : (relabel scope env).names.lookup x = some .cell)
    (h : wpAny (model prog w) A (eval iter env) (SrcC prog w A h₀ L m env elt x scope cl Q) E s)
    (hs : ∀ x, foldedSetIterable iter env x = pure x := by intro _; rfl) :
    wpAny (model prog w) A (eval (.ListComp elt [⟨.Name x px, iter, [], 0⟩] scope pos) env) Q E s := by
  rw [eval_ListComp]
  refine wpAny_comprehension_free (use := none) rfl hs hclos hkind hnames (wpAny_mono h (fun xv s₁ h₁ => ?_) fun _ _ e => e)
  obtain ⟨r, a, b, t, u, v, n, news, R, rfl, hh, F, N, hr, hsm, hn, hsz, turn, fin⟩ := h₁
  refine wpAny_pyIter_range hr hsm ?_
  refine block_C (I := s₁.heap.objs.size) (R := R) hh hsz hcells hpush hkind hx (by show IsRangeIter _ _ _ _ _; rw [hn]; simpa using Heap.get?_push_size _ rfl)
    (F.keeps fun _ _ e => Heap.get?_push_of_some _ e) (N.grown fun _ _ e => Heap.get?_push_of_some _ e) (Nat.ne_of_lt F.ns.lt) (next_is_new F) (fun p hp => Nat.ne_of_lt (Heap.lt_size (N p hp).1)) (turn _) ?_
  intro D C h' tk m' ys hyl hys F' N' hn' hC₀ hCL hCD offC hlt
  refine ⟨m', hn', fun h'' hs'' => fin D ys h'' tk hyl hys (F'.change hs'' hCL hC₀) (fun p hp => ?_) hlt⟩
  refine ⟨hs''.extBut _ _ ?_ (N' p hp).1, (N' p hp).2⟩
  rcases List.mem_cons.mp hp with rfl | hp
  · exact Ne.symm hCD
  · exact offC p hp
end
end Mine
end
section -- YLam
open PySem PySem.W PySem.Calls PyProof.Rows PyProof.V PySem.Spec
set_option maxRecDepth 100000
set_option maxHeartbeats 1000000
namespace Mine
theorem off_YLam : True := by w_top off; trivial
section
variable {prog : Program} {w : World} {A : Around} {E : Value → Shared → Prop} {s : Shared} {K : Frag} {Q : Value → Shared → Prop} {g : Heap}
  {p : Program} {loose : List Str} {mean : ExcName → Option Value} {mg mb : Str → Option Value}
  {name qual : Str} {params : Arguments} {body : List Stmt} {scope : Scope} {dV kV doc pm cdv ct oc : Value} {an od : Option Addr} {osl : Array (Option Value)} {f : Addr} {args : List Value}
theorem enterAtC (binds : List (Str × Value)) (kk : ∀ b o, g.get? b = some o → s.heap.get? b = some o) (hz : g.objs.size ≤ s.heap.objs.size) (X : K.In g) (T : Top p loose mean mg mb g)
    (ho : K.lookup f = some ⟨oc, od, .func (fnOf name qual params body scope dV kV doc pm an cdv ct), osl⟩) (hcd : codeIn K cdv qual = true) (hroom : A.depth < recursionLimit)
    (hbind : BindsTo s (fnOf name qual params body scope dV kV doc pm an cdv ct) ⟨args, []⟩ binds) (hkind : (binds.all fun y => scope.names.lookup y.1 == some .local || scope.names.lookup y.1 == some .cell) = true)
    (hnd : ((cellsFrom 0 scope.names []).map (·.1)).Nodup)
    (hco : scope.isCoroutine = false) (hgen : scope.isGenerator = false) (hk : scope.kind = .function)
    (h : ∀ L h₁ tk cells, Fr g L h₁ (bindL (envOfC qual scope L f cdv).kindOf binds fun _ => none) → News g L h₁ cells →
      CellsAre (bindC (envOfC qual scope L f cdv).kindOf binds fun _ => none) (cellsFrom (L + 1) scope.names []) cells → (∀ b o, s.heap.get? b = some o → h₁.get? b = some o) → L = s.heap.objs.size →
      wpAny (model prog w) (A.deeper (envOfC qual scope L f cdv)) (execs body (envOfC qual scope L f cdv))
        (fun fl s' => Q (match fl with | .ret v => v | _ => .none) s') (fun _ _ => False)
        { s with heap := h₁, toks := tk }) :
    wpAny (model prog w) A (call (.ref f) args) Q E s := by
  refine wpAny_call (codeAny_call_function hroom ((X.keeps kk) _ _ ho) rfl hco hgen rfl (codeRec_of (X.keeps kk) hcd) (hbind _ _ _ _ ?_))
  refine wpAny_newFunctionEnv_cells hk (kindsX hkind _) fun env' he s' x => ?_
  subst he
  refine ⟨(T.nolimit.keeps kk).keeps x.toInCall.keep, codeAny_func ?_⟩
  obtain ⟨h₁, tk, rfl, _⟩ := x.done
  have hk₁ := x.toInCall.keep
  obtain ⟨cells, NC, Y⟩ := Cl.news (h₀ := g) hz fun n c hm => ⟨x.cell n c (lookup_of_mem_nodup (cellsFrom_names scope.names 0 (s.heap.objs.size + 1) [] [] rfl ▸ hnd) hm), x.above n c hm⟩
  exact wpAny_mono (h s.heap.objs.size h₁ tk cells ⟨x.toInCall.ns, fun b o e => hk₁ b o (kk b o e), hz⟩ NC Y hk₁ rfl) (fun _ _ x => x) fun _ _ x => x.elim
end
section
variable {prog : Program} {w : World} {A : Around} {E : Value → Shared → Prop} {s : Shared} {K : Frag} {Q : Value → Shared → Prop} {h₀ : Heap} {L : Addr} {m : Str → Option Value} {news : List (Addr × Obj)}
  {p : Program} {loose : List Str} {mean : ExcName → Option Value} {mg mb : Str → Option Value}
  {name qual : Str} {params : Arguments} {body : PySem.Expr} {scope : Scope} {cl : List (Str × Addr)} {pm ctv : Value} {c' f : Addr} {args : List Value}
theorem enterL (binds : List (Str × Value)) (F : Fr h₀ L s.heap m) (N : News h₀ L s.heap news) (X : K.In h₀) (T : Top p loose mean mg mb h₀)
    (ho : (f, kla_obj name qual params body scope cl pm c' ctv) ∈ news) (hcd : s.heap.CodeRec (.ref c') qual) (hroom : A.depth < recursionLimit)
    (hbind : bindArgs (kla_fn name qual params body scope cl pm (.ref c') ctv) ⟨args, []⟩ = pure binds) (hloc : ∀ y ∈ binds, scope.names.lookup y.1 = some .local)
    (hco : scope.isCoroutine = false) (hgen : scope.isGenerator = false) (hk : scope.kind = .function) (hcell : ∀ x ∈ scope.names, x.2 ≠ .cell)
    (h : ∀ g L' h₁, Fr h₀ L g m → Fr g L' h₁ (fun y => binds.reverse.lookup y) → News g L' h₁ news → K.In g → Top p loose mean mg mb g → L' = s.heap.objs.size →
      wpAny (model prog w) (A.deeper (envX qual scope L' f (.ref c') cl)) (eval body (envX qual scope L' f (.ref c') cl))
        (fun v s' => LeaveK h₀ L m g (fun r s' => match r with | .ok (.ret v) => Q v s' | .ok _ => False | .error e => E e s') v s') (fun _ _ => False)
        { s with heap := h₁, toks := s.toks + binds.length }) :
    wpAny (model prog w) A (call (.ref f) args) Q E s := by
  obtain ⟨FG, st, lv⟩ := groundM F N (R := fun r s' => match r with | .ok (.ret v) => Q v s' | .ok _ => False | .error e => E e s')
  refine wpAny_call (kla_callFunE hroom (N _ ho).1 rfl hco hgen rfl hcd ?_)
  rw [hbind]
  refine wpAny_pure (wpAny_newFunctionEnv hcell hloc (fun h₁ hns hsb => ⟨((T.nolimit).keeps F.keep).fresh _ hsb, ?_⟩) hk)
  show codeAny _ _ (.expr body (envX qual scope s.heap.objs.size f (.ref c') cl)) _ _
  have hk₁ : ∀ b o, s.heap.get? b = some o → h₁.get? b = some o := fun b o e => hsb.extBut b o (Nat.ne_of_lt (Heap.lt_size e)) (Heap.get?_push_of_some _ e)
  exact kla_codeExpr (wpAny_mono (h _ s.heap.objs.size h₁ FG ⟨hns, fun b o e => hk₁ b o (of_hideAll _ e), Nat.le_of_eq (hideAll_size _ _)⟩
    (fun p hp => ⟨hk₁ _ _ (N p hp).1, Nat.ne_of_lt (Heap.lt_size (N p hp).1), hideAll_none _ (List.mem_map_of_mem hp)⟩) (X.keeps st) (T.keeps st) rfl) (fun v s' hl => lv _ _ hl) fun _ _ y => y.elim)
end
end Mine
end
section -- YClo
open PySem PySem.W PySem.Calls PyProof.Rows PyProof.V PySem.Spec
set_option maxRecDepth 100000
set_option maxHeartbeats 1000000
namespace Mine
theorem off_YClo : True := by w_top off; trivial
variable {prog : Program} {w : World} {p : Program} {loose : List Str} {mean : ExcName → Option Value} {mg mb : Str → Option Value}
theorem ints_of {f : Nat → Int} : ∀ {n : Nat} {ys : List Value}, ys.length = n → (∀ (i : Nat) (y : Value), ys[i]? = some y → ∃ t, y = Value.int (f i) t) → IntsAre ys ((List.range n).map f) := by
  intro n
  induction n with
  | zero => intro ys hl _; have : ys = [] := List.length_eq_zero_iff.mp hl; subst this; exact .nil
  | succ n ih =>
    intro ys hl h
    have hne : ys ≠ [] := by intro e; subst e; simp at hl
    have e : ys = ys.dropLast ++ [ys.getLast hne] := (List.dropLast_concat_getLast hne).symm
    have hdl : ys.dropLast.length = n := by rw [List.length_dropLast, hl]; rfl
    generalize ys.getLast hne = x at e
    generalize ys.dropLast = zs at e hdl
    subst e
    obtain ⟨t, rfl⟩ := h n x (by rw [← hdl, List.getElem?_append_right (Nat.le_refl _), Nat.sub_self]; rfl)
    rw [List.range_succ, List.map_append]
    exact ints_snoc' (ih hdl fun i y hy => h i y (by rw [List.getElem?_append_left (List.getElem?_eq_some_iff.mp hy).1]; exact hy)) _ _
theorem news_perm' {h₀ h : Heap} {L : Addr} {a b : List (Addr × Obj)} (N : News h₀ L h a) (k : ∀ q ∈ b, q ∈ a) : News h₀ L h b := fun q hq => N q (k q hq)
theorem allLt_mem {d : Nat} {l : List (Addr × Obj)} (h : AllLt d l) : ∀ q ∈ l, @LT.lt Nat _ q.1 d := by
  induction l with
  | nil => intro q hq; cases hq
  | cons p r ih =>
    intro q hq
    have h' : @LT.lt Nat _ p.1 d ∧ AllLt d r := h
    rcases List.mem_cons.mp hq with e | hq
    · rw [e]; exact h'.1
    · exact ih h'.2 q hq
theorem keyEnd_of {h₀ h' : Heap} {L tp : Addr} {m : Str → Option Value} {news rest : List (Addr × Obj)} {key : Int × Int} {s : Shared} {t1 t2 : Tok} {tk : Nat} (F : Fr h₀ L h' m) (N : News h₀ L h' ((tp, tup2 key t1 t2) :: rest)) (hp : ∀ q ∈ news, q ∈ rest) (hne : ∀ q ∈ rest, q.1 ≠ tp) :
    KeyEnd h₀ L m news key s (.ref tp) { s with heap := h', toks := tk } :=
  ⟨h', tk, tp, t1, t2, rfl, rfl, F, fun q hq => by
    rcases List.mem_cons.mp hq with rfl | hq
    · exact N _ (.head _)
    · exact N q (.tail _ (hp q hq)), fun q hq => hne q (hp q hq)⟩
theorem minOf_spec (d : Nat) : ∀ l : List Nat, (minOf d l = d ∨ minOf d l ∈ l) ∧ minOf d l ≤ d ∧ ∀ x ∈ l, minOf d l ≤ x
  | [] => ⟨.inl rfl, Nat.le_refl _, fun x hx => by cases hx⟩
  | x :: r => by
    obtain ⟨h1, h2, h3⟩ := minOf_spec d r
    unfold minOf
    refine ⟨?_, by (clear h1; (first | lia | omega)), fun y hy => ?_⟩
    · by_cases hx : x ≤ minOf d r
      · rw [Nat.min_eq_left hx]; exact .inr (.head _)
      · rw [Nat.min_eq_right (by (clear h1 h2; (first | lia | omega)))]
        rcases h1 with h1 | h1
        · exact .inl h1
        · exact .inr (.tail _ h1)
    · rcases List.mem_cons.mp hy with rfl | hy
      · (clear h1 h2; (first | lia | omega))
      · have := h3 y hy; (clear h1 h2; (first | lia | omega))
theorem ends_eq {ms : List Int} {i : Nat} {M : Int} (hi : i < 6) (h1 : M ∈ ((List.range (6 - (i + 1))).filter fun j => decide (ms.getD (i + 1 + j) 0 ≤ ms.getD i 0)).map (fun (j : Nat) => (i : Int) + 1 + (j : Int)) ++ [6]) (h2 : ∀ a, a ∈ ((List.range (6 - (i + 1))).filter fun j => decide (ms.getD (i + 1 + j) 0 ≤ ms.getD i 0)).map (fun (j : Nat) => (i : Int) + 1 + (j : Int)) ++ [6] → M ≤ a) : M = (endsOf ms i : Nat) := by
  obtain ⟨f1, f2, f3⟩ := minOf_spec 6 ((List.range' (i + 1) (5 - i)).filter fun m => decide (ms.getD m 0 ≤ ms.getD i 0))
  have hm : ∀ x : Nat, x ∈ ((List.range' (i + 1) (5 - i)).filter fun m => decide (ms.getD m 0 ≤ ms.getD i 0)) ↔ ((x : Nat) : Int) ∈ ((List.range (6 - (i + 1))).filter fun j => decide (ms.getD (i + 1 + j) 0 ≤ ms.getD i 0)).map (fun (j : Nat) => (i : Int) + 1 + (j : Int)) := by
    intro x
    simp only [List.mem_filter, List.mem_range', List.mem_map, List.mem_range, decide_eq_true_eq]
    constructor
    · rintro ⟨⟨j, hj, rfl⟩, hx⟩
      refine ⟨j, ⟨by (clear f1 f2 hx; (first | lia | omega)), ?_⟩, by (clear f1 f2 hi hj hx; (first | lia | omega))⟩
      have e : i + 1 + 1 * j = i + 1 + j := by (clear f1 f2 hi hj hx; (first | lia | omega))
      rw [e] at hx; exact hx
    · rintro ⟨j, ⟨hj, hx⟩, e⟩
      have e' : x = i + 1 + j := by (clear f1 f2 hi hj hx; (first | lia | omega))
      subst e'
      exact ⟨⟨j, by (clear e f1 f2 hx; (first | lia | omega)), by (clear e f1 f2 hi hj hx; (first | lia | omega))⟩, hx⟩
  unfold endsOf
  refine Int.le_antisymm ?_ ?_
  · rcases f1 with f1 | f1
    · rw [f1]; exact h2 _ (by simp)
    · exact h2 _ (List.mem_append_left _ ((hm _).mp f1))
  · rcases List.mem_append.mp h1 with h | h
    · obtain ⟨j, hj, rfl⟩ := List.mem_map.mp h
      have := f3 (i + 1 + j) ((hm _).mpr (List.mem_map.mpr ⟨j, hj, by (clear f1 f2 hi; (first | lia | omega))⟩))
      (clear f1 f2 hi; (first | lia | omega))
    · rw [List.mem_singleton.mp h]
      (clear f1 hi; (first | lia | omega))
theorem closing_spec {A : Around} (hdep : A.depth + 3 < recursionLimit) (hh : A.handled = none) {s : Shared} {D : Addr} {us : List Value} {ms : List Int} {Q E : Value → Shared → Prop}
   (X : (hd.heap_1 w.params).In (s.heap.hide 206)) (T : Top p loose mean mg mb (s.heap.hide 206)) (ht : s.heap.get? 206 = some (tabObj #[])) (hl : (s.heap.hide 206).IsList D us.toArray) (hi : IntsAre us ms) (h6 : ms.length = 6)
   (hok : evalOk 6 (lexlt (keysOf ms)) (kas_sort 6) = true) (hperm : ∀ i ∈ closing ms, i < 6)
   (h : ∀ h' R vs n tk, (∀ b o, b ≠ 206 → s.heap.get? b = some o → h'.get? b = some o) → (∃ ps, h'.get? 206 = some (tabObj ps)) → s.heap.get? R = none → h'.get? R = some (listObj vs.toArray n) → IntsAre vs ((closing ms).map fun (i : Nat) => (i : Int)) → Q (.ref R) { s with heap := h', toks := tk }) :
   wpAny (model PySem.Challenge.pw_xo0007_01 w) A (call (.ref 209) [.ref D]) Q E s := by
  k_dflt (refine' enterAtC [("depths", .ref D)] (fun b o e => Heap.of_hide e) (Nat.le_of_eq (Heap.hide_size _ _)) X T ?o ?c ?r ?b ?lo ?nd ?c2 ?c3 ?c4 ?_; (case o => k_is); (case c => k_is); (case b => exact BindsTo.of_eq rfl); (case r => (walk_at "m_room")); (case lo => exact rfl); (case nd => decide); (case c2 => exact rfl); (case c3 => exact rfl); (case c4 => exact rfl))
  intro L h1 tk1 cells F Y0 Y kk hL
  k_cells Y
  try dsimp only [List.reverse_cons, List.reverse_nil, List.nil_append, List.append_nil, List.cons_append, List.length_cons, List.length_nil] at F ⊢
  try k_fold
  have hC : CodeHd (s.heap.hide 206) 208 206 := codeHd_of_K X (by kernel_rfl)
  have hLt : @LT.lt Nat _ 206 L := hL ▸ Heap.lt_size ht
  rename_i oce ocd dce dcd
  have hLt2 : (206 : Addr) < L + 1 := Nat.lt_succ_of_lt hLt
  have hLt3 : (206 : Addr) < L + 1 + 1 := Nat.lt_succ_of_lt hLt2
  have N1 : News (s.heap.hide 206) L h1 [(L + 1 + 1, oce), (L + 1, ocd), (206, tabObj #[])] := fun q hq => by
    simp only [List.mem_cons, List.mem_nil_iff, or_false] at hq
    rcases hq with rfl | rfl | rfl
    · exact Y0 _ (.head _)
    · exact Y0 _ (.tail _ (.head _))
    · exact ⟨kk _ _ ht, Nat.ne_of_lt hLt, Heap.hide_self _ _⟩
  clear Y0
  w_strict (repeat' ((fail_if_success (with_reducible show wpAny _ _ (exec (Stmt.For _ _ _ _ _) _) _ _ _)); (fail_if_success (with_reducible show wpAny _ _ (pyIter _) _ _ _)); walk1))
  have dcd' : ocd.data = .cell (some (.ref D)) := dcd
  have dce' : oce.data = .cell none := dce
  k_here
  k_dflt (refine' ListComp_C F ?cl ?ce ?pu ?ki ?na ?x ?_)
  case cl => with_unfolding_all rfl
  case ce => exact fun n => rfl
  case pu => exact fun h => rfl
  case ki => rfl
  case na => decide
  case x => rfl
  k_whole
  w_strict (repeat' ((fail_if_success (with_reducible show wpAny _ _ (exec (Stmt.For _ _ _ _ _) _) _ _ _)); walk1))
  rename_i h2 tk2 t2 u2 v2 hr2 F2 N2 _
  refine ⟨_, _, _, _, _, _, 6, _, fun i y => ∃ t, y = .int (endsOf ms i : Nat) t, rfl, hh, F2, N2, hr2, by decide, by decide, by rw [sizeLine_eq]; decide, fun g => ?_, ?_⟩
  · intro i t I oI C oC c oc D' ys h3 tk3 E' hi6 hoc F3 N3
    rw [Int.zero_add] at hoc
    w_strict (repeat' ((fail_if_success (with_reducible show wpAny _ _ (exec (Stmt.For _ _ _ _ _) _) _ _ _)); walk1))
    k_here
    k_dflt (refine LCt.ListComp_T (F₀ := by k_asm) (by with_unfolding_all rfl) (by decide) (by rfl) (by decide) (by rfl) ?_)
    w_strict (repeat' ((fail_if_success (with_reducible show wpAny _ _ (exec (Stmt.For _ _ _ _ _) _) _ _ _)); walk1))
    rename_i h6 tk6 t6 u6 v6 hr6 F6 N6 _
    refine LCt.CompSrcT.range (n := 6 - (i + 1)) hh F6 N6 hr6 (small_one (by (clear dcd dcd' dce dce' hL hLt hLt2 hLt3 hdep hh hoc hok ht; (first | lia | omega))) (by (clear dcd dcd' dce dce' hL hLt hLt2 hLt3 hdep hh hoc hok ht; (first | lia | omega))) (by (clear dcd dcd' dce dce' hL hLt hLt2 hLt3 hdep hh hi6 hoc hok ht; (first | lia | omega))) (by (clear dcd dcd' dce dce' hL hLt hLt2 hLt3 hdep hh hi6 hoc hok ht; (first | lia | omega)))) (by rw [rangeSize_nat]; (clear dcd dcd' dce dce' hL hLt hLt2 hLt3 hdep hh hoc hok ht; (first | lia | omega))) (by rw [sizeLine_eq]; (clear dcd dcd' dce dce' hL hLt hLt2 hLt3 hdep hh hoc hok ht; (first | lia | omega))) fun g2 => ?_
    refine comp_ints (fun j => decide (ms.getD (i + 1 + j) 0 ≤ ms.getD i 0)) rfl rfl (by decide) ?_ ?_
    · intro j tj ys2 I2 oI2 C2 oC2 D2 m2 h7 tk7 E' hj hC hm2 F7 N7 off ne
      w_strict (repeat' ((fail_if_success (with_reducible show wpAny _ _ (exec (Stmt.For _ _ _ _ _) _) _ _ _)); walk1))
      · exact F7
      · exact N7
    · intro ys2 hys2 D3 h7 tk7 F7 N7 off
      w_strict (repeat' ((fail_if_success (with_reducible show wpAny _ _ (exec (Stmt.For _ _ _ _ _) _) _ _ _)); walk1))
      rename_i l2 h8 F8 N8 l2lt
      have hysl : ys2.length ≤ 6 := by
        have e1 := hys2.length
        rw [List.length_map] at e1
        have e2 := List.length_filter_le (fun j => decide (ms.getD (i + 1 + j) 0 ≤ ms.getD i 0)) (List.range (6 - (i + 1)))
        rw [List.length_range] at e2
        (clear dcd dcd' dce dce' hL hLt hLt2 hLt3 hdep hh hoc hok ht l2lt; (first | lia | omega))
      k_here
      k_dflt (refine' add_lists (vs := ys2) (ws := [.int 6 tk7]) ?aF ?aN ?aa ?ab ?_ ?az)
      case aF => k_asm
      case aN => k_asm
      case aa => exact ⟨_, N8.get (.tail _ (.head _)), rfl, _, rfl⟩
      case ab => exact ⟨_, N8.get (.head _), rfl, _, rfl⟩
      case az => rw [sizeLine_eq]; simp; (clear dcd dcd' dce dce' hL hLt hLt2 hLt3 hdep hh hi6 hoc hok ht l2lt; (first | lia | omega))
      k_whole
      intro h9 F9 N9
      w_strict (repeat' ((fail_if_success (with_reducible show wpAny _ _ (exec (Stmt.For _ _ _ _ _) _) _ _ _)); walk1))
      k_here
      k_dflt (refine' kso_min ?aF ?aN ?aa (ints_snoc' hys2 6 tk7) ?an ?ah ?_)
      case aF => k_asm
      case aN => k_asm
      case aa => exact ⟨_, N9.get (.head _), rfl, _, rfl⟩
      case an => simp
      case ah => with_unfolding_all assumption
      k_whole
      intro h10 M tM kM F10 N10 hM1 hM2
      w_strict (repeat' ((fail_if_success (with_reducible show wpAny _ _ (exec (Stmt.For _ _ _ _ _) _) _ _ _)); walk1))
      · exact F10
      · exact fun q hq => N10 q (.tail _ (.tail _ (.tail _ hq)))
      · exact congrArg (fun x => Value.int x tM) (ends_eq hi6 hM1 hM2)
  · intro De ys h3 tk3 hyl hys F3 N3 hlt
    w_strict (repeat' ((fail_if_success (with_reducible show wpAny _ _ (exec (Stmt.For _ _ _ _ _) _) _ _ _)); walk1))
    rename_i h4 oe2 F4 N4 hoe h5 tk5 t5 u5 v5 hr5 F5 N5 _
    have hIys : IntsAre ys ((List.range 6).map fun i => ((endsOf ms i : Nat) : Int)) := ints_of (n := 6) hyl hys
    rw [List.cons_append, List.nil_append] at N5
    obtain ⟨ro, hro⟩ : ∃ ro, h5.get? h4.objs.size = some ro := ⟨_, hr5⟩
    have hL4 : @LT.lt Nat _ L h4.objs.size := F4.ns.lt
    have N5r : News (s.heap.hide 206) L h5 [(De, LCg.lst ys), (L + 1 + 1, oe2), (L + 1, ocd), (206, tabObj #[]), (h4.objs.size, ro)] := fun q hq => by
      simp only [List.mem_cons, List.mem_nil_iff, or_false] at hq
      rcases hq with rfl | rfl | rfl | rfl | rfl
      · exact N5 _ (.head _)
      · exact N5 _ (.tail _ (.head _))
      · exact N5 _ (.tail _ (.tail _ (.head _)))
      · exact N5 _ (.tail _ (.tail _ (.tail _ (.head _))))
      · exact ⟨hro, Nat.ne_of_gt hL4, Heap.get?_none_of_le (Nat.le_trans F4.above (Nat.le_of_lt hL4))⟩
    clear N5
    have hDe : @LT.lt Nat _ 206 De := Nat.lt_trans hLt3 (hlt _ (.head _))
    k_here
    k_dflt (refine' kla_eval ?ld ?_; (case ld => exact rfl))
    k_dflt (refine' kla_nest (P := 206) ?lF ?lN ?lT hC ?lcd ?lU ?lt ?ln ?lcl ?_; (case lF => k_asm); (case lN => exact N5r); (case lT => exact T); (case lcd => exact rfl); (case lU => exact UpdF.tail (Nat.ne_of_gt hDe) (UpdF.tail (Nat.ne_of_gt hLt3) (UpdF.tail (Nat.ne_of_gt hLt2) (UpdF.head (List.forall_mem_cons.mpr ⟨Nat.ne_of_gt (Nat.lt_trans hLt hL4), fun _ hq => by cases hq⟩))))); (case lt => kn_triples); (case ln => kn_among); (case lcl => exact rfl))
    k_whole
    intro fl c' oc' vs' t' ct' h6 tk6 F6 N6 d1 d2 l1 l2
    w_strict (repeat' ((fail_if_success (with_reducible show wpAny _ _ (exec (Stmt.For _ _ _ _ _) _) _ _ _)); walk1))
    show wpAny _ _ (call (.builtin "sorted") [.ref h4.objs.size] [(Str.ofString "key", .ref fl)]) _ _ _
    refine sorted_by (keys := keysOf ms) (by with_unfolding_all assumption) F6 N6 (by show h6.get? _ = some _; rw [(N6 _ (.tail _ (.tail _ (.tail _ (.tail _ (.tail _ (.tail _ (.head _)))))))).1, ← hro]; exact hr5) ?_ hok hperm ?_
    · intro i t own h7 tk7 hi6 F7 N7
      have N8 := news_perm' (b := _ :: _ :: _ :: _ :: _ :: _ :: _ :: own) N7 (fun q hq => by
        simp only [List.mem_cons, List.mem_append, List.mem_nil_iff, or_false] at hq ⊢
        rcases hq with h | h | h | h | h | h | h | h
        · exact .inr (.inl h)
        · exact .inr (.inr (.inl h))
        · exact .inr (.inr (.inr (.inl h)))
        · exact .inr (.inr (.inr (.inr (.inl h))))
        · exact .inr (.inr (.inr (.inr (.inr (.inl h)))))
        · exact .inr (.inr (.inr (.inr (.inr (.inr (.inl h))))))
        · exact .inr (.inr (.inr (.inr (.inr (.inr (.inr h))))))
        · exact .inl h)
      k_dflt (refine' enterL [("k", .int (i : Int) t)] F7 N8 X T (.head _) (codeRec_news N8 (.tail _ (.head _)) d1 d2) ?er ?eb ?el rfl rfl rfl ?ec ?_; (case er => (walk_at "m_room")); (case eb => exact rfl); (case el => exact locs rfl); (case ec => decide))
      intro g L' h8 Fg F8 N9 X8 T8 hL'
      have hlg : g.IsList D us.toArray := hl.at fun o e => Fg.keep _ _ e
      w_strict (repeat' ((fail_if_success (with_reducible show wpAny _ _ (exec (Stmt.For _ _ _ _ _) _) _ _ _)); walk1))
      rename_i tt1 tt2 tp h9 _ _ lt9 kF kN _ _
      obtain ⟨a1, a2, a3, a4, a5, a6, a7, a8⟩ := lt9
      have eK : ((List.range 6).map fun i => ((endsOf ms i : Nat) : Int)).getD (i : Int).toNat 0 = ((endsOf ms i : Nat) : Int) := by
        rw [Int.toNat_natCast]
        simp [List.getD, hi6]
      rw [eK] at kN
      refine keyEnd_of kF kN (fun q hq => ?_) (fun q hq => ?_)
      · simp only [List.mem_cons, List.mem_append, List.mem_nil_iff, or_false] at hq ⊢
        rcases hq with h | h | h | h | h | h | h | h
        · exact .inr (.inr (.inr (.inr (.inr (.inr (.inr h))))))
        · exact .inl h
        · exact .inr (.inl h)
        · exact .inr (.inr (.inl h))
        · exact .inr (.inr (.inr (.inl h)))
        · exact .inr (.inr (.inr (.inr (.inl h))))
        · exact .inr (.inr (.inr (.inr (.inr (.inl h)))))
        · exact .inr (.inr (.inr (.inr (.inr (.inr (.inl h))))))
      · simp only [List.mem_cons] at hq
        rcases hq with rfl | rfl | rfl | rfl | rfl | rfl | rfl | h
        · exact Nat.ne_of_lt a1
        · exact Nat.ne_of_lt a2
        · exact Nat.ne_of_lt a3
        · exact Nat.ne_of_lt a4
        · exact Nat.ne_of_lt a5
        · exact Nat.ne_of_lt a6
        · exact Nat.ne_of_lt a7
        · exact Nat.ne_of_lt (allLt_mem a8 q h)
    · intro Ds vs c h7 tk7 F7 N7 hlt7 hI7
      have h206 : @LT.lt Nat _ 206 Ds := hlt7 _ (.tail _ (.tail _ (.tail _ (.tail _ (.tail _ (.head _))))))
      exact h _ Ds vs c _ (fun b o hb e => F7.keep b o ((Heap.hide_ne _ hb).trans e)) ⟨_, N7.get (.tail _ (.tail _ (.tail _ (.tail _ (.tail _ (.tail _ (.head _)))))))⟩ ((Heap.hide_ne _ (Nat.ne_of_gt h206)).symm.trans (News.fresh N7 (.head _))) (N7.get (.head _)) hI7
end Mine
end
section -- YLaw0
open PySem PySem.W PySem.Calls PyProof.Rows PyProof.V PySem.Spec
set_option maxRecDepth 100000
set_option maxHeartbeats 1000000
namespace Mine
theorem off_YLaw0 : True := by w_top off; trivial
variable {prog : Program} {w : World} {p : Program} {loose : List Str} {mean : ExcName → Option Value} {mg mb : Str → Option Value}
/-- the call of law in the clean logic: the ground may be smaller than the heap -/
theorem enterAtCC {A : Around} {E : Value → Shared → Prop} {s : Shared} {K : Frag} {Q : Value → Shared → Prop} {g : Heap}
  {name qual : Str} {params : Arguments} {body : List Stmt} {scope : Scope} {dV kV doc pm cdv ct oc : Value} {an od : Option Addr} {osl : Array (Option Value)} {f : Addr} {args : List Value}
    (binds : List (Str × Value)) (kk : ∀ b o, g.get? b = some o → s.heap.get? b = some o) (hz : g.objs.size ≤ s.heap.objs.size) (X : K.In g) (T : Top p loose mean mg mb g)
    (ho : K.lookup f = some ⟨oc, od, .func (fnOf name qual params body scope dV kV doc pm an cdv ct), osl⟩) (hcd : codeIn K cdv qual = true) (hroom : A.depth < recursionLimit)
    (hbind : BindsTo s (fnOf name qual params body scope dV kV doc pm an cdv ct) ⟨args, []⟩ binds) (hkind : (binds.all fun y => scope.names.lookup y.1 == some .local || scope.names.lookup y.1 == some .cell) = true)
    (hnd : ((cellsFrom 0 scope.names []).map (·.1)).Nodup)
    (hco : scope.isCoroutine = false) (hgen : scope.isGenerator = false) (hk : scope.kind = .function)
    (h : ∀ L h₁ tk cells, Fr g L h₁ (bindL (envOfC qual scope L f cdv).kindOf binds fun _ => none) → News g L h₁ cells →
      CellsAre (bindC (envOfC qual scope L f cdv).kindOf binds fun _ => none) (cellsFrom (L + 1) scope.names []) cells → (∀ b o, s.heap.get? b = some o → h₁.get? b = some o) → L = s.heap.objs.size →
      wpC (model prog w) (A.deeper (envOfC qual scope L f cdv)) (execs body (envOfC qual scope L f cdv))
        (fun fl s' => Q (match fl with | .ret v => v | _ => .none) s') (fun _ _ => False)
        { s with heap := h₁, toks := tk }) :
    wpC (model prog w) A (call (.ref f) args) Q E s := by
  refine wpC_call (codeC_call_function hroom ((X.keeps kk) _ _ ho) rfl hco hgen rfl (codeRec_of (X.keeps kk) hcd) (hbind _ _ _ _ ?_))
  refine wpAny_newFunctionEnv_cells hk (kindsX hkind _) fun env' he s' x => ?_
  subst he
  refine ⟨(T.nolimit.keeps kk).keeps x.toInCall.keep, codeC_func ?_⟩
  obtain ⟨h₁, tk, rfl, _⟩ := x.done
  have hk₁ := x.toInCall.keep
  obtain ⟨cells, NC, Y⟩ := Cl.news (h₀ := g) hz fun n c hm => ⟨x.cell n c (lookup_of_mem_nodup (cellsFrom_names scope.names 0 (s.heap.objs.size + 1) [] [] rfl ▸ hnd) hm), x.above n c hm⟩
  exact wpC_mono (h s.heap.objs.size h₁ tk cells ⟨x.toInCall.ns, fun b o e => hk₁ b o (kk b o e), hz⟩ NC Y hk₁ rfl) (fun _ _ x => x) fun _ _ x => x.elim
noncomputable def AllNe (D : Nat) : List (Addr × Obj) → Prop
  | [] => True
  | q :: r => @Ne Nat D q.1 ∧ AllNe D r
theorem allNe_of {D : Addr} : ∀ {l : List (Addr × Obj)}, (∀ q ∈ l, q.1 ≠ D) → AllNe D l
  | [], _ => True.intro
  | q :: r, h => ⟨fun e => h q (.head _) e.symm, allNe_of fun x hx => h x (.tail _ hx)⟩
theorem list_of_news {h₀ h : Heap} {L a : Addr} {xs : Array Value} {n : Nat} {news : List (Addr × Obj)} (N : News h₀ L h news) (hm : (a, listObj xs n) ∈ news) : h.IsList a xs := ⟨_, (N _ hm).1, rfl, _, rfl⟩
section
variable {A : Around} {E : Value → Shared → Prop} {s : Shared} {h₀ : Heap} {L : Addr} {m : Str → Option Value} {news : List (Addr × Obj)} {Q : Value → Shared → Prop}
theorem numbers_call (F : Fr h₀ L s.heap m) (N : News h₀ L s.heap news) (X : (hd.heap_1 w.params).In h₀) (T : Top p loose mean mg mb h₀) (hdep : A.depth + 16 < recursionLimit) (hh : A.handled = none)
    {S : Addr} {vs : List Value} {ns : List Int} (hl : h₀.IsList S vs.toArray) (hi : IntsAre vs ns) (h6 : ns.length ≤ 63)
    (h : ∀ h' D us ms n tk, Fr h₀ L h' m → News h₀ L h' ((D, listObj us.toArray n) :: news) → AllNe D news → IntsAre us ms → ms.length = 6 → Small 25000000 ms → Q (.ref D) { s with heap := h', toks := tk }) :
    wpAny (model prog w) A (call (.ref 162) [.ref S]) Q E s :=
  numbers_spec (by (clear h6 hh; (first | lia | omega))) hh (X.keeps F.keep) (T.keeps F.keep) (hl.at fun o e => F.keep _ _ e) hi h6 fun h' D us ms n tk kp hn hR i1 i2 i3 =>
    h h' D us ms n tk (fr_grow F kp) (news_new F N kp hn hR).1 (allNe_of (news_new F N kp hn hR).2) i1 i2 i3
theorem depths_call (F : Fr h₀ L s.heap m) (N : News h₀ L s.heap news) (X : (hd.heap_1 w.params).In h₀) (T : Top p loose mean mg mb h₀) (hdep : A.depth + 16 < recursionLimit) (hh : A.handled = none)
    {S : Addr} {vs : List Value} {ns : List Int} {n₀ : Nat} (hl : (S, listObj vs.toArray n₀) ∈ news) (hi : IntsAre vs ns) (h6 : ns.length = 6)
    (h : ∀ h' D us ms n tk, Fr h₀ L h' m → News h₀ L h' ((D, listObj us.toArray n) :: news) → AllNe D news → IntsAre us ms → ms.length = 6 → Forest ms → Q (.ref D) { s with heap := h', toks := tk }) :
    wpAny (model prog w) A (call (.ref 169) [.ref S]) Q E s :=
  depths_spec (by (clear h6 hh; (first | lia | omega))) hh (X.keeps F.keep) (T.keeps F.keep) (list_of_news N hl) hi h6 fun h' D us ms n tk kp hn hR i1 i2 i3 =>
    h h' D us ms n tk (fr_grow F kp) (news_new F N kp hn hR).1 (allNe_of (news_new F N kp hn hR).2) i1 i2 i3
theorem reply_call (F : Fr h₀ L s.heap m) (N : News h₀ L s.heap news) (X : (hd.heap_1 w.params).In h₀) (T : Top p loose mean mg mb h₀) (hdep : A.depth + 16 < recursionLimit) (hh : A.handled = none)
    {S D : Addr} {vs us : List Value} {ns ms : List Int} {n₀ n₁ : Nat} (hl : (S, listObj vs.toArray n₀) ∈ news) (hi : IntsAre vs ns) (h6 : ns.length = 6) (hsm : Small 25000000 ns) (hl' : (D, listObj us.toArray n₁) ∈ news) (hi' : IntsAre us ms) (h6' : ms.length = 6) (hf : Forest ms)
    (h : ∀ h' C cs n tk, Fr h₀ L h' m → News h₀ L h' ((C, listObj (bytesValues cs).toArray n) :: news) → AllNe C news → cs.map (·.1) = cellsOf ms (qOf ns) → Q (.ref C) { s with heap := h', toks := tk }) :
    wpAny (model PySem.Challenge.pw_xo0007_01 w) A (call (.ref 176) [.ref S, .ref D]) Q E s :=
  reply_spec (by (clear h6 h6' hh; (first | lia | omega))) hh (X.keeps F.keep) (T.keeps F.keep) (list_of_news N hl) hi h6 hsm (list_of_news N hl') hi' h6' hf fun h' C cs n tk kp hn hR i1 =>
    h h' C cs n tk (fr_grow F kp) (news_new F N kp hn hR).1 (allNe_of (news_new F N kp hn hR).2) i1
theorem told_call (F : Fr h₀ L s.heap m) (N : News h₀ L s.heap news) (X : (hd.heap_1 w.params).In h₀) (T : Top p loose mean mg mb h₀) (hdep : A.depth + 16 < recursionLimit) (hh : A.handled = none)
    {C : Addr} {cs : List (Array UInt8 × Tok)} {n₀ : Nat} (hl : (C, listObj (bytesValues cs).toArray n₀) ∈ news) (hsz : ∀ c ∈ cs, c.1.size ≤ 100000) (hlen : cs.length ≤ 1000)
    (h : ∀ h' D us n tk, Fr h₀ L h' m → News h₀ L h' ((D, listObj us.toArray n) :: news) → AllNe D news → IntsAre us (toldTo (cs.map (·.1)) cs.length) → Q (.ref D) { s with heap := h', toks := tk }) :
    wpAny (model prog w) A (call (.ref 183) [.ref C]) Q E s :=
  told_spec (by (clear hh hlen; (first | lia | omega))) hh (X.keeps F.keep) (T.keeps F.keep) (list_of_news N hl) hsz hlen fun h' D us n tk kp hn hR i1 =>
    h h' D us n tk (fr_grow F kp) (news_new F N kp hn hR).1 (allNe_of (news_new F N kp hn hR).2) i1
theorem outl_call (F : Fr h₀ L s.heap m) (N : News h₀ L s.heap news) (X : (hd.heap_1 w.params).In h₀) (T : Top p loose mean mg mb h₀) (hdep : A.depth + 16 < recursionLimit) (hh : A.handled = none)
    {C D : Addr} {cs : List (Array UInt8 × Tok)} {us : List Value} {tl : List Int} {wd : Nat} {tw ti tj : Tok} {n₀ n₁ : Nat} {jv : Int} (hl : (C, listObj (bytesValues cs).toArray n₀) ∈ news) (hl' : (D, listObj us.toArray n₁) ∈ news)
    (hw : 1 ≤ wd ∧ wd ≤ 3) (hlen : cs.length = 12) (hi : IntsAre us tl) (htl : tl.length = 13) (hok : outlOk (cs.map (·.1)) tl wd 12 0 12 = true) {pg cr : List Nat} (ho : outl (cs.map (·.1)) tl wd 12 0 12 = (pg, cr)) (hj : jv = 12)
    (h : ∀ h' R ta tb tk, Fr h₀ L h' m → News h₀ L h' ((R, tupOf [.str ⟨pg.toArray⟩ ta, .str ⟨cr.toArray⟩ tb]) :: news) → AllNe R news → Q (.ref R) { s with heap := h', toks := tk }) :
    wpAny (model PySem.Challenge.pw_xo0007_01 w) A (call (.ref 190) [.ref C, .ref D, .int 0 ti, .int jv tj, .int (wd : Int) tw]) Q E s :=
  outl_spec hw (by (clear hdep hh hj ho hok htl hw; (first | lia | omega))) hi (by (clear hdep hh hj ho hok hw; (first | lia | omega))) 12 A s 0 12 _ _ ti tj Q E rfl hj (by (clear hh hj hlen ho hok htl hw; (first | lia | omega))) hh (X.keeps F.keep) (T.keeps F.keep) (list_of_news N hl) (list_of_news N hl') (by (clear hdep hh hj ho hok htl hw; (first | lia | omega))) hok fun h' R ta tb tk kp hn hR => by
    rw [ho] at hR
    exact h h' R ta tb tk (fr_grow F kp) (news_new F N kp hn hR).1 (allNe_of (news_new F N kp hn hR).2)
theorem popped_call (F : Fr h₀ L s.heap m) (N : News h₀ L s.heap news) (X : (hd.heap_1 w.params).In h₀) (T : Top p loose mean mg mb h₀) (hdep : A.depth + 16 < recursionLimit) (hh : A.handled = none)
    {C D : Addr} {cs : List (Array UInt8 × Tok)} {us : List Value} {tl : List Int} {n₀ n₁ : Nat} (hl : (C, listObj (bytesValues cs).toArray n₀) ∈ news) (hl' : (D, listObj us.toArray n₁) ∈ news) (hi : IntsAre us tl) (htl : tl.length = cs.length + 1) (hlen : cs.length ≤ 12) (hnm : ∀ k, k < cs.length → NameB (((cs.map (·.1)).getD k #[]).extract 1 2) ∧ ((cs.map (·.1)).getD k #[]).size ≤ 100) (hpo : ∀ k, k < cs.length → popOk (cs.map (·.1)) tl k = true) {pp : List Str} (hp : ((popTo (cs.map (·.1)) tl cs.length).2.map fun a => (⟨a.toArray⟩ : Str)) = pp)
    (h : ∀ h' R vs n tk, Fr h₀ L h' m → News h₀ L h' ((R, listObj vs.toArray n) :: news) → AllNe R news → StrsAre vs pp → Q (.ref R) { s with heap := h', toks := tk }) :
    wpAny (model PySem.Challenge.pw_xo0007_01 w) A (call (.ref 197) [.ref C, .ref D]) Q E s :=
  popped_spec (by (clear hh hlen hp htl; (first | lia | omega))) hh (X.keeps F.keep) (T.keeps F.keep) (list_of_news N hl) (list_of_news N hl') hi htl hlen hnm hpo fun h' R vs n tk kp hn hR i1 => by
    rw [hp] at i1
    exact h h' R vs n tk (fr_grow F kp) (news_new F N kp hn hR).1 (allNe_of (news_new F N kp hn hR).2) i1
theorem read_call (F : Fr h₀ L s.heap m) (N : News h₀ L s.heap news) (X : (hd.heap_1 w.params).In h₀) (T : Top p loose mean mg mb h₀) (hdep : A.depth + 16 < recursionLimit) (hh : A.handled = none)
    {o : List Nat} {to tw : Tok} {wd : Nat} (hw : 1 ≤ wd ∧ wd ≤ 3) (hz : o.length ≤ 1000) (hrl : (rowsOf o).length ≤ 100) (hrz : ∀ r ∈ rowsOf o, r.length ≤ 1000) {rn : List Str} (hn : ((readNames wd (rowsOf o)).map fun a => (⟨a.toArray⟩ : Str)) = rn) {ld : List (Str × Int)} (hld : (readAll wd (rowsOf o)).leads = ld)
    (h : ∀ h' R Ns Ld vs n od kvs tk, Fr h₀ L h' m → News h₀ L h' ((R, tupOf [.ref Ns, .ref Ld]) :: (Ns, listObj vs.toArray n) :: (Ld, od) :: news) → AllNe R news → AllNe Ns news → AllNe Ld news → StrsAre vs rn → od.IsDictOf (PySem.strKind PySem.Challenge.pw_xo0007_01 w) kvs → FlatPairs PyData.str kvs (kdpD ld) → Ns ≠ Ld → Q (.ref R) { s with heap := h', toks := tk }) :
    wpAny (model PySem.Challenge.pw_xo0007_01 w) A (call (.ref 204) [.str ⟨o.toArray⟩ to, .int (wd : Int) tw]) Q E s :=
  read_spec (by (clear hh hld hn hrl hw hz; (first | lia | omega))) hh (X.keeps F.keep) (T.keeps F.keep) hw hz hrl hrz fun h' R Ns Ld vs n od kvs tk kp n1 n2 n3 r1 r2 r3 i1 i2 i3 i4 => by
    rw [hn] at i1
    rw [hld] at i3
    obtain ⟨N1, a1⟩ := news_new F N kp n1 r1
    obtain ⟨N2, a2⟩ := news_new F N kp n2 r2
    obtain ⟨N3, a3⟩ := news_new F N kp n3 r3
    refine h h' R Ns Ld vs n od kvs tk (fr_grow F kp) (fun q hq => ?_) (allNe_of a1) (allNe_of a2) (allNe_of a3) i1 i2 i3 i4
    rcases List.mem_cons.mp hq with rfl | hq
    · exact N1 _ (.head _)
    · rcases List.mem_cons.mp hq with rfl | hq
      · exact N2 _ (.head _)
      · exact N3 _ hq
theorem elders_call (F : Fr h₀ L s.heap m) (N : News h₀ L s.heap news) (X : (hd.heap_1 w.params).In h₀) (T : Top p loose mean mg mb h₀) (hdep : A.depth + 16 < recursionLimit) (hh : A.handled = none)
    {D : Addr} {us : List Value} {ms : List Int} {n₀ : Nat} (hl : (D, listObj us.toArray n₀) ∈ news) (hi : IntsAre us ms) (h6 : ms.length = 6)
    (h : ∀ h' R us n tk, Fr h₀ L h' m → News h₀ L h' ((R, listObj us.toArray n) :: news) → AllNe R news → IntsAre us (eldersTo ms 6) → Q (.ref R) { s with heap := h', toks := tk }) :
    wpAny (model PySem.Challenge.pw_xo0007_01 w) A (call (.ref 214) [.ref D]) Q E s :=
  elders_spec (by (clear h6 hh; (first | lia | omega))) hh (X.keeps F.keep) (T.keeps F.keep) (list_of_news N hl) hi h6 fun h' R us n tk kp hn hR i1 =>
    h h' R us n tk (fr_grow F kp) (news_new F N kp hn hR).1 (allNe_of (news_new F N kp hn hR).2) i1
theorem paren_call (F : Fr h₀ L s.heap m) (N : News h₀ L s.heap news) (X : (hd.heap_1 w.params).In h₀) (T : Top p loose mean mg mb h₀) (hdep : A.depth + 16 < recursionLimit)
    {b : Array UInt8} {t ti : Tok} {dep : Int} (hz : b.size ≤ 100000)
    (h : ∀ h' t' tk, Fr h₀ L h' m → News h₀ L h' news → Q (.int (pdOf b dep) t') { s with heap := h', toks := tk }) :
    wpAny (model prog w) A (call (.ref 148) [.bytes b t, .int dep ti]) Q E s :=
  paren_spec (by (clear hz; (first | lia | omega))) (X.keeps F.keep) (T.keeps F.keep) hz fun h' t' tk kp => h h' t' tk (fr_grow F kp) (news_grow N kp)
end
end Mine
end
section -- YComp2
open PySem PySem.W PySem.Calls PyProof.Rows PyProof.V PySem.Spec
set_option maxRecDepth 100000
set_option maxHeartbeats 1000000
namespace Mine
theorem off_YComp2 : True := by w_top off; trivial
section
variable {prog : Program} {w : World} {A : Around} {E : Value → Shared → Prop} {s : Shared} {h₀ : Heap} {L : Addr} {m : Str → Option Value} {env : Env}
theorem strs_snoc2 {vs : List Value} {l : List Str} (h : StrsAre vs l) (x : Str) (t : Tok) : StrsAre (vs ++ [.str x t]) (l ++ [x]) := by
  induction h with
  | nil => exact .cons _ _ .nil
  | cons n t' _ ih => exact .cons _ _ ih
theorem comp_saux {elt : PySem.Expr} {x : Str} {scope : Scope} {cl : List (Str × Addr)} {n : Nat} {S : List (Addr × Obj) → Prop} {P : Nat → Value → Prop} {Fin : List Value → List (Addr × Obj) → Prop} {news : List (Addr × Obj)} (f : Nat → Str) (hS : S news)
    (turn : ∀ i v ys I oI C oC D m₂ h tk (E' : Value → Shared → Prop), i < n → P i v → LCg.NsObj oC m₂ → m₂ x = some v → Fr h₀ L h m → News h₀ L h ((I, oI) :: (C, oC) :: (D, LCg.lst ys) :: news) → LCg.Off3 I C D news → ((@Ne Nat I C) ∧ (@Ne Nat I D) ∧ (@Ne Nat C D)) →
      wpAny (model prog w) A (eval elt (compEnvC scope cl C env)) (fun y s' => ∃ t h' tk', y = .str (f i) t ∧ s' = { s with heap := h', toks := tk' } ∧ Fr h₀ L h' m ∧ News h₀ L h' ((I, oI) :: (C, oC) :: (D, LCg.lst ys) :: news)) E' { s with heap := h, toks := tk })
    (fin : ∀ ys, StrsAre ys ((List.range n).map f) → Fin ys news) :
    ∀ (k i : Nat) (ys : List Value), i + k = n → StrsAre ys ((List.range i).map f) →
    LCg.CompRest prog w A h₀ L m env elt x scope cl s S P Fin k i ys news := by
  intro k
  induction k with
  | zero =>
    intro i ys hik hi
    refine LCg.CompRest.zero ?_
    have : i = n := by (first | lia | omega)
    subst this
    exact fin ys hi
  | succ k ih =>
    intro i ys hik hi
    refine LCg.CompRest.succ ?_
    intro v I oI C oC D m₂ h tk E' hP hC hm F N off ne
    refine wpAny_mono (turn i v ys I oI C oC D m₂ h tk E' (by (clear hm ne; (first | lia | omega))) hP hC hm F N off ne) (fun y s' hy => ?_) fun _ _ e => e
    obtain ⟨t, h', tk', rfl, rfl, F', N'⟩ := hy
    refine ⟨h', tk', news, rfl, F', N', off, hS, ih (i + 1) (ys ++ [.str (f i) t]) (by (clear hm ne; (first | lia | omega))) ?_⟩
    rw [List.range_succ, List.map_append]
    exact strs_snoc2 hi _ _
theorem comp_strs {elt : PySem.Expr} {x : Str} {scope : Scope} {cl : List (Str × Addr)} {n : Nat} {S : List (Addr × Obj) → Prop} {P : Nat → Value → Prop} {Fin : List Value → List (Addr × Obj) → Prop} {news : List (Addr × Obj)} (f : Nat → Str) (hS : S news)
    (turn : ∀ i v ys I oI C oC D m₂ h tk (E' : Value → Shared → Prop), i < n → P i v → LCg.NsObj oC m₂ → m₂ x = some v → Fr h₀ L h m → News h₀ L h ((I, oI) :: (C, oC) :: (D, LCg.lst ys) :: news) → LCg.Off3 I C D news → ((@Ne Nat I C) ∧ (@Ne Nat I D) ∧ (@Ne Nat C D)) →
      wpAny (model prog w) A (eval elt (compEnvC scope cl C env)) (fun y s' => ∃ t h' tk', y = .str (f i) t ∧ s' = { s with heap := h', toks := tk' } ∧ Fr h₀ L h' m ∧ News h₀ L h' ((I, oI) :: (C, oC) :: (D, LCg.lst ys) :: news)) E' { s with heap := h, toks := tk })
    (fin : ∀ ys, StrsAre ys ((List.range n).map f) → Fin ys news) :
    LCg.CompRest prog w A h₀ L m env elt x scope cl s S P Fin n 0 [] news := comp_saux f hS turn fin n 0 [] (by (first | lia | omega)) .nil
end
end Mine
end
section -- YMul
open PySem PySem.W PySem.Calls PyProof.Rows PyProof.V PySem.Spec
set_option maxRecDepth 100000
set_option maxHeartbeats 1000000
namespace Mine
theorem off_YMul : True := by w_top off; trivial
variable {prog : Program} {w : World}
theorem txt_mul_sp (n : Nat) : Txt.mul (Str.ofString " ") (n : Int) = ⟨(List.replicate n 32).toArray⟩ := by
  have e1 : Str.ofString " " = ⟨#[32]⟩ := by decide +kernel
  rw [e1]
  have := mul_one_list 32 (n : Int)
  rw [Int.toNat_natCast] at this
  generalize Txt.mul (⟨#[32]⟩ : Str) (n : Int) = x at this
  obtain ⟨c⟩ := x
  congr 1
  apply Array.toList_inj.mp
  simpa using this
end Mine
end
section -- YJoinS
open PySem PySem.W PySem.Calls PyProof.Rows PyProof.V PySem.Spec
set_option maxRecDepth 100000
set_option maxHeartbeats 1000000
namespace Mine
theorem off_YJoinS : True := by w_top off; trivial
theorem join_flat : ∀ l : List (List Nat), Txt.join (Str.ofString "") (l.map fun a => (⟨a.toArray⟩ : Str)) = ⟨l.flatten.toArray⟩ := by
  intro l
  show Builtin.Str.glued (Str.ofString "") _ = _
  rw [StrLaws.glued_eq_join]
  have e0 : Str.ofString "" = ⟨#[]⟩ := by decide +kernel
  rw [e0]
  induction l with
  | nil => rfl
  | cons a r ih =>
    cases r with
    | nil =>
      show (⟨a.toArray⟩ : Str) = _
      simp
    | cons b r =>
      show ((⟨a.toArray⟩ : Str) ++ (⟨#[]⟩ : Str)) ++ Str.join ⟨#[]⟩ ((b :: r).map fun a => (⟨a.toArray⟩ : Str)) = _
      rw [ih]
      show (⟨(a.toArray ++ #[]) ++ (b :: r).flatten.toArray⟩ : Str) = _
      congr 1
      apply Array.toList_inj.mp
      simp
theorem sum_le {B : Nat} : ∀ l : List Str, (∀ x ∈ l, x.length ≤ B) → (l.map (·.length)).sum ≤ B * l.length
  | [], _ => Nat.zero_le _
  | a :: r, h => by
    have h1 := h a (.head _)
    have h2 := sum_le r fun x hx => h x (.tail _ hx)
    rw [List.map_cons, List.sum_cons, List.length_cons, Nat.mul_add]
    (first | lia | omega)
end Mine
end
section -- YLaw1
open PySem PySem.W PySem.Calls PyProof.Rows PyProof.V PySem.Spec
set_option maxRecDepth 100000
set_option maxHeartbeats 1000000
namespace Mine
theorem off_YLaw1 : True := by w_top off; trivial
variable {prog : Program} {w : World} {p : Program} {loose : List Str} {mean : ExcName → Option Value} {mg mb : Str → Option Value}
theorem strs_carried : ∀ {vs : List Value} {l : List Str}, StrsAre vs l → CarriedAll vs (l.map PyData.str)
  | _, _, .nil => .nil
  | _, _, .cons y t r => .cons (.str y t) (strs_carried r)
theorem strs_canLay : ∀ l : List Str, (∀ x ∈ l, PyData.strOk x = true) → PyData.canLayAll0 (l.map PyData.str) = true
  | [], _ => rfl
  | a :: r, h => by simp [PyData.canLayAll0, PyData.canLay0, strs_canLay r fun x hx => h x (.tail _ hx), h a (.head _)]
theorem strs_depth : ∀ l : List Str, PyData.depthAll (l.map PyData.str) = 0
  | [] => rfl
  | _ :: r => by simp [PyData.depthAll, PyData.depth, strs_depth r]
theorem strs_shaped (l : List Str) (hl : ∀ x ∈ l, PyData.strOk x = true) : SeqAt.shaped (.list (l.map PyData.str)) = true := by
  simp [SeqAt.shaped, PyData.canLay0, PyData.depth, strs_canLay l hl, strs_depth]
theorem eq_strs {A : Around} {E : Value → Shared → Prop} {s : Shared} {a b : Addr} {xs ys : List Value} {l : List Str} {Q : Value → Shared → Prop} (ha : s.heap.IsList a xs.toArray) (hb : s.heap.IsList b ys.toArray) (hi : StrsAre xs l) (hj : StrsAre ys l) (hok : ∀ x ∈ l, PyData.strOk x = true) (hu : A.units + 64 < cLine) (h : Q (.bool true) s) :
    wpAny (model prog w) A (compareOp .Eq (.ref a) (.ref b)) Q E s :=
  eq_dataH_same (reads_newData ha (strs_carried hi)) (reads_newData hb (strs_carried hj)) (strs_shaped _ hok) (strs_shaped _ hok) hu (SeqAt.noMix_of_shape (.list .str) rfl _ _ (list_map_has fun _ => rfl) (list_map_has fun _ => rfl)) (by rw [Spec.same_self]; exact h)
theorem ints_at {vs : List Value} {ms : List Int} (h : IntsAre vs ms) : ∀ {i : Nat} {v : Value}, vs[i]? = some v → ∃ t, v = .int (ms.getD i 0) t := by
  induction h with
  | nil => intro i v hv; simp at hv
  | cons n t _ ih =>
    intro i v hv
    cases i with
    | zero => simp at hv; exact ⟨t, hv.symm⟩
    | succ i => exact ih (by simpa using hv)
theorem closing_call {A : Around} {E : Value → Shared → Prop} {s : Shared} {h₀ : Heap} {L : Addr} {m : Str → Option Value} {news : List (Addr × Obj)} {g : Obj → List (Addr × Obj)} {Q : Value → Shared → Prop} (F : Fr h₀ L s.heap m) (N : News h₀ L s.heap news) (X : (hd.heap_1 w.params).In h₀) (T : Top p loose mean mg mb h₀) (hdep : A.depth + 16 < recursionLimit) (hh : A.handled = none)
    {D : Addr} {us : List Value} {ms : List Int} {n₀ : Nat} (hl : (D, listObj us.toArray n₀) ∈ news) (U : UpdF 206 (tabObj #[]) news g) (hi : IntsAre us ms) (h6 : ms.length = 6)
    (hok : evalOk 6 (lexlt (keysOf ms)) (kas_sort 6) = true) (hperm : ∀ i ∈ closing ms, i < 6)
    (h : ∀ h' R vs n tk ps, Fr h₀ L h' m → News h₀ L h' ((R, listObj vs.toArray n) :: g (tabObj ps)) → IntsAre vs ((closing ms).map fun (i : Nat) => (i : Int)) → Q (.ref R) { s with heap := h', toks := tk }) :
    wpAny (model PySem.Challenge.pw_xo0007_01 w) A (call (.ref 209) [.ref D]) Q E s := by
  have z := N _ (updF_mem U)
  have kk := hide_in (K := hd.heap_1 w.params) F z.2.2
  have zl := N _ hl
  have hne : D ≠ 206 := fun e => by
    have a1 : s.heap.get? D = some (listObj us.toArray n₀) := zl.1
    rw [e, z.1] at a1
    exact absurd (congrArg Obj.cls (Option.some.inj a1)) (by intro q; cases q)
  refine closing_spec (by (clear h6 hh hne hok z zl; (first | lia | omega))) hh (X.keeps kk) (T.keeps kk) z.1 ⟨_, (Heap.hide_ne _ hne).trans zl.1, rfl, _, rfl⟩ hi h6 hok hperm fun h' R vs n tk kp ⟨ps, h206⟩ hn hR i1 => ?_
  have N1 := news_but N U h206 kp
  refine h h' R vs n tk ps (fr_but F z.2.2 z.2.1 kp) (fun q hq => ?_) i1
  rcases List.mem_cons.mp hq with rfl | hq
  · refine ⟨hR, fun e => ?_, ?_⟩
    · obtain ⟨oL, _, _, hL, _⟩ := F.ns
      dsimp only at e
      rw [e, hL] at hn; cases hn
    · cases q : h₀.get? R with
      | none => rfl
      | some o' => rw [F.keep _ _ q] at hn; cases hn
  · exact N1 q hq
end Mine
end
section -- YDict
open PySem PySem.W PySem.Calls PyProof.Rows PyProof.V PySem.Spec
set_option maxRecDepth 100000
set_option maxHeartbeats 1000000
namespace Mine
theorem off_YDict : True := by w_top off; trivial
noncomputable def rowK (j : Nat) : Str := ⟨#[97 + j]⟩
noncomputable def rowsTo (f : Nat → Int) (n : Nat) : List (Str × Int) := (List.range n).map fun j => (rowK j, f j)
theorem rowK_inj {i j : Nat} (h : rowK i = rowK j) : i = j := by
  unfold rowK at h
  have := congrArg Str.cps h
  have := congrArg Array.toList this
  simp at this
  exact this
theorem rowsTo_put (f : Nat → Int) (n : Nat) : kdpPut (rowsTo f n) (rowK n) (f n) = rowsTo f (n + 1) := by
  unfold kdpPut
  have : ((rowsTo f n).any fun p => decide (p.1 = rowK n)) = false := by
    rw [List.any_eq_false]
    intro p hp
    obtain ⟨j, hj, rfl⟩ := List.mem_map.mp hp
    have hj := List.mem_range.mp hj
    simp only [decide_eq_true_eq]
    intro e
    have := rowK_inj e
    (clear e; (first | lia | omega))
  rw [this, if_neg (by decide)]
  unfold rowsTo
  rw [List.range_succ, List.map_append]
  rfl
theorem henc_str : ∀ a b : Str, PySem.Spec.same (PyData.str a) (PyData.str b) = decide (a = b) := fun a b => by
  rw [same_str]
noncomputable abbrev FKR (v : Value) (k : Str) : Prop := ∃ (j : Nat) (t : Tok), v = .int (0 + (j : Int) * 1) t ∧ k = rowK j
noncomputable abbrev FVR (f : Nat → Int) (v y : Value) : Prop := ∃ (j : Nat) (t t' : Tok), v = .int (0 + (j : Int) * 1) t ∧ y = .int (f j) t'
theorem stored_rows {f : Nat → Int} {l : List Value} {kvs : List (Str × Value)} (x : StoredAll FKR (FVR f) l kvs) :
    (∀ (j : Nat) (v : Value), l[j]? = some v → ∃ t, v = .int (0 + (j : Int) * 1) t) → FlatPairs PyData.str kvs (kdpD (rowsTo f l.length)) := by
  induction x with
  | nil => intro _; exact .nil
  | @snoc l kvs v k y _ hk hy ih =>
    intro hp
    obtain ⟨t, hv⟩ := hp l.length v (by simp)
    have ih := ih fun j v' hj => hp j v' (by rw [List.getElem?_append_left (List.getElem?_eq_some_iff.mp hj).1]; exact hj)
    obtain ⟨j, t1, e1, rfl⟩ := hk
    obtain ⟨j2, t2, t3, e2, rfl⟩ := hy
    rw [hv] at e1 e2
    have a1 : j = l.length := by injection e1 with e1; (clear e2 hv; (first | lia | omega))
    have a2 : j2 = l.length := by injection e2 with e2; (clear a1 e1 hv; (first | lia | omega))
    subst a1
    subst a2
    rw [List.length_append, List.length_singleton, ← rowsTo_put, ← kdpD_put]
    exact FlatPairs.stored henc_str ih _ (Flat.int _ _)
section
variable {prog : Program} {w : World} {A : Around} {E : Value → Shared → Prop} {s : Shared} {h₀ : Heap} {L : Addr} {m : Str → Option Value} {news : List (Addr × Obj)} {env : Env}
noncomputable def DictSrc (prog : Program) (w : World) (A : Around) (h₀ : Heap) (L : Addr) (m : Str → Option Value) (news : List (Addr × Obj)) (env : Env) (f : Nat → Int) (kx vx : PySem.Expr) (x : Str) (scope : Scope) (cl : List (Str × Addr)) (n : Nat) (Q : Value → Shared → Prop) (xv : Value) (s₁ : Shared) : Prop :=
  ∃ r t u v, xv = .ref r ∧ IsRange s₁.heap r 0 (n : Int) 1 t u v ∧ n ≤ 1000 ∧ Fr h₀ L s₁.heap m ∧ News h₀ L s₁.heap news ∧
      (∀ C j t s₂ m₂ E', j < n → s₂.heap.Ns (compEnvC scope cl C env).locals m₂ → m₂ x = some (.int (0 + (j : Int) * 1) t) → Fr h₀ L s₂.heap m → News h₀ L s₂.heap news →
        wpAny (model prog w) A (eval kx (compEnvC scope cl C env)) (fun key s₃ => ∃ t', key = .str (rowK j) t' ∧ Keeps s₂ s₃) E' s₂) ∧
      (∀ C j t s₂ m₂ E', j < n → s₂.heap.Ns (compEnvC scope cl C env).locals m₂ → m₂ x = some (.int (0 + (j : Int) * 1) t) → Fr h₀ L s₂.heap m → News h₀ L s₂.heap news →
        wpAny (model prog w) A (eval vx (compEnvC scope cl C env)) (fun y s₃ => ∃ t', y = .int (f j) t' ∧ Keeps s₂ s₃) E' s₂) ∧
      (∀ D (kvs : List (Str × Value)) h' tk, h₀.get? D = none → Fr h₀ L h' m → News h₀ L h' news → h'.DictOf (PySem.strKind prog w) D kvs → FlatPairs PyData.str kvs (kdpD (rowsTo f n)) → Q (.ref D) { s₁ with heap := h', toks := tk })
theorem dict_range {f : Nat → Int} {kx vx iter : PySem.Expr} {x : Str} {px : Pos} {scope : Scope} {cl : List (Str × Addr)} {pos : Pos} {Q : Value → Shared → Prop} {n : Nat}
    (F₀ : Fr h₀ L s.heap m) (N₀ : News h₀ L s.heap news) (hh : A.handled = none) (hclos : closureFor scope env = pure cl) (hcell : ∀ y ∈ scope.names, y.2 ≠ .cell) (hkind : scope.kind = .function)
    (hnames : ∀ y ∈ scope.names, y.2 = .local → scope.names.lookup y.1 = some .local) (hx : scope.names.lookup x = some .local)
    (h : wpAny (model prog w) A (eval iter env) (DictSrc prog w A h₀ L m news env f kx vx x scope cl n Q) E s)
    (hs : ∀ x, foldedSetIterable iter env x = pure x) :
    wpAny (model prog w) A (eval (.DictComp kx vx [⟨.Name x px, iter, [], 0⟩] scope pos) env) Q E s := by
  refine wpAny_DictComp_free (PySem.strKind prog w) (fun _ => true) FKR (FVR f) hclos hcell hkind hnames hx (wpAny_mono h (fun xv s₁ h₁ => ?_) fun _ _ e => e) hs
  obtain ⟨r, t, u, v, rfl, hr, hn, F, N, hkey, hval, hQ⟩ := h₁
  have hsz : Builtin.Range.rangeSize 0 (n : Int) 1 = (n : Int) := by rw [rangeSize_nat]; (clear hclos hh hkind hx; (first | lia | omega))
  refine wpAny_pyIter_range hr (small_one (by (clear hclos hh hkind hn hsz hx; (first | lia | omega))) (by (clear hclos hh hkind hn hsz hx; (first | lia | omega))) (by (clear hclos hh hkind hx; (first | lia | omega))) (by (clear hclos hh hkind hx; (first | lia | omega)))) ?_
  have up : ∀ (s₃ : Shared), (∀ b o, b ∉ [s₁.heap.objs.size] → (s₁.heap.push { cls := .type "range_iterator", data := .fields #[rawInt 0, rawInt (Builtin.Range.rangeSize 0 (n : Int) 1), rawInt 1] }).get? b = some o → s₃.heap.get? b = some o) → ∀ b o, s₁.heap.get? b = some o → s₃.heap.get? b = some o :=
    fun s₃ hk b o e => hk b o (fun hm => by rcases List.mem_cons.mp hm with rfl | hm; exact Nat.lt_irrefl _ (Heap.lt_size e); cases hm) (Heap.get?_push_of_some _ e)
  have W := (Walks.range (prog := prog) (w := w) hh s₁.heap.objs.size 0 1 n).bound
  refine ⟨s₁.heap.objs.size, [s₁.heap.objs.size], [s₁.heap.objs.size], n, _, _, rfl, W, by rw [sizeLine_eq]; (clear hclos hh hkind hx; (first | lia | omega)), (by show IsRangeIter _ _ _ _ _; rw [hsz]; simpa using Heap.get?_push_size _ rfl), ?_, ⟨?_, ?_, ?_⟩, ?_⟩
  · intro b hb
    rw [List.mem_singleton.mp hb]
    show s₁.heap.objs.size < (s₁.heap.push _).objs.size
    rw [Heap.size_push]
    exact Nat.lt_succ_self _
  · intro C i v s₃ m₃ E' hP hn' hm hk
    exact wpAny_pure ⟨rfl, s₃.heap, s₃.toks, rfl, fun _ _ e => e⟩
  · rintro C i v s₃ m₃ E' ⟨hi, t, rfl⟩ _ hn' hm hk
    have k3 := up s₃ hk
    exact wpAny_mono (hkey C i t s₃ m₃ E' hi hn' hm (F.keeps k3) (N.grown k3)) (fun key s₄ ⟨t', e, k⟩ => ⟨⟨rowK i, by rw [e]; exact strKind_is _ _ _ _, i, t, rfl, rfl⟩, k⟩) fun _ _ e => e
  · rintro C i v s₃ m₃ E' ⟨hi, t, rfl⟩ _ hn' hm hk
    have k3 := up s₃ hk
    exact wpAny_mono (hval C i t s₃ m₃ E' hi hn' hm (F.keeps k3) (N.grown k3)) (fun y s₄ ⟨t', e, k⟩ => ⟨⟨i, t, t', rfl, e⟩, k⟩) fun _ _ e => e
  · intro D h' tk kvs vs' hfree hlD hlen hP hF hk
    have hD0 : h₀.get? D = none := by
      cases q : h₀.get? D with
      | none => rfl
      | some o => rw [Heap.get?_push_of_some _ (F.keep _ _ q)] at hfree; cases hfree
    have keep := up { s₁ with heap := h' } hk
    rw [List.filter_eq_self.mpr (fun _ _ => rfl)] at hF
    have := stored_rows hF fun j v hj => (hP j v hj).2
    rw [hlen] at this
    exact hQ D kvs h' tk hD0 (F.keeps keep) (N.grown keep) hlD this
end
end Mine
end
section -- YEnc
open PySem PySem.W PySem.Calls PyProof.Rows PyProof.V PySem.Spec
set_option maxRecDepth 100000
set_option maxHeartbeats 1000000
namespace Mine
theorem off_YEnc : True := by w_top off; trivial
open PySem.Builtin._codecs
theorem enc_tree (x : Str) (t u : Tok) : PySem.Builtin.«str.encode» ⟨[.str x t, .str (Str.ofString "ascii") u], []⟩ = (do ret (← encodeRoad "str.encode" (.str x t) x (Str.ofString "ascii") none)) := by first | rfl | kernel_rfl
theorem enc_road (id : String) (self : Value) (x : Str) (errors : Option Str) : encodeRoad id self x (Str.ofString "ascii") errors = (do mkBytes (← encodeNarrow id asciiCodec errors self x)) := by
  first | rfl | (unfold encodeRoad; rfl) | (unfold encodeRoad; simp only []; rfl) | decide
theorem forIn_two {σ : Type} (f : Nat → σ → Sem (ForInStep σ)) (a b : σ) (n : Nat) (h1 : ∀ i, f i a = pure (.yield b)) (h2 : ∀ i, f i b = pure (.done b)) : forIn (List.range' 0 (n + 1)) a f = pure b := by
  rw [List.range'_succ, List.forIn_cons, h1]
  show forIn (List.range' (0 + 1) n) b f = pure b
  cases n with
  | zero => rfl
  | succ n =>
    rw [List.range'_succ, List.forIn_cons, h2]
    rfl
theorem enc_fold (l : List Nat) : ∀ acc : Array UInt8, l.foldl (fun acc y => acc ++ (asciiCodec.bytesOf y).toArray) acc = acc ++ (l.map (·.toUInt8)).toArray := by
  induction l with
  | nil => intro acc; simp
  | cons a r ih =>
    intro acc
    rw [List.foldl_cons, ih]
    apply Array.toList_inj.mp
    show _ = _
    simp [asciiCodec]
theorem enc_narrow (self : Value) (l : List Nat) (n : Nat) (hn : l.length = n + 1) (hb : ∀ c ∈ l, c < 128) (h100 : n ≤ 1000) : encodeNarrow "str.encode" asciiCodec none self ⟨l.toArray⟩ = pure (l.map (·.toUInt8)).toArray := by
  unfold encodeNarrow
  have e1 : (⟨l.toArray⟩ : Str).length = n + 1 := hn
  have eb : ∀ c, asciiCodec.bad c = decide (c ≥ 128) := fun c => rfl
  rw [e1]
  show (forIn [:n + 1] ((0 : Nat), (#[] : Array UInt8), ({} : Faults)) _ >>= _) = _
  rw [Std.Legacy.Range.forIn_eq_forIn_range']
  have hsz : ([:n + 1] : Std.Legacy.Range).size = n + 1 := by simp [Std.Legacy.Range.size]
  rw [hsz]
  have h0 : l.toArray[0]? = some (l[0]'(by (first | lia | omega))) := by rw [List.getElem?_toArray]; exact List.getElem?_eq_getElem (by (first | lia | omega))
  have hn' : l.toArray[n + 1]? = none := by rw [List.getElem?_toArray]; exact List.getElem?_eq_none (by (clear h0; (first | lia | omega)))
  have hb0 : asciiCodec.bad (l[0]'(by (clear h0 hn'; (first | lia | omega)))) = false := by
    rw [eb]
    have := hb _ (List.getElem_mem (l := l) (n := 0) (by (clear h0 hn'; (first | lia | omega))))
    exact decide_eq_false (by (clear h0 hn'; (first | lia | omega)))
  have hx : l.toArray.extract 0 l.toArray.size = l.toArray := by simp
  have hf : (l.toArray).findIdx? asciiCodec.bad = none := by
    rw [List.findIdx?_toArray, List.findIdx?_eq_none_iff]
    intro c hc
    rw [eb]
    exact decide_eq_false (by have := hb c hc; (clear h0 hb0 hn' hx; (first | lia | omega)))
  have hfold : (l.toArray).foldl (fun acc y => acc ++ (asciiCodec.bytesOf y).toArray) #[] = (l.map (·.toUInt8)).toArray := by
    rw [List.foldl_toArray', enc_fold]
    · simp
    · simp
  refine Eq.trans (congrArg (fun z => z >>= _) (forIn_two _ _ (n + 1, (l.map (·.toUInt8)).toArray, ({} : Faults)) n ?_ ?_)) ?_
  · intro i
    have hz : ¬ ((#[] : Array UInt8).size > sizeLine) := by decide
    simp only [hz, if_false, h0, hb0, Bool.not_false, if_true, hx, hf, Option.getD_none, hfold, hn]
    rw [show 0 + l.toArray.size = n + 1 by rw [List.size_toArray]; (clear h0 hb0 hf hfold hn' hx hz; (first | lia | omega))]
  · intro i
    have hz : ¬ ((l.map (·.toUInt8)).toArray.size > sizeLine) := by rw [List.size_toArray, List.length_map, sizeLine_eq]; (clear h0 hb0 hf hfold hn' hx; (first | lia | omega))
    simp only [hz, if_false, hn']
  · rfl
theorem gives_encode (l : List Nat) (n : Nat) (hn : l.length = n + 1) (hb : ∀ c ∈ l, c < 128) (h100 : n ≤ 1000) (t u : Tok) : Gives (PySem.Builtin.«str.encode» ⟨[.str ⟨l.toArray⟩ t, .str (Str.ofString "ascii") u], []⟩) (.bytes (l.map (·.toUInt8)).toArray) := by
  refine .of_eq ?_
  rw [enc_tree, enc_road, enc_narrow _ l n hn hb h100]
  rfl
section
variable {prog : Program} {w : World} {M : Model} {A : Around} {E : Value → Shared → Prop} {s : Shared} {t u : Tok}
theorem enc_call {Q : Value → Shared → Prop} {x : Str} (l : List Nat) (n : Nat) (hx : x = ⟨l.toArray⟩) (hn : l.length = n + 1) (hb : ∀ c ∈ l, c < 128) (h100 : n ≤ 1000) (hq : ∀ t' k, Q (.bytes (l.map (·.toUInt8)).toArray t') { s with toks := k }) :
    wpAny (model prog w) A (call (.builtin "str.encode") [.str x t, .str (Str.ofString "ascii") u]) Q E s := by
  subst hx
  exact call_gives F.slot_str_encode (typeIs_str _ _ _) F.entry_str_encode (F.args_str_encode_2 _ _) (gives_encode l n hn hb h100 t u) ⟨by rw [List.size_toArray, List.length_map, sizeLine_eq]; (first | lia | omega), hq _ _⟩
theorem meth_encode {Q : Value × List Value → Shared → Prop} {x : Str} {pl : Sem Bool} (h : Q (.builtin "str.encode", [.str x t]) s) : wpAny M A (getMethod (.str x t) "encode" pl) Q E s := by
  with_reducible exact getMethod_builtin (typeIs_str _ _ _) F.plainAttrs_str F.slot_str_encode F.type_str_encode (fun _ e => nomatch e) h
end
end Mine
end
section -- YSpl
open PySem PySem.W PySem.Calls PyProof.Rows PyProof.V PySem.Spec
set_option maxRecDepth 100000
set_option maxHeartbeats 1000000
namespace Mine
theorem off_YSpl : True := by w_top off; trivial
noncomputable def splitL : List Nat → List (List Nat)
  | [] => [[]]
  | x :: r => if x = 10 then [] :: splitL r else match splitL r with
    | h :: t => (x :: h) :: t
    | [] => [[x]]
noncomputable def joinL : List (List Nat) → List Nat
  | [] => []
  | [a] => a
  | a :: b :: r => a ++ 10 :: joinL (b :: r)
theorem splitL_free : ∀ a : List Nat, 10 ∉ a → splitL a = [a]
  | [], _ => rfl
  | x :: r, h => by
    have h1 : x ≠ 10 := fun e => h (e ▸ .head _)
    show (if x = 10 then _ else _) = _
    rw [if_neg h1, splitL_free r fun q => h (.tail _ q)]
theorem splitL_app : ∀ (a b : List Nat), 10 ∉ a → splitL (a ++ 10 :: b) = a :: splitL b
  | [], b, _ => by
    show (if 10 = 10 then _ else _) = _
    rw [if_pos rfl]
  | x :: r, b, h => by
    have h1 : x ≠ 10 := fun e => h (e ▸ .head _)
    show (if x = 10 then _ else _) = _
    have ih := splitL_app r b fun q => h (.tail _ q)
    rw [if_neg h1]
    show (match splitL (r ++ 10 :: b) with | h :: t => (x :: h) :: t | [] => [[x]]) = _
    rw [ih]
theorem splitL_joinL : ∀ l : List (List Nat), l ≠ [] → (∀ a ∈ l, 10 ∉ a) → splitL (joinL l) = l
  | [], h, _ => absurd rfl h
  | [a], _, h => splitL_free a (h a (.head _))
  | a :: b :: r, _, h => by
    show splitL (a ++ 10 :: joinL (b :: r)) = _
    rw [splitL_app a _ (h a (.head _)), splitL_joinL (b :: r) (by simp) fun x hx => h x (.tail _ hx)]
theorem nl_one : Str.ofString "\n" = ⟨#[10]⟩ := by decide +kernel
theorem join_joinL : ∀ l : List Str, (Str.join ⟨#[10]⟩ l).cps.toList = joinL (l.map fun s => s.cps.toList)
  | [] => rfl
  | [a] => rfl
  | a :: b :: r => by
    show ((a ++ (⟨#[10]⟩ : Str)) ++ Str.join ⟨#[10]⟩ (b :: r)).cps.toList = _
    have ih := join_joinL (b :: r)
    show ((a.cps ++ #[10]) ++ (Str.join ⟨#[10]⟩ (b :: r)).cps).toList = a.cps.toList ++ 10 :: joinL ((b :: r).map fun s => s.cps.toList)
    rw [← ih]
    simp
theorem split_fast (o : List Nat) : Txt.split ⟨o.toArray⟩ (Str.ofString "\n") = (splitL o).map fun a => (⟨a.toArray⟩ : Str) := by
  rw [nl_one]
  have h1 := StrLaws.join_split ⟨o.toArray⟩ ⟨#[10]⟩
  have h2 := StrLaws.split_free ⟨o.toArray⟩ 10
  have h3 := split_pos ⟨o.toArray⟩ ⟨#[10]⟩
  generalize Txt.split ⟨o.toArray⟩ ⟨#[10]⟩ = l at h1 h2 h3
  have h4 := join_joinL l
  rw [h1] at h4
  have h5 : o = joinL (l.map fun s => s.cps.toList) := by simpa using h4
  have h6 := splitL_joinL (l.map fun s => s.cps.toList) (by intro e; rw [List.map_eq_nil_iff] at e; rw [e] at h3; simp at h3) (by
    intro a ha
    obtain ⟨s, hs, rfl⟩ := List.mem_map.mp ha
    exact h2 s hs)
  rw [h5, h6, List.map_map]
  have : ((fun a => (⟨a.toArray⟩ : Str)) ∘ fun (s : Str) => s.cps.toList) = id := by funext s; rfl
  rw [this, List.map_id]
noncomputable def rowsF (o : List Nat) : List Str := ((splitL o).map fun a => (⟨a.toArray⟩ : Str)).dropLast
theorem rowsOf_fast (o : List Nat) : rowsOf o = rowsF o := by unfold rowsOf rowsF; rw [split_fast]
end Mine
end
section -- YFast
open PySem PySem.W PySem.Calls PyProof.Rows PyProof.V PySem.Spec
set_option maxRecDepth 100000
set_option maxHeartbeats 1000000
namespace Mine
theorem off_YFast : True := by w_top off; trivial
noncomputable def CellG (c : Array UInt8) : Prop := c = closeCell ∨ ∃ k q, k < 6 ∧ q < 4 ∧ c = openCell k q
theorem cellsTo_good (ms : List Int) (q : Nat → Nat) (hq : ∀ k, q k < 4) : ∀ i, i ≤ 6 → ∀ c ∈ cellsTo ms q i, CellG c
  | 0, _, c, hc => by cases hc
  | i + 1, hi, c, hc => by
    unfold cellsTo at hc
    rcases List.mem_append.mp hc with hc | hc
    · rcases List.mem_append.mp hc with hc | hc
      · exact cellsTo_good ms q hq i (by (first | lia | omega)) c hc
      · exact .inl (List.mem_replicate.mp hc).2
    · exact .inr ⟨i, q i, by (first | lia | omega), hq i, List.mem_singleton.mp hc⟩
theorem cellsOf_good (ms : List Int) (q : Nat → Nat) (hq : ∀ k, q k < 4) : ∀ c ∈ cellsOf ms q, CellG c := by
  intro c hc
  unfold cellsOf at hc
  rcases List.mem_append.mp hc with hc | hc
  · exact cellsTo_good ms q hq 6 (Nat.le_refl _) c hc
  · exact .inl (List.mem_replicate.mp hc).2
/-- the depths told, by what each cell adds -/
noncomputable def sgn (c : Array UInt8) : Int := if c.size == 1 then -1 else 1
theorem sgn_open : ∀ k, k < 6 → ∀ q, q < 4 → sgn (openCell k q) = 1 := by decide +kernel
theorem delta_sgn {c : Array UInt8} (h : CellG c) : delta c = sgn c := by
  rcases h with rfl | ⟨k, q, hk, hq, rfl⟩
  · exact delta_close
  · rw [delta_open k hk q hq, sgn_open k hk q hq]
theorem delta_nil : delta #[] = 0 := by decide +kernel
noncomputable def toldF (dl : List Int) : Nat → List Int
  | 0 => [0]
  | i + 1 => let t := toldF dl i; t ++ [t.getD i 0 + dl.getD i 0]
theorem told_fast {cs : List (Array UInt8)} {dl : List Int} (h : ∀ i, delta (cs.getD i #[]) = dl.getD i 0) : ∀ i, toldTo cs i = toldF dl i
  | 0 => rfl
  | i + 1 => by
    show toldTo cs i ++ [pdOf (cs.getD i #[]) ((toldTo cs i).getD i 0)] = toldF dl i ++ [(toldF dl i).getD i 0 + dl.getD i 0]
    rw [told_fast h i, pdOf_delta, h]
noncomputable def tellF (ms : List Int) : List Int := toldF ((plainCells ms).map sgn) 12
theorem told_plain (ms : List Int) : toldTo (plainCells ms) 12 = tellF ms := by
  refine told_fast (fun i => ?_) 12
  rw [List.getD_eq_getElem?_getD, List.getD_eq_getElem?_getD, List.getElem?_map]
  cases e : (plainCells ms)[i]? with
  | none => exact delta_nil
  | some c => exact delta_sgn (cellsOf_good ms _ (fun _ => by (clear e; (first | lia | omega))) c (List.mem_of_getElem? e))
noncomputable def poppedF (ms : List Int) : List (List Nat) := (popTo (plainCells ms) (tellF ms) 12).2
theorem popped_fast (ms : List Int) : poppedOf ms = poppedF ms := by unfold poppedOf poppedF; rw [told_plain]
end Mine
end
section -- YIndF
open PySem PySem.W PySem.Calls PyProof.Rows PyProof.V PySem.Spec
set_option maxRecDepth 100000
set_option maxHeartbeats 1000000
namespace Mine
theorem off_YIndF : True := by w_top off; trivial
/-- the setting in, over a plain list -/
noncomputable def indL (sp : List Nat) : Bool → List Nat → List Nat
  | _, [] => []
  | b, x :: r => (if b && x != 10 then sp else []) ++ x :: indL sp (x == 10) r
noncomputable def startB (a : List Nat) : Bool := a.length == 0 || a.getD (a.length - 1) 0 == 10
theorem getD_app (a l : List Nat) (i : Nat) (h : i < a.length) : (a ++ l).toArray.getD i 0 = a.getD i 0 := by
  rw [Array.getD_eq_getD_getElem?, List.getElem?_toArray, List.getElem?_append_left h, List.getD_eq_getElem?_getD]
theorem getD_mid (a r : List Nat) (x : Nat) : (a ++ x :: r).toArray.getD a.length 0 = x := by
  rw [Array.getD_eq_getD_getElem?, List.getElem?_toArray, List.getElem?_append_right (Nat.le_refl _)]
  simp
theorem indR_list (sp : List Nat) : ∀ (l a : List Nat), indR sp (a ++ l).toArray l.length a.length false = indL sp (startB a) l
  | [], _ => rfl
  | x :: r, a => by
    show (if (hitB (a ++ x :: r).toArray a.length && !false) = true then sp else []) ++ (a ++ x :: r).toArray.getD a.length 0 :: indR sp (a ++ x :: r).toArray r.length (a.length + 1) false = (if startB a && x != 10 then sp else []) ++ x :: indL sp (x == 10) r
    have e1 : a ++ x :: r = (a ++ [x]) ++ r := by simp
    have e2 : a.length + 1 = (a ++ [x]).length := by simp
    have e3 : startB (a ++ [x]) = (x == 10) := by
      unfold startB
      have : (a ++ [x]).getD ((a ++ [x]).length - 1) 0 = x := by simp [List.getD]
      rw [this]
      simp
    have e4 : hitB (a ++ x :: r).toArray a.length = (startB a && x != 10) := by
      unfold hitB startB
      have h1 : (a.length == (a ++ x :: r).toArray.size) = false := by simp
      rw [getD_mid, h1]
      cases a with
      | nil => simp [bne]
      | cons y t => rw [getD_app (y :: t) (x :: r) _ (by simp)]; simp [bne]
    rw [getD_mid, e4, Bool.not_false, Bool.and_true]
    congr 2
    have := indR_list sp r (a ++ [x])
    rw [e3] at this
    rw [← this, ← e1, ← e2]
theorem ind_fast (wd : Nat) (l : List Nat) : indOf wd l = indL (List.replicate wd 32) true l := indR_list _ l []
noncomputable def outlF (nm : Nat → List Nat) (tl : List Int) (wd : Nat) : Nat → Nat → Nat → List Nat × List Nat
  | 0, _, _ => ([], [])
  | k + 1, i, j => if i ≥ j then ([], []) else
    let c := findC tl i j (j - (i + 1)) (i + 1)
    let a := outlF nm tl wd k (i + 1) c
    let b := outlF nm tl wd k (c + 1) j
    (nm i ++ [10] ++ indL (List.replicate wd 32) true a.1 ++ b.1, nm i ++ [10] ++ indL (List.replicate wd 32) true b.2 ++ a.2)
theorem outl_fast (cs : List (Array UInt8)) (tl : List Int) (wd : Nat) : ∀ k i j, outl cs tl wd k i j = outlF (nameAt cs) tl wd k i j
  | 0, _, _ => rfl
  | k + 1, i, j => by
    unfold outl outlF
    by_cases h : i ≥ j
    · rw [if_pos h, if_pos h]
    · rw [if_neg h, if_neg h]
      simp only [outl_fast cs tl wd k, ind_fast]
end Mine
end
section -- YReadF
open PySem PySem.W PySem.Calls PyProof.Rows PyProof.V PySem.Spec
set_option maxRecDepth 100000
set_option maxHeartbeats 1000000
namespace Mine
theorem off_YReadF : True := by w_top off; trivial
noncomputable def eqL : List Nat → List Nat → Bool
  | [], [] => true
  | x :: r, y :: t => Nat.beq x y && eqL r t
  | _, _ => false
theorem eqL_iff : ∀ a b : List Nat, eqL a b = true ↔ a = b
  | [], [] => by simp [eqL]
  | [], _ :: _ => by simp [eqL]
  | _ :: _, [] => by simp [eqL]
  | x :: r, y :: t => by
    show (Nat.beq x y && eqL r t) = true ↔ _
    rw [Bool.and_eq_true, eqL_iff r t, Nat.beq_eq]
    simp
theorem eqL_eq (a b : List Nat) : eqL a b = decide (a = b) := by
  cases h : eqL a b
  · exact (decide_eq_false fun e => by rw [(eqL_iff a b).mpr e] at h; cases h).symm
  · exact (decide_eq_true ((eqL_iff a b).mp h)).symm
noncomputable def eqLL : List (List Nat) → List (List Nat) → Bool
  | [], [] => true
  | x :: r, y :: t => eqL x y && eqLL r t
  | _, _ => false
theorem eqLL_eq : ∀ a b : List (List Nat), eqLL a b = true → a = b
  | [], [], _ => rfl
  | [], _ :: _, h => by cases h
  | _ :: _, [], h => by cases h
  | x :: r, y :: t, h => by
    have h : (eqL x y && eqLL r t) = true := h
    rw [Bool.and_eq_true, eqL_iff] at h
    rw [h.1, eqLL_eq r t h.2]
noncomputable def strO (l : List Nat) : Str := ⟨l.toArray⟩
theorem strO_inj {a b : List Nat} : strO a = strO b ↔ a = b := ⟨fun e => by
  have := congrArg (fun s => s.cps.toList) e
  simpa [strO] using this, fun e => e ▸ rfl⟩
noncomputable def cutSp : List Nat → List Nat
  | [] => []
  | x :: r => if Nat.beq x 32 then cutSp r else x :: r
theorem cutSp_drop : ∀ l : List Nat, cutSp l = l.drop (l.takeWhile (#[32] : Array Nat).contains).length
  | [] => rfl
  | x :: r => by
    have hc : (#[32] : Array Nat).contains x = Nat.beq x 32 := by
      rw [Bool.eq_iff_iff, Nat.beq_eq]
      simp
    by_cases h : Nat.beq x 32 = true
    · rw [List.takeWhile_cons, hc, if_pos h, List.length_cons, List.drop_succ_cons, ← cutSp_drop r]
      show (if _ then _ else _) = _
      rw [if_pos h]
    · rw [List.takeWhile_cons, hc, if_neg h]
      show (if _ then _ else _) = _
      rw [if_neg h]
      rfl
theorem cutSp_le (l : List Nat) : (cutSp l).length ≤ l.length := by rw [cutSp_drop, List.length_drop]; (first | lia | omega)
theorem nameOf_fast (l : List Nat) : nameOf (strO l) = strO (cutSp l) := by
  have e1 : Str.ofString " " = ⟨#[32]⟩ := by decide +kernel
  unfold nameOf Txt.lstripChars Txt.stripBy
  rw [e1, cutSp_drop]
  have e2 : PySem.stripLo (#[32] : Array Nat).contains true (strO l) = (l.takeWhile (#[32] : Array Nat).contains).length := by
    unfold PySem.stripLo
    rw [if_pos rfl]
    simp [strO]
  have e3 : ∀ n, PySem.stripHi (#[32] : Array Nat).contains false (strO l) n = (strO l).length := fun n => by unfold PySem.stripHi; rfl
  unfold PySem.stripSame PySem.stripped
  rw [e2, e3]
  generalize (l.takeWhile (#[32] : Array Nat).contains).length = n
  have hx : PySem.Builtin.Str.strSub (strO l) n (strO l).length = strO (l.drop n) := by
    unfold PySem.Builtin.Str.strSub strO
    show (⟨l.toArray.extract n l.toArray.size⟩ : Str) = ⟨(l.drop n).toArray⟩
    congr 1
    apply Array.toList_inj.mp
    simp only [Array.toList_extract, List.extract_eq_take_drop, List.size_toArray]
    exact List.take_of_length_le (by rw [List.length_drop]; (clear e1 e2; (first | lia | omega)))
  split
  · rename_i h
    rw [Bool.and_eq_true] at h
    have : n = 0 := by simpa using h.1
    subst this
    rfl
  · exact hx
structure ReadF where
  pile : List (List Nat)
  names : List (List Nat)
  leads : List (List Nat × Nat)
noncomputable def putF (c : List (List Nat × Nat)) (k : List Nat) (v : Nat) : List (List Nat × Nat) :=
  if c.any (fun p => eqL p.1 k) then c.map (fun p => if eqL p.1 k then (p.1, v) else p) else c ++ [(k, v)]
noncomputable def popF (wd lead : Nat) : List (List Nat) → List (List Nat) → List (List Nat) × List (List Nat)
  | [], ns => ([], ns)
  | x :: r, ns => if Nat.ble ((r.length + 1) * wd) lead then (x :: r, ns) else popF wd lead r (ns ++ [x])
noncomputable def stepF (wd : Nat) (st : ReadF) (row : List Nat) : ReadF :=
  let nm := cutSp row
  let ld := row.length - nm.length
  let r := popF wd ld st.pile st.names
  ⟨nm :: r.1, r.2, putF st.leads nm ld⟩
noncomputable def leadS (c : List (List Nat × Nat)) : List (Str × Int) := c.map fun p => (strO p.1, (p.2 : Int))
noncomputable def backF (st : ReadF) : ReadSt := ⟨st.pile, st.names, leadS st.leads⟩
theorem popF_eq (wd lead : Nat) : ∀ (p ns : List (List Nat)), popW wd lead p ns = popF wd lead p ns
  | [], _ => rfl
  | x :: r, ns => by
    show (if (r.length + 1) * wd > lead then popW wd lead r (ns ++ [x]) else (x :: r, ns)) = (if Nat.ble ((r.length + 1) * wd) lead then (x :: r, ns) else popF wd lead r (ns ++ [x]))
    by_cases h : (r.length + 1) * wd > lead
    · rw [if_pos h, if_neg (by rw [Nat.ble_eq]; (first | lia | omega)), popF_eq wd lead r]
    · rw [if_neg h, if_pos (by rw [Nat.ble_eq]; (first | lia | omega))]
theorem putF_eq (c : List (List Nat × Nat)) (k : List Nat) (v : Nat) : kdpPut (leadS c) (strO k) (v : Int) = leadS (putF c k v) := by
  have e : ∀ p : List Nat × Nat, decide (strO p.1 = strO k) = eqL p.1 k := fun p => by rw [eqL_eq]; exact decide_eq_decide.mpr strO_inj
  unfold kdpPut putF leadS
  rw [List.any_map]
  have e2 : ((fun p : Str × Int => decide (p.1 = strO k)) ∘ fun (p : List Nat × Nat) => (strO p.1, (p.2 : Int))) = fun p => eqL p.1 k := by funext p; exact e p
  rw [e2]
  split
  · rw [List.map_map, List.map_map]
    apply List.map_congr_left
    intro p _
    show (if decide (strO p.1 = strO k) = true then (strO p.1, (v : Int)) else (strO p.1, (p.2 : Int))) = _
    rw [e p]
    show _ = (fun p : List Nat × Nat => (strO p.1, (p.2 : Int))) (if eqL p.1 k = true then (p.1, v) else p)
    split <;> rfl
  · rw [List.map_append]
    rfl
theorem stepF_eq (wd : Nat) (st : ReadF) (row : List Nat) : readStep wd (backF st) (strO row) = backF (stepF wd st row) := by
  unfold readStep stepF
  have e1 : leadOf (strO row) = ((row.length - (cutSp row).length : Nat) : Int) := by
    unfold leadOf
    rw [nameOf_fast]
    have := cutSp_le row
    show (row.toArray.size : Int) - ((cutSp row).toArray.size : Int) = _
    simp only [List.size_toArray]
    (first | lia | omega)
  rw [e1, nameOf_fast, Int.toNat_natCast, popF_eq]
  show ReadSt.mk _ _ _ = ReadSt.mk _ _ _
  congr 1
  exact putF_eq st.leads (cutSp row) _
noncomputable def readF (wd : Nat) (rows : List (List Nat)) : ReadF := rows.foldl (stepF wd) ⟨[], [], []⟩
theorem readF_eq (wd : Nat) (rows : List (List Nat)) : readAll wd (rows.map strO) = backF (readF wd rows) := by
  unfold readAll readF
  have : ∀ (rows : List (List Nat)) (st : ReadF), (rows.map strO).foldl (readStep wd) (backF st) = backF (rows.foldl (stepF wd) st) := by
    intro rows
    induction rows with
    | nil => intro st; rfl
    | cons a r ih => intro st; rw [List.map_cons, List.foldl_cons, List.foldl_cons, stepF_eq, ih]
  exact this rows ⟨[], [], []⟩
theorem rows_strO (o : List Nat) : rowsOf o = (splitL o).dropLast.map strO := by
  rw [rowsOf_fast]
  unfold rowsF
  exact (List.map_dropLast ..).symm
end Mine
end
section -- YAll
open PySem PySem.W PySem.Calls PyProof.Rows PyProof.V PySem.Spec
set_option maxRecDepth 100000
set_option maxHeartbeats 1000000
namespace Mine
theorem off_YAll : True := by w_top off; trivial
theorem open_good : ∀ k, k < 6 → ∀ q, q < 4 → NameB ((openCell k q).extract 1 2) ∧ (openCell k q).size ≤ 100 := by decide +kernel
theorem cell_good {c : Array UInt8} (h : CellG c) : NameB (c.extract 1 2) ∧ c.size ≤ 100 := by
  rcases h with rfl | ⟨k, q, hk, hq, rfl⟩
  · decide +kernel
  · exact open_good k hk q hq
theorem plain_good (ms : List Int) (i : Nat) : NameB (((plainCells ms).getD i #[]).extract 1 2) ∧ ((plainCells ms).getD i #[]).size ≤ 100 := by
  rw [List.getD_eq_getElem?_getD]
  cases e : (plainCells ms)[i]? with
  | none => exact ⟨.inl (by decide +kernel), by decide +kernel⟩
  | some c => exact cell_good (cellsOf_good ms _ (fun _ => by (clear e; (first | lia | omega))) c (List.mem_of_getElem? e))
noncomputable def okF (nm : Nat → List Nat) (tl : List Int) (wd : Nat) : Nat → Nat → Nat → Bool
  | 0, i, j => Nat.ble j i
  | k + 1, i, j => if Nat.ble j i then true else
    let c := findC tl i j (j - (i + 1)) (i + 1)
    okF nm tl wd k (i + 1) c && okF nm tl wd k (c + 1) j && Nat.ble (outlF nm tl wd k (i + 1) c).1.length 1000 && Nat.ble (outlF nm tl wd k (c + 1) j).2.length 1000
      && Nat.ble (outlF nm tl wd k (i + 1) c).2.length 1000 && Nat.ble (outlF nm tl wd k (c + 1) j).1.length 1000
theorem okF_ok {cs : List (Array UInt8)} {tl : List Int} {wd : Nat} (hg : ∀ i, NameB ((cs.getD i #[]).extract 1 2) ∧ (cs.getD i #[]).size ≤ 100) : ∀ k i j, okF (nameAt cs) tl wd k i j = true → outlOk cs tl wd k i j = true
  | 0, i, j, h => decide_eq_true (Nat.le_of_ble_eq_true h)
  | k + 1, i, j, h => by
    unfold outlOk
    unfold okF at h
    by_cases hij : i ≥ j
    · rw [if_pos hij]
    · rw [if_neg (by rw [Nat.ble_eq]; exact hij)] at h
      rw [if_neg hij]
      simp only [Bool.and_eq_true, Nat.ble_eq] at h
      simp only [Bool.and_eq_true, decide_eq_true_eq, outl_fast]
      obtain ⟨⟨⟨⟨⟨h1, h2⟩, h3⟩, h4⟩, h5⟩, h6⟩ := h
      exact ⟨⟨⟨⟨⟨⟨⟨okF_ok hg k _ _ h1, okF_ok hg k _ _ h2⟩, h3⟩, h4⟩, h5⟩, h6⟩, (hg i).1⟩, (hg i).2⟩
noncomputable def outF (ms : List Int) (wd : Nat) : List Nat × List Nat := outlF (nameAt (plainCells ms)) (tellF ms) wd 12 0 12
noncomputable def rowF (ms : List Int) (wd : Nat) : List (List Nat) := (splitL (outF ms wd).2).dropLast
noncomputable def rdF (ms : List Int) (wd : Nat) : ReadF := readF wd (rowF ms wd)
noncomputable def wideF (ms : List Int) (wd : Nat) : Bool :=
  okF (nameAt (plainCells ms)) (tellF ms) wd 12 0 12 && eqL (outF ms wd).1 (pageOf ms wd) && Nat.ble (outF ms wd).2.length 1000 && Nat.ble (rowF ms wd).length 100 && ((rowF ms wd).all fun r => Nat.ble r.length 1000)
    && eqLL ((rdF ms wd).names ++ (rdF ms wd).pile) (poppedF ms).reverse && Nat.beq (rdF ms wd).leads.length 6 && ((rdF ms wd).leads.all fun p => (List.range 6).any fun k => eqL p.1 [97 + k] && decide ((p.2 : Int) = (wd : Int) * (eldersTo ms 6).getD k 0))
noncomputable def goodF (ms : List Int) : Bool :=
  Nat.beq (plainCells ms).length 12 && ((List.range 12).all fun k => popOk (plainCells ms) (tellF ms) k) && evalOk 6 (lexlt (keysOf ms)) (kas_sort 6) && ((closing ms).all fun i => Nat.blt i 6)
    && eqLL (poppedF ms) ((closing ms).map fun k => [97 + k]) && Nat.beq (closing ms).length 6 && wideF ms 1 && wideF ms 2 && wideF ms 3
noncomputable def chunk (i : Nat) : List (List Int) := ((forests 5).drop (22 * i)).take 22
theorem good_0 : (chunk 0).all goodF = true := by decide +kernel
theorem good_1 : (chunk 1).all goodF = true := by decide +kernel
theorem good_2 : (chunk 2).all goodF = true := by decide +kernel
theorem good_3 : (chunk 3).all goodF = true := by decide +kernel
theorem good_4 : (chunk 4).all goodF = true := by decide +kernel
theorem good_5 : (chunk 5).all goodF = true := by decide +kernel
theorem chunk_mem {ms : List Int} (h : ms ∈ forests 5) : ∃ i, i < 6 ∧ ms ∈ chunk i := by
  obtain ⟨j, hj, rfl⟩ := List.mem_iff_getElem.mp h
  have hj' : j < 132 := forests_count ▸ hj
  refine ⟨j / 22, by (first | lia | omega), ?_⟩
  unfold chunk
  refine List.mem_iff_getElem.mpr ⟨j % 22, ?_, ?_⟩
  · rw [List.length_take, List.length_drop, forests_count]; (first | lia | omega)
  · rw [List.getElem_take, List.getElem_drop]
    congr 1
    (clear hj'; (first | lia | omega))
theorem all_good {ms : List Int} (h : ms ∈ forests 5) : goodF ms = true := by
  obtain ⟨i, hi, h⟩ := chunk_mem h
  rcases (by (first | lia | omega) : i = 0 ∨ i = 1 ∨ i = 2 ∨ i = 3 ∨ i = 4 ∨ i = 5) with rfl | rfl | rfl | rfl | rfl | rfl
  · exact List.all_eq_true.mp good_0 _ h
  · exact List.all_eq_true.mp good_1 _ h
  · exact List.all_eq_true.mp good_2 _ h
  · exact List.all_eq_true.mp good_3 _ h
  · exact List.all_eq_true.mp good_4 _ h
  · exact List.all_eq_true.mp good_5 _ h
section
variable {ms : List Int} (hm : ms ∈ forests 5)
include hm in
theorem a_len : (plainCells ms).length = 12 := by
  have h := all_good hm
  unfold goodF at h
  simp only [Bool.and_eq_true, Nat.beq_eq] at h
  exact h.1.1.1.1.1.1.1.1
include hm in
theorem a_wide {wd : Nat} (hw : 1 ≤ wd ∧ wd ≤ 3) : wideF ms wd = true := by
  have h := all_good hm
  unfold goodF at h
  simp only [Bool.and_eq_true] at h
  rcases (by (clear h; (first | lia | omega)) : wd = 1 ∨ wd = 2 ∨ wd = 3) with rfl | rfl | rfl
  · exact h.1.1.2
  · exact h.1.2
  · exact h.2
theorem out_eq (ms : List Int) (wd : Nat) : outl (plainCells ms) (toldTo (plainCells ms) 12) wd 12 0 12 = outF ms wd := by rw [told_plain, outl_fast]; rfl
include hm in
theorem a_ok {wd : Nat} (hw : 1 ≤ wd ∧ wd ≤ 3) : outlOk (plainCells ms) (toldTo (plainCells ms) 12) wd 12 0 12 = true := by
  have h := a_wide hm hw
  unfold wideF at h
  simp only [Bool.and_eq_true] at h
  rw [told_plain]
  exact okF_ok (plain_good ms) _ _ _ h.1.1.1.1.1.1.1
include hm in
theorem a_page {wd : Nat} (hw : 1 ≤ wd ∧ wd ≤ 3) : (outl (plainCells ms) (toldTo (plainCells ms) 12) wd 12 0 12).1 = pageOf ms wd := by
  have h := a_wide hm hw
  unfold wideF at h
  simp only [Bool.and_eq_true] at h
  rw [out_eq]
  exact (eqL_iff _ _).mp h.1.1.1.1.1.1.2
include hm in
theorem a_pop {k : Nat} (hk : k < 12) : popOk (plainCells ms) (toldTo (plainCells ms) 12) k = true ∧ NameB (((plainCells ms).getD k #[]).extract 1 2) := by
  have h := all_good hm
  unfold goodF at h
  simp only [Bool.and_eq_true] at h
  refine ⟨?_, (plain_good ms k).1⟩
  rw [told_plain]
  exact List.all_eq_true.mp h.1.1.1.1.1.1.1.2 k (List.mem_range.mpr hk)
include hm in
theorem a_close : evalOk 6 (lexlt (keysOf ms)) (kas_sort 6) = true ∧ (∀ i ∈ closing ms, i < 6) ∧ poppedOf ms = (closing ms).map (fun k => [97 + k]) ∧ (closing ms).length = 6 := by
  have h := all_good hm
  unfold goodF at h
  simp only [Bool.and_eq_true] at h
  obtain ⟨⟨⟨⟨⟨⟨h1, h2⟩, h3⟩, h4⟩, _⟩, _⟩, _⟩ := h
  refine ⟨h1.2, fun i hi => ?_, ?_, Nat.eq_of_beq_eq_true h4⟩
  · have := List.all_eq_true.mp h2 i hi
    rw [Nat.blt, Nat.ble_eq] at this
    exact this
  · rw [popped_fast]
    exact eqLL_eq _ _ h3
include hm in
theorem a_read {wd : Nat} (hw : 1 ≤ wd ∧ wd ≤ 3) : (crossedOf ms wd).length ≤ 1000 ∧ (rowsOf (crossedOf ms wd)).length ≤ 100 ∧ (∀ r ∈ rowsOf (crossedOf ms wd), r.length ≤ 1000) ∧ readNames wd (rowsOf (crossedOf ms wd)) = (poppedOf ms).reverse ∧ (readAll wd (rowsOf (crossedOf ms wd))).leads.length = 6 ∧
    ∀ p ∈ (readAll wd (rowsOf (crossedOf ms wd))).leads, ∃ k, k < 6 ∧ p.1 = (⟨#[97 + k]⟩ : Str) ∧ p.2 = (wd : Int) * (eldersTo ms 6).getD k 0 := by
  have h := a_wide hm hw
  unfold wideF at h
  simp only [Bool.and_eq_true, Nat.ble_eq, Nat.beq_eq] at h
  obtain ⟨⟨⟨⟨⟨⟨_, h1⟩, h2⟩, h3⟩, h4⟩, h5⟩, h6⟩ := h
  have ec : crossedOf ms wd = (outF ms wd).2 := by unfold crossedOf; rw [out_eq]
  have er : rowsOf (crossedOf ms wd) = (rowF ms wd).map strO := by rw [ec, rows_strO]; rfl
  have ea : readAll wd (rowsOf (crossedOf ms wd)) = backF (rdF ms wd) := by rw [er, readF_eq]; rfl
  refine ⟨by rw [ec]; exact h1, by rw [er, List.length_map]; exact h2, fun r hr => ?_, ?_, ?_, fun p hp => ?_⟩
  · rw [er] at hr
    obtain ⟨l, hl, rfl⟩ := List.mem_map.mp hr
    have := List.all_eq_true.mp h3 l hl
    rw [Nat.ble_eq] at this
    show l.toArray.size ≤ _
    rw [List.size_toArray]
    exact this
  · unfold readNames
    rw [ea, popped_fast]
    exact eqLL_eq _ _ h4
  · rw [ea]
    show (leadS _).length = 6
    unfold leadS
    rw [List.length_map]
    exact h5
  · rw [ea] at hp
    obtain ⟨q, hq, rfl⟩ := List.mem_map.mp hp
    obtain ⟨k, hk, h7⟩ := List.any_eq_true.mp (List.all_eq_true.mp h6 q hq)
    rw [Bool.and_eq_true, eqL_iff] at h7
    exact ⟨k, List.mem_range.mp hk, by show strO q.1 = _; rw [h7.1]; rfl, of_decide_eq_true h7.2⟩
end
end Mine
end
section -- YPure
open PySem PySem.W PySem.Calls PyProof.Rows PyProof.V PySem.Spec
set_option maxRecDepth 100000
set_option maxHeartbeats 1000000
namespace Mine
theorem off_YPure : True := by w_top off; trivial
noncomputable def qAll (text : Array Nat) (p : Nat) : List Nat := qR text text.size p
theorem qAll_step {text : Array Nat} {p : Nat} (hp : p < text.size) : qAll text p = match quoteAt text p with | some e => qAll text e | none => text.getD p 0 :: qAll text (p + 1) := by
  unfold qAll
  obtain ⟨n, hn⟩ : ∃ n, text.size = n + 1 := ⟨text.size - 1, by (first | lia | omega)⟩
  have e1 : qR text text.size p = qR text (n + 1) p := by rw [hn]
  rw [e1]
  show (if p ≥ text.size then [] else match quoteAt text p with | some e => qR text n e | none => text.getD p 0 :: qR text n (p + 1)) = _
  rw [if_neg (by (clear e1; (first | lia | omega)))]
  cases hq : quoteAt text p with
  | none => dsimp only; rw [qR_fuel text n text.size (p + 1) (by (clear e1 hq; (first | lia | omega))) (by (clear e1 hq; (first | lia | omega)))]
  | some e =>
    have := quoteAt_some hq
    dsimp only
    rw [qR_fuel text n text.size e (by (clear e1 hp hq; (first | lia | omega))) (by (clear e1 hp hq; (first | lia | omega)))]
theorem qAll_plain {text : Array Nat} {p : Nat} (hp : p < text.size) (h : text.getD p 0 ≠ 34) : qAll text p = text.getD p 0 :: qAll text (p + 1) := by
  rw [qAll_step hp]
  have : quoteAt text p = none := by
    unfold quoteAt
    rw [if_neg (by (clear h; (first | lia | omega))), if_neg (by simpa using h)]
  rw [this]
theorem qAll_quote {text : Array Nat} {p e : Nat} (hp : p < text.size) (h : quoteAt text p = some e) : qAll text p = qAll text e := by rw [qAll_step hp, h]
theorem bodyEnd_plain {text : Array Nat} {d p : Nat} (hp : p < text.size) (h1 : text.getD p 0 ≠ 34) (h2 : text.getD p 0 ≠ 92) : bodyEnd text (d + 1) p = bodyEnd text d (p + 1) := by
  show (if p ≥ text.size then p else _) = _
  rw [if_neg (by (clear h1 h2; (first | lia | omega))), if_neg (by simpa using h1), if_neg (by simpa using h2)]
theorem bodyEnd_esc {text : Array Nat} {d p : Nat} (hp : p + 1 < text.size) (h2 : text.getD p 0 = 92) (h3 : text.getD (p + 1) 0 ≠ 10) : bodyEnd text (d + 1) p = bodyEnd text d (p + 1 + 1) := by
  show (if p ≥ text.size then p else _) = _
  rw [if_neg (by (clear h2 h3; (first | lia | omega))), if_neg (by rw [h2]; decide), if_pos (by rw [h2]; decide), if_neg (by (clear h2 h3; (first | lia | omega))), if_pos (by simpa using h3)]
theorem bodyEnd_stop {text : Array Nat} {d p : Nat} (h1 : text.getD p 0 = 34) : bodyEnd text (d + 1) p = p := by
  show (if p ≥ text.size then p else _) = _
  split
  · rfl
  · rw [if_pos (by rw [h1]; decide)]
theorem quoteAt_of {text : Array Nat} {p e : Nat} (hp : p < text.size) (h1 : text.getD p 0 = 34) (hb : bodyEnd text text.size (p + 1) = e) (he : e < text.size) (h2 : text.getD e 0 = 34) : quoteAt text p = some (e + 1) := by
  unfold quoteAt
  rw [if_neg (by (clear h1 h2 hb he; (first | lia | omega))), if_pos (by rw [h1]; decide), hb, if_neg (by (clear h1 h2 hb hp; (first | lia | omega))), if_pos (by rw [h2]; decide)]
/-- the bytes of a cell stand at p -/
noncomputable def AtP (text : Array Nat) (p : Nat) (l : List Nat) : Prop := p + l.length ≤ text.size ∧ ∀ i, i < l.length → text.getD (p + i) 0 = l.getD i 0
noncomputable def visOf (c : Array UInt8) : List Nat := (stripQ c).map (·.toNat)
theorem vis_open0 : ∀ k, k < 6 → visOf (openCell k 0) = [40, 97 + k] := by decide +kernel
theorem vis_open1 : ∀ k, k < 6 → visOf (openCell k 1) = [40, 97 + k] := by decide +kernel
theorem vis_open2 : ∀ k, k < 6 → visOf (openCell k 2) = [40, 97 + k] := by decide +kernel
theorem vis_open3 : ∀ k, k < 6 → visOf (openCell k 3) = [40, 97 + k] := by decide +kernel
theorem nat_open0 : ∀ k, k < 6 → (openCell k 0).toList.map (·.toNat) = [40, 97 + k] := by decide +kernel
theorem nat_open1 : ∀ k, k < 6 → (openCell k 1).toList.map (·.toNat) = [40, 97 + k, 34, 41, 41, 34] := by decide +kernel
theorem nat_open2 : ∀ k, k < 6 → (openCell k 2).toList.map (·.toNat) = [40, 97 + k, 34, 92, 34, 41, 34] := by decide +kernel
theorem nat_open3 : ∀ k, k < 6 → (openCell k 3).toList.map (·.toNat) = [40, 97 + k, 34, 40, 92, 92, 34] := by decide +kernel
theorem vis_close : visOf closeCell = [41] := by decide +kernel
theorem nat_close : closeCell.toList.map (·.toNat) = [41] := by decide +kernel
theorem atp {text : Array Nat} {p : Nat} {l : List Nat} (h : AtP text p l) (i : Nat) (hi : i < l.length) {x : Nat} (hx : l.getD i 0 = x) : p + i < text.size ∧ text.getD (p + i) 0 = x := ⟨by have := h.1; (clear hx; (first | lia | omega)), (h.2 i hi).trans hx⟩
theorem two_plain {text : Array Nat} {p k : Nat} (hk : k < 6) (h0 : p < text.size ∧ text.getD p 0 = 40) (h1 : p + 1 < text.size ∧ text.getD (p + 1) 0 = 97 + k) : qAll text p = 40 :: (97 + k) :: qAll text (p + 2) := by
  rw [qAll_plain h0.1 (by rw [h0.2]; simp), h0.2, qAll_plain h1.1 (by rw [h1.2]; (clear h0; (first | lia | omega))), h1.2]
theorem cell_step {text : Array Nat} {p : Nat} {c : Array UInt8} (hc : c = closeCell ∨ ∃ k q, k < 6 ∧ q < 4 ∧ c = openCell k q) (h : AtP text p (c.toList.map (·.toNat))) : qAll text p = visOf c ++ qAll text (p + c.size) := by
  rcases hc with rfl | ⟨k, q, hk, hq, rfl⟩
  · rw [nat_close] at h
    have h0 : p < text.size ∧ text.getD p 0 = 41 := atp h 0 (by decide) rfl
    rw [vis_close, qAll_plain h0.1 (by rw [h0.2]; simp), h0.2]
    rfl
  · rcases (by (clear hk; (first | lia | omega)) : q = 0 ∨ q = 1 ∨ q = 2 ∨ q = 3) with rfl | rfl | rfl | rfl
    · rw [nat_open0 k hk] at h
      have h0 : p < text.size ∧ text.getD p 0 = 40 := atp h 0 (by simp) rfl
      have h1 := atp h 1 (by simp) rfl
      rw [vis_open0 k hk, two_plain hk h0 h1]
      rfl
    · rw [nat_open1 k hk] at h
      have h0 : p < text.size ∧ text.getD p 0 = 40 := atp h 0 (by simp) rfl
      have h1 := atp h 1 (by simp) rfl
      have h2 := atp h 2 (by simp) rfl
      have h3 := atp h 3 (by simp) rfl
      have h4 := atp h 4 (by simp) rfl
      have h5 := atp h 5 (by simp) rfl
      rw [vis_open1 k hk, two_plain hk h0 h1]
      have hb : bodyEnd text text.size (p + 2 + 1) = p + 5 := by
        obtain ⟨n, hn⟩ : ∃ n, text.size = n + 1 + 1 + 1 := ⟨text.size - 3, by have := h5.1; (clear h0 h1 h2 h3 h4 hk hq this; (first | lia | omega))⟩
        rw [hn, bodyEnd_plain h3.1 (by rw [h3.2]; simp) (by rw [h3.2]; simp), bodyEnd_plain h4.1 (by rw [h4.2]; simp) (by rw [h4.2]; simp), bodyEnd_stop h5.2]
      rw [qAll_quote h2.1 (quoteAt_of h2.1 h2.2 hb h5.1 h5.2)]
      rfl
    · rw [nat_open2 k hk] at h
      have h0 : p < text.size ∧ text.getD p 0 = 40 := atp h 0 (by simp) rfl
      have h1 := atp h 1 (by simp) rfl
      have h2 := atp h 2 (by simp) rfl
      have h3 := atp h 3 (by simp) rfl
      have h4 := atp h 4 (by simp) rfl
      have h5 := atp h 5 (by simp) rfl
      have h6 := atp h 6 (by simp) rfl
      rw [vis_open2 k hk, two_plain hk h0 h1]
      have hb : bodyEnd text text.size (p + 2 + 1) = p + 6 := by
        obtain ⟨n, hn⟩ : ∃ n, text.size = n + 1 + 1 + 1 := ⟨text.size - 3, by have := h5.1; (clear h0 h1 h2 h3 h4 h5 hk hq this; (first | lia | omega))⟩
        rw [hn, bodyEnd_esc (p := p + 3) h4.1 h3.2 (by show text.getD (p + 4) 0 ≠ 10; rw [h4.2]; simp), bodyEnd_plain (p := p + 5) h5.1 (by rw [h5.2]; simp) (by rw [h5.2]; simp), bodyEnd_stop h6.2]
      rw [qAll_quote h2.1 (quoteAt_of h2.1 h2.2 hb h6.1 h6.2)]
      rfl
    · rw [nat_open3 k hk] at h
      have h0 : p < text.size ∧ text.getD p 0 = 40 := atp h 0 (by simp) rfl
      have h1 := atp h 1 (by simp) rfl
      have h2 := atp h 2 (by simp) rfl
      have h3 := atp h 3 (by simp) rfl
      have h4 := atp h 4 (by simp) rfl
      have h5 := atp h 5 (by simp) rfl
      have h6 := atp h 6 (by simp) rfl
      rw [vis_open3 k hk, two_plain hk h0 h1]
      have hb : bodyEnd text text.size (p + 2 + 1) = p + 6 := by
        obtain ⟨n, hn⟩ : ∃ n, text.size = n + 1 + 1 + 1 := ⟨text.size - 3, by have := h5.1; (clear h0 h1 h2 h3 h4 h5 hk hq this; (first | lia | omega))⟩
        rw [hn, bodyEnd_plain (p := p + 3) h3.1 (by rw [h3.2]; simp) (by rw [h3.2]; simp), bodyEnd_esc (p := p + 4) h5.1 h4.2 (by show text.getD (p + 5) 0 ≠ 10; rw [h5.2]; simp), bodyEnd_stop h6.2]
      rw [qAll_quote h2.1 (quoteAt_of h2.1 h2.2 hb h6.1 h6.2)]
      rfl
end Mine
end
section -- YPure2
open PySem PySem.W PySem.Calls PyProof.Rows PyProof.V PySem.Spec
set_option maxRecDepth 100000
set_option maxHeartbeats 1000000
namespace Mine
theorem off_YPure2 : True := by w_top off; trivial
noncomputable def flatN (l : List (Array UInt8)) : List Nat := (l.map fun c => c.toList.map (·.toNat)).flatten
theorem atp_mid (a c b : List Nat) : AtP (a ++ (c ++ b)).toArray a.length c := by
  refine ⟨by simp, fun i hi => ?_⟩
  rw [Array.getD_eq_getD_getElem?, List.getElem?_toArray, List.getElem?_append_right (by (first | lia | omega)), List.getElem?_append_left (by (first | lia | omega)), List.getD_eq_getElem?_getD]
  congr 2
  (first | lia | omega)
theorem qAll_end (text : Array Nat) : qAll text text.size = [] := by
  unfold qAll
  cases h : text.size with
  | zero => rfl
  | succ n =>
    show (if n + 1 ≥ text.size then [] else _) = _
    rw [if_pos (by (first | lia | omega))]
theorem qAll_join : ∀ (L : List (Array UInt8)) (a : List Nat), (∀ c ∈ L, CellG c) → qAll (a ++ flatN L).toArray a.length = (L.map visOf).flatten
  | [], a, _ => by
    have := qAll_end a.toArray
    simpa [flatN] using this
  | c :: L, a, h => by
    have e1 : flatN (c :: L) = c.toList.map (·.toNat) ++ flatN L := rfl
    rw [e1, cell_step (h c (.head _)) (atp_mid a _ _)]
    have e2 : a ++ (c.toList.map (·.toNat) ++ flatN L) = (a ++ c.toList.map (·.toNat)) ++ flatN L := (List.append_assoc _ _ _).symm
    have e3 : a.length + c.size = (a ++ c.toList.map (·.toNat)).length := by simp
    rw [e2, e3, qAll_join L _ fun x hx => h x (.tail _ hx)]
    rfl
theorem back8 (l : List UInt8) : (l.map (·.toNat)).map (·.toUInt8) = l := by
  induction l with
  | nil => rfl
  | cons a r ih =>
    rw [List.map_cons, List.map_cons, ih]
    congr 1
    exact UInt8.ofNat_toNat
theorem strip_join (L : List (Array UInt8)) (h : ∀ c ∈ L, CellG c) : stripQ ((L.map (·.toList)).flatten.toArray) = (L.map stripQ).flatten := by
  have e1 : ((L.map (·.toList)).flatten.toArray).map (·.toNat) = (flatN L).toArray := by
    apply Array.toList_inj.mp
    simp [flatN, List.map_flatten, List.map_map, Function.comp_def]
  have e2 : ((L.map (·.toList)).flatten.toArray).size = (flatN L).toArray.size := by rw [← e1, Array.size_map]
  unfold stripQ
  rw [e1, e2]
  have := qAll_join L [] h
  rw [List.nil_append] at this
  show (qAll (flatN L).toArray 0).map _ = _
  have t2 : qAll (flatN L).toArray 0 = (L.map visOf).flatten := this
  rw [t2, List.map_flatten, List.map_map]
  congr 1
  apply List.map_congr_left
  intro c _
  exact back8 _
theorem pd_flat (L : List (Array UInt8)) : (((L.map stripQ).flatten.count 40 : Nat) : Int) - (((L.map stripQ).flatten.count 41 : Nat) : Int) = (L.map delta).sum := by
  induction L with
  | nil => rfl
  | cons c L ih =>
    have e : delta c = ((stripQ c).count 40 : Nat) - ((stripQ c).count 41 : Nat) := rfl
    rw [List.map_cons, List.map_cons, List.flatten_cons, List.count_append, List.count_append, List.sum_cons, ← ih, e]
    (first | lia | omega)
theorem all_delta : (forests 5).all (fun ms => decide (((plainCells ms).map sgn).sum = 0)) = true := by decide +kernel
theorem qOf_lt (ns : List Int) (k : Nat) : qOf ns k < 4 := by
  unfold qOf
  have := Int.fmod_nonneg_of_pos ((ns.getD k 0).fdiv 60) (show (0 : Int) < 4 by decide)
  have := Int.fmod_lt_of_pos ((ns.getD k 0).fdiv 60) (show (0 : Int) < 4 by decide)
  (first | lia | omega)
section
variable {ms : List Int} {q : Nat → Nat} (hm : ms ∈ forests 5) (hq : ∀ k, q k < 4)
theorem seen_ext {a b : List (Array UInt8)} (h : a.map seenOf = b.map seenOf) (i : Nat) : (a.getD i #[]).extract 1 2 = (b.getD i #[]).extract 1 2 := congrArg Prod.snd (seen_getD h i)
include hm in
theorem plain_len : (plainCells ms).length = 12 := a_len hm
include hm hq in
theorem p_len : (cellsOf ms q).length = 12 := by
  have := congrArg List.length (cellsOf_seen ms q hq)
  rw [List.length_map, List.length_map] at this
  exact this.trans (plain_len hm)
include hq in
theorem p_told : toldTo (cellsOf ms q) 12 = toldTo (plainCells ms) 12 := told_seen (cellsOf_seen ms q hq) 12
include hm hq in
theorem p_ok {wd : Nat} (hw : 1 ≤ wd ∧ wd ≤ 3) : outlOk (cellsOf ms q) (toldTo (cellsOf ms q) 12) wd 12 0 12 = true := by
  rw [p_told hq, outlOk_seen (b := plainCells ms) (cellsOf_seen ms q hq) (getD_size (cellsOf_size ms q hq)) (getD_size (cellsOf_size ms _ fun _ => by (first | lia | omega)))]
  exact a_ok hm hw
include hm hq in
theorem p_page {wd : Nat} (hw : 1 ≤ wd ∧ wd ≤ 3) : outl (cellsOf ms q) (toldTo (cellsOf ms q) 12) wd 12 0 12 = (pageOf ms wd, crossedOf ms wd) := by
  rw [p_told hq, outl_seen (b := plainCells ms) (cellsOf_seen ms q hq), ← a_page hm hw]
  rfl
include hm hq in
theorem p_pop {k : Nat} (hk : k < 12) : popOk (cellsOf ms q) (toldTo (cellsOf ms q) 12) k = true ∧ NameB (((cellsOf ms q).getD k #[]).extract 1 2) := by
  refine ⟨?_, ?_⟩
  · rw [p_told hq, popOk_seen (b := plainCells ms) (cellsOf_seen ms q hq)]; exact (a_pop hm hk).1
  · rw [seen_ext (b := plainCells ms) (cellsOf_seen ms q hq) k]
    exact (a_pop hm hk).2
include hm in
theorem p_close : evalOk 6 (lexlt (keysOf ms)) (kas_sort 6) = true ∧ (∀ i ∈ closing ms, i < 6) ∧ poppedOf ms = (closing ms).map (fun k => [97 + k]) ∧ (closing ms).length = 6 := a_close hm
theorem range_getD : ∀ (l : List Nat) (n : Nat) (g : Nat → Str), l.length = n → l.map g = (List.range n).map fun i => g (l.getD i 0) := by
  intro l n g hl
  apply List.ext_getElem (by simp [hl])
  intro i h1 h2
  simp at h1
  simp [List.getElem?_eq_getElem h1]
include hm hq in
theorem p_popped : ((popTo (cellsOf ms q) (toldTo (cellsOf ms q) 12) 12).2.map fun a => (⟨a.toArray⟩ : Str)) = (List.range 6).map fun i => rowK ((closing ms).getD i 0) := by
  obtain ⟨_, _, h3, h4⟩ := p_close hm
  rw [p_told hq, popTo_seen (b := plainCells ms) (cellsOf_seen ms q hq)]
  show (poppedOf ms).map _ = _
  rw [h3, List.map_map]
  exact range_getD (closing ms) 6 _ h4
include hm hq in
theorem p_join : pdOf (((cellsOf ms q).map (·.toList)).flatten.toArray) (-3) = -3 := by
  have h := of_decide_eq_true (List.all_eq_true.mp all_delta ms hm)
  have hs : (plainCells ms).map sgn = (plainCells ms).map delta := List.map_congr_left fun c hc => (delta_sgn (cellsOf_good ms _ (fun _ => by (first | lia | omega)) c hc)).symm
  rw [hs] at h
  have e : ((cellsOf ms q).map delta).sum = 0 := by
    rw [← h]
    have := congrArg (fun l => l.map Prod.fst) (cellsOf_seen ms q hq)
    simp only [List.map_map] at this
    exact congrArg List.sum this
  have := pd_flat (cellsOf ms q)
  rw [e] at this
  unfold pdOf
  rw [strip_join _ (cellsOf_good ms q hq)]
  (first | lia | omega)
theorem sizes_le {B : Nat} : ∀ l : List (Array UInt8), (∀ c ∈ l, c.size ≤ B) → ((l.map (·.size)).sum ≤ B * l.length ∧ ((l.map (·.toList)).flatten.toArray).size = (l.map (·.size)).sum)
  | [], _ => ⟨Nat.zero_le _, rfl⟩
  | a :: r, h => by
    have h1 := h a (.head _)
    obtain ⟨h2, h3⟩ := sizes_le r fun x hx => h x (.tail _ hx)
    refine ⟨?_, ?_⟩
    · rw [List.map_cons, List.sum_cons, List.length_cons, Nat.mul_add]
      (first | lia | omega)
    · rw [List.map_cons, List.map_cons, List.sum_cons, ← h3]
      simp
include hm hq in
theorem p_sizes : ((cellsOf ms q).map (·.size)).sum ≤ 1200 ∧ (((cellsOf ms q).map (·.toList)).flatten.toArray).size ≤ 1200 := by
  obtain ⟨a, b⟩ := sizes_le (cellsOf ms q) (cellsOf_size ms q hq)
  rw [p_len hm hq] at a
  (first | lia | omega)
theorem rows_find (f : Nat → Int) (n k : Nat) (hk : k < n) : (rowsTo f n).find? (fun p => decide (p.1 = rowK k)) = some (rowK k, f k) := by
  induction n with
  | zero => (first | lia | omega)
  | succ n ih =>
    have e : rowsTo f (n + 1) = rowsTo f n ++ [(rowK n, f n)] := by
      unfold rowsTo
      rw [List.range_succ, List.map_append]
      rfl
    rw [e, List.find?_append]
    by_cases h : k < n
    · rw [ih h]; rfl
    · have : k = n := by (first | lia | omega)
      subst this
      have : (rowsTo f k).find? (fun p => decide (p.1 = rowK k)) = none := by
        rw [List.find?_eq_none]
        intro p hp
        obtain ⟨j, hj, rfl⟩ := List.mem_map.mp hp
        have hj := List.mem_range.mp hj
        simp only [decide_eq_true_eq]
        intro e
        have := rowK_inj e
        (first | lia | omega)
      rw [this]
      simp
theorem keq_rows_all (f : Nat → Int) (n : Nat) : ∀ l : List (Str × Int), (∀ p ∈ l, ∃ k, k < n ∧ p.1 = rowK k ∧ p.2 = f k) → KeqRows (kdpD (rowsTo f n)) (kdpD l) true
  | [], _ => .nil
  | p :: r, h => by
    obtain ⟨k, hk, e1, e2⟩ := h p (.head _)
    obtain ⟨a, b⟩ := p
    dsimp only at e1 e2
    subst e1
    subst e2
    have hl : PySem.Spec.lookup (PyData.str (rowK k)) (kdpD (rowsTo f n)) = some (PyData.int (f k)) := by rw [kdpD_lookup, rows_find f n k hk]; rfl
    have := KeqRows.hit (v := PyData.int (f k)) hl (keq_rows_all f n r fun p hp => h p (.tail _ hp))
    have ee : (PyData.eqv (PyData.int (f k)) (PyData.int (f k)) && true) = true := by
      rw [Bool.and_true]
      show PyData.eqv _ _ = true
      simp [PyData.eqv]
    rw [ee] at this
    exact this
include hm in
theorem p_read {wd : Nat} (hw : 1 ≤ wd ∧ wd ≤ 3) : (crossedOf ms wd).length ≤ 1000 ∧ (rowsOf (crossedOf ms wd)).length ≤ 100 ∧ (∀ r ∈ rowsOf (crossedOf ms wd), r.length ≤ 1000) ∧ readNames wd (rowsOf (crossedOf ms wd)) = (poppedOf ms).reverse ∧ (readAll wd (rowsOf (crossedOf ms wd))).leads.length = 6 ∧
    ∀ p ∈ (readAll wd (rowsOf (crossedOf ms wd))).leads, ∃ k, k < 6 ∧ p.1 = rowK k ∧ p.2 = (wd : Int) * (eldersTo ms 6).getD k 0 := a_read hm hw
theorem row_ok : ∀ k, k < 6 → PyData.strOk (rowK k) = true := by decide +kernel
end
end Mine
end
section -- YPure3
open PySem PySem.W PySem.Calls PyProof.Rows PyProof.V PySem.Spec
set_option maxRecDepth 100000
set_option maxHeartbeats 1000000
namespace Mine
theorem off_YPure3 : True := by w_top off; trivial
noncomputable def namesN (ms : List Int) : List Nat := (closing ms).map fun k => 97 + k
noncomputable def strL (l : List (List Nat)) : List Str := l.map fun a => (⟨a.toArray⟩ : Str)
theorem swap_names (P : List Nat) (h : P.length = 6) : swapTo ((P ++ P.reverse).map (·.toUInt8)) 12 = ((P.reverse ++ P).map (·.toUInt8)).toArray := by
  match P, h with
  | [a, b, c, d, e, f], _ => exact swap_two _ _ _ _ _ _ _ _ _ _ _ _
section
variable {ms : List Int} (hm : ms ∈ forests 5)
include hm in
theorem names_len : (namesN ms).length = 6 := by unfold namesN; rw [List.length_map]; exact (p_close hm).2.2.2
include hm in
theorem names_lt : ∀ c ∈ namesN ms, 97 ≤ c ∧ c < 103 := by
  intro c hc
  obtain ⟨i, hi, rfl⟩ := List.mem_map.mp hc
  have := (p_close hm).2.1 i hi
  (first | lia | omega)
include hm in
theorem popped_names : poppedOf ms = (namesN ms).map fun c => [c] := by
  rw [(p_close hm).2.2.1]
  unfold namesN
  rw [List.map_map]
  rfl
theorem flat_singles : ∀ l : List Nat, (l.map fun c => [c]).flatten = l
  | [] => rfl
  | a :: r => by rw [List.map_cons, List.flatten_cons, flat_singles r]; rfl
include hm in
theorem join_po : Txt.join (Str.ofString "") (strL (poppedOf ms) ++ strL (poppedOf ms).reverse) = ⟨(namesN ms ++ (namesN ms).reverse).toArray⟩ := by
  have e : strL (poppedOf ms) ++ strL (poppedOf ms).reverse = strL (poppedOf ms ++ (poppedOf ms).reverse) := by unfold strL; rw [List.map_append]
  rw [e]
  refine (join_flat _).trans ?_
  rw [popped_names hm, ← List.map_reverse, ← List.map_append, flat_singles]
include hm in
theorem join_op : Txt.join (Str.ofString "") (strL (poppedOf ms).reverse ++ strL (poppedOf ms)) = ⟨((namesN ms).reverse ++ namesN ms).toArray⟩ := by
  have e : strL (poppedOf ms).reverse ++ strL (poppedOf ms) = strL ((poppedOf ms).reverse ++ poppedOf ms) := by unfold strL; rw [List.map_append]
  rw [e]
  refine (join_flat _).trans ?_
  rw [popped_names hm, ← List.map_reverse, ← List.map_append, flat_singles]
include hm in
theorem strL_small : (∀ x ∈ strL (poppedOf ms), x.length ≤ 1) ∧ (∀ x ∈ strL (poppedOf ms).reverse, x.length ≤ 1) ∧ (strL (poppedOf ms)).length = 6 ∧ (strL (poppedOf ms).reverse).length = 6 := by
  have h : ∀ x ∈ strL (poppedOf ms), x.length ≤ 1 := by
    intro x hx
    rw [popped_names hm] at hx
    obtain ⟨a, ha, rfl⟩ := List.mem_map.mp hx
    obtain ⟨c, hc, rfl⟩ := List.mem_map.mp ha
    exact Nat.le_refl _
  have hl : (poppedOf ms).length = 6 := by rw [popped_names hm, List.length_map]; exact names_len hm
  refine ⟨h, fun x hx => ?_, ?_, ?_⟩
  · obtain ⟨a, ha, rfl⟩ := List.mem_map.mp hx
    exact h _ (List.mem_map_of_mem (List.mem_reverse.mp ha))
  · unfold strL; rw [List.length_map]; exact hl
  · unfold strL; rw [List.length_map, List.length_reverse]; exact hl
include hm in
theorem weight_po : ((strL (poppedOf ms) ++ strL (poppedOf ms).reverse).map (·.length)).sum + (strL (poppedOf ms) ++ strL (poppedOf ms).reverse).length ≤ 1048576 := by
  obtain ⟨a, b, c, d⟩ := strL_small hm
  have := sum_le (B := 1) (strL (poppedOf ms) ++ strL (poppedOf ms).reverse) fun x hx => (List.mem_append.mp hx).elim (a x) (b x)
  rw [List.length_append] at this ⊢
  (first | lia | omega)
include hm in
theorem weight_op : ((strL (poppedOf ms).reverse ++ strL (poppedOf ms)).map (·.length)).sum + (strL (poppedOf ms).reverse ++ strL (poppedOf ms)).length ≤ 1048576 := by
  obtain ⟨a, b, c, d⟩ := strL_small hm
  have := sum_le (B := 1) (strL (poppedOf ms).reverse ++ strL (poppedOf ms)) fun x hx => (List.mem_append.mp hx).elim (b x) (a x)
  rw [List.length_append] at this ⊢
  (first | lia | omega)
include hm in
theorem enc_po : (namesN ms ++ (namesN ms).reverse).length = 11 + 1 ∧ ∀ c ∈ namesN ms ++ (namesN ms).reverse, c < 128 := by
  refine ⟨by rw [List.length_append, List.length_reverse, names_len hm], fun c hc => ?_⟩
  rcases List.mem_append.mp hc with h | h
  · have := names_lt hm c h; (first | lia | omega)
  · have := names_lt hm c (List.mem_reverse.mp h); (first | lia | omega)
include hm in
theorem enc_op : ((namesN ms).reverse ++ namesN ms).length = 11 + 1 ∧ ∀ c ∈ (namesN ms).reverse ++ namesN ms, c < 128 := by
  refine ⟨by rw [List.length_append, List.length_reverse, names_len hm], fun c hc => ?_⟩
  rcases List.mem_append.mp hc with h | h
  · have := names_lt hm c (List.mem_reverse.mp h); (first | lia | omega)
  · have := names_lt hm c h; (first | lia | omega)
end
theorem strs_len {vs : List Value} {k : List Str} (h : StrsAre vs k) : vs.length = k.length := by
  induction h with
  | nil => rfl
  | cons n t _ ih => rw [List.length_cons, List.length_cons, ih]
theorem strs_app {vs ws : List Value} {k l : List Str} (h : StrsAre vs k) (h' : StrsAre ws l) : StrsAre (vs ++ ws) (k ++ l) := by
  induction h with
  | nil => exact h'
  | cons n t _ ih => exact .cons _ _ ih
end Mine
end
section -- YLaw
open PySem PySem.W PySem.Calls PyProof.Rows PyProof.V PySem.Spec
set_option maxRecDepth 100000
set_option maxHeartbeats 8000000
namespace Mine
theorem off_YLaw : True := by w_top off; trivial
theorem tab_YLaw {M : PySem.Model} {A : PySem.Around} {E Q : PySem.Value → PySem.Shared → Prop} {s : PySem.Shared} (h : PySem.wpAny M A (PySem.call .none []) Q E s) : PySem.wpAny M A (PySem.call .none []) Q E s := by first | (walk1; fail) | exact h
variable {prog : Program} {w : World} {p : Program} {loose : List Str} {mean : ExcName → Option Value} {mg mb : Str → Option Value}
/-- a fact that the arithmetic does not look into -/
noncomputable def Hid (p : Prop) : Prop := p
theorem Hid.out {p : Prop} (h : Hid p) : p := h
theorem room_law (env : Env) : (callerA.deeper env).depth + 16 < recursionLimit := by rw [depth_deeper, depth_caller]; decide
theorem news_pick {h₀ h : Heap} {L : Addr} {a : List (Addr × Obj)} (N : News h₀ L h a) (is : List Nat) : News h₀ L h (is.filterMap fun i => a[i]?) := fun q hq => by
  obtain ⟨i, _, hi⟩ := List.mem_filterMap.mp hq
  exact N q (List.mem_of_getElem? hi)
theorem type_bjoin2 : typeOf (.builtin "bytes.join") = pure (.type "method_descriptor") := by show builtinType _ = _; rw [builtinType_eq_fast]; kernel_rfl
local macro_rules | `(tactic| walk_at "getMethod bytes") => `(tactic| (k_here; k_dflt (refine' method_bytes slot_bjoin.lookup type_bjoin2 ?_; k_whole)))
local macro_rules | `(tactic| walk_at "call builtin:bytes.join") => `(tactic| (k_here; k_dflt (refine' call_bjoin (by exact News.get (by k_asm) (by k_mem)) (by assumption) ?_; k_whole); intro tj kj))
local macro_rules | `(tactic| walk_at "assign Tuple") => `(tactic| (k_here; k_dflt (refine' unpackN_ (by k_asm) (by k_asm) (by exact News.isTup (by k_asm) (by k_mem)) (by with_unfolding_all assumption) (by with_unfolding_all rfl) (by with_unfolding_all rfl) ?_; k_whole); intro hu Fu Nu))
theorem str_page (n k : Nat) : (((⟨(List.replicate n 32).toArray⟩ : Str) ++ (⟨#[97 + k]⟩ : Str)) ++ Str.ofString "\n") = ⟨(List.replicate n 32 ++ [97 + k, 10]).toArray⟩ := by
  have e : Str.ofString "\n" = ⟨#[10]⟩ := by decide +kernel
  rw [e]
  show (⟨((List.replicate n 32).toArray ++ #[97 + k]) ++ #[10]⟩ : Str) = _
  congr 1
  apply Array.toList_inj.mp
  simp
theorem Forest.small {ms : List Int} (h : Forest ms) (h6 : ms.length = 6) (k : Nat) (hk : k < 6) : 0 ≤ ms.getD k 0 ∧ ms.getD k 0 ≤ 5 := by
  have a1 := h.nonneg k (by (first | lia | omega))
  have a2 := h.le_ajar k (by (first | lia | omega))
  have a3 := h.ajar_le k (by (first | lia | omega))
  (first | lia | omega)
local macro_rules | `(tactic| walk_at "binaryOp Add str str") => `(tactic| (k_here; k_dflt (refine' PyProof.Rows.add_str ?_ (by (simp only [str_app_len, str_mk_len, List.size_toArray, List.length_replicate, str_nl_len]; have := sizeLine_eq; lia)); k_whole); intro ta ka))
local macro_rules | `(tactic| walk_at "eval Name") => `(tactic| (k_here; (with_reducible show wpAny _ _ (eval (Expr.Name _ _) (compEnvC _ _ _ _)) _ _ _); (rename Heap.Ns _ _ _ => hnsX); k_dflt (refine' wpAny_Name (wpAny_loadName_local (by exact rfl) (by exact lookup_relabel_local rfl) hnsX (by assumption) ?_) (by decide); k_whole)))
theorem wpC_tok {α : Type} {M : Model} {A : Around} {t : Sem α} {Q : α → Shared → Prop} {E : Value → Shared → Prop} {s₀ s₁ : Shared} (h : Heap) (e : s₁ = { s₀ with heap := h, toks := s₁.toks }) (k : ∀ tk, wpC M A t Q E { s₀ with heap := h, toks := tk }) : wpC M A t Q E s₁ := by
  rw [e]; exact k _
local macro_rules | `(tactic| walk_at "getMethod str") => `(tactic| (k_here; with_reducible refine meth_encode ?_))
theorem wpC_tokA {α : Type} {M : Model} {A : Around} {t : Sem α} {Q : α → Shared → Prop} {E : Value → Shared → Prop} {s₀ s₁ : Shared} (h : Heap) (e : s₁ = { s₀ with heap := h, toks := s₁.toks }) (k : ∀ tk, wpAny M A t Q E { s₀ with heap := h, toks := tk }) : wpAny M A t Q E s₁ := by
  rw [e]; exact k _
theorem byteswap_obj (q : Params) : ∃ o fd, (hd.heap_1 q).lookup 155 = some o ∧ o.data = .func fd := ⟨_, _, by k_is, rfl⟩
theorem law_spec (hdep : callerA.depth + 20 < recursionLimit) (hh : callerA.handled = none) (hg : callerA.guards = some []) {s : Shared} {S : Addr} {vs : List Value} {ns : List Int} {Q E : Value → Shared → Prop}
   (X : (hd.heap_1 w.params).In (s.heap.hide 206)) (T : Top p loose mean mg mb (s.heap.hide 206)) (ht : s.heap.get? 206 = some (tabObj #[])) (hl : (s.heap.hide 206).IsList S vs.toArray) (hi : IntsAre vs ns) (h6 : ns.length ≤ 63) (hsys : ∃ o, (s.heap.hide 206).get? sysModules = some o)
   (h : ∀ h' tk, (∀ b o, b ≠ 206 → s.heap.get? b = some o → h'.get? b = some o) → (∃ ps, h'.get? 206 = some (tabObj ps)) → Q (.bool true) { s with heap := h', toks := tk }) :
   wpC (model PySem.Challenge.pw_xo0007_01 w) callerA (call (.ref 219) [.ref S]) Q E s := by
  k_dflt (refine' enterAtCC [("script", .ref S)] (fun b o e => Heap.of_hide e) (Nat.le_of_eq (Heap.hide_size _ _)) X T ?o ?c ?r ?b ?lo ?nd ?c2 ?c3 ?c4 ?_; (case o => k_is); (case c => k_is); (case b => exact BindsTo.of_eq rfl); (case r => (walk_at "m_room")); (case lo => exact rfl); (case nd => decide); (case c2 => exact rfl); (case c3 => exact rfl); (case c4 => exact rfl))
  intro L h1 tk1 cells F Y0 Y kk hL
  k_cells Y
  try dsimp only [List.reverse_cons, List.reverse_nil, List.nil_append, List.append_nil, List.cons_append, List.length_cons, List.length_nil] at F ⊢
  try k_fold
  have hLt : @LT.lt Nat _ 206 L := hL ▸ Heap.lt_size ht
  rename_i oE oW oD dE dW dD
  have hLt2 : (206 : Addr) < L + 1 := Nat.lt_succ_of_lt hLt
  have hLt3 : (206 : Addr) < L + 1 + 1 := Nat.lt_succ_of_lt hLt2
  have hLt4 : (206 : Addr) < L + 1 + 1 + 1 := Nat.lt_succ_of_lt hLt3
  have N1 : News (s.heap.hide 206) L h1 [(L + 1 + 1 + 1, oE), (L + 1 + 1, oW), (L + 1, oD), (206, tabObj #[])] := fun q hq => by
    simp only [List.mem_cons, List.mem_nil_iff, or_false] at hq
    rcases hq with rfl | rfl | rfl | rfl
    · exact Y0 _ (.head _)
    · exact Y0 _ (.tail _ (.head _))
    · exact Y0 _ (.tail _ (.tail _ (.head _)))
    · exact ⟨kk _ _ ht, Nat.ne_of_lt hLt, Heap.hide_self _ _⟩
  clear Y0
  refine wpC_execs_cons (wpC_any ?_)
  w_strict (repeat' ((fail_if_success (with_reducible show wpAny _ _ (exec (Stmt.For _ _ _ _ _) _) _ _ _)); (fail_if_success (with_reducible show wpAny _ _ (eval (Expr.ListComp _ _ _ _) _) _ _ _)); (fail_if_success (with_reducible show wpAny _ _ (eval (Expr.DictComp _ _ _ _ _) _) _ _ _)); (fail_if_success (with_reducible show LCg.CompSrc _ _ _ _ _ _ _ _ _ _ _ _ _ _)); (fail_if_success (with_reducible show wpAny _ _ (call (Value.ref _) _) _ _ _)); walk1))
  k_here
  k_dflt (refine' numbers_call ?aF ?aN ?aX ?aT ?ar ?ah ?al ?ai ?a6 ?_; (case aF => k_asm); (case aN => k_asm); (case aX => assumption); (case aT => assumption); (case ar => exact room_law _); (case ah => with_unfolding_all assumption); (case al => assumption); (case ai => assumption); (case a6 => assumption); k_whole)
  intro h1a D1 us1 ms1 n1 tk1a F1a N1a l1 hi1 hl1 hs1
  dsimp only [AllNe] at l1
  w_strict (repeat' ((fail_if_success (with_reducible show wpAny _ _ (exec (Stmt.For _ _ _ _ _) _) _ _ _)); (fail_if_success (with_reducible show wpAny _ _ (eval (Expr.ListComp _ _ _ _) _) _ _ _)); (fail_if_success (with_reducible show wpAny _ _ (eval (Expr.DictComp _ _ _ _ _) _) _ _ _)); (fail_if_success (with_reducible show LCg.CompSrc _ _ _ _ _ _ _ _ _ _ _ _ _ _)); (fail_if_success (with_reducible show wpAny _ _ (call (Value.ref _) _) _ _ _)); walk1))
  refine wpC_execs_cons (wpC_any ?_)
  w_strict (repeat' ((fail_if_success (with_reducible show wpAny _ _ (exec (Stmt.For _ _ _ _ _) _) _ _ _)); (fail_if_success (with_reducible show wpAny _ _ (eval (Expr.ListComp _ _ _ _) _) _ _ _)); (fail_if_success (with_reducible show wpAny _ _ (eval (Expr.DictComp _ _ _ _ _) _) _ _ _)); (fail_if_success (with_reducible show LCg.CompSrc _ _ _ _ _ _ _ _ _ _ _ _ _ _)); (fail_if_success (with_reducible show wpAny _ _ (call (Value.ref _) _) _ _ _)); walk1))
  k_here
  k_dflt (refine' depths_call ?bF ?bN ?bX ?bT ?br ?bh ?bl ?bi ?b6 ?_; (case bF => k_asm); (case bN => k_asm); (case bX => assumption); (case bT => assumption); (case br => exact room_law _); (case bh => with_unfolding_all assumption); (case bl => k_mem); (case bi => assumption); (case b6 => assumption); k_whole)
  intro h2a D2 us2 ms2 n2 tk2a F2a N2a l2 hi2 hl2 hf2
  dsimp only [AllNe] at l2
  w_strict (repeat' ((fail_if_success (with_reducible show wpAny _ _ (exec (Stmt.For _ _ _ _ _) _) _ _ _)); (fail_if_success (with_reducible show wpAny _ _ (eval (Expr.ListComp _ _ _ _) _) _ _ _)); (fail_if_success (with_reducible show wpAny _ _ (eval (Expr.DictComp _ _ _ _ _) _) _ _ _)); (fail_if_success (with_reducible show LCg.CompSrc _ _ _ _ _ _ _ _ _ _ _ _ _ _)); (fail_if_success (with_reducible show wpAny _ _ (call (Value.ref _) _) _ _ _)); walk1))
  rename_i _ oD2 F2 N2 dD2
  refine wpC_execs_cons (wpC_any ?_)
  w_strict (repeat' ((fail_if_success (with_reducible show wpAny _ _ (exec (Stmt.For _ _ _ _ _) _) _ _ _)); (fail_if_success (with_reducible show wpAny _ _ (eval (Expr.ListComp _ _ _ _) _) _ _ _)); (fail_if_success (with_reducible show wpAny _ _ (eval (Expr.DictComp _ _ _ _ _) _) _ _ _)); (fail_if_success (with_reducible show LCg.CompSrc _ _ _ _ _ _ _ _ _ _ _ _ _ _)); (fail_if_success (with_reducible show wpAny _ _ (call (Value.ref _) _) _ _ _)); walk1))
  k_here
  k_dflt (refine' reply_call ?cF ?cN ?cX ?cT ?cr ?ch ?cl ?ci ?c6 ?cs ?cm ?cj ?c7 ?cf ?_; (case cF => k_asm); (case cN => k_asm); (case cX => assumption); (case cT => assumption); (case cr => exact room_law _); (case ch => with_unfolding_all assumption); (case cl => k_mem); (case cm => k_mem); (case ci => assumption); (case c6 => assumption); (case cs => assumption); (case cj => assumption); (case c7 => assumption); (case cf => assumption); k_whole)
  intro h3a C cs n3 tk3a F3a N3a l3 hc3
  dsimp only [AllNe] at l3
  w_strict (repeat' ((fail_if_success (with_reducible show wpAny _ _ (exec (Stmt.For _ _ _ _ _) _) _ _ _)); (fail_if_success (with_reducible show wpAny _ _ (eval (Expr.ListComp _ _ _ _) _) _ _ _)); (fail_if_success (with_reducible show wpAny _ _ (eval (Expr.DictComp _ _ _ _ _) _) _ _ _)); (fail_if_success (with_reducible show LCg.CompSrc _ _ _ _ _ _ _ _ _ _ _ _ _ _)); (fail_if_success (with_reducible show wpAny _ _ (call (Value.ref _) _) _ _ _)); walk1))
  have hm : ms2 ∈ forests 5 := forest_mem 5 ms2 hl2 hf2
  have hq : ∀ k, qOf ms1 k < 4 := qOf_lt ms1
  have hcl : cs.length = 12 := by have := p_len hm hq; rw [← hc3, List.length_map] at this; exact this
  have hcz : ∀ c ∈ cs, c.1.size ≤ 100000 := fun c hc => Nat.le_trans (cellsOf_size ms2 _ hq c.1 (hc3 ▸ List.mem_map_of_mem hc)) (by decide)
  refine wpC_execs_cons (wpC_any ?_)
  w_strict (repeat' ((fail_if_success (with_reducible show wpAny _ _ (exec (Stmt.For _ _ _ _ _) _) _ _ _)); (fail_if_success (with_reducible show wpAny _ _ (eval (Expr.ListComp _ _ _ _) _) _ _ _)); (fail_if_success (with_reducible show wpAny _ _ (eval (Expr.DictComp _ _ _ _ _) _) _ _ _)); (fail_if_success (with_reducible show LCg.CompSrc _ _ _ _ _ _ _ _ _ _ _ _ _ _)); (fail_if_success (with_reducible show wpAny _ _ (call (Value.ref _) _) _ _ _)); walk1))
  k_here
  k_dflt (refine' told_call ?dF ?dN ?dX ?dT ?dr ?dh ?dl ?ds ?dn ?_; (case dF => k_asm); (case dN => k_asm); (case dX => assumption); (case dT => assumption); (case dr => exact room_law _); (case dh => with_unfolding_all assumption); (case dl => k_mem); (case ds => assumption); (case dn => (first | lia | omega)); k_whole)
  intro h4a D4 us4 n4 tk4a F4a N4a l4 hi4
  dsimp only [AllNe] at l4
  w_strict (repeat' ((fail_if_success (with_reducible show wpAny _ _ (exec (Stmt.For _ _ _ _ _) _) _ _ _)); (fail_if_success (with_reducible show wpAny _ _ (eval (Expr.ListComp _ _ _ _) _) _ _ _)); (fail_if_success (with_reducible show wpAny _ _ (eval (Expr.DictComp _ _ _ _ _) _) _ _ _)); (fail_if_success (with_reducible show LCg.CompSrc _ _ _ _ _ _ _ _ _ _ _ _ _ _)); (fail_if_success (with_reducible show wpAny _ _ (call (Value.ref _) _) _ _ _)); walk1))
  have a1 : @Ne Nat D1 (L + 1 + 1) := l1.2.1
  have a2 : @Ne Nat D2 (L + 1 + 1) := l2.2.2.1
  have a3 : @Ne Nat C (L + 1 + 1) := l3.2.2.2.1
  have a4 : @Ne Nat D4 (L + 1 + 1) := l4.2.2.2.2.1
  have l2h : Hid _ := l2
  have l3h : Hid _ := l3
  clear l1 l2 l3 l4
  refine wpC_execs_cons (wpC_any ?_)
  w_strict (repeat' ((fail_if_success (with_reducible show wpAny _ _ (exec (Stmt.For _ _ _ _ _) _) _ _ _)); walk1))
  rename_i _ oW2 FW NW dW2
  clear a1 a2 a3 a4
  obtain ⟨wd, hwd, hw⟩ : ∃ wd : Nat, 1 + ms1.sum.fmod 3 = (wd : Int) ∧ 1 ≤ wd ∧ wd ≤ 3 := by
    have a1 := Int.fmod_nonneg_of_pos ms1.sum (show (0 : Int) < 3 by decide)
    have a2 := Int.fmod_lt_of_pos ms1.sum (show (0 : Int) < 3 by decide)
    exact ⟨(1 + ms1.sum.fmod 3).toNat, by (first | lia | omega), by (first | lia | omega), by (first | lia | omega)⟩
  rw [hwd] at dW2
  have hok : outlOk (cs.map (·.1)) (toldTo (cs.map (·.1)) cs.length) wd 12 0 12 = true := by rw [hcl, hc3]; exact p_ok hm hq hw
  obtain ⟨pg, cr, hout⟩ : ∃ pg cr, outl (cs.map (·.1)) (toldTo (cs.map (·.1)) cs.length) wd 12 0 12 = (pg, cr) := ⟨_, _, rfl⟩
  have hpc : pg = pageOf ms2 wd ∧ cr = crossedOf ms2 wd := by
    have := p_page hm hq hw
    rw [hcl, hc3, this] at hout
    exact ⟨(congrArg Prod.fst hout).symm, (congrArg Prod.snd hout).symm⟩
  have h12 : (((bytesValues cs).toArray.size : Nat) : Int) = 12 := by simp [bytesValues, hcl]
  have htl : (toldTo (cs.map (·.1)) cs.length).length = 13 := by rw [toldTo_len, hcl]
  refine wpC_execs_cons (wpC_any ?_)
  w_strict (repeat' ((fail_if_success (with_reducible show wpAny _ _ (exec (Stmt.For _ _ _ _ _) _) _ _ _)); (fail_if_success (with_reducible show wpAny _ _ (eval (Expr.ListComp _ _ _ _) _) _ _ _)); (fail_if_success (with_reducible show wpAny _ _ (eval (Expr.DictComp _ _ _ _ _) _) _ _ _)); (fail_if_success (with_reducible show LCg.CompSrc _ _ _ _ _ _ _ _ _ _ _ _ _ _)); (fail_if_success (with_reducible show wpAny _ _ (call (Value.ref _) _) _ _ _)); walk1))
  k_here
  k_dflt (refine' outl_call ?eF ?eN ?eX ?eT ?er ?eh ?el ?em ?ew ?en ?ei ?et ?eo ?ep ?ej ?_; (case eF => k_asm); (case eN => k_asm); (case eX => assumption); (case eT => assumption); (case er => exact room_law _); (case eh => with_unfolding_all assumption); (case el => k_mem); (case em => k_mem); (case ew => assumption); (case en => assumption); (case ei => assumption); (case et => assumption); (case eo => assumption); (case ep => assumption); (case ej => assumption); k_whole)
  intro h5a R5 ta5 tb5 tk5a F5a N5a l5
  dsimp only [AllNe] at l5
  w_strict (repeat' ((fail_if_success (with_reducible show wpAny _ _ (exec (Stmt.For _ _ _ _ _) _) _ _ _)); (fail_if_success (with_reducible show wpAny _ _ (eval (Expr.ListComp _ _ _ _) _) _ _ _)); (fail_if_success (with_reducible show wpAny _ _ (eval (Expr.DictComp _ _ _ _ _) _) _ _ _)); (fail_if_success (with_reducible show LCg.CompSrc _ _ _ _ _ _ _ _ _ _ _ _ _ _)); (fail_if_success (with_reducible show wpAny _ _ (call (Value.ref _) _) _ _ _)); walk1))
  rename_i _ _ h5 F5 N5
  refine wpC_tok (s₀ := s) h5 rfl ?_
  intro tk5
  refine wpC_execs_cons (wpC_any ?_)
  w_strict (repeat' ((fail_if_success (with_reducible show wpAny _ _ (exec (Stmt.For _ _ _ _ _) _) _ _ _)); (fail_if_success (with_reducible show wpAny _ _ (eval (Expr.ListComp _ _ _ _) _) _ _ _)); (fail_if_success (with_reducible show wpAny _ _ (eval (Expr.DictComp _ _ _ _ _) _) _ _ _)); (fail_if_success (with_reducible show LCg.CompSrc _ _ _ _ _ _ _ _ _ _ _ _ _ _)); walk1))
  k_here
  k_dflt (refine LCg.ListComp_U (F₀ := by k_asm) (by with_unfolding_all rfl) (by decide) (by rfl) (by decide) (by rfl) ?_)
  w_strict (repeat' ((fail_if_success (with_reducible show wpAny _ _ (exec (Stmt.For _ _ _ _ _) _) _ _ _)); (fail_if_success (with_reducible show wpAny _ _ (eval (Expr.ListComp _ _ _ _) _) _ _ _)); (fail_if_success (with_reducible show wpAny _ _ (eval (Expr.DictComp _ _ _ _ _) _) _ _ _)); (fail_if_success (with_reducible show LCg.CompSrc _ _ _ _ _ _ _ _ _ _ _ _ _ _)); walk1))
  rename_i h6 tk6 t6 u6 v6 hr6 F6 N6 _
  refine LCg.CompSrc.range (n := 6) hh F6 N6 hr6 (by decide) (by decide) (by rw [sizeLine_eq]; (first | lia | omega)) fun g => ?_
  refine comp_strs (fun k => ⟨(List.replicate (wd * (ms2.getD k 0).toNat) 32 ++ [97 + k, 10]).toArray⟩) trivial ?_ ?_
  · intro k v ys I oI C2 oC D m2 h7 tk7 E' hk hP hC hm2 F7 N7 off ne
    obtain ⟨t, rfl⟩ := hP
    have e0 : (0 + (k : Int)).toNat = k := by (first | lia | omega)
    obtain ⟨f1, f2⟩ := hf2.small hl2 k hk
    obtain ⟨nn, hnn, hnb⟩ : ∃ nn : Nat, wd * (ms2.getD k 0).toNat = nn ∧ nn ≤ 1000 := ⟨_, rfl, by
      have := Nat.mul_le_mul hw.2 (show (ms2.getD k 0).toNat ≤ 5 by (first | lia | omega))
      (first | lia | omega)⟩
    have hnv : (wd : Int) * ms2.getD (0 + (k : Int)).toNat 0 = (nn : Int) := by
      rw [e0, ← hnn, Int.natCast_mul, Int.toNat_of_nonneg f1]
    w_strict (repeat' ((fail_if_success (with_reducible show wpAny _ _ (exec (Stmt.For _ _ _ _ _) _) _ _ _)); walk1))
    · rw [hnv, txt_mul_sp, hnn]
      have e9 : (97 + (0 + (k : Int))).toNat = 97 + k := by (first | lia | omega)
      rw [e9, str_page]
    · exact F7
    · exact N7
  · intro ys hys D7 h7 tk7 F7 N7 off
    w_strict (iterate 1 walk1)
    have hlen7 : ∀ x ∈ (List.range 6).map fun (k : Nat) => (⟨(List.replicate (wd * (ms2.getD k 0).toNat) 32 ++ [97 + k, 10]).toArray⟩ : Str), x.length ≤ 1002 := by
      intro x hx
      obtain ⟨k, hk, rfl⟩ := List.mem_map.mp hx
      have hk := List.mem_range.mp hk
      obtain ⟨f1, f2⟩ := hf2.small hl2 k hk
      have := Nat.mul_le_mul hw.2 (show (ms2.getD k 0).toNat ≤ 5 by (first | lia | omega))
      rw [str_mk_len, List.size_toArray, List.length_append, List.length_replicate]
      simp only [List.length_cons, List.length_nil]
      (first | lia | omega)
    have hsum7 := sum_le _ hlen7
    rw [List.length_map, List.length_range] at hsum7
    k_here
    k_dflt (refine join_listW (items := ys.toArray) ⟨_, N7.get (.head _), rfl, _, rfl⟩ hys (by decide) (by rw [List.length_map, List.length_range]; (first | lia | omega)) ?_)
    k_whole
    intro t8 tk8
    w_strict (repeat' ((fail_if_success (with_reducible show wpAny _ _ (exec (Stmt.For _ _ _ _ _) _) _ _ _)); walk1))
    rename_i h9 F9 N9
    have hpage : Txt.join (Str.ofString "") ((List.range 6).map fun (k : Nat) => (⟨(List.replicate (wd * (ms2.getD k 0).toNat) 32 ++ [97 + k, 10]).toArray⟩ : Str)) = ⟨(pageOf ms2 wd).toArray⟩ := by
      have := join_flat ((List.range 6).map fun (k : Nat) => List.replicate (wd * (ms2.getD k 0).toNat) 32 ++ [97 + k, 10])
      rw [List.map_map] at this
      refine Eq.trans this ?_
      unfold pageOf
      rw [List.flatMap_def]
    rw [hpage] at F9
    clear hlen7 hsum7 hpage
    simp only [LCg.Off1, and_true] at off
    have h12' : cs.length ≤ 12 := by (first | lia | omega)
    have htl' : (toldTo (cs.map (·.1)) cs.length).length = cs.length + 1 := toldTo_len _ _
    have hnm : ∀ k, k < cs.length → NameB (((cs.map (·.1)).getD k #[]).extract 1 2) ∧ ((cs.map (·.1)).getD k #[]).size ≤ 100 := by
      intro k hk
      rw [hc3]
      exact ⟨(p_pop hm hq (by (first | lia | omega))).2, getD_size (cellsOf_size ms2 _ hq) k⟩
    have hpo : ∀ k, k < cs.length → popOk (cs.map (·.1)) (toldTo (cs.map (·.1)) cs.length) k = true := by
      intro k hk
      rw [hc3, hcl]
      exact (p_pop hm hq (by (first | lia | omega))).1
    obtain ⟨pp, hpp⟩ : ∃ pp, ((popTo (cs.map (·.1)) (toldTo (cs.map (·.1)) cs.length) cs.length).2.map fun a => (⟨a.toArray⟩ : Str)) = pp := ⟨_, rfl⟩
    refine wpC_tok (s₀ := s) h9 rfl ?_
    intro tk9
    refine wpC_execs_cons (wpC_any ?_)
    w_strict (repeat' ((fail_if_success (with_reducible show wpAny _ _ (exec (Stmt.For _ _ _ _ _) _) _ _ _)); (fail_if_success (with_reducible show wpAny _ _ (eval (Expr.ListComp _ _ _ _) _) _ _ _)); (fail_if_success (with_reducible show wpAny _ _ (eval (Expr.DictComp _ _ _ _ _) _) _ _ _)); (fail_if_success (with_reducible show LCg.CompSrc _ _ _ _ _ _ _ _ _ _ _ _ _ _)); (fail_if_success (with_reducible show wpAny _ _ (call (Value.ref _) _) _ _ _)); walk1))
    k_here
    k_dflt (refine' popped_call ?fF ?fN ?fX ?fT ?fr ?fh ?fl ?fm ?fi ?ft ?fn ?fo ?fp ?fq ?_; (case fF => k_asm); (case fN => k_asm); (case fX => assumption); (case fT => assumption); (case fr => exact room_law _); (case fh => with_unfolding_all assumption); (case fl => k_mem); (case fm => k_mem); (case fi => assumption); (case ft => assumption); (case fn => assumption); (case fo => assumption); (case fp => assumption); (case fq => assumption); k_whole)
    intro h10a D10 vs10 n10 tk10a F10a N10a l10 hi10
    dsimp only [AllNe] at l10
    w_strict (repeat' ((fail_if_success (with_reducible show wpAny _ _ (exec (Stmt.For _ _ _ _ _) _) _ _ _)); (fail_if_success (with_reducible show wpAny _ _ (eval (Expr.ListComp _ _ _ _) _) _ _ _)); (fail_if_success (with_reducible show wpAny _ _ (eval (Expr.DictComp _ _ _ _ _) _) _ _ _)); (fail_if_success (with_reducible show LCg.CompSrc _ _ _ _ _ _ _ _ _ _ _ _ _ _)); (fail_if_success (with_reducible show wpAny _ _ (call (Value.ref _) _) _ _ _)); walk1))
    rename_i h10 F10 N10
    have hz1 : cr.length ≤ 1000 := by rw [hpc.2]; exact (p_read hm hw).1
    have hz2 : (rowsOf cr).length ≤ 100 := by rw [hpc.2]; exact (p_read hm hw).2.1
    have hz3 : ∀ r ∈ rowsOf cr, r.length ≤ 1000 := by rw [hpc.2]; exact (p_read hm hw).2.2.1
    obtain ⟨rn, hrn⟩ : ∃ rn, ((readNames wd (rowsOf cr)).map fun a => (⟨a.toArray⟩ : Str)) = rn := ⟨_, rfl⟩
    obtain ⟨ld, hld⟩ : ∃ ld, (readAll wd (rowsOf cr)).leads = ld := ⟨_, rfl⟩
    refine wpC_tok (s₀ := s) h10 rfl ?_
    intro tk10
    refine wpC_execs_cons (wpC_any ?_)
    w_strict (repeat' ((fail_if_success (with_reducible show wpAny _ _ (exec (Stmt.For _ _ _ _ _) _) _ _ _)); (fail_if_success (with_reducible show wpAny _ _ (eval (Expr.ListComp _ _ _ _) _) _ _ _)); (fail_if_success (with_reducible show wpAny _ _ (eval (Expr.DictComp _ _ _ _ _) _) _ _ _)); (fail_if_success (with_reducible show LCg.CompSrc _ _ _ _ _ _ _ _ _ _ _ _ _ _)); (fail_if_success (with_reducible show wpAny _ _ (call (Value.ref _) _) _ _ _)); walk1))
    k_here
    k_dflt (refine' read_call ?gF ?gN ?gX ?gT ?gr ?gh ?gw ?gz ?gl ?gm ?gn ?gd ?_; (case gF => k_asm); (case gN => k_asm); (case gX => assumption); (case gT => assumption); (case gr => exact room_law _); (case gh => with_unfolding_all assumption); (case gw => assumption); (case gz => assumption); (case gl => assumption); (case gm => assumption); (case gn => assumption); (case gd => assumption); k_whole)
    intro h11a R11 Ns Ld vs11 n11 od11 kvs11 tk11a F11a N11a l11a l11b l11c hi11 ho11 hf11 hne11
    dsimp only [AllNe] at l11a l11b l11c
    w_strict (repeat' ((fail_if_success (with_reducible show wpAny _ _ (exec (Stmt.For _ _ _ _ _) _) _ _ _)); (fail_if_success (with_reducible show wpAny _ _ (eval (Expr.ListComp _ _ _ _) _) _ _ _)); (fail_if_success (with_reducible show wpAny _ _ (eval (Expr.DictComp _ _ _ _ _) _) _ _ _)); (fail_if_success (with_reducible show LCg.CompSrc _ _ _ _ _ _ _ _ _ _ _ _ _ _)); (fail_if_success (with_reducible show wpAny _ _ (call (Value.ref _) _) _ _ _)); walk1))
    rename_i _ _ h11 F11 N11
    have w10 : @Ne Nat D10 (L + 1 + 1 + 1) := l10.2.2.2.2.2.2.1
    have w11b : @Ne Nat Ns (L + 1 + 1 + 1) := l11b.2.2.2.2.2.2.2.1
    have w11c : @Ne Nat Ld (L + 1 + 1 + 1) := l11c.2.2.2.2.2.2.2.1
    have w3 : @Ne Nat C (L + 1 + 1 + 1) := (Hid.out l3h).2.2.1
    have w2 : @Ne Nat D2 (L + 1 + 1 + 1) := (Hid.out l2h).2.1
    have v10 : @Ne Nat D10 206 := l10.2.2.2.2.2.2.2.2.2.1
    have v11b : @Ne Nat Ns 206 := l11b.2.2.2.2.2.2.2.2.2.2.1
    have v11c : @Ne Nat Ld 206 := l11c.2.2.2.2.2.2.2.2.2.2.1
    have v3 : @Ne Nat C 206 := (Hid.out l3h).2.2.2.2.2.1
    have v2 : @Ne Nat D2 206 := (Hid.out l2h).2.2.2.2.1
    clear l2h l3h l5 off l10 l11a l11b l11c
    have N11' : News (s.heap.hide 206) L h11 [(Ns, listObj vs11.toArray n11), (Ld, od11), (D10, listObj vs10.toArray n10), (C, listObj (bytesValues cs).toArray n3), (D2, listObj us2.toArray n2), (L + 1 + 1 + 1, oE), (L + 1 + 1, oW2), (L + 1, oD2), (206, tabObj #[])] := news_pick N11 [1, 2, 3, 7, 8, 10, 11, 12, 13]
    clear N11
    refine wpC_tok (s₀ := s) h11 rfl ?_
    intro tk11
    refine wpC_execs_cons (wpC_any ?_)
    w_strict (repeat' ((fail_if_success (with_reducible show wpAny _ _ (exec (Stmt.For _ _ _ _ _) _) _ _ _)); (fail_if_success (with_reducible show wpAny _ _ (eval (Expr.ListComp _ _ _ _) _) _ _ _)); (fail_if_success (with_reducible show wpAny _ _ (eval (Expr.DictComp _ _ _ _ _) _) _ _ _)); (fail_if_success (with_reducible show LCg.CompSrc _ _ _ _ _ _ _ _ _ _ _ _ _ _)); (fail_if_success (with_reducible show wpAny _ _ (call (Value.ref _) _) _ _ _)); walk1))
    k_here
    k_dflt (refine' elders_call ?iF ?iN ?iX ?iT ?ir ?ih ?il ?ii ?i6 ?_; (case iF => k_asm); (case iN => k_asm); (case iX => assumption); (case iT => assumption); (case ir => exact room_law _); (case ih => with_unfolding_all assumption); (case il => k_mem); (case ii => assumption); (case i6 => assumption); k_whole)
    intro h12b D12 us12 n12 tk12a F12b N12b l12 hi12
    dsimp only [AllNe] at l12
    w_strict (repeat' ((fail_if_success (with_reducible show wpAny _ _ (exec (Stmt.For _ _ _ _ _) _) _ _ _)); (fail_if_success (with_reducible show wpAny _ _ (eval (Expr.ListComp _ _ _ _) _) _ _ _)); (fail_if_success (with_reducible show wpAny _ _ (eval (Expr.DictComp _ _ _ _ _) _) _ _ _)); (fail_if_success (with_reducible show LCg.CompSrc _ _ _ _ _ _ _ _ _ _ _ _ _ _)); (fail_if_success (with_reducible show wpAny _ _ (call (Value.ref _) _) _ _ _)); walk1))
    rename_i h12a oE2 F12 N12 dE2
    have hU : UpdF 206 (tabObj #[]) [(D12, listObj us12.toArray n12), (Ns, listObj vs11.toArray n11), (Ld, od11), (D10, listObj vs10.toArray n10), (C, listObj (bytesValues cs).toArray n3), (D2, listObj us2.toArray n2), (L + 1 + 1 + 1, oE2), (L + 1 + 1, oW2), (L + 1, oD2), (206, tabObj #[])] _ :=
      UpdF.tail l12.2.2.2.2.2.2.2.2.1 (UpdF.tail v11b (UpdF.tail v11c (UpdF.tail v10 (UpdF.tail v3 (UpdF.tail v2 (UpdF.tail (Nat.ne_of_gt hLt4) (UpdF.tail (Nat.ne_of_gt hLt3) (UpdF.tail (Nat.ne_of_gt hLt2) (UpdF.head (fun _ h => by cases h))))))))))
    clear l12 w10 w11b w11c w3 w2 v10 v11b v11c v3 v2
    refine wpC_tok (s₀ := s) h12a rfl ?_
    intro tk12
    refine wpC_execs_cons (wpC_Return ?_)
    rw [arm_eval_BoolOp]
    show wpC _ _ (boolOp _ .And [eval _ _, eval _ _, eval _ _, eval _ _, eval _ _]) _ _ _
    have hpg : pg = pageOf ms2 wd := hpc.1
    refine wpC_And_cons ?_
    w_strict (iterate 4 walk1)
    refine ⟨by rw [hpg, beq_self_eq_true], ?_⟩
    have hjs : (cs.map (·.1.size)).sum ≤ 800000 := by
      have := (p_sizes hm hq).1
      rw [← hc3, List.map_map] at this
      exact Nat.le_trans this (by decide)
    have hjz : (((cs.map (·.1)).map (·.toList)).flatten.toArray).size ≤ 100000 := by rw [hc3]; exact Nat.le_trans (p_sizes hm hq).2 (by decide)
    have hpd : pdOf (((cs.map (·.1)).map (·.toList)).flatten.toArray) (-3) = -3 := by rw [hc3]; exact p_join hm hq
    refine wpC_And_cons ?_
    w_strict (repeat' ((fail_if_success (with_reducible show wpAny _ _ (exec (Stmt.For _ _ _ _ _) _) _ _ _)); (fail_if_success (with_reducible show wpAny _ _ (eval (Expr.ListComp _ _ _ _) _) _ _ _)); (fail_if_success (with_reducible show wpAny _ _ (eval (Expr.DictComp _ _ _ _ _) _) _ _ _)); (fail_if_success (with_reducible show LCg.CompSrc _ _ _ _ _ _ _ _ _ _ _ _ _ _)); (fail_if_success (with_reducible show wpAny _ _ (call (Value.ref _) _) _ _ _)); walk1))
    k_here
    k_dflt (refine' paren_call ?jF ?jN ?jX ?jT ?jr ?jz ?_; (case jF => k_asm); (case jN => k_asm); (case jX => assumption); (case jT => assumption); (case jr => exact room_law _); (case jz => assumption); k_whole)
    intro h13 t13 tk13a F13 N13
    w_strict (repeat' ((fail_if_success (with_reducible show wpAny _ _ (exec (Stmt.For _ _ _ _ _) _) _ _ _)); (fail_if_success (with_reducible show wpAny _ _ (eval (Expr.ListComp _ _ _ _) _) _ _ _)); (fail_if_success (with_reducible show wpAny _ _ (eval (Expr.DictComp _ _ _ _ _) _) _ _ _)); (fail_if_success (with_reducible show LCg.CompSrc _ _ _ _ _ _ _ _ _ _ _ _ _ _)); (fail_if_success (with_reducible show wpAny _ _ (call (Value.ref _) _) _ _ _)); walk1))
    · rw [hpd]; rfl
    obtain ⟨mR, F13'⟩ : ∃ mR : Str → Option Value, Fr (s.heap.hide 206) L h13 (fun y => if y = Str.ofString "leads" then some (Value.ref Ld) else if y = Str.ofString "opposite" then some (Value.ref Ns) else if y = Str.ofString "popped" then some (Value.ref D10) else mR y) := ⟨_, F13⟩
    clear F13
    rename Fr _ _ h13 _ => F13
    have hok2 : evalOk 6 (lexlt (keysOf ms2)) (kas_sort 6) = true := (p_close hm).1
    have hperm : ∀ i ∈ closing ms2, i < 6 := (p_close hm).2.1
    have hcll : (closing ms2).length = 6 := (p_close hm).2.2.2
    have hpop : pp = (List.range 6).map fun i => rowK ((closing ms2).getD i 0) := by
      rw [hc3, hcl] at hpp
      rw [← hpp]
      exact p_popped hm hq
    have hpps : pp = strL (poppedOf ms2) := by
      rw [hc3, hcl, p_told hq, popTo_seen (b := plainCells ms2) (cellsOf_seen ms2 _ hq)] at hpp
      exact hpp.symm
    have hrns : rn = strL (poppedOf ms2).reverse := by
      rw [← hrn, hpc.2, (p_read hm hw).2.2.2.1]
      rfl
    refine wpC_tok (s₀ := s) h13 rfl ?_
    intro tk13
    refine wpC_And_cons ?_
    w_strict (repeat' ((fail_if_success (with_reducible show wpAny _ _ (exec (Stmt.For _ _ _ _ _) _) _ _ _)); (fail_if_success (with_reducible show wpAny _ _ (eval (Expr.ListComp _ _ _ _) _) _ _ _)); (fail_if_success (with_reducible show wpAny _ _ (eval (Expr.DictComp _ _ _ _ _) _) _ _ _)); (fail_if_success (with_reducible show LCg.CompSrc _ _ _ _ _ _ _ _ _ _ _ _ _ _)); walk1))
    k_here
    k_dflt (refine LCg.ListComp_U (F₀ := by k_asm) (by with_unfolding_all rfl) (by decide) (by rfl) (by decide) (by rfl) ?_)
    w_strict (repeat' ((fail_if_success (with_reducible show wpAny _ _ (exec (Stmt.For _ _ _ _ _) _) _ _ _)); (fail_if_success (with_reducible show wpAny _ _ (eval (Expr.ListComp _ _ _ _) _) _ _ _)); (fail_if_success (with_reducible show wpAny _ _ (eval (Expr.DictComp _ _ _ _ _) _) _ _ _)); (fail_if_success (with_reducible show LCg.CompSrc _ _ _ _ _ _ _ _ _ _ _ _ _ _)); (fail_if_success (with_reducible show wpAny _ _ (call (Value.ref _) _) _ _ _)); walk1))
    k_here
    k_dflt (refine' closing_call ?kF ?kN ?kX ?kT ?kr ?kh ?kl ?kU ?ki ?k6 ?ko ?kp ?_; (case kF => k_asm); (case kN => k_asm); (case kX => assumption); (case kT => assumption); (case kr => exact room_law _); (case kh => with_unfolding_all assumption); (case kl => k_mem); (case kU => assumption); (case ki => assumption); (case k6 => assumption); (case ko => assumption); (case kp => assumption); k_whole)
    intro h14 R14 vs14 n14 tk14a ps14 F14 N14 hi14
    (try dsimp only at N14)
    w_strict (repeat' ((fail_if_success (with_reducible show wpAny _ _ (exec (Stmt.For _ _ _ _ _) _) _ _ _)); (fail_if_success (with_reducible show wpAny _ _ (eval (Expr.ListComp _ _ _ _) _) _ _ _)); (fail_if_success (with_reducible show wpAny _ _ (eval (Expr.DictComp _ _ _ _ _) _) _ _ _)); (fail_if_success (with_reducible show LCg.CompSrc _ _ _ _ _ _ _ _ _ _ _ _ _ _)); (fail_if_success (with_reducible show wpAny _ _ (call (Value.ref _) _) _ _ _)); walk1))
    have hv14 : vs14.toArray.size = 6 := by
      have := hi14.length
      rw [List.length_map, hcll] at this
      rw [List.size_toArray]; exact this
    refine LCg.CompSrc.ledger hh F14 N14 (.head _) (by rw [hv14, sizeLine_eq]; (first | lia | omega)) fun g => ?_
    rw [hv14]
    refine comp_strs (fun i => rowK ((closing ms2).getD i 0)) (.inr ⟨_, .head _, rfl, _, rfl⟩) ?_ ?_
    · intro k v ys I oI C2 oC D m2 h7 tk7 E' hk hP hC hm2 F7 N7 off ne
      obtain ⟨t, rfl⟩ := ints_at hi14 (by simpa using hP)
      have e1 : ((closing ms2).map fun (i : Nat) => (i : Int)).getD k 0 = (((closing ms2).getD k 0 : Nat) : Int) := by
        simp [List.getD, List.getElem?_map]
        cases (closing ms2)[k]? <;> rfl
      have e2 : (closing ms2).getD k 0 < 6 := by
        rw [List.getD_eq_getElem?_getD, List.getElem?_eq_getElem (by (first | lia | omega))]
        exact hperm _ (List.getElem_mem _)
      rw [e1] at hm2
      w_strict (repeat' ((fail_if_success (with_reducible show wpAny _ _ (exec (Stmt.For _ _ _ _ _) _) _ _ _)); walk1))
      · exact F7
      · exact N7
    · intro ys14 hys14 D15 h15 tk15 F15 N15 off15
      rw [← hpop] at hys14
      have hok15 : ∀ x ∈ pp, PyData.strOk x = true := by
        intro x hx
        rw [hpop] at hx
        obtain ⟨i, hi, rfl⟩ := List.mem_map.mp hx
        have hi := List.mem_range.mp hi
        refine row_ok _ ?_
        rw [List.getD_eq_getElem?_getD, List.getElem?_eq_getElem (by (first | lia | omega))]
        exact hperm _ (List.getElem_mem _)
      k_here
      k_dflt (refine eq_strs (l := pp) ⟨_, N15.get (.tail _ (.tail _ (.tail _ (.tail _ (.tail _ (.head _)))))), rfl, _, rfl⟩ ⟨_, N15.get (.head _), rfl, _, rfl⟩ hi10 hys14 hok15 ?_ ?_)
      · ke_room
      k_whole
      refine ⟨rfl, ?_⟩
      refine wpC_tok (s₀ := s) h15 rfl ?_
      intro tk15b
      have N15' : News (s.heap.hide 206) L h15 [(D12, listObj us12.toArray n12), (Ns, listObj vs11.toArray n11), (Ld, od11), (D10, listObj vs10.toArray n10), (L + 1 + 1 + 1, oE2), (L + 1 + 1, oW2), (206, tabObj ps14)] := news_pick N15 [2, 3, 4, 5, 8, 9, 11]
      clear N15 off15
      have hldl : ld.length = 6 := by rw [← hld, hpc.2]; exact (p_read hm hw).2.2.2.2.1
      have hldr : KeqRows (kdpD (rowsTo (fun j => (wd : Int) * (eldersTo ms2 6).getD j 0) 6)) (kdpD ld) true := by
        rw [← hld, hpc.2]
        exact keq_rows_all _ 6 _ (p_read hm hw).2.2.2.2.2
      rw [hpps] at hi10
      rw [hrns] at hi11
      have N15k := N15'
      clear N15'
      rename News _ _ h15 _ => N15'

      obtain ⟨el, hel⟩ : ∃ el, eldersTo ms2 6 = el := ⟨_, rfl⟩
      have hel6 : el.length = 6 := by rw [← hel, eldersTo_len]
      rw [hel] at hi12 hldr
      refine wpC_And_cons ?_
      w_strict (repeat' ((fail_if_success (with_reducible show wpAny _ _ (exec (Stmt.For _ _ _ _ _) _) _ _ _)); (fail_if_success (with_reducible show wpAny _ _ (eval (Expr.ListComp _ _ _ _) _) _ _ _)); (fail_if_success (with_reducible show wpAny _ _ (eval (Expr.DictComp _ _ _ _ _) _) _ _ _)); (fail_if_success (with_reducible show LCg.CompSrc _ _ _ _ _ _ _ _ _ _ _ _ _ _)); walk1))
      k_here
      k_dflt (refine dict_range (f := fun j => (wd : Int) * el.getD j 0) (n := 6) (F₀ := by k_asm) (N₀ := by k_asm) (by with_unfolding_all rfl) (by with_unfolding_all rfl) (by decide) (by rfl) (by decide) (by rfl) ?_ (by intro _; rfl))
      w_strict (repeat' ((fail_if_success (with_reducible show wpAny _ _ (exec (Stmt.For _ _ _ _ _) _) _ _ _)); (fail_if_success (with_reducible show wpAny _ _ (eval (Expr.ListComp _ _ _ _) _) _ _ _)); (fail_if_success (with_reducible show wpAny _ _ (eval (Expr.DictComp _ _ _ _ _) _) _ _ _)); (fail_if_success (with_reducible show LCg.CompSrc _ _ _ _ _ _ _ _ _ _ _ _ _ _)); walk1))
      rename_i h16 tk16 t6x u6x v6x hr16 F16 N16 _
      refine ⟨_, _, _, _, rfl, hr16, by (first | lia | omega), F16, N16, ?_, ?_, ?_⟩
      · clear F16 N16 hr16
        intro C9 j t s2 m2 E' hj hns hm2 F' N'
        rw [show (0 + (j : Int) * 1) = (j : Int) by (first | lia | omega)] at hm2
        w_strict (repeat' ((fail_if_success (with_reducible show wpAny _ _ (exec (Stmt.For _ _ _ _ _) _) _ _ _)); (fail_if_success (with_reducible show Keeps _ _)); walk1))
        exact ⟨_, _, rfl, fun _ _ e => e⟩
      · clear F16 N16 hr16
        intro C9 j t s2 m2 E' hj hns hm2 F' N'
        rw [show (0 + (j : Int) * 1) = (j : Int) by (first | lia | omega)] at hm2
        w_strict (repeat' ((fail_if_success (with_reducible show wpAny _ _ (exec (Stmt.For _ _ _ _ _) _) _ _ _)); (fail_if_success (with_reducible show Keeps _ _)); walk1))
        exact ⟨_, _, rfl, fun _ _ e => e⟩
      · intro D17 kvs17 h17 tk17 hD17 F17 N17 hd17 hf17
        clear F16 N16 hr16
        have hLd : (Ld == sysModules) = false := by
          refine beq_eq_false_iff_ne.mpr fun e => ?_
          have := (N17 _ (.tail _ (.tail _ (.head _)))).2.2
          obtain ⟨o, ho⟩ := hsys
          rw [← e] at ho
          rw [ho] at this; cases this
        have hDd : (D17 == sysModules) = false := by
          refine beq_eq_false_iff_ne.mpr fun e => ?_
          obtain ⟨o, ho⟩ := hsys
          rw [← e, hD17] at ho; cases ho
        have Ta : TabAt (PySem.strKind PySem.Challenge.pw_xo0007_01 w) PyData.str h17 Ld (kdpD ld) := .ofNews N17 (.tail _ (.tail _ (.head _))) hLd ho11 hf11
        have Tb : TabAt (PySem.strKind PySem.Challenge.pw_xo0007_01 w) PyData.str h17 D17 (kdpD (rowsTo (fun j => (wd : Int) * el.getD j 0) 6)) := ⟨hDd, kvs17, hd17, hf17⟩
        refine keq_tabs henc_str Ta Tb ?_ ?_ hldr ⟨rfl, ?_⟩
        · rw [kdpD_length, kdpD_length, hldl]; unfold rowsTo; rw [List.length_map, List.length_range]
        · ke_room
        clear Ta Tb hLd hDd hd17 hf17 hD17 hf11 ho11 hldr hldl
        refine wpC_tok (s₀ := s) h17 rfl ?_
        intro tk18
        refine wpC_And_one ?_
        refine wpC_Compare1 (by with_unfolding_all rfl) ?_
        refine wpC_Call_Name ?_
        w_strict (repeat' ((fail_if_success (with_reducible show wpAny _ _ (exec (Stmt.For _ _ _ _ _) _) _ _ _)); (fail_if_success (with_reducible show wpAny _ _ (eval (Expr.ListComp _ _ _ _) _) _ _ _)); (fail_if_success (with_reducible show wpAny _ _ (eval (Expr.DictComp _ _ _ _ _) _) _ _ _)); (fail_if_success (with_reducible show LCg.CompSrc _ _ _ _ _ _ _ _ _ _ _ _ _ _)); walk1))
        obtain ⟨o155, fd155, ho155, hd155⟩ := byteswap_obj w.params
        refine wpC_callWith_function (o := o155) (fd := fd155) ?_
        refine Calls.evalArgs_plain (x := eval _ _) (rest := [(false, eval _ _)]) ?_
        refine Calls.spliced_cons ?_
        have hv10 : vs10.length = 6 := by rw [strs_len hi10]; exact (strL_small hm).2.2.1
        have hv11 : vs11.length = 6 := by rw [strs_len hi11]; exact (strL_small hm).2.2.2
        w_strict (repeat' ((fail_if_success (with_reducible show wpAny _ _ (exec (Stmt.For _ _ _ _ _) _) _ _ _)); (fail_if_success (with_reducible show wpAny _ _ (binaryOp Operator.Add (Value.ref _) (Value.ref _)) _ _ _)); (fail_if_success (with_reducible show wpAny _ _ (call (Value.builtin "str.join") _) _ _ _)); (fail_if_success (with_reducible show wpAny _ _ (call (Value.builtin "str.encode") _) _ _ _)); walk1))
        k_here
        k_dflt (refine' add_lists (vs := vs10) (ws := vs11) ?aF ?aN ?aa ?ab ?_ ?az)
        case aF => k_asm
        case aN => k_asm
        case aa => exact ⟨_, News.get (by k_asm) (.tail _ (.tail _ (.tail _ (.head _)))), rfl, _, rfl⟩
        case ab => exact ⟨_, News.get (by k_asm) (.tail _ (.head _)), rfl, _, rfl⟩
        case az => rw [sizeLine_eq]; (first | lia | omega)
        k_whole
        intro h19 F19 N19
        w_strict (repeat' ((fail_if_success (with_reducible show wpAny _ _ (exec (Stmt.For _ _ _ _ _) _) _ _ _)); (fail_if_success (with_reducible show wpAny _ _ (binaryOp Operator.Add (Value.ref _) (Value.ref _)) _ _ _)); (fail_if_success (with_reducible show wpAny _ _ (call (Value.builtin "str.join") _) _ _ _)); (fail_if_success (with_reducible show wpAny _ _ (call (Value.builtin "str.encode") _) _ _ _)); walk1))
        k_here
        k_dflt (refine' join_listW (items := (vs10 ++ vs11).toArray) (ys := strL (poppedOf ms2) ++ strL (poppedOf ms2).reverse) ⟨_, N19.get (.head _), rfl, _, rfl⟩ (strs_app hi10 hi11) (by decide) (weight_po hm) ?_)
        k_whole
        intro t19 tk19
        rw [join_po hm]
        w_strict (repeat' ((fail_if_success (with_reducible show wpAny _ _ (exec (Stmt.For _ _ _ _ _) _) _ _ _)); (fail_if_success (with_reducible show wpAny _ _ (binaryOp Operator.Add (Value.ref _) (Value.ref _)) _ _ _)); (fail_if_success (with_reducible show wpAny _ _ (call (Value.builtin "str.join") _) _ _ _)); (fail_if_success (with_reducible show wpAny _ _ (call (Value.builtin "str.encode") _) _ _ _)); walk1))
        k_here
        k_dflt (refine' enc_call (namesN ms2 ++ (namesN ms2).reverse) 11 rfl (enc_po hm).1 (enc_po hm).2 (by decide) ?_)
        k_whole
        intro t20 tk20
        refine wpC_tokA (s₀ := s) h19 rfl ?_
        intro tk20b
        refine Calls.spliced_cons ?_
        w_strict (repeat' ((fail_if_success (with_reducible show wpAny _ _ (exec (Stmt.For _ _ _ _ _) _) _ _ _)); (fail_if_success (with_reducible show wpAny _ _ (binaryOp Operator.Add (Value.ref _) (Value.ref _)) _ _ _)); (fail_if_success (with_reducible show wpAny _ _ (call (Value.builtin "str.join") _) _ _ _)); (fail_if_success (with_reducible show wpAny _ _ (call (Value.builtin "str.encode") _) _ _ _)); walk1))
        refine Calls.spliced_nil ?_
        refine ⟨⟨X.keeps F19.keep _ _ ho155, hd155⟩, ?_⟩
        show wpC _ _ (call (.ref 155) [.bytes _ _, .int 6 _]) _ _ _
        refine' swap_spec (b := (namesN ms2 ++ (namesN ms2).reverse).map (·.toUInt8)) ?sd ?sh ?sg ?sl ?sx ?st ?_
        case sd => (walk_at "m_room")
        case sh => rfl
        case sg => rfl
        case sl => rw [List.length_map]; exact (enc_po hm).1
        case sx => exact X.keeps F19.keep
        case st => exact T.keeps F19.keep
        intro h21 t21 tk21 kp21
        rw [swap_names _ (names_len hm)]
        have F21 := fr_grow F19 kp21
        have N21 := news_grow N19 kp21
        clear N19 F19
        w_strict (repeat' ((fail_if_success (with_reducible show wpAny _ _ (exec (Stmt.For _ _ _ _ _) _) _ _ _)); (fail_if_success (with_reducible show wpAny _ _ (binaryOp Operator.Add (Value.ref _) (Value.ref _)) _ _ _)); (fail_if_success (with_reducible show wpAny _ _ (call (Value.builtin "str.join") _) _ _ _)); (fail_if_success (with_reducible show wpAny _ _ (call (Value.builtin "str.encode") _) _ _ _)); walk1))
        k_here
        k_dflt (refine' add_lists (vs := vs11) (ws := vs10) ?aF ?aN ?aa ?ab ?_ ?az)
        case aF => k_asm
        case aN => k_asm
        case aa => exact ⟨_, News.get (by k_asm) (.tail _ (.tail _ (.head _))), rfl, _, rfl⟩
        case ab => exact ⟨_, News.get (by k_asm) (.tail _ (.tail _ (.tail _ (.tail _ (.head _))))), rfl, _, rfl⟩
        case az => rw [sizeLine_eq]; (first | lia | omega)
        k_whole
        intro h23 F23 N23
        w_strict (repeat' ((fail_if_success (with_reducible show wpAny _ _ (exec (Stmt.For _ _ _ _ _) _) _ _ _)); (fail_if_success (with_reducible show wpAny _ _ (binaryOp Operator.Add (Value.ref _) (Value.ref _)) _ _ _)); (fail_if_success (with_reducible show wpAny _ _ (call (Value.builtin "str.join") _) _ _ _)); (fail_if_success (with_reducible show wpAny _ _ (call (Value.builtin "str.encode") _) _ _ _)); walk1))
        k_here
        k_dflt (refine' join_listW (items := (vs11 ++ vs10).toArray) (ys := strL (poppedOf ms2).reverse ++ strL (poppedOf ms2)) ⟨_, N23.get (.head _), rfl, _, rfl⟩ (strs_app hi11 hi10) (by decide) (weight_op hm) ?_)
        k_whole
        intro t24 tk24
        rw [join_op hm]
        w_strict (repeat' ((fail_if_success (with_reducible show wpAny _ _ (exec (Stmt.For _ _ _ _ _) _) _ _ _)); (fail_if_success (with_reducible show wpAny _ _ (binaryOp Operator.Add (Value.ref _) (Value.ref _)) _ _ _)); (fail_if_success (with_reducible show wpAny _ _ (call (Value.builtin "str.join") _) _ _ _)); (fail_if_success (with_reducible show wpAny _ _ (call (Value.builtin "str.encode") _) _ _ _)); walk1))
        k_here
        k_dflt (refine' enc_call ((namesN ms2).reverse ++ namesN ms2) 11 rfl (enc_op hm).1 (enc_op hm).2 (by decide) ?_)
        k_whole
        intro t25 tk25
        refine wpC_tokA (s₀ := s) h23 rfl ?_
        intro tk25b
        w_strict (repeat' ((fail_if_success (with_reducible show wpAny _ _ (exec (Stmt.For _ _ _ _ _) _) _ _ _)); (fail_if_success (with_reducible show wpAny _ _ (binaryOp Operator.Add (Value.ref _) (Value.ref _)) _ _ _)); (fail_if_success (with_reducible show wpAny _ _ (call (Value.builtin "str.join") _) _ _ _)); (fail_if_success (with_reducible show wpAny _ _ (call (Value.builtin "str.encode") _) _ _ _)); walk1))
        rw [beq_self_eq_true]
        refine h _ _ (fun b o hb e => F23.keep b o ((Heap.hide_ne _ hb).trans e)) ⟨ps14, ?_⟩
        exact News.get (by k_asm) (.tail _ (.tail _ (.tail _ (.tail _ (.tail _ (.tail _ (.tail _ (.tail _ (.head _)))))))))
end Mine
end
section -- YTop
open PySem PySem.W PySem.Calls PyProof.Rows PyProof.V PySem.Spec
set_option maxRecDepth 100000
set_option maxHeartbeats 8000000
namespace Mine
theorem row_said : PySem.Challenge.rw_xo0007_01.row.wellSaid = true := by
  unfold OpenRow.wellSaid
  repeat' (with_reducible refine look_both ?_ ?_)
  all_goals (try unfold OpenRow.partSaid)
  all_goals (repeat' (with_reducible refine look_both ?_ ?_))
  all_goals (try unfold looksOpen)
  all_goals (repeat' (with_reducible refine look_both ?_ ?_))
  all_goals decide +kernel
theorem said_ok : OpenLaw.wellSaid PySem.Challenge.rw_xo0007_01 = true := by
  unfold OpenLaw.wellSaid
  repeat' (with_reducible refine look_both ?_ ?_)
  · exact row_said
  all_goals decide +kernel
theorem law_good {cw : ClaimW} {cl : Str → Option Addr} {mean : ExcName → Option Value} {wargs : List WData} {s₁ : Shared} {tabs : List (Addr × Addr)} {s' : Shared} (hT : TabsAt tabs s₁.heap) (hr : ∀ a x, cw.raises a x = false) (hpost : cw.post wargs (.bool true) wargs = true)
    (hos : s'.os = s₁.os) (hg : AllBare s'.gens) (keep : ∀ b o, b ∉ tabs.map (·.2) → s₁.heap.get? b = some o → s'.heap.get? b = some o) (hgr : GrownAll tabs s'.heap) : GoodWG cw cl mean wargs s₁ (.ok (.ret (.bool true))) s' := by
  have grown : ∀ b o, b ∈ tabs.map (·.2) → s₁.heap.get? b = some o → isCodeTable s₁.heap b ∧ o = tabObj #[] ∧ ∃ ps, s'.heap.get? b = some (tabObj ps) := fun b o hb e => by
    obtain ⟨q, hq, rfl⟩ := List.mem_map.mp hb
    have e2 := (hT q hq).2
    rw [e] at e2
    exact ⟨((hT q hq).1.tab (hT q hq).2).isCodeTable, Option.some.inj e2, hgr.get q hq⟩
  refine ⟨.inl ⟨_, _, [], rfl, hr _, ReadsW.bool _, hpost, fun _ => ⟨List.nodup_nil, fun _ hm => (nomatch hm)⟩⟩, ⟨fun b o e => ?_, fun b o e => ?_⟩, hos, hg⟩
  · by_cases hb : b ∈ tabs.map (·.2)
    · obtain ⟨ht, rfl, ps, hP⟩ := grown b o hb e
      exact .inr (.inl ⟨ht, rfl, #[], ps, rfl, by rw [Array.empty_append]; exact hP⟩)
    · exact .inl (keep b o hb e)
  · by_cases hb : b ∈ tabs.map (·.2)
    · obtain ⟨_, _, ps, hP⟩ := grown b o hb e
      exact ⟨_, hP⟩
    · exact ⟨o, keep b o hb e⟩
theorem law_holds : PySem.Challenge.rw_xo0007_01.Holds := by
  refine holds_law said_ok fun _ => hd ?_
  w_on
  k_fill
  intro w s₀ s₁ mg mb G Y fa o pm cdd doc dV kV ho hdd hcd hD hmg hg args vals as hpre hlay hrd hwl hlo
  have KX := km_in_of Y
  km_tabs Y
  have X := (Ground.X G).1
  have V := (Ground.X G).2
  refine Ground.open G ?_
  intro T B D TE TW
  try (refine guard_noD D (by decide +kernel) ?_; clear D)
  have hmg0 := hmg
  km_lay T hmg ho hdd cdd
  clear hmg
  wrow_args hpre hlay hrd hwl hlo
  rename_i hcond0 _
  rename Heap.IsList _ _ _ => hL0
  rename IntsAre _ _ => hI0
  have e1 := mg_of (n := "law") (v := .ref 219) KX (Top.g T) (by kernel_rfl)
  have e2 : fa = 219 := by
    have e3 := hmg0.symm.trans e1
    injection e3 with e3
    injection e3
  subst e2
  have XH : (hd.heap_1 w.params).In (s₁.heap.hide 206) := ghost_K hT9 KX (by kernel_rfl)
  have TH := ghost_top hT9 T
  have hL1 := ghost_list hT9 hL0
  have hsys : ∃ o, (s₁.heap.hide 206).get? sysModules = some o := by
    obtain ⟨mm, ⟨o, es, ep, e, _⟩, _⟩ := (T.seer (by decide +kernel)).mods
    exact ⟨o, (Heap.hide_ne _ (by decide)).trans e⟩
  refine law_spec (by decide) rfl rfl XH TH (hT8 206 (.head _)) hL1 hI0 ?_ hsys ?_
  · omega
  intro h' tk keep hgr
  refine law_good hT9 (fun _ _ => rfl) ?_ rfl ?_ ?_ ?_
  · first | rfl | wrow_post
  · exact AllBare.of_eq hg
  · intro b o hb e
    exact keep b o (fun q => hb (q ▸ .head _)) e
  · exact ⟨hgr, trivial⟩
end Mine
end
end
theorem PySem.Challenge.cw_xo0007_01_holds : PySem.Challenge.rw_xo0007_01.Holds := by
  exact Mine.law_holds
