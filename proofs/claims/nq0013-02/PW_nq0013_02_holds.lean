import PyProof.Rows.All
import Wide.All
import OpenK.AllK
import Wide.FinOn
import PySem.Challenge.RW_nq0013_02
set_option Elab.async false
set_option maxRecDepth 100000
set_option maxHeartbeats 8000000
namespace Mine
open PySem PySem.W PyProof.Rows
open Sem (wp)
noncomputable def goodIds : List String := ["claim.caller", "type.__call__", "bytearray.__init__"]
noncomputable def okCode : Code → Bool
  | .builtin id _ => goodIds.contains id
  | _ => true
noncomputable def GoodS (l : List (Code × Pos)) : Prop := ∀ x ∈ l, okCode x.1 = true
noncomputable def Good (Γ : Ctx) : Prop := okCode Γ.code = true ∧ GoodS Γ.below
theorem GoodS.cons {c : Code} {p : Pos} {l : List (Code × Pos)} (hc : okCode c = true) (h : GoodS l) : GoodS ((c, p) :: l) := by
  intro x hx
  cases hx with
  | head => exact hc
  | tail _ hx => exact h x hx
theorem Good.stack {Γ : Ctx} (h : Good Γ) (p : Pos) : GoodS ((Γ.code, p) :: Γ.below) := GoodS.cons h.1 h.2
noncomputable def wpG {α : Type} (M : Model) (A : Around) (t : Sem α) (Q : α → Shared → Prop) (E : Value → Shared → Prop) (s : Shared) : Prop :=
  ∀ Γ p, Γ.In A → Good Γ → wp M Γ t (fun a _ s' => Q a s') (fun e _ s' => E e s') p s
noncomputable def codeG (M : Model) (A : Around) (c : Code) (R : Result → Shared → Prop) (s : Shared) : Prop :=
  okCode c = true ∧ ∀ Γ p, Γ.code = c → Γ.Below A → GoodS Γ.below → wpCode M Γ R p s
section
variable {α β : Type} {M : Model} {A : Around} {E : Value → Shared → Prop} {s : Shared}
theorem wpG_of {t : Sem α} {Q : α → Shared → Prop} (h : wpAny M A t Q E s) : wpG M A t Q E s := fun Γ p hΓ _ => h Γ p hΓ
theorem wpG_pure {a : α} {Q : α → Shared → Prop} (h : Q a s) : wpG M A (pure a) Q E s := fun _ _ _ _ => h
theorem wpG_mono {t : Sem α} {Q Q' : α → Shared → Prop} {E' : Value → Shared → Prop} (h : wpG M A t Q E s)
    (hQ : ∀ a s, Q a s → Q' a s) (hE : ∀ e s, E e s → E' e s) : wpG M A t Q' E' s :=
  fun Γ p hΓ hg => Sem.wp_mono M Γ t (fun a _ s => hQ a s) (fun e _ s => hE e s) p s (h Γ p hΓ hg)
theorem wpG_bind {m : Sem α} {f : α → Sem β} {Q : β → Shared → Prop} (h : wpG M A m (fun a s' => wpG M A (f a) Q E s') E s) :
    wpG M A (m >>= f) Q E s := fun Γ p hΓ hg => by
  rw [Sem.wp_bind']
  exact Sem.wp_mono M Γ m (fun a p' s' h' => h' Γ p' hΓ hg) (fun _ _ _ h' => h') p s (h Γ p hΓ hg)
theorem wpG_bindA {m : Sem α} {f : α → Sem β} {Q : β → Shared → Prop} (h : wpAny M A m (fun a s' => wpG M A (f a) Q E s') E s) :
    wpG M A (m >>= f) Q E s := wpG_bind (wpG_of h)
theorem wpG_holding {vs : List Value} {m : Sem α} {Q : α → Shared → Prop} (h : wpG M A m Q E s) : wpG M A (holding vs m) Q E s :=
  fun Γ p hΓ hg => by rw [Sem.wp_holding]; exact h Γ p hΓ hg
theorem wpG_keep {vs : List Value} {m : Sem α} {Q : α → Shared → Prop} (h : wpG M A m Q E s) : wpG M A (m.keep vs) Q E s :=
  fun Γ p hΓ hg => by rw [Sem.wp_keep]; exact h Γ p hΓ hg
theorem wpG_onRaise {m : Sem α} {k : Value → Sem Unit} {Q : α → Shared → Prop} (h : wpG M A m Q (fun _ _ => False) s) : wpG M A (m.onRaise k) Q E s := fun Γ p hΓ hg => by
  rw [Sem.wp_onRaise]
  exact Sem.wp_mono M Γ m (fun _ _ _ h' => h') (fun e p' s' h' => h'.elim) p s (h Γ p hΓ hg)
theorem wpG_run {c : Code} {h : Option Value} {Q : Flow → Shared → Prop}
    (hc : codeG M (A.mark h) c (fun r s' => match r with | .ok f => Q f s' | .error e => E e s') s) (hnb : h ≠ some byPass := by intro x; cases x) :
    wpG M A (run c h) Q E s :=
  fun Γ p hΓ hg => by rw [Sem.wp_run]; exact hc.2 _ p rfl (hΓ.enter c h p hnb) (hg.stack p)
theorem wpG_runValue {c : Code} {Q : Value → Shared → Prop}
    (hc : codeG M A c (fun r s' => match r with | .ok (.ret v) => Q v s' | .ok _ => False | .error e => E e s') s) :
    wpG M A (runValue c) Q E s := fun Γ p hΓ hg => by rw [Sem.wp_runValue]; exact hc.2 _ p rfl (hΓ.enter c none p (by intro x; cases x)) (hg.stack p)
theorem wpG_call {f : Value} {pos : List Value} {kw : List (Str × Value)} {Q : Value → Shared → Prop}
    (hc : codeG M A (.call f ⟨pos, kw⟩) (fun r s' => match r with | .ok (.ret v) => Q v s' | .ok _ => False | .error e => E e s') s) :
    wpG M A (call f pos kw) Q E s := wpG_runValue hc
theorem codeG_of {c : Code} {R : Result → Shared → Prop} (ok : okCode c = true) (h : codeAny M A c R s) : codeG M A c R s := ⟨ok, fun Γ p hc hΓ _ => h Γ p hc hΓ⟩
theorem codeG_of_tree {c : Code} {R : Result → Shared → Prop} (ok : okCode c = true)
    (h : wpG M (A.under c) (M.den c) (fun fin s' => match fin with | .done f => R (.ok f) s' | .again c' => c'.quiet = true ∧ codeG M A c' R s')
      (fun e s' => R (.error e) s') s) : codeG M A c R s := ⟨ok, fun Γ p hc hΓ hg => by
  rw [wpCode_iff_wp, hc]
  refine Sem.wp_mono M Γ _ (fun fin p' s' h' => ?_) (fun _ _ _ h' => h') p s (h Γ p (hc ▸ hΓ.in) ⟨hc ▸ ok, hg⟩)
  cases fin with
  | done f => exact h'
  | again c' => exact ⟨h'.1, h'.2.2 (Γ.goto c') p' rfl (hΓ.goto c') hg⟩⟩
theorem wpG_exported {self : Value} {Q : Bool → Shared → Prop} (h : Q false s) : wpG M A (Builtin.Bytes.exported self) Q E s := fun Γ p _ hg => by
  unfold Builtin.Bytes.exported
  show Q _ s
  refine Eq.mpr (congrArg (fun b => Q b s) (List.any_eq_false.mpr ?_)) h
  rintro ⟨c, p'⟩ hx
  have hc := hg.stack p _ hx
  refine (Bool.not_eq_true _).mpr ?_
  cases c with
  | builtin id args =>
    have hc : goodIds.contains id = true := hc
    have h3 : id = "claim.caller" ∨ id = "type.__call__" ∨ id = "bytearray.__init__" := by simpa [goodIds] using hc
    clear hc hx
    obtain ⟨pos, kw⟩ := args
    cases pos with
    | nil => rcases h3 with rfl | rfl | rfl <;> kernel_rfl
    | cons v r => rcases h3 with rfl | rfl | rfl <;> (refine Eq.trans (b := (Builtin.Bytes.sameRef v self && false)) ?_ (Bool.and_false _); kernel_rfl)
  | _ => kernel_rfl
end
open PySem PySem.W PySem.Calls PyProof.Rows
theorem caller_good : Good (⟨.builtin "claim.caller" {}, none, none, [], none⟩ : Ctx) := ⟨by decide +kernel, fun _ h => nomatch h⟩
theorem wp_of_wpG_done {M : Model} {A : Around} {Γ : Ctx} {t : Sem Fin} {R : Result → Shared → Prop} {s : Shared} (hin : Γ.In A) (hg : Good Γ)
    (h : wpG M A t (fun fin s' => ∃ f, fin = .done f ∧ R (.ok f) s') (fun e s' => R (.error e) s') s) (p : Pos) :
    wp M Γ t (Sem.finPost M Γ R) (fun e _ s' => R (.error e) s') p s := by
  refine Sem.wp_mono M Γ t (fun fin p' s' h' => ?_) (fun _ _ _ h' => h') p s (h Γ p hin hg)
  obtain ⟨f, rfl, hf⟩ := h'
  exact hf
theorem thread_endsG {prog : Program} {w : World} {t : Sem Fin} {s : Shared} {R : Result → Shared → Prop} (hreg : s.asleep)
    (h : wpG (model prog w) callerA t (fun fin s' => ∃ f, fin = .done f ∧ (R (.ok f) s' ∧ leftWithCleanup s'.gens = false)) (fun e s' => R (.error e) s' ∧ leftWithCleanup s'.gens = false) s) :
    ∃ n r s' s'', runN (denote table) prog w n s ⟨t, .builtin "claim.caller" {}, default, []⟩ = .halted (outcomeOf r) s' ∧
      schedN (denote table) prog w n (.single s ⟨t, .builtin "claim.caller" {}, default, []⟩) = .halted (outcomeOf r) s' ∧ s'.forget = s''.forget ∧ R r s'' := by
  obtain ⟨n, r, s₁, s₂, hs, hn, hfo, hR⟩ := wp_halts_full (M := model prog w) (R := R) hreg (wp_of_wpG_done (R := fun r s' => R r s' ∧ leftWithCleanup s'.gens = false) caller_in caller_good h default)
  exact ⟨n, r, s₂, s₁, hn, hs, hfo, hR⟩
theorem callFromG {c : ClaimW} {tree : List Value → Sem Fin} {w : World} {s : Shared} {free : Addr → Prop} {gens : Prop} {kept : Heap → Prop} (hz : s.asleep) (hgens : s.gens = #[])
    (hspec : ∀ args, c.pre args = true → WData.layableAll args = true →
      ∀ ord : List DictEntry → List DictEntry, (∀ l, (ord l).Perm l) →
      ∃ vs s₁, layAllW c.records (classAt s.heap) w.params ord args s = some (vs, s₁) ∧
        wpG (model c.prog w) callerA (tree vs) (fun fin s' => ∃ f, fin = .done f ∧ (c.Ends s args vs s₁ (.ok f) s' ∧ s'.os = s.os ∧ AllBare s'.gens ∧ kept s'.heap))
          (fun e s' => c.Ends s args vs s₁ (.error e) s' ∧ s'.os = s.os ∧ AllBare s'.gens ∧ kept s'.heap) s₁) :
    c.CallFrom (fun vs => ⟨tree vs, .builtin "claim.caller" {}, default, []⟩) w free gens kept s := by
  intro args hpre hlay ord hord
  obtain ⟨vs, s₁, hlaid, hcode⟩ := hspec args hpre hlay ord hord
  have hal := layAllW_rest _ _ _ hlaid
  obtain ⟨k, r, s', s'', hrun, hsched, hfo, hcase, hos, hkp⟩ := thread_endsG (prog := c.prog) (w := w) (t := tree vs) (s := s₁)
    (R := fun r s' => c.Ends s args vs s₁ r s' ∧ s'.os = s.os ∧ kept s'.heap) (Shared.asleep_of_life hal.2.2.2 hz)
    (wpG_mono hcode (fun fin s' ⟨f, e, h1, h2, h3, h4⟩ => ⟨f, e, ⟨h1, h2, h4⟩, leftWithCleanup_false_of_bare h3⟩)
      fun e s' ⟨h1, h2, h3, h4⟩ => ⟨⟨h1, h2, h4⟩, leftWithCleanup_false_of_bare h3⟩)
  obtain ⟨eh, _, _, eo, _⟩ := Shared.forget_eq hfo
  have hcase := hcase.congr eh
  have hkp : kept s'.heap := by rw [eh]; exact hkp
  rw [← eo] at hos
  have hlife : s'.heap.life = s.heap.life := (runN_life _ _ _ hrun).trans hal.2.2.2
  refine ⟨vs, s₁, hlaid, k, _, s', hsched, ?_, (fun _ i x hx => by rw [hgens] at hx; simp at hx), hkp, by rw [hlife], Shared.rest_eq hos⟩
  rcases hcase with ⟨v, rfl, d1, d2, d3, d4, d5⟩ | ⟨e, ob, cls, rfl, d1, d2, d3, d4, d5⟩
  · exact .inl ⟨v, rfl, d1, d2, d3, fun b o y _ => d4 b o y, d5⟩
  · exact .inr ⟨e, ob, cls, rfl, d1, d2, d3, d4, fun b o y _ => d5 b o y⟩
noncomputable abbrev WalkG (q : Program) (loose : List Str) (XP : (Str → Option Value) → Heap → Prop) (YP : World → Heap → Prop) (r : RowW) (d : DefRec) (kwd : List (Str × Expr)) : Prop :=
  ∀ (w : World) (s₀ s₁ : Shared) (mg mb : Str → Option Value), Ground q loose r.records XP w s₀ mg mb s₁.heap → YP w s₁.heap → ∀ (a : Addr) (o : Obj) (pm cd doc dV kV : Value), s₁.heap.get? a = some o →
    o.data = .func { docDef d.name d.params d.body d.scope pm cd doc with defaults := dV, kwdefaults := kV } → s₁.heap.CodeRec cd d.name → Dflts mg s₁.heap d.params kwd dV kV → mg d.name = some (.ref a) → s₁.gens = #[] →
    ∀ (args : List WData) (vals : List Value) (as : List Addr), r.claim.pre args = true → WData.layableAll args = true → ReadsAllW r.records (classAt s₀.heap) s₁.heap vals args as → WellAll w.params s₁.heap vals args → (∀ a ∈ as, (a == sysModules) = false) →
      wpG (model r.prog w) callerA (PySem.call (.ref a) vals) (fun v s' => GoodWG r.claim (classAt s₀.heap) (ExcName.means s₀.heap) args s₁ (.ok (.ret v)) s') (fun _ _ => False) s₁
theorem PySem.W.holds_open {r : OpenRow} {q : Program} {loose : List Str} {Xt : Shared → Bool} {XP : (Str → Option Value) → Heap → Prop} {α : Type} {Yf : Shared → α} {Ya : World → α} {YP : World → Heap → Prop} {d : DefRec} {kwd : List (Str × Expr)} {N : Nat}
    (left : LeftO r.prog q loose Xt Yf Ya N) (hY : ∀ w s, Yf s = Ya w → YP w s.heap) (hYk : ∀ w h h', YP w h → (∀ b o, h.get? b = some o → h'.get? b = some o) → YP w h')
    (hX : ∀ s, Xt s = true → XP (s.heap.nsMap mainGlobals) s.heap) (hXk : ∀ mg h h', XP mg h → (∀ b o, h.get? b = some o → h'.get? b = some o) → XP mg h')
    (hdef : defOf q r.name = some (d, kwd)) (hp : r.prog.theDef r.name = some (d.params, d.body, d.scope)) (hk : kwWritten? d.params.kwonlyargs d.params.kw_defaults = some kwd) (hRf : ∀ s, Xt s = true → RecFacts r.records s.heap) (hwr : (!r.writes || r.records.isEmpty) = true)
    (k1 : r.wellSaid = true) (ok : (chainsOk q && opensWell r.prog && (frees r.toRowW && r.within.isEmpty)) = true) (hb : r.prog.bare) (hw : r.toRowW.promised)
    (call : WalkG q loose XP YP r.toRowW d kwd) : r.Holds := by
  refine ⟨k1, hw, ?_⟩
  show r.toRowW.claim.HoldsOpenBy (fun vs => ⟨do match ← nsGet mainNs r.name with
      | some f => do ret (← PySem.call f vs)
      | none => unsupported "claim.caller:no-such-global", .builtin "claim.caller" {}, default, []⟩) (if r.pinned then [r.name] else []) r.keeps r.writes
  obtain ⟨ok, k5⟩ := Bool.and_eq_true_iff.mp ok
  obtain ⟨hch, o1⟩ := Bool.and_eq_true_iff.mp ok
  obtain ⟨k5, k6⟩ := Bool.and_eq_true_iff.mp k5
  obtain ⟨hsame, hu, ha, hap, hm⟩ := frees_parts k5
  refine ⟨⟨hb, o1, by show r.makers.map _ = []; rw [hm]; rfl⟩, hw.witness, fun w => ⟨(left.behind hX hch w).1, fun s' hs' => ?_⟩⟩
  obtain ⟨s₀, hf, hg0, s, hT, hz, hgens, hg, G00, y⟩ := (left.behind (XP := fun mg h => XP mg h ∧ RecFacts r.records h) (fun s hs => ⟨hX s hs, hRf s hs⟩) hch w).2 s' hs'
  have G0 : Ground q loose [] XP w s (s.heap.nsMap mainGlobals) (s.heap.nsMap builtinsNs) s.heap := ⟨G00.T, G00.B, G00.D, G00.TE, G00.TD, G00.W, G00.X.1, G00.cls, G00.has, G00.apart, G00.once, G00.K⟩
  have RF := G00.X.2
  have hT' := hT
  refine ⟨s₀, hf, hg0, s, hT, fun n hn => ?_, RF.1, RF.2.1, ?_⟩
  · obtain rfl : n = r.name := by split at hn <;> simp_all
    exact pinned_of_view hg G0 hdef hp hk
  have hgens : s.gens = #[] := Array.eq_empty_of_size_eq_zero (beq_iff_eq.mp hgens)
  have G : Ground q loose r.records XP w s _ _ s.heap := RF.ground G0
  refine callFromG (c := r.toRowW.claim) hz hgens fun args hpre hlay ord hord => ?_
  obtain ⟨⟨vs, s₁⟩, hlaid⟩ := Option.isSome_iff_exists.mp (layAllW_isSome (P := w.params) (ord := ord) G.has args r.args s (pre_splitW hpre).1)
  have keeps := layAllW_keeps _ _ _ hlaid
  have hal := layAllW_rest _ _ _ hlaid
  obtain ⟨as, hrd, hin, hold⟩ := reads_layAllW hord _ _ _ hlaid hlay s₁.heap (fun _ _ e => e)
  have L : Laid r.records w s s₁ args vs as := ⟨⟨ord, hord, hlaid⟩, hrd, hin, hold, keeps, hal.1.trans hgens, hal.2.2.1⟩
  have G₁ := G.keeps hXk keeps
  obtain ⟨a, o, pm, cd, doc, dV, kV, h1, h2, h3, h4, h5⟩ := G₁.fn hdef
  have h := call w s s₁ _ _ G₁ (hYk _ _ _ (hY w s y) keeps) a o pm cd doc dV kV h2 h3 h4 h5 (defOf_name hdef ▸ h1) L.gens args vs as hpre hlay L.reads L.well (L.low G.low)
  have hi := ident_freeW hu ha hap
  have hwi : r.claim.within = [] := List.isEmpty_iff.mp k6
  refine ⟨vs, s₁, hlaid, wpG_bindA (wpAny_nsGet G₁.T.g ?_)⟩
  rw [h1]
  refine wpG_bind (wpG_mono h (fun v s' g => wpG_pure ⟨_, rfl, have z := g.laid (c := r.claim) hsame hwi hi L; ⟨z.1, z.2.1, z.2.2, fun q => ⟨namesKept_of hT' hg r.keeps keeps g.2.1.old, noTable hwr q⟩⟩⟩) fun _ _ x => x.elim)
theorem call_type_bytes {prog : Program} {w : World} {A : Around} {E Q : Value → Shared → Prop} {s : Shared} {b : Array UInt8} {u : Tok} (hq : Q (.type "bytes") s) :
    wpAny (model prog w) A (call (.type "type") [.bytes b u]) Q E s := by
  obtain ⟨h, g, d, t, os⟩ := s
  refine wpAny_call (codeAny_of_tree ?_)
  show wpAny _ _ (callAny (.type "type") ⟨[.bytes b u], []⟩) _ _ _
  simp only [callAny]
  refine wpAny_pure ⟨Code.quiet_builtin _ (by decide +kernel), codeAny_builtin entry_type_call ?_⟩
  unfold Builtin.«type.__call__»
  dsimp only
  unfold shownTypeOf
  repeat (first | wp_step)
  exact hq
theorem sub_bytes_str : isSubtype (.type "bytes") (.type "str") = pure false := by rw [isSubtype_type]; kernel_rfl
theorem sub_bytes_bytes' : isSubtype (.type "bytes") (.type "bytes") = pure true := by rw [isSubtype_type]; kernel_rfl
theorem plain_nested : plainId "issubclass.nested" = true := by decide +kernel
theorem check_nested (a b c : Value) : checkBuiltinCall "issubclass.nested" ⟨[a, b, c], []⟩ = pure () := by kernel_rfl
theorem nested_leaf {prog : Program} {w : World} {A : Around} {E Q : Value → Shared → Prop} {s : Shared} {X : String} {dep : Int} {tk : Tok} {r : Bool} (hm : typeOf (.type X) = pure (.type "type")) (hi : isType (.type X) = pure true)
    (hs : isSubtype (.type "bytes") (.type X) = pure r) (hq : Q (.bool r) s) :
    wpAny (model prog w) A (call (.builtin "issubclass.nested") [.type "bytes", .type X, .int dep tk]) Q E s := by
  refine wpAny_call (codeAny_call_builtin plain_nested F.entry_issubclass_nested ?_)
  refine wpAny_of_eq (check_nested _ _ _) ?_
  have hb : isType (.type "bytes") = pure true := by rfl
  repeat (any_goals (first | assumption | (rw [hm]) | (rw [hi]) | (rw [hs]) | (rw [hb]) | wp_step))
theorem nested_tuple {prog : Program} {w : World} {A : Around} {E : Value → Shared → Prop} {Q : Fin → Shared → Prop} {s : Shared} {a : Addr} {k : Value} {tk : Tok} (hk : k = .int 0 tk) (ha : IsTup s.heap a #[.type "str", .type "bytes"])
    (hq : Q (.done (.ret (.bool true))) s) : wpAny (model prog w) A (Builtin.«issubclass.nested» ⟨[.type "bytes", .ref a, k], []⟩) Q E s := by
  subst hk
  obtain ⟨o, ho, hc, n, hd⟩ := ha
  have hT : s.TypeIs (.ref a) "tuple" := ⟨o, ho, hc⟩
  have hsub : isSubtype (.type "tuple") (.type "tuple") = pure true := by rw [isSubtype_type]; kernel_rfl
  unfold Builtin.«issubclass.nested»
  dsimp only
  refine wpAny_bind (wpAny_typeOf hT ?_)
  refine bm_if_false (by decide) ?_
  refine wpAny_bind (m := Builtin.Builtins.unionMembers (.ref a)) ?_
  unfold Builtin.Builtins.unionMembers
  refine wpAny_bind (wpAny_typeOf hT ?_)
  refine bm_if_false (by decide) ?_
  refine wpAny_pure ?_
  refine wpAny_bind (wpAny_isInstance hT hsub ?_)
  refine bm_if_true rfl ?_
  refine wpAny_ite ?_
  rw [if_neg (by decide)]
  refine wpAny_bind (wpAny_seqItems ho hd ?_)
  refine wpAny_bind (m := forIn _ _ _) ?_
  rw [← Array.forIn_toList]
  dsimp only [Option.getD_some]
  rw [List.forIn_cons]
  refine wpAny_bind (wpAny_bind (nested_leaf (X := "str") (by rfl) (by rfl) sub_bytes_str ?_))
  refine wpAny_bind (m := truthy (.bool false)) (wpAny_pure ?_)
  refine bm_if_false rfl (wpAny_pure ?_)
  dsimp only
  rw [List.forIn_cons]
  refine wpAny_bind (wpAny_bind (nested_leaf (X := "bytes") (by rfl) (by rfl) sub_bytes_bytes' ?_))
  refine wpAny_bind (m := truthy (.bool true)) (wpAny_pure ?_)
  refine bm_if_true rfl (wpAny_bind (wpAny_pure (wpAny_pure ?_)))
  exact wpAny_pure (wpAny_pure hq)
theorem issubclass_bytes {prog : Program} {w : World} {A : Around} {E Q : Value → Shared → Prop} {s : Shared} {a : Addr} (ha : IsTup s.heap a #[.type "str", .type "bytes"]) (hq : Q (.bool true) s) :
    wpAny (model prog w) A (call (.builtin "issubclass") [.type "bytes", .ref a]) Q E s := by
  refine call_issubclass (S := fun _ R s => IsTup s.heap a #[.type "str", .type "bytes"] ∧ R (.ok (.ret (.bool true))) s) ?_ ⟨ha, hq⟩
  intro prog w A R s hs
  exact issubclass_outer (nested_tuple rfl hs.1 hs.2)
noncomputable def cutL {α : Type} (l : List α) (lo hi : Option Int) : List α := (l.drop (lo.elim 0 (clipAt l.length))).take (hi.elim l.length (clipAt l.length) - lo.elim 0 (clipAt l.length))
theorem cutL_le {α : Type} (l : List α) (lo hi : Option Int) : (cutL l lo hi).length ≤ l.length := by
  unfold cutL
  rw [List.length_take, List.length_drop]
  exact Nat.le_trans (Nat.min_le_right _ _) (Nat.sub_le _ _)
theorem picked_list (l : List UInt8) (lo hi : Option Int) : KBy.picked l.toArray lo hi = (cutL l lo hi).toArray := by
  rw [KBc.picked_eq]
  simp only [List.size_toArray, cutL]
section
variable {prog : Program} {w : World} {A : Around} {E : Value → Shared → Prop} {s : Shared} {value slice : PySem.Expr} {b : List UInt8} {t : Tok} {h₀ : Heap} {L : Addr} {m : PySem.Str → Option Value} {news : List (Addr × Obj)} {l u : Value} {lo hi : Option Int} {Q : Value → Shared → Prop}
theorem slice_any (hF : Fr h₀ L s.heap m) (hN : News h₀ L s.heap news) (hl : IsPart l lo) (hu : IsPart u hi) (hz : b.length ≤ 16777216)
    (h : ∀ h' t' k, Fr h₀ L h' m → News h₀ L h' news → Q (.bytes (cutL b lo hi).toArray t') { s with heap := h', toks := k })
    (hs : subscripted slice false (.bytes b.toArray t) (.ref s.heap.objs.size) = operate [.ref s.heap.objs.size, .bytes b.toArray t] (getItem (.bytes b.toArray t) (.ref s.heap.objs.size)) := by with_unfolding_all rfl)
    (ht : ∀ r, letTemporaryGo value (.bytes b.toArray t) r = pure () := by intro _; with_unfolding_all rfl) :
    wpAny (model prog w) A (subscriptTail value slice (.bytes b.toArray t) (.ref s.heap.objs.size)) Q E { s with heap := s.heap.push { cls := .type "slice", data := .fields #[l, u, .none] } } :=
  KBc.slice_K hF hN rfl hl hu (by rw [KBw.ints_length, List.size_toArray]; exact hz) (fun h' t' k F N _ => by rw [picked_list]; exact h h' t' k F N) hs ht
theorem truthy_bytesL {Q : Bool → Shared → Prop} (hz : b.length ≤ 16777216) (h : ∀ k, Q (decide (b ≠ [])) { s with toks := k }) : wpAny (model prog w) A (truthy (.bytes b.toArray t)) Q E s := by
  refine truthy_bytes (by rw [List.size_toArray]; omega) ?_
  have e : (((b.toArray.size : Nat) : Int) != 0) = decide (b ≠ []) := by
    rw [List.size_toArray]
    cases b <;> simp
    omega
  rw [e]
  exact h _
theorem ne_bytesL {c : List UInt8} {u : Tok} (h : Q (.bool (decide (b ≠ c))) s) : wpAny (model prog w) A (compareOp .NotEq (.bytes b.toArray t) (.bytes c.toArray u)) Q E s := by
  refine ne_bytes ?_
  have e : (b.toArray.toList != c.toArray.toList) = decide (b ≠ c) := by
    show (!(b == c)) = _
    by_cases h : b = c <;> simp [h]
  rw [e]; exact h
theorem eq_bytesL {c : List UInt8} {u : Tok} (h : Q (.bool (decide (b = c))) s) : wpAny (model prog w) A (compareOp .Eq (.bytes b.toArray t) (.bytes c.toArray u)) Q E s := by
  refine eq_bytes ?_
  have e : (b.toArray.toList == c.toArray.toList) = decide (b = c) := by
    show (b == c) = _
    by_cases h : b = c <;> simp [h]
  rw [e]; exact h
end
open PySem
noncomputable def splitL (c : UInt8) : List UInt8 → List (List UInt8)
  | [] => [[]]
  | x :: xs => if x = c then [] :: splitL c xs else match splitL c xs with
    | h :: t => (x :: h) :: t
    | [] => [[x]]
noncomputable def idxL (c : UInt8) : List UInt8 → List Nat
  | [] => []
  | x :: xs => if x = c then 0 :: (idxL c xs).map (· + 1) else (idxL c xs).map (· + 1)
noncomputable def betweenL (l : List UInt8) : Nat → List Nat → List (List UInt8)
  | last, [] => [l.drop last]
  | last, p :: ps => (l.drop last).take (p - last) :: betweenL l (p + 1) ps
theorem betweenL_shift (x : UInt8) (xs : List UInt8) : ∀ (ps : List Nat) (last : Nat), betweenL (x :: xs) (last + 1) (ps.map (· + 1)) = betweenL xs last ps
  | [], last => by simp [betweenL]
  | p :: ps, last => by
    simp only [List.map_cons, betweenL, List.drop_succ_cons, betweenL_shift x xs ps (p + 1)]
    congr 2
    exact Nat.add_sub_add_right p 1 last
theorem betweenL_cons (x : UInt8) (xs : List UInt8) (ps : List Nat) : ∃ h t, betweenL xs 0 ps = h :: t ∧ betweenL (x :: xs) 0 (ps.map (· + 1)) = (x :: h) :: t := by
  cases ps with
  | nil => exact ⟨_, _, rfl, rfl⟩
  | cons p ps =>
    refine ⟨_, _, rfl, ?_⟩
    simp only [List.map_cons, betweenL, betweenL_shift]
    simp
theorem between_idx (c : UInt8) : ∀ l, betweenL l 0 (idxL c l) = splitL c l
  | [] => rfl
  | x :: xs => by
    unfold idxL splitL
    split
    · show [] :: betweenL (x :: xs) (0 + 1) _ = _
      rw [betweenL_shift, between_idx c xs]
    · obtain ⟨h, t, e1, e2⟩ := betweenL_cons x xs (idxL c xs)
      rw [e2, ← between_idx c xs, e1]
theorem between_fold (l : List UInt8) : ∀ (ps : List Nat) (parts : Array (Array UInt8)) (last : Nat),
    ((ps.foldl (fun (x : Array (Array UInt8) × Nat) p => (x.1.push (l.toArray.extract x.2 p), p + 1)) (parts, last)).1.push (l.toArray.extract (ps.foldl (fun (x : Array (Array UInt8) × Nat) p => (x.1.push (l.toArray.extract x.2 p), p + 1)) (parts, last)).2 l.toArray.size)).toList = parts.toList ++ (betweenL l last ps).map List.toArray
  | [], parts, last => by
    simp only [List.foldl_nil, betweenL, List.map_cons, List.map_nil, Array.toList_push]
    congr 2
    rw [List.extract_toArray, List.extract_eq_take_drop, List.size_toArray, List.take_of_length_le (by simp)]
  | p :: ps, parts, last => by
    rw [List.foldl_cons, between_fold l ps]
    simp only [betweenL, List.map_cons, Array.toList_push, List.append_assoc, List.singleton_append]
    congr 2
    rw [List.extract_toArray, List.extract_eq_take_drop]
theorem between_eq (l : List UInt8) (ps : List Nat) : Builtin.Bytes.between l.toArray 1 ps = (betweenL l 0 ps).map List.toArray := by
  have := between_fold l ps #[] 0
  simpa [Builtin.Bytes.between] using this
theorem extract1 (l : List UInt8) (c : UInt8) (i : Nat) (h : i < l.length) : (l.toArray.extract i (i + 1) == #[c]) = decide (l[i] = c) := by
  rw [List.extract_toArray, List.extract_eq_take_drop]
  have e : (l.drop i).take (i + 1 - i) = [l[i]] := by
    rw [Nat.add_sub_cancel_left, List.drop_eq_getElem_cons h]
    rfl
  rw [e]
  by_cases q : l[i] = c
  · simp [q]
  · simp [q]
noncomputable def idxTo (l : List UInt8) (c : UInt8) (k : Nat) : List Nat := (List.range k).filter fun i => decide (l[i]? = some c)
theorem occ_fold (l : List UInt8) (c : UInt8) : ∀ k, k ≤ l.length → ∃ last, last ≤ k ∧
    (List.range k).foldl (fun (acc : List Nat × Nat) i => if (decide (i ≥ acc.2) && (l.toArray.extract i (i + 1) == #[c])) = true then (i :: acc.1, i + 1) else acc) ([], 0) = ((idxTo l c k).reverse, last)
  | 0, _ => ⟨0, Nat.le_refl _, rfl⟩
  | k + 1, h => by
    obtain ⟨last, hl, e⟩ := occ_fold l c k (by omega)
    have hk : k < l.length := h
    rw [List.range_succ, List.foldl_append, e]
    simp only [List.foldl_cons, List.foldl_nil, extract1 l c k hk]
    have hge : decide (k ≥ last) = true := decide_eq_true hl
    rw [hge, Bool.true_and]
    unfold idxTo
    rw [List.range_succ, List.filter_append]
    by_cases q : l[k] = c
    · refine ⟨k + 1, Nat.le_refl _, ?_⟩
      simp [q, List.getElem?_eq_getElem hk]
    · refine ⟨last, by omega, ?_⟩
      simp [q, List.getElem?_eq_getElem hk]
theorem idxTo_eq (c : UInt8) : ∀ l, idxTo l c l.length = idxL c l
  | [] => rfl
  | x :: xs => by
    unfold idxTo idxL
    rw [← idxTo_eq c xs, List.length_cons, List.range_succ_eq_map, List.filter_cons]
    unfold idxTo
    have e : ((List.range xs.length).map Nat.succ).filter (fun i => decide ((x :: xs)[i]? = some c)) = ((List.range xs.length).filter fun i => decide (xs[i]? = some c)).map (· + 1) := by
      rw [List.filter_map]
      rfl
    rw [e]
    by_cases q : x = c <;> simp [q]
theorem idxL_le (c : UInt8) : ∀ l, (idxL c l).length ≤ l.length
  | [] => Nat.le_refl _
  | x :: xs => by
    have := idxL_le c xs
    unfold idxL
    split <;> simp <;> omega
theorem occ_eq (l : List UInt8) (c : UInt8) : Builtin.Bytes.occurrences l.toArray #[c] 0 l.toArray.size = idxL c l := by
  unfold Builtin.Bytes.occurrences
  have hs : l.toArray.size + 1 - (0 + (#[c] : Array UInt8).size) = l.length := by simp
  rw [hs]
  have hm : (List.range l.length).map (· + 0) = List.range l.length := by simp
  rw [hm]
  obtain ⟨last, _, e⟩ := occ_fold l c l.length (Nat.le_refl _)
  have e' := congrArg (fun x => x.1.reverse) e
  simp only [List.reverse_reverse] at e'
  rw [← idxTo_eq]
  exact e'
theorem splitL_none {c : UInt8} : ∀ {l : List UInt8}, idxL c l = [] → splitL c l = [l] := fun {l} h => by
  rw [← between_idx, h]; rfl
theorem splitL_pieces (c : UInt8) : ∀ l, ∀ q ∈ splitL c l, q.length ≤ l.length
  | [], q, h => by simp [splitL] at h; simp [h]
  | x :: xs, q, h => by
    unfold splitL at h
    have ih := splitL_pieces c xs
    split at h
    · cases h with
      | head => simp
      | tail _ h => have := ih q h; simp; omega
    · split at h
      · rename_i hd tl e
        cases h with
        | head => have := ih hd (by rw [e]; exact .head _); simp; omega
        | tail _ h => have := ih q (by rw [e]; exact .tail _ h); simp; omega
      · cases h with
        | head => simp
        | tail _ h => cases h
theorem splitL_length (c : UInt8) : ∀ l, (splitL c l).length ≤ l.length + 1
  | [] => by simp [splitL]
  | x :: xs => by
    have ih := splitL_length c xs
    unfold splitL
    split
    · simp; omega
    · split
      · rename_i e; rw [e] at ih; simp at ih ⊢; omega
      · simp
noncomputable def joinL (sep : List UInt8) : List (List UInt8) → List UInt8
  | [] => []
  | [p] => p
  | p :: q :: r => p ++ sep ++ joinL sep (q :: r)
theorem joined_fold (sep : List UInt8) : ∀ (ps : List (List UInt8)) (k : Nat) (out : Array UInt8), 0 < k →
    ((ps.map List.toArray).zipIdx k).foldl (fun (out : Array UInt8) (x : Array UInt8 × Nat) => (if x.2 > 0 then out ++ sep.toArray else out) ++ x.1) out = out ++ ((ps.map fun p => sep ++ p).flatten).toArray
  | [], k, out, _ => by simp
  | p :: ps, k, out, hk => by
    rw [List.map_cons, List.zipIdx_cons, List.foldl_cons, joined_fold sep ps (k + 1) _ (by omega)]
    simp [hk, Array.append_assoc]
theorem joinL_eq (sep : List UInt8) : ∀ (p : List UInt8) (ps : List (List UInt8)), joinL sep (p :: ps) = p ++ (ps.map fun q => sep ++ q).flatten
  | p, [] => by simp [joinL]
  | p, q :: r => by
    rw [joinL, joinL_eq sep q r]
    simp
theorem joined_eq (sep : List UInt8) (ps : List (List UInt8)) : Builtin.Bytes.joined sep.toArray (ps.map List.toArray) = (joinL sep ps).toArray := by
  unfold Builtin.Bytes.joined
  cases ps with
  | nil => rfl
  | cons p ps =>
    rw [List.map_cons, List.zipIdx_cons, List.foldl_cons]
    have := joined_fold sep ps (0 + 1) ((if 0 > 0 then #[] ++ sep.toArray else #[]) ++ p.toArray) (by omega)
    rw [joinL_eq]
    refine Eq.trans this ?_
    simp
noncomputable def BytesAre : List Value → List (List UInt8) → Prop
  | [], [] => True
  | v :: vs, b :: bs => (∃ t, v = .bytes b.toArray t) ∧ BytesAre vs bs
  | _, _ => False
theorem BytesAre.length : ∀ {vs : List Value} {bs : List (List UInt8)}, BytesAre vs bs → vs.length = bs.length
  | [], [], _ => rfl
  | _ :: _, _ :: _, h => by simp [BytesAre.length h.2]
theorem BytesAre.get : ∀ {vs : List Value} {bs : List (List UInt8)}, BytesAre vs bs → ∀ {i : Nat} {v : Value}, vs[i]? = some v → ∃ b t, bs[i]? = some b ∧ v = .bytes b.toArray t
  | [], [], _, i, v, e => by simp at e
  | x :: vs, b :: bs, h, 0, v, e => by
    obtain ⟨t, rfl⟩ := h.1
    simp at e
    exact ⟨b, t, rfl, e.symm⟩
  | x :: vs, b :: bs, h, i + 1, v, e => by
    have := BytesAre.get h.2 (i := i) (v := v) (by simpa using e)
    simpa using this
theorem BytesAre.append : ∀ {vs us : List Value} {bs cs : List (List UInt8)}, BytesAre vs bs → BytesAre us cs → BytesAre (vs ++ us) (bs ++ cs)
  | [], _, [], _, _, h => h
  | _ :: _, _, _ :: _, _, h, h' => ⟨h.1, BytesAre.append h.2 h'⟩
theorem BytesAre.one {b : List UInt8} {t : Tok} : BytesAre [.bytes b.toArray t] [b] := ⟨⟨t, rfl⟩, trivial⟩
theorem slot_split : Slot "bytes" "split" "bytes.split" :=
  .of (owner := "bytes") (n := "split") (by rw [typeLookup_type, builtinLookup_eq_fast]; kernel_rfl) (by decide +kernel) (by decide +kernel) (by decide +kernel)
    (by first | exact .inl (by decide +kernel) | exact .inr (by decide +kernel)) (by rw [isSubtype_type]; kernel_rfl)
theorem type_split : typeOf (.builtin "bytes.split") = pure (.type "method_descriptor") := by show builtinType _ = _; rw [builtinType_eq_fast]; kernel_rfl
theorem entry_split : entryFor table "bytes.split" = some Builtin.«bytes.split» := entryFor_of_tree (by kernel_rfl)
theorem args_split (a b : Value) : argsOk "bytes.split" ⟨[a, b], []⟩ := by
  unfold argsOk; rw [signature?_of (id := "bytes.split") (n := ['t', 'i', 'l', 'p', 's']) (o := ['s', 'e', 't', 'y', 'b']) (by kernel_rfl) FB.owner_bytes]; kernel_rfl
theorem bind_split (v : Value) : Builtin.Bytes.bindOptional "bytes.split" "split" ["sep", "maxsplit"] [v] [] = pure [some v, none] := by kernel_rfl
theorem slot_join : Slot "bytes" "join" "bytes.join" :=
  .of (owner := "bytes") (n := "join") (by rw [typeLookup_type, builtinLookup_eq_fast]; kernel_rfl) (by decide +kernel) (by decide +kernel) (by decide +kernel)
    (by first | exact .inl (by decide +kernel) | exact .inr (by decide +kernel)) (by rw [isSubtype_type]; kernel_rfl)
theorem type_join : typeOf (.builtin "bytes.join") = pure (.type "method_descriptor") := by show builtinType _ = _; rw [builtinType_eq_fast]; kernel_rfl
theorem entry_join : entryFor table "bytes.join" = some Builtin.«bytes.join» := entryFor_of_tree (by kernel_rfl)
theorem args_join (a b : Value) : argsOk "bytes.join" ⟨[a, b], []⟩ := by
  unfold argsOk; rw [signature?_of (id := "bytes.join") (n := ['n', 'i', 'o', 'j']) (o := ['s', 'e', 't', 'y', 'b']) (by kernel_rfl) FB.owner_bytes]; kernel_rfl
section
variable {prog : Program} {w : World} {A : Around} {E : Value → Shared → Prop} {s : Shared} {h₀ : Heap} {L : Addr} {m : PySem.Str → Option Value} {news : List (Addr × Obj)} {Q : Value → Shared → Prop} {b : List UInt8} {c : UInt8} {t u : Tok}
theorem new_all {M : Model} {Q : List Value → Shared → Prop} : ∀ (ps : List (List UInt8)) (s : Shared), (∀ p ∈ ps, p.length ≤ 16777216) → (∀ vs k, BytesAre vs ps → Q vs { s with toks := k }) → wpAny M A ((ps.map List.toArray).mapM (Builtin.Bytes.Kind.new .bytes)) Q E s
  | [], s, _, h => wpAny_pure (h [] s.toks trivial)
  | p :: ps, s, hz, h => by
    rw [List.map_cons, List.mapM_cons]
    refine wpAny_bind ?_
    show wpAny M A (mkBytes p.toArray) _ E s
    refine wpAny_mkBytes ?_ (by rw [List.size_toArray, sizeLine_eq]; exact hz p (.head _))
    refine wpAny_bind (new_all ps _ (fun q hq => hz q (.tail _ hq)) fun vs k hv => wpAny_pure (h _ k ⟨⟨_, rfl⟩, hv⟩))
theorem meets_split : Meets (Builtin.«bytes.split» ⟨[.bytes b.toArray t, .bytes #[c] u], []⟩) (fun _ R s => b.length ≤ 100000 ∧
    ∀ vs k, BytesAre vs (splitL c b) → ∀ a s', s' = { s with heap := s.heap.push (listOf vs.toArray 0), toks := k } → a = s.heap.objs.size → R (.ok (.ret (.ref a))) s') := by
  refine .of_wp fun prog w A R s hS => ?_
  obtain ⟨hz, h⟩ := hS
  show wpAny _ _ (Builtin.Bytes.splitM .bytes "split" false ⟨[.bytes b.toArray t, .bytes #[c] u], []⟩) _ _ s
  unfold Builtin.Bytes.splitM
  show wpAny _ _ (Builtin.Bytes.bindOptional "bytes.split" "split" ["sep", "maxsplit"] [.bytes #[c] u] [] >>= _) _ _ s
  refine wpAny_bind (wpAny_of_eq (bind_split _) ?_)
  refine wpAny_bind (wpAny_pure ?_)
  refine wpAny_bind (m := Builtin.Bytes.payload (.bytes b.toArray t)) (wpAny_of_eq (a := b.toArray) rfl ?_)
  refine wpAny_bind (wpAny_of_eq KBd.like_eq ?_)
  refine bm_if_false rfl ?_
  have hpl : List.take (if (-1 : Int) < 0 then b.toArray.size + 1 else (-1 : Int).toNat) (Builtin.Bytes.occurrences b.toArray #[c] 0 b.toArray.size) = idxL c b := by
    rw [occ_eq, if_pos (by decide), List.size_toArray, List.take_of_length_le (by have := idxL_le c b; omega)]
  have hnew : ∀ {vs : List Value} {k : Nat}, BytesAre vs (splitL c b) → wpAny (model prog w) A.in1 (newList vs >>= fun l => ret l) (fun fin s' => ∃ v, fin = Fin.done (Flow.ret v) ∧ R (Except.ok (Flow.ret v)) s') (fun e s' => R (Except.error e) s') { s with toks := k } := by
    intro vs k hv
    have hlen := hv.length
    have hle := splitL_length c b
    refine wpAny_bind (wpAny_newObj_type ?_ (by show vs.toArray.size ≤ sizeLine; rw [List.size_toArray, sizeLine_eq]; omega))
    exact wpAny_pure ⟨_, rfl, h vs k hv _ _ rfl rfl⟩
  simp only [Bool.false_eq_true, if_false]
  rw [hpl]
  by_cases hne : (idxL c b).isEmpty = true
  · refine bm_if_true hne ?_
    refine wpAny_bind (wpAny_rule ?_)
    refine wpAny_bind (m := Builtin.Bytes.Kind.same .bytes (.bytes b.toArray t)) (wpAny_of_eq (a := .bytes b.toArray t) rfl ?_)
    refine hnew (k := s.toks) ?_
    rw [splitL_none (List.isEmpty_iff.mp hne)]
    exact BytesAre.one
  · refine bm_if_false (by simpa using hne) ?_
    show wpAny _ _ (List.mapM _ (Builtin.Bytes.between b.toArray 1 (idxL c b)) >>= _) _ _ s
    rw [between_eq, between_idx]
    exact wpAny_bind (new_all _ _ (fun p hp => by have := splitL_pieces c b p hp; omega) fun vs k hv => hnew hv)
theorem split_K (F : Fr h₀ L s.heap m) (N : News h₀ L s.heap news) (hz : b.length ≤ 100000)
    (h : ∀ (l : Addr) (vs : List Value) (h' : Heap) (k : Nat), BytesAre vs (splitL c b) → Fr h₀ L h' m → News h₀ L h' ((l, listOf vs.toArray 0) :: news) → (∀ q ∈ news, q.1 < l) → Q (.ref l) { s with heap := h', toks := k }) :
    wpAny (model prog w) A (call (.builtin "bytes.split") [.bytes b.toArray t, .bytes #[c] u]) Q E s := by
  refine call_meets slot_split (typeIs_bytes _ _ _) entry_split (args_split _ _) meets_split ⟨hz, fun vs k hv a s' e1 e2 => ?_⟩
  subst e1 e2
  exact h _ vs _ k hv (F.push _) (N.push F _) fun q hq => Heap.lt_size (N q hq).1
theorem method_split {M : Model} {pl : Sem Bool} {Q : Value × List Value → Shared → Prop} {b : Array UInt8} (h : Q (.builtin "bytes.split", [.bytes b t]) s) : wpAny M A (getMethod (.bytes b t) "split" pl) Q E s := by
  with_reducible exact KBd.method_of (.bytes b t) (typeIs_bytes _ _ _) slot_split type_split KBd.noRef h
theorem method_join {M : Model} {pl : Sem Bool} {Q : Value × List Value → Shared → Prop} {b : Array UInt8} (h : Q (.builtin "bytes.join", [.bytes b t]) s) : wpAny M A (getMethod (.bytes b t) "join" pl) Q E s := by
  with_reducible exact KBd.method_of (.bytes b t) (typeIs_bytes _ _ _) slot_join type_join KBd.noRef h
theorem selfAndOne_join (a v : Value) : PySem.selfAndOne "bytes.join" ⟨[a, v], []⟩ = pure (a, v) := by kernel_rfl
theorem take_eq {id : String} {b : Array UInt8} : Builtin.Bytes.takeBufferQuiet? id (.bytes b t) 0 = pure (some (b, none)) := by
  unfold Builtin.Bytes.takeBufferQuiet? Builtin.Bytes.takeBuffer?
  rw [KBy.special_eq KBy.look_buffer, KBy.own_buffer, show ((0 : Int) == Builtin.Bytes.fullReadOnly) = false from by decide, KBy.buffer_eq]
  kernel_rfl
theorem forIn_list_inv {M : Model} {β : Type} {f : Nat → β → Sem (ForInStep β)} (I : Nat → β → Prop) (s : Shared) (n : Nat)
    (turn : ∀ i b, i < n → I i b → ∀ Q : ForInStep β → Shared → Prop, (∀ b', I (i + 1) b' → Q (.yield b') s) → wpAny M A (f i b) Q E s) :
    ∀ (k i : Nat) (b : β) (Q : β → Shared → Prop), i + k = n → I i b → (∀ b', I n b' → Q b' s) → wpAny M A (forIn (List.range' i k) b f) Q E s
  | 0, i, b, Q, hk, hI, hQ => by
    have : i = n := by omega
    subst this
    exact wpAny_pure (hQ b hI)
  | k + 1, i, b, Q, hk, hI, hQ => by
    rw [List.range'_succ, List.forIn_cons]
    refine wpAny_bind (turn i b (by omega) hI _ fun b' hI' => ?_)
    exact forIn_list_inv I s n turn k (i + 1) b' Q (by omega) hI' hQ
theorem forIn_inv {M : Model} {β : Type} {f : Nat → β → Sem (ForInStep β)} {b₀ : β} {n : Nat} {Q : β → Shared → Prop} (I : Nat → β → Prop) (h0 : I 0 b₀)
    (turn : ∀ i b, i < n → I i b → ∀ Q : ForInStep β → Shared → Prop, (∀ b', I (i + 1) b' → Q (.yield b') s) → wpAny M A (f i b) Q E s)
    (hQ : ∀ b', I n b' → Q b' s) : wpAny M A (forIn [:n] b₀ f) Q E s := by
  rw [Std.Legacy.Range.forIn_eq_forIn_range']
  have e : ([:n] : Std.Legacy.Range).size = n := by simp [Std.Legacy.Range.size]
  rw [e]
  exact forIn_list_inv I s n turn n 0 b₀ Q (by omega) h0 hQ
theorem joinLetGo_plain {M : Model} {Q : Unit → Shared → Prop} {keep : List Value} : ∀ (taken : List (Value × Option Value)) (s : Shared), (∀ x ∈ taken, x.2 = none) → Q () s → wpAny M A (Builtin.Bytes.joinLetGo taken keep) Q E s
  | [], s, _, h => wpAny_pure h
  | (x, o) :: r, s, hn, h => by
    have : o = none := hn (x, o) (.head _)
    subst this
    unfold Builtin.Bytes.joinLetGo
    exact wpAny_bind (wpAny_letGo (joinLetGo_plain r s (fun y hy => hn y (.tail _ hy)) h))
theorem foldl_sizes (ps : List (List UInt8)) : ∀ k : Nat, ((ps.map List.toArray).toArray.foldl (fun (n : Nat) (p : Array UInt8) => n + p.size) k) = k + (ps.map List.length).sum := by
  intro k
  rw [List.foldl_toArray]
  induction ps generalizing k with
  | nil => simp
  | cons p ps ih => simp only [List.map_cons, List.foldl_cons, List.sum_cons]; rw [ih]; simp; omega
theorem join_match {β : Type} {arr : Array Value} (h : arr.size ≠ 1) (f : Value → Sem β) (g : Array Value → Sem β) : Builtin.Bytes.joinM.match_1 (fun _ => Sem β) arr f g = g arr := by
  unfold Builtin.Bytes.joinM.match_1
  exact dif_neg h
theorem meets_join {l : Addr} {vs : List Value} {bs : List (List UInt8)} {sep : List UInt8} (hv : BytesAre vs bs) (hz : (joinL sep bs).length ≤ 16777216) (hzz : sep.length * (bs.length - 1) + (bs.map List.length).sum ≤ 16777216) :
    Meets (Builtin.«bytes.join» ⟨[.bytes sep.toArray t, .ref l], []⟩) (fun _ R s => s.heap.IsList l vs.toArray ∧ ∀ t' k, R (.ok (.ret (.bytes (joinL sep bs).toArray t'))) { s with toks := k }) := by
  refine .of_wp fun prog w A R s hS => ?_
  obtain ⟨hl, h⟩ := hS
  have hT : s.TypeIs (.ref l) "list" := hl.typeIs
  obtain ⟨o, ho, hc, n, hd⟩ := hl
  show wpAny _ _ (Builtin.Bytes.joinM .bytes ⟨[.bytes sep.toArray t, .ref l], []⟩) _ _ s
  unfold Builtin.Bytes.joinM
  show wpAny _ _ (PySem.selfAndOne "bytes.join" ⟨[.bytes sep.toArray t, .ref l], []⟩ >>= _) _ _ s
  refine wpAny_bind (wpAny_of_eq (selfAndOne_join _ _) ?_)
  dsimp only
  refine bm_if_true (by rfl) ?_
  unfold Builtin.Bytes.joinItems
  refine wpAny_bind (wpAny_bind (wpAny_typeOf hT ?_))
  refine bm_if_true (by decide) (wpAny_pure ?_)
  refine wpAny_bind (wpAny_seqItems ho hd ?_)
  have hlen := hv.length
  by_cases h1 : vs.length = 1
  · obtain ⟨v, rfl⟩ := List.length_eq_one_iff.mp h1
    cases bs with
    | nil => exact hv.elim
    | cons b bs =>
      cases bs with
      | cons b' bs => exact hv.2.elim
      | nil =>
        obtain ⟨⟨tb, rfl⟩, _⟩ := hv
        dsimp only
        refine bm_if_true rfl ?_
        refine wpAny_bind (wpAny_typeOf (typeIs_bytes _ _ _) ?_)
        refine bm_if_true (by decide) ?_
        refine wpAny_bind (wpAny_rule (wpAny_pure ⟨_, rfl, ?_⟩))
        exact h tb s.toks
  · dsimp only
    refine bm_if_true rfl ?_
    rw [join_match (by simpa using h1)]
    · refine wpAny_bind (forIn_inv (fun i (b : Array (Array UInt8) × List (Value × Option Value)) => b.1 = ((bs.take i).map List.toArray).toArray ∧ ∀ x ∈ b.2, x.2 = none ∧ x.1.onHeap = false) ⟨by simp, fun x hx => nomatch hx⟩ ?_ ?_)
      · rintro i ⟨ps, tk⟩ hi ⟨e1, e2⟩ Q hQ
        have hi' : i < vs.length := by simpa using hi
        obtain ⟨v, hvi⟩ : ∃ v, vs[i]? = some v := ⟨vs[i], List.getElem?_eq_getElem hi'⟩
        obtain ⟨b, tb, hbi, rfl⟩ := hv.get hvi
        have hgd : vs.toArray.getD i Value.none = .bytes b.toArray tb := by
          rw [Array.getD_eq_getD_getElem?]
          simp [hvi]
        refine wpAny_bind (wpAny_seqItems ho hd ?_)
        dsimp only
        rw [hgd]
        refine bm_if_false ?_ ?_
        · show (false || _) = false
          rw [Bool.false_or, List.any_eq_false]
          intro x hx
          simp [(e2 x hx).2]
        refine wpAny_bind (wpAny_holding (wpAny_of_eq take_eq ?_))
        dsimp only
        refine wpAny_bind (wpAny_seqItems ho hd ?_)
        dsimp only
        refine bm_if_false (by simp) (wpAny_pure (hQ _ ⟨?_, ?_⟩))
        · dsimp only at e1 ⊢
          rw [e1, List.take_add_one, hbi]
          simp
        · intro x hx
          rcases List.mem_append.mp hx with hx | hx
          · exact e2 x hx
          · obtain rfl := List.mem_singleton.mp hx
            exact ⟨rfl, rfl⟩
      · rintro ⟨ps, tk⟩ ⟨e1, e2⟩
        dsimp only at e1 e2 ⊢
        have e3 : ps = (bs.map List.toArray).toArray := by
          rw [e1, List.size_toArray, hlen, List.take_length]
        subst e3
        refine wpAny_bind (wpAny_of_eq (a := sep.toArray) rfl ?_)
        refine bm_if_false ?_ ?_
        · rw [foldl_sizes]
          refine KBy.tooLong_not ?_
          simpa using hzz
        rw [List.toList_toArray, joined_eq]
        refine wpAny_bind (wpAny_mkBytes ?_ (by rw [List.size_toArray, sizeLine_eq]; exact hz))
        refine wpAny_bind (wpAny_holding (wpAny_point ?_))
        refine wpAny_bind (joinLetGo_plain _ _ (fun x hx => (e2 x hx).1) ?_)
        exact wpAny_pure ⟨_, rfl, h _ _⟩
theorem joinL_length (sep : List UInt8) : ∀ bs : List (List UInt8), (joinL sep bs).length = sep.length * (bs.length - 1) + (bs.map List.length).sum
  | [] => by simp [joinL]
  | [p] => by simp [joinL]
  | p :: q :: r => by
    have := joinL_length sep (q :: r)
    simp only [joinL, List.length_append, this, List.length_cons, List.map_cons, List.sum_cons, Nat.add_sub_cancel]
    rw [Nat.mul_add]
    omega
theorem join_K {l : Addr} {vs : List Value} {bs : List (List UInt8)} {sep : List UInt8} (hl : s.heap.IsList l vs.toArray) (hv : BytesAre vs bs) (hz : (joinL sep bs).length ≤ 16777216)
    (h : ∀ t' k, Q (.bytes (joinL sep bs).toArray t') { s with toks := k }) : wpAny (model prog w) A (call (.builtin "bytes.join") [.bytes sep.toArray t, .ref l]) Q E s :=
  call_meets slot_join (typeIs_bytes _ _ _) entry_join (args_join _ _) (meets_join hv hz (by rw [← joinL_length]; exact hz)) ⟨hl, h⟩
end
section
variable {prog : Program} {w : World} {A : Around} {E : Value → Shared → Prop} {s : Shared} {env : Env} {h₀ : Heap} {x : Str} {body : List Stmt} {Q : Flow → Shared → Prop} {m₀ : Str → Option Value}
theorem iter_val {l : Addr} {vs : List Value} {rest : List (Addr × Obj)} (J : Nat → (Str → Option Value) → List (Addr × Obj) → Prop)
    (hh : A.handled = none) (hl : s.heap.IsList l vs.toArray) (hL : l ≠ env.locals) (F : Fr h₀ env.locals s.heap m₀) (N : News h₀ env.locals s.heap rest) (hnl : ∀ q ∈ rest, q.1 ≠ l) (hj : J 0 m₀ rest)
    (turn : ∀ i v m₁ news₁ h tk own, vs[i]? = some v → news₁.map (·.1) = rest.map (·.1) → OwnOff own (rest.map (·.1)) → J i m₁ news₁ → Fr h₀ env.locals h (fun y => if y = x then some v else m₁ y) → News h₀ env.locals h (news₁ ++ own) →
      wpAny (model prog w) A (execs body env) (InvPostN h₀ env.locals (J (i + 1)) own (rest.map (·.1)) { s with heap := h, toks := tk } Q) E { s with heap := h, toks := tk })
    (done : ∀ m₁ news₁ h tk, J vs.length m₁ news₁ → Fr h₀ env.locals h m₁ → News h₀ env.locals h news₁ → Q .next { s with heap := h, toks := tk }) :
    wpAny (model prog w) A (pyIter (.ref l)) (fun it s₂ => LoopAtV prog w A h₀ env x body Q E it s₂) E s := by
  obtain ⟨ol, hol, _⟩ := id hl
  have hne : l ≠ s.heap.objs.size := Nat.ne_of_lt (Heap.lt_size hol)
  refine wpAny_pyIter_list hl ?_
  have W := Walks.list (prog := prog) (w := w) hh s.heap.objs.size l hne vs.toArray
  rw [List.size_toArray] at W
  refine loop_invN J W ?_ ?_ ?_ ?_ ⟨⟨_, Heap.get?_push_size _ rfl, rfl, rfl⟩, hl.at fun o e => Heap.get?_push_of_some _ e⟩ (F.push _) (fun p hp => ⟨Heap.get?_push_of_some _ (N p hp).1, (N p hp).2⟩) hj ?_ ?_
  · intro hm
    rcases List.mem_cons.mp hm with e | hm
    · exact absurd F.ns.lt (e ▸ Nat.lt_irrefl _)
    · exact hL (List.mem_singleton.mp hm).symm
  · intro b hb
    rw [List.mem_singleton.mp hb]
    exact next_is_new F
  · intro p hp hI
    exact absurd (Heap.lt_size (N p hp).1) ((List.mem_singleton.mp hI) ▸ Nat.lt_irrefl _)
  · intro p hp hI
    rcases List.mem_cons.mp hI with e | hI
    · exact absurd (Heap.lt_size (N p hp).1) (e ▸ Nat.lt_irrefl _)
    · exact hnl p hp (List.mem_singleton.mp hI)
  · intro i v m₁ news₁ h tk own _ hP hadr hoff hJ F₁ N₁
    exact turn i v m₁ news₁ h tk own (by simpa using hP) hadr hoff hJ F₁ N₁
  · exact done
theorem iter_bl {l nc : Addr} {vs us₀ : List Value} {n₀ : Nat} {more : List (Addr × Obj)} {bs a₀ : List (List UInt8)} (g : List (List UInt8) → List UInt8 → List (List UInt8))
    (hh : A.handled = none) (hl : s.heap.IsList l vs.toArray) (hL : l ≠ env.locals) (F : Fr h₀ env.locals s.heap m₀) (N : News h₀ env.locals s.heap ((nc, listOf us₀.toArray n₀) :: more)) (hne : nc ≠ l) (hv : BytesAre vs bs) (hu : BytesAre us₀ a₀)
    (turn : ∀ i c t a us n h tk own, bs[i]? = some c → a = (bs.take i).foldl g a₀ → OwnOff own [nc] → BytesAre us a → Fr h₀ env.locals h (fun y => if y = x then some (.bytes c.toArray t) else m₀ y) → News h₀ env.locals h ((nc, listOf us.toArray n) :: own) →
      wpAny (model prog w) A (execs body env) (InvPostN h₀ env.locals (fun m' nx => (∃ us' n', nx = [(nc, listOf us'.toArray n')] ∧ BytesAre us' (g a c)) ∧ ∀ z, z ≠ x → m' z = m₀ z) own [nc] { s with heap := h, toks := tk } Q) E { s with heap := h, toks := tk })
    (done : ∀ (u : Str → Option Value) us n h tk, BytesAre us (bs.foldl g a₀) → Fr h₀ env.locals h (fun z => if z = x then u z else m₀ z) → News h₀ env.locals h [(nc, listOf us.toArray n)] → Q .next { s with heap := h, toks := tk }) :
    wpAny (model prog w) A (pyIter (.ref l)) (fun it s₂ => LoopAtV prog w A h₀ env x body Q E it s₂) E s := by
  refine iter_val (fun i m nx => (∃ us n, nx = [(nc, listOf us.toArray n)] ∧ BytesAre us ((bs.take i).foldl g a₀)) ∧ ∀ z, z ≠ x → m z = m₀ z) hh hl hL F (rest := [(nc, listOf us₀.toArray n₀)]) (fun q hq => N q (by rw [List.mem_singleton.mp hq]; exact .head _)) (fun q hq => by rw [List.mem_singleton.mp hq]; exact hne) ⟨⟨us₀, n₀, rfl, by simpa using hu⟩, fun _ _ => rfl⟩ ?_ ?_
  · rintro i v m₁ nx h tk own hvi _ hoff ⟨⟨us, n, rfl, hus⟩, hm⟩ F₁ N₁
    rw [map_none hm] at F₁
    obtain ⟨c, t, hc, rfl⟩ := hv.get hvi
    have hs : (bs.take (i + 1)).foldl g a₀ = g ((bs.take i).foldl g a₀) c := by
      rw [List.take_add_one, hc]; simp
    rw [hs]
    exact turn i c t _ us n h tk own hc rfl hoff hus F₁ N₁
  · rintro m₁ nx h tk ⟨⟨us, n, rfl, hus⟩, hm⟩ F₁ N₁
    rw [hv.length, List.take_length] at hus
    refine done m₁ us n h tk hus ?_ N₁
    rw [done_none hm]; exact F₁
end
theorem gsub_nil {H g h : Heap} {L : Addr} {m : Str → Option Value} (hG : GSub H g (([] : List (Addr × Obj)).map (·.1))) (F : Fr g L h m) : ∀ b o, H.get? b = some o → h.get? b = some o := fun b o e => F.keep b o (hG b o e (fun q => by cases q))
theorem BytesAre.last : ∀ {us : List Value} {a : List (List UInt8)}, BytesAre us a → us.isEmpty = false → ∃ c t, us = us.dropLast ++ [.bytes c.toArray t] ∧ a.getLast? = some c ∧ BytesAre us.dropLast a.dropLast
  | [], [], _, h => by cases h
  | [v], [b], h, _ => by
    obtain ⟨t, rfl⟩ := h.1
    exact ⟨b, t, rfl, rfl, trivial⟩
  | v :: v' :: us, b :: b' :: a, h, _ => by
    obtain ⟨c, t, e1, e2, e3⟩ := BytesAre.last h.2 rfl
    refine ⟨c, t, congrArg (List.cons v) e1, ?_, ⟨h.1, e3⟩⟩
    rw [List.getLast?_cons_cons]
    exact e2
section
variable {prog : Program} {w : World} {A : Around} {E : Value → Shared → Prop} {s : Shared} {h₀ : Heap} {L D : Addr} {m : Str → Option Value} {news news' : List (Addr × Obj)} {n : Nat} {us : List Value} {a : List (List UInt8)} {Q : Value → Shared → Prop}
theorem pop_bl (F : Fr h₀ L s.heap m) (N : News h₀ L s.heap news) (U : Upd D (listOf us.toArray n) (listOf us.dropLast.toArray (n + 1)) news news') (hi : BytesAre us a) (hne : us.isEmpty = false)
    (hz : us.length ≤ 200000) (h : ∀ h' v, Fr h₀ L h' m → News h₀ L h' news' → BytesAre us.dropLast a.dropLast → Q v { s with heap := h' }) : wpAny (model prog w) A (call (.builtin "list.pop") [.ref D]) Q E s := by
  obtain ⟨c, t, e1, e2, e3⟩ := hi.last hne
  refine kl_pop F N (p := us.dropLast) (y := .bytes c.toArray t) ?_ U (by rw [sizeLine_eq, Array.length_toList, List.size_toArray]; omega) fun h' F' N' => h h' _ F' N' e3
  have e := kpa_last (.bytes c.toArray t) us.dropLast
  rw [← e1] at e
  simpa using e
theorem last_bl {value slice : PySem.Expr} {u : Tok} (N : News h₀ L s.heap news) (hm : (D, listOf us.toArray n) ∈ news) (hi : BytesAre us a) (hne : us.isEmpty = false)
    (h : ∀ c t, a.getLast? = some c → Q (.bytes c.toArray t) s)
    (hs : subscripted slice false (.ref D) (.int (-1) u) = operate [.ref D, .int (-1) u] (getItem (.ref D) (.int (-1) u)) := by with_unfolding_all rfl) :
    wpAny (model prog w) A (subscriptTail value slice (.ref D) (.int (-1) u)) Q E s := by
  obtain ⟨c, t, e1, e2, e3⟩ := hi.last hne
  have hL : s.heap.IsList D us.toArray := ⟨_, (N _ hm).1, rfl, n, rfl⟩
  have hpos : 0 < us.length := by
    cases hu : us with
    | nil => rw [hu] at hne; cases hne
    | cons _ _ => exact Nat.succ_pos _
  refine tail_any hL.typeIs slot_list_getitem.lookup (wpAny_getItem_list_neg hL (by decide) (by rw [List.size_toArray]; omega) (by decide) ?_ (h c t e2)) hs
  rw [List.size_toArray]
  have : (-1 + (us.length : Int)).toNat = us.dropLast.length := by rw [List.length_dropLast]; omega
  rw [this]
  rw [List.getElem?_toArray]
  have e4 := congrArg (fun l => l[us.dropLast.length]?) e1
  simpa using e4
end
theorem bl_end {h₀ : Heap} {L : Addr} {x : Str} {m₀ m' : Str → Option Value} {nc : Addr} {own : List (Addr × Obj)} {its : Array Value} {n' : Nat} {r r' : List (List UInt8)} {s₁ : Shared} {h' : Heap} {tk' : Nat} {Q : Flow → Shared → Prop} {f : Flow}
    (F : Fr h₀ L h' m') (N : News h₀ L h' ((nc, listOf its n') :: own)) (hm : ∀ z, z ≠ x → m' z = m₀ z) (e : r = r') (hb : BytesAre its.toList r') (hf : f = .next ∨ f = .cont) :
    InvPostN h₀ L (fun m' nx => (∃ us' n', nx = [(nc, listOf us'.toArray n')] ∧ BytesAre us' r) ∧ ∀ z, z ≠ x → m' z = m₀ z) own [nc] s₁ Q f { s₁ with heap := h', toks := tk' } := by
  subst e
  have key : InvEndN h₀ L (fun m' nx => (∃ us' n', nx = [(nc, listOf us'.toArray n')] ∧ BytesAre us' r) ∧ ∀ z, z ≠ x → m' z = m₀ z) own [nc] s₁ { s₁ with heap := h', toks := tk' } :=
    ⟨h', tk', m', _, [(nc, listOf its n')], rfl, F, N, fun p hp => by rw [List.mem_singleton.mp hp]; exact .head _, fun p hp => .tail _ hp, rfl, ⟨its.toList, n', by rw [Array.toArray_toList], hb⟩, hm⟩
  rcases hf with rfl | rfl <;> exact key
theorem BytesAre.empty {us : List Value} {a : List (List UInt8)} (h : BytesAre us a) (e : us.isEmpty = true) : a = [] := by
  have := h.length
  rw [List.isEmpty_iff.mp e] at this
  exact List.length_eq_zero_iff.mp this.symm
theorem BytesAre.nonempty {us : List Value} {a : List (List UInt8)} (h : BytesAre us a) (e : us.isEmpty = false) : a ≠ [] := by
  rintro rfl
  have := h.length
  have h2 : us = [] := List.length_eq_zero_iff.mp this
  rw [h2] at e
  cases e
theorem BytesAre.push {us : List Value} {a : List (List UInt8)} {c : List UInt8} {t : Tok} (h : BytesAre us a) : BytesAre (us.toArray.push (.bytes c.toArray t)).toList (a ++ [c]) := by
  rw [Array.toList_push]
  exact h.append BytesAre.one
local macro_rules | `(tactic| k_all) => `(tactic| (refine OwnOff.ne ?o ?b; (case o => assumption); (case b => exact List.Mem.head _)))
noncomputable def rootB (p : List UInt8) : List UInt8 := if cutL p none (some 1) ≠ [47] then [] else if cutL p (some 1) (some 2) ≠ [47] ∨ cutL p (some 2) (some 3) = [47] then [47] else cutL p none (some 2)
noncomputable def restB (p : List UInt8) : List UInt8 := if cutL p none (some 1) ≠ [47] then p else if cutL p (some 1) (some 2) ≠ [47] ∨ cutL p (some 2) (some 3) = [47] then cutL p (some 1) none else cutL p (some 2) none
theorem restB_le (p : List UInt8) : (restB p).length ≤ p.length := by
  unfold restB
  split
  · exact Nat.le_refl _
  · split <;> exact cutL_le _ _ _
theorem rootB_le (p : List UInt8) : (rootB p).length ≤ 2 := by
  unfold rootB
  split
  · simp
  · split
    · simp
    · show (cutL p none (some 2)).length ≤ 2
      unfold cutL
      rw [List.length_take]
      show min (clipAt p.length 2 - 0) _ ≤ 2
      have : clipAt p.length 2 = min 2 p.length := clipAt_nat _ 2
      rw [this, Nat.sub_zero]
      exact Nat.le_trans (Nat.min_le_left _ _) (Nat.min_le_left _ _)
local macro_rules | `(tactic| walk_at "my:b_size") => `(tactic| first | ((refine Nat.le_trans (rootB_le _) ?_; walk_at "my:b_size")) | ((refine Nat.le_trans (restB_le _) ?_; walk_at "my:b_size")) | (first
  | omega
  | (refine Nat.le_trans (cutL_le _ _ _) ?_; walk_at "my:b_size")
  | (simp only [List.length_append, List.length_cons, List.length_nil]; omega)
  | decide))
noncomputable def normStep (root : List UInt8) (acc : List (List UInt8)) (c : List UInt8) : List (List UInt8) :=
  if c = [] ∨ c = [46] then acc
  else if c ≠ [46, 46] ∨ (root = [] ∧ acc = []) ∨ (acc ≠ [] ∧ acc.getLast? = some [46, 46]) then acc ++ [c]
  else acc.dropLast
noncomputable def normB (p : List UInt8) : List UInt8 :=
  if p = [] then [46] else
    let r := rootB p ++ joinL [47] ((splitL 47 (restB p)).foldl (normStep (rootB p)) [])
    if r = [] then [46] else r
section
variable {r c c9 : List UInt8} {a : List (List UInt8)} {us : List Value}
theorem ns_dot (h : c = [46]) : normStep r a c = a := by simp [normStep, h]
theorem ns_nil (h : ¬ c ≠ []) : normStep r a c = a := by
  have : c = [] := Classical.not_not.mp h
  simp [normStep, this]
theorem ns_name (h1 : c ≠ []) (h2 : ¬ c = [46]) (h3 : c ≠ [46, 46]) : normStep r a c = a ++ [c] := by simp [normStep, h1, h2, h3]
theorem ns_re (h3 : ¬ c ≠ [46, 46]) (h4 : r ≠ []) (h5 : us.isEmpty = true) (hu : BytesAre us a) : normStep r a c = a := by
  have h := hu.empty h5
  have hc : c = [46, 46] := Classical.not_not.mp h3
  simp [normStep, h, h4, hc]
theorem ns_ld (h3 : ¬ c ≠ [46, 46]) (h5 : us.isEmpty = false) (hu : BytesAre us a) (hl : a.getLast? = some c9) (h6 : c9 = [46, 46]) : normStep r a c = a ++ [c] := by
  have h := hu.nonempty h5
  have hc : c = [46, 46] := Classical.not_not.mp h3
  simp [normStep, h, hc, hl, h6]
theorem ns_pop (h3 : ¬ c ≠ [46, 46]) (h5 : us.isEmpty = false) (hu : BytesAre us a) (hl : a.getLast? = some c9) (h6 : ¬ c9 = [46, 46]) : normStep r a c = a.dropLast := by
  have h := hu.nonempty h5
  have hc : c = [46, 46] := Classical.not_not.mp h3
  simp [normStep, h, hc, hl, h6]
theorem ns_ne (h3 : ¬ c ≠ [46, 46]) (h4 : ¬ r ≠ []) (h5 : us.isEmpty = true) (hu : BytesAre us a) : normStep r a c = a ++ [c] := by
  have h := hu.empty h5
  have hr : r = [] := Classical.not_not.mp h4
  have hc : c = [46, 46] := Classical.not_not.mp h3
  simp [normStep, h, hr, hc]
end
theorem normStep_len (r : List UInt8) (a : List (List UInt8)) (c : List UInt8) : (normStep r a c).length ≤ a.length + 1 := by
  unfold normStep
  split
  · omega
  · split
    · simp
    · simp; omega
theorem normFold_len (r : List UInt8) : ∀ (bs a : List (List UInt8)), (bs.foldl (normStep r) a).length ≤ a.length + bs.length
  | [], a => by simp
  | b :: bs, a => by
    have := normFold_len r bs (normStep r a b)
    have := normStep_len r a b
    simp only [List.foldl_cons, List.length_cons]
    omega
theorem normB_a {p : List UInt8} (h1 : p ≠ []) (h2 : rootB p ++ joinL [47] ((splitL 47 (restB p)).foldl (normStep (rootB p)) []) ≠ []) : normB p = rootB p ++ joinL [47] ((splitL 47 (restB p)).foldl (normStep (rootB p)) []) := by
  unfold normB
  rw [if_neg h1]
  dsimp only
  rw [if_neg h2]
theorem normB_b {p : List UInt8} (h1 : p ≠ []) (h2 : ¬ rootB p ++ joinL [47] ((splitL 47 (restB p)).foldl (normStep (rootB p)) []) ≠ []) : normB p = [46] := by
  unfold normB
  rw [if_neg h1]
  dsimp only
  rw [if_pos (Classical.not_not.mp h2)]
theorem normB_c {p : List UInt8} (h1 : ¬ p ≠ []) : normB p = [46] := by
  unfold normB
  rw [if_pos (Classical.not_not.mp h1)]
theorem ret_bytes {s : Shared} {Q : Value → Shared → Prop} {r r' : List UInt8} {h' : Heap} {tk' : Nat} {t : Tok} (ret : ∀ (t : Tok) (h' : Heap) (tk' : Nat), (∀ b o, s.heap.get? b = some o → h'.get? b = some o) → Q (.bytes r.toArray t) { s with heap := h', toks := tk' })
    (e : r = r') (hk : ∀ b o, s.heap.get? b = some o → h'.get? b = some o) : Q (.bytes r'.toArray t) { s with heap := h', toks := tk' } := by
  subst e
  exact ret t h' tk' hk
noncomputable def sumLen (a : List (List UInt8)) : Nat := (a.map List.length).sum
theorem sumLen_drop : ∀ a : List (List UInt8), sumLen a.dropLast ≤ sumLen a
  | [] => Nat.le_refl _
  | [x] => by simp [sumLen]
  | x :: y :: r => by
    have := sumLen_drop (y :: r)
    simp only [sumLen, List.dropLast_cons_cons, List.map_cons, List.sum_cons] at this ⊢
    omega
theorem sumLen_step (r : List UInt8) (a : List (List UInt8)) (c : List UInt8) : sumLen (normStep r a c) ≤ sumLen a + c.length := by
  unfold normStep
  split
  · omega
  · split
    · simp [sumLen]
    · have := sumLen_drop a; omega
theorem sumLen_fold (r : List UInt8) : ∀ (bs a : List (List UInt8)), sumLen (bs.foldl (normStep r) a) ≤ sumLen a + sumLen bs
  | [], a => by simp [sumLen]
  | b :: bs, a => by
    have h1 := sumLen_fold r bs (normStep r a b)
    have h2 := sumLen_step r a b
    have h3 : sumLen (b :: bs) = b.length + sumLen bs := by simp [sumLen]
    rw [List.foldl_cons, h3]
    omega
theorem sumLen_split (c : UInt8) : ∀ l, sumLen (splitL c l) ≤ l.length
  | [] => by simp [splitL, sumLen]
  | x :: xs => by
    have ih := sumLen_split c xs
    unfold splitL
    split
    · simp only [sumLen, List.map_cons, List.sum_cons, List.length_nil, List.length_cons] at ih ⊢; omega
    · split
      · rename_i e; rw [e] at ih; simp only [sumLen, List.map_cons, List.sum_cons, List.length_cons] at ih ⊢; omega
      · simp [sumLen]
theorem joinFold_len (p : List UInt8) (hz : p.length ≤ 100000) : (joinL [47] ((splitL 47 (restB p)).foldl (normStep (rootB p)) [])).length ≤ 200001 := by
  rw [joinL_length]
  have h1 := sumLen_fold (rootB p) (splitL 47 (restB p)) []
  have h2 := sumLen_split 47 (restB p)
  have h3 := normFold_len (rootB p) (splitL 47 (restB p)) []
  have h4 := splitL_length 47 (restB p)
  have h5 := restB_le p
  have h6 : sumLen [] = 0 := rfl
  simp only [List.length_nil, List.length_cons] at *
  unfold sumLen at *
  omega
open_top hd for PySem.Challenge.rw_nq0013_02
section
variable {w : World} {mean : ExcName → Option Value} {mg mb : Str → Option Value} {dp un : Nat} {gd : Option (List Code)} {cn : Str} {cs : Scope} {a : Addr} {ccd : Value} {cl : List (Str × Addr)} {outer : List Env} {A₀ : Around} {base h₀ : Heap} {L : Addr} {m : Str → Option Value} {news : List (Addr × Obj)} {s : Shared} {Q E : Value → Shared → Prop}
theorem fspath_call {p : List UInt8} {t : Tok}
    (B : Below A₀ base outer h₀) (F : Fr h₀ L s.heap m) (X : (hd.heap_39 w.params).In h₀) (T : Top hd.view_39 (looseW hd.view_39 []) mean mg mb h₀) (hk : cs.kind = .function)
    (hd1 : dp + 1 < recursionLimit) (hu : un + 20 < cLine)
    (ret : ∀ (h' : Heap) (tk' : Nat), (∀ b o, s.heap.get? b = some o → h'.get? b = some o) → Q (.bytes p.toArray t) { s with heap := h', toks := tk' }) :
    wpAny (model Challenge.rw_nq0013_02.row.prog w) (ktrTop dp un gd cn cs L a ccd cl outer) (call (.ref 101) [.bytes p.toArray t]) Q E s := by
  w_top off
  revert X
  k_fill
  intro X
  refine wpAny_call ?_
  k_dflt ((refine' code_defG ?k1 ?k2 ?k3 News.nil ?k5 ?kA ?kF ?kK ?k6 ?k7 ?k8 ?k9 ?kB ?_ ?c2 ?c3 ?c4 ?c5; (case kA => exact rfl); (case kF => exact rfl); (case kK => assumption); (case k1 => k_asm); (case k2 => k_asm); (case k3 => k_asm); (case k5 => k_asm); (case k6 => k_is); (case k7 => k_is); (case k8 => ktr_room); (case k9 => exact BindsTo.of_eq rfl); (case c5 => decide); (case kB => exact locs rfl); (case c2 => exact rfl); (case c3 => exact rfl); (case c4 => exact rfl); k_whole; intro g' L' h' FG' F' N' B' X' T' hG'; (try dsimp only); (try k_lift B'); (try k_fold)))
  (repeat' (first | (k_unfold; (try dsimp only)) | ((((fail_if_success (with_reducible show InvPostN _ _ _ _ _ _ _ _ _)); (fail_if_success (with_reducible show InvEndN _ _ _ _ _ _ _)); (fail_if_success (with_reducible show wpG _ _ _ _ _ _)); (fail_if_success (with_reducible show wpAny _ _ (pyIter (Value.ref _)) _ _ _)))); (first | (with_reducible (k_here; (with_reducible show wpAny _ _ (call (Value.type "type") [Value.bytes _ _]) _ _ _); refine call_type_bytes ?_)) | (with_reducible (k_here; (with_reducible show wpAny _ _ (call (Value.builtin "issubclass") [Value.type "bytes", Value.ref _]) _ _ _); k_dflt (refine' issubclass_bytes ?t ?_; (case t => exact News.isTup (by k_asm) (by k_mem)); k_whole))) | walk1)) | ((((fail_if_success (with_reducible show InvPostN _ _ _ _ _ _ _ _ _)); (fail_if_success (with_reducible show InvEndN _ _ _ _ _ _ _)); (fail_if_success (with_reducible show wpG _ _ _ _ _ _)); (fail_if_success (with_reducible show wpAny _ _ (pyIter (Value.ref _)) _ _ _)))); dsimp only; (first | (with_reducible (k_here; (with_reducible show wpAny _ _ (call (Value.type "type") [Value.bytes _ _]) _ _ _); refine call_type_bytes ?_)) | (with_reducible (k_here; (with_reducible show wpAny _ _ (call (Value.builtin "issubclass") [Value.type "bytes", Value.ref _]) _ _ _); k_dflt (refine' issubclass_bytes ?t ?_; (case t => exact News.isTup (by k_asm) (by k_mem)); k_whole))) | walk1)) | (leave1; walk_say "STEP leave1"; try dsimp only) | fail "no step"))
  exact ret _ _ (by (exact gsub_nil (by assumption) (by assumption)))
end
section
variable {w : World} {mean : ExcName → Option Value} {mg mb : Str → Option Value} {dp un : Nat} {gd : Option (List Code)} {cn : Str} {cs : Scope} {a : Addr} {ccd : Value} {cl : List (Str × Addr)} {outer : List Env} {A₀ : Around} {base h₀ : Heap} {L : Addr} {m : Str → Option Value} {news : List (Addr × Obj)} {s : Shared} {Q E : Value → Shared → Prop}
noncomputable abbrev splitRet (s : Shared) (Q : Value → Shared → Prop) (p : List UInt8) : Prop :=
  ∀ (D : Addr) (t1 t2 t3 : Tok) (h' : Heap) (tk' : Nat), (∀ b o, s.heap.get? b = some o → h'.get? b = some o) → h'.get? D = some { cls := .type "tuple", data := .seq #[.bytes #[] t1, .bytes (rootB p).toArray t2, .bytes (restB p).toArray t3] } → s.heap.get? D = none → Q (.ref D) { s with heap := h', toks := tk' }
theorem split_end {g h' : Heap} {p r x : List UInt8} {D L' : Addr} {m' : Str → Option Value} {news : List (Addr × Obj)} {t1 t2 t3 : Tok} {tk' : Nat} (ret : splitRet s Q p) (hG : GSub s.heap g (([] : List (Addr × Obj)).map (·.1))) (F : Fr g L' h' m')
    (N : News g L' h' ((D, { cls := .type "tuple", data := .seq #[.bytes #[] t1, .bytes r.toArray t2, .bytes x.toArray t3] }) :: news))
    (e1 : rootB p = r) (e2 : restB p = x) : Q (.ref D) { s with heap := h', toks := tk' } := by
  refine ret D t1 t2 t3 h' tk' (gsub_nil hG F) (by rw [e1, e2]; exact (N _ (.head _)).1) ?_
  cases q : s.heap.get? D with
  | none => rfl
  | some o =>
    have := (N _ (.head _)).2.2
    rw [hG _ _ q (fun q => by cases q)] at this
    cases this
theorem splitroot_call {p : List UInt8} {t : Tok}
    (B : Below A₀ base outer h₀) (F : Fr h₀ L s.heap m) (X : (hd.heap_39 w.params).In h₀) (T : Top hd.view_39 (looseW hd.view_39 []) mean mg mb h₀) (hk : cs.kind = .function)
    (hd1 : dp + 2 < recursionLimit) (hu : un + 40 < cLine) (hz : p.length ≤ 100000) (ret : splitRet s Q p) :
    wpAny (model Challenge.rw_nq0013_02.row.prog w) (ktrTop dp un gd cn cs L a ccd cl outer) (call (.ref 108) [.bytes p.toArray t]) Q E s := by
  w_top off
  revert X
  k_fill
  intro X
  refine wpAny_call ?_
  k_dflt ((refine' code_defG ?k1 ?k2 ?k3 News.nil ?k5 ?kA ?kF ?kK ?k6 ?k7 ?k8 ?k9 ?kB ?_ ?c2 ?c3 ?c4 ?c5; (case kA => exact rfl); (case kF => exact rfl); (case kK => assumption); (case k1 => k_asm); (case k2 => k_asm); (case k3 => k_asm); (case k5 => k_asm); (case k6 => k_is); (case k7 => k_is); (case k8 => ktr_room); (case k9 => exact BindsTo.of_eq rfl); (case c5 => decide); (case kB => exact locs rfl); (case c2 => exact rfl); (case c3 => exact rfl); (case c4 => exact rfl); k_whole; intro g' L' h' FG' F' N' B' X' T' hG'; (try dsimp only); (try k_lift B'); (try k_fold)))
  (repeat' (first | (k_unfold; (try dsimp only)) | ((((fail_if_success (with_reducible show InvPostN _ _ _ _ _ _ _ _ _)); (fail_if_success (with_reducible show InvEndN _ _ _ _ _ _ _)); (fail_if_success (with_reducible show wpG _ _ _ _ _ _)); (fail_if_success (with_reducible show wpAny _ _ (pyIter (Value.ref _)) _ _ _)))); (first | (with_reducible (k_here; (with_reducible show wpAny _ _ (call (Value.ref 101) [Value.bytes (List.toArray _) _]) _ _ _); (with_reducible rename Fr _ _ _ _ => kF9); (with_reducible rename News _ _ _ _ => kN9); k_dflt (refine' fspath_call ?k1 ?k2 ?k3 ?k5 ?kK ?kd ?ku ?_; (case k1 => k_asm); (case k2 => k_asm); (case k3 => k_asm); (case k5 => k_asm); (case kK => first | exact rfl | assumption); (case kd => ktr_room); (case ku => ktr_units); k_whole); intro h9 tk9 keep9; (have F9 := Fr.keeps kF9 keep9); (have N9 := News.grown kN9 keep9); clear keep9; (try dsimp only); (try k_fold))) | (with_reducible (k_here; (with_reducible show wpAny _ _ (subscriptTail _ (Expr.Slice _ _ none _) (Value.bytes (List.toArray _) _) (Value.ref _)) _ _ _); (with_reducible rename Fr _ _ _ _ => F'); (with_reducible rename News _ _ _ _ => N'); (refine slice_any (s := ⟨_, _, _, _, _⟩) F' N' (by constructor) (by constructor) (by walk_at "my:b_size") ?_); intro _ _ _ _ _)) | (with_reducible (k_here; (with_reducible show wpAny _ _ (compareOp CmpOp.NotEq (Value.bytes (List.toArray _) _) (Value.bytes (List.toArray _) _)) _ _ _); (refine ne_bytesL ?_))) | (with_reducible (k_here; (with_reducible show wpAny _ _ (compareOp CmpOp.Eq (Value.bytes (List.toArray _) _) (Value.bytes (List.toArray _) _)) _ _ _); (refine eq_bytesL ?_))) | walk1)) | ((((fail_if_success (with_reducible show InvPostN _ _ _ _ _ _ _ _ _)); (fail_if_success (with_reducible show InvEndN _ _ _ _ _ _ _)); (fail_if_success (with_reducible show wpG _ _ _ _ _ _)); (fail_if_success (with_reducible show wpAny _ _ (pyIter (Value.ref _)) _ _ _)))); dsimp only; (first | (with_reducible (k_here; (with_reducible show wpAny _ _ (call (Value.ref 101) [Value.bytes (List.toArray _) _]) _ _ _); (with_reducible rename Fr _ _ _ _ => kF9); (with_reducible rename News _ _ _ _ => kN9); k_dflt (refine' fspath_call ?k1 ?k2 ?k3 ?k5 ?kK ?kd ?ku ?_; (case k1 => k_asm); (case k2 => k_asm); (case k3 => k_asm); (case k5 => k_asm); (case kK => first | exact rfl | assumption); (case kd => ktr_room); (case ku => ktr_units); k_whole); intro h9 tk9 keep9; (have F9 := Fr.keeps kF9 keep9); (have N9 := News.grown kN9 keep9); clear keep9; (try dsimp only); (try k_fold))) | (with_reducible (k_here; (with_reducible show wpAny _ _ (subscriptTail _ (Expr.Slice _ _ none _) (Value.bytes (List.toArray _) _) (Value.ref _)) _ _ _); (with_reducible rename Fr _ _ _ _ => F'); (with_reducible rename News _ _ _ _ => N'); (refine slice_any (s := ⟨_, _, _, _, _⟩) F' N' (by constructor) (by constructor) (by walk_at "my:b_size") ?_); intro _ _ _ _ _)) | (with_reducible (k_here; (with_reducible show wpAny _ _ (compareOp CmpOp.NotEq (Value.bytes (List.toArray _) _) (Value.bytes (List.toArray _) _)) _ _ _); (refine ne_bytesL ?_))) | (with_reducible (k_here; (with_reducible show wpAny _ _ (compareOp CmpOp.Eq (Value.bytes (List.toArray _) _) (Value.bytes (List.toArray _) _)) _ _ _); (refine eq_bytesL ?_))) | walk1)) | (leave1; walk_say "STEP leave1"; try dsimp only) | fail "no step"))
  all_goals refine split_end ret (by assumption) (by assumption) (by assumption) (by simp [rootB, *]) (by simp [restB, *])
theorem news_new {h₀ h h' : Heap} {L D : Addr} {m : Str → Option Value} {o : Obj} {news : List (Addr × Obj)} (F : Fr h₀ L h m) (N : News h₀ L h news) (hk : ∀ b o, h.get? b = some o → h'.get? b = some o) (hD : h'.get? D = some o) (hn : h.get? D = none) : News h₀ L h' ((D, o) :: news) := by
  intro q hq
  rcases List.mem_cons.mp hq with rfl | hq
  · refine ⟨hD, ?_, ?_⟩
    · rintro rfl
      obtain ⟨oL, _, _, hL, _⟩ := F.ns
      rw [hL] at hn; cases hn
    · cases q : h₀.get? D with
      | none => rfl
      | some o' => rw [F.keep _ _ q] at hn; cases hn
  · exact ⟨hk _ _ (N q hq).1, (N q hq).2⟩
end
section
variable {w : World} {mean : ExcName → Option Value} {mg mb : Str → Option Value} {dp un : Nat} {gd : Option (List Code)} {cn : Str} {cs : Scope} {a : Addr} {ccd : Value} {cl : List (Str × Addr)} {outer : List Env} {A₀ : Around} {base h₀ : Heap} {L : Addr} {m : Str → Option Value} {news : List (Addr × Obj)} {s : Shared} {Q E : Value → Shared → Prop}
end
section
variable {prog : Program} {w : World} {A : Around} {E : Value → Shared → Prop} {s : Shared} {h₀ : Heap} {L : Addr} {m : Str → Option Value}
theorem truthy_bl {D : Addr} {us : List Value} {n : Nat} {news : List (Addr × Obj)} {Q : Bool → Shared → Prop} (N : News h₀ L s.heap news) (hm : (D, listOf us.toArray n) ∈ news) (hz : us.length ≤ 1000000)
    (h : Q (!us.isEmpty) { s with toks := s.toks + 1 + 1 }) : wpAny (model prog w) A (truthy (.ref D)) Q E s :=
  wpAny_truthy_list (items := us.toArray) ⟨_, (N _ hm).1, rfl, n, rfl⟩ (by rw [List.size_toArray]; omega) (by rw [List.isEmpty_toArray]; exact h)
theorem app_bl {D : Addr} {us : List Value} {n : Nat} {x : Value} {own : List (Addr × Obj)} {Q : Value → Shared → Prop} (F : Fr h₀ L s.heap m) (N : News h₀ L s.heap ((D, listOf us.toArray n) :: own)) (hoff : OwnOff own [D]) (hz : us.length ≤ 1000000)
    (h : ∀ h', Fr h₀ L h' m → News h₀ L h' ((D, listOf (us.toArray.push x) (n + 1)) :: own) → Q .none { s with heap := h' }) : wpAny (model prog w) A (call (.builtin "list.append") [.ref D, x]) Q E s :=
  append_K F N (.head (hoff.ne (.head _))) h (by rw [sizeLine_eq, List.size_toArray]; omega)
end
section
variable {w : World} {mean : ExcName → Option Value} {mg mb : Str → Option Value} {dp un : Nat} {gd : Option (List Code)} {cn : Str} {cs : Scope} {a : Addr} {ccd : Value} {cl : List (Str × Addr)} {outer : List Env} {A₀ : Around} {base h₀ : Heap} {L : Addr} {m : Str → Option Value} {news : List (Addr × Obj)} {s : Shared} {Q E : Value → Shared → Prop}
theorem normpath_call {p : List UInt8} {t : Tok}
    (B : Below A₀ base outer h₀) (F : Fr h₀ L s.heap m) (X : (hd.heap_39 w.params).In h₀) (T : Top hd.view_39 (looseW hd.view_39 []) mean mg mb h₀) (hk : cs.kind = .function)
    (hd1 : dp + 3 < recursionLimit) (hu : un + 60 < cLine) (hz : p.length ≤ 100000)
    (ret : ∀ (t : Tok) (h' : Heap) (tk' : Nat), (∀ b o, s.heap.get? b = some o → h'.get? b = some o) → Q (.bytes (normB p).toArray t) { s with heap := h', toks := tk' }) :
    wpAny (model Challenge.rw_nq0013_02.row.prog w) (ktrTop dp un gd cn cs L a ccd cl outer) (call (.ref 115) [.bytes p.toArray t]) Q E s := by
  w_top off
  revert X
  k_fill
  intro X
  refine wpAny_call ?_
  k_dflt ((refine' code_defG ?k1 ?k2 ?k3 News.nil ?k5 ?kA ?kF ?kK ?k6 ?k7 ?k8 ?k9 ?kB ?_ ?c2 ?c3 ?c4 ?c5; (case kA => exact rfl); (case kF => exact rfl); (case kK => assumption); (case k1 => k_asm); (case k2 => k_asm); (case k3 => k_asm); (case k5 => k_asm); (case k6 => k_is); (case k7 => k_is); (case k8 => ktr_room); (case k9 => exact BindsTo.of_eq rfl); (case c5 => decide); (case kB => exact locs rfl); (case c2 => exact rfl); (case c3 => exact rfl); (case c4 => exact rfl); k_whole; intro g' L' h' FG' F' N' B' X' T' hG'; (try dsimp only); (try k_lift B'); (try k_fold)))
  (repeat' (first | (k_unfold; (try dsimp only)) | ((((fail_if_success (with_reducible show InvPostN _ _ _ _ _ _ _ _ _)); (fail_if_success (with_reducible show InvEndN _ _ _ _ _ _ _)); (fail_if_success (with_reducible show wpG _ _ _ _ _ _)); (fail_if_success (with_reducible show wpAny _ _ (pyIter (Value.ref _)) _ _ _)))); (first | (with_reducible (k_here; (with_reducible show wpAny _ _ (call (Value.ref 101) [Value.bytes (List.toArray _) _]) _ _ _); (with_reducible rename Fr _ _ _ _ => kF9); (with_reducible rename News _ _ _ _ => kN9); k_dflt (refine' fspath_call ?k1 ?k2 ?k3 ?k5 ?kK ?kd ?ku ?_; (case k1 => k_asm); (case k2 => k_asm); (case k3 => k_asm); (case k5 => k_asm); (case kK => first | exact rfl | assumption); (case kd => ktr_room); (case ku => ktr_units); k_whole); intro h9 tk9 keep9; (have F9 := Fr.keeps kF9 keep9); (have N9 := News.grown kN9 keep9); clear keep9; (try dsimp only); (try k_fold))) | (with_reducible (k_here; (with_reducible show wpAny _ _ (truthy (Value.bytes (List.toArray _) _)) _ _ _); (refine truthy_bytesL (by walk_at "my:b_size") ?_); intro _)) | (with_reducible (k_here; (with_reducible show wpAny _ _ (call (Value.ref 108) [Value.bytes (List.toArray _) _]) _ _ _); (with_reducible rename Fr _ _ _ _ => kF9); (with_reducible rename News _ _ _ _ => kN9); k_dflt (refine' splitroot_call ?k1 ?k2 ?k3 ?k5 ?kK ?kd ?ku ?kz ?_; (case k1 => k_asm); (case k2 => k_asm); (case k3 => k_asm); (case k5 => k_asm); (case kK => first | exact rfl | assumption); (case kd => ktr_room); (case ku => ktr_units); (case kz => walk_at "my:b_size"); k_whole); intro D9 t91 t92 t93 h9 tk9 keep9 hD9 hn9; (have F9 := Fr.keeps kF9 keep9); (have N9 := news_new kF9 kN9 keep9 hD9 hn9); clear keep9 hD9 hn9; (try dsimp only); (try k_fold))) | (with_reducible ((with_reducible show wpAny _ _ (getMethod (Value.bytes _ _) _ _) _ _ _); (k_here; (with_reducible refine method_split ?_)))) | (with_reducible ((with_reducible show wpAny _ _ (call (Value.builtin "bytes.split") _) _ _ _); (k_here; k_dflt (refine' split_K ?F ?N ?z ?_; (case F => k_asm); (case N => k_asm); (case z => walk_at "my:b_size"); k_whole); intro l9 vs9 h9 tk9 ba9 F9 N9 l91; (try k_lt l91)))) | walk1)) | ((((fail_if_success (with_reducible show InvPostN _ _ _ _ _ _ _ _ _)); (fail_if_success (with_reducible show InvEndN _ _ _ _ _ _ _)); (fail_if_success (with_reducible show wpG _ _ _ _ _ _)); (fail_if_success (with_reducible show wpAny _ _ (pyIter (Value.ref _)) _ _ _)))); dsimp only; (first | (with_reducible (k_here; (with_reducible show wpAny _ _ (call (Value.ref 101) [Value.bytes (List.toArray _) _]) _ _ _); (with_reducible rename Fr _ _ _ _ => kF9); (with_reducible rename News _ _ _ _ => kN9); k_dflt (refine' fspath_call ?k1 ?k2 ?k3 ?k5 ?kK ?kd ?ku ?_; (case k1 => k_asm); (case k2 => k_asm); (case k3 => k_asm); (case k5 => k_asm); (case kK => first | exact rfl | assumption); (case kd => ktr_room); (case ku => ktr_units); k_whole); intro h9 tk9 keep9; (have F9 := Fr.keeps kF9 keep9); (have N9 := News.grown kN9 keep9); clear keep9; (try dsimp only); (try k_fold))) | (with_reducible (k_here; (with_reducible show wpAny _ _ (truthy (Value.bytes (List.toArray _) _)) _ _ _); (refine truthy_bytesL (by walk_at "my:b_size") ?_); intro _)) | (with_reducible (k_here; (with_reducible show wpAny _ _ (call (Value.ref 108) [Value.bytes (List.toArray _) _]) _ _ _); (with_reducible rename Fr _ _ _ _ => kF9); (with_reducible rename News _ _ _ _ => kN9); k_dflt (refine' splitroot_call ?k1 ?k2 ?k3 ?k5 ?kK ?kd ?ku ?kz ?_; (case k1 => k_asm); (case k2 => k_asm); (case k3 => k_asm); (case k5 => k_asm); (case kK => first | exact rfl | assumption); (case kd => ktr_room); (case ku => ktr_units); (case kz => walk_at "my:b_size"); k_whole); intro D9 t91 t92 t93 h9 tk9 keep9 hD9 hn9; (have F9 := Fr.keeps kF9 keep9); (have N9 := news_new kF9 kN9 keep9 hD9 hn9); clear keep9 hD9 hn9; (try dsimp only); (try k_fold))) | (with_reducible ((with_reducible show wpAny _ _ (getMethod (Value.bytes _ _) _ _) _ _ _); (k_here; (with_reducible refine method_split ?_)))) | (with_reducible ((with_reducible show wpAny _ _ (call (Value.builtin "bytes.split") _) _ _ _); (k_here; k_dflt (refine' split_K ?F ?N ?z ?_; (case F => k_asm); (case N => k_asm); (case z => walk_at "my:b_size"); k_whole); intro l9 vs9 h9 tk9 ba9 F9 N9 l91; (try k_lt l91)))) | walk1)) | (leave1; walk_say "STEP leave1"; try dsimp only) | fail "no step"))
  · (with_reducible rename Fr _ _ _ _ => kF)
    (with_reducible rename News _ _ _ _ => kN)
    (with_reducible rename BytesAre _ _ => kB)
    refine iter_bl (normStep (rootB p)) rfl (News.isList kN (.tail _ (.head _))) (kN _ (.tail _ (.head _))).2.1 kF kN (by refine neN ?_; omega) kB (us₀ := []) (a₀ := []) trivial ?_ ?_
    · intro i c t a us n h tk own hic ha hoff hus F₁ N₁
      have hcz : c.length ≤ 100000 := by
        have h1 := splitL_pieces 47 _ c (List.mem_of_getElem? hic)
        have h2 := restB_le p
        omega
      have huz : us.length ≤ 100001 := by
        have h1 := normFold_len (rootB p) ((splitL 47 (restB p)).take i) []
        have h2 := splitL_length 47 (restB p)
        have h3 := restB_le p
        have h4 : ((splitL 47 (restB p)).take i).length ≤ (splitL 47 (restB p)).length := by rw [List.length_take]; omega
        rw [hus.length, ha]
        simp only [List.length_nil] at h1
        omega
      have huz' : us.length ≤ 200000 := Nat.le_trans huz (by decide)
      have huz2 : us.length ≤ 1000000 := Nat.le_trans huz (by decide)
      repeat' (first
        | ((with_reducible show wpAny _ _ (truthy (Value.ref _)) _ _ _); refine truthy_bl N₁ (.head _) huz2 ?_)
        | ((with_reducible show wpAny _ _ (subscriptTail _ _ (Value.ref _) (Value.int (-1) _)) _ _ _); refine last_bl N₁ (.head _) hus (by assumption) ?_; intro c9 t9 hc9)
        | ((with_reducible show wpAny _ _ (call (Value.builtin "list.append") _) _ _ _); refine app_bl (by k_asm) N₁ hoff huz2 ?_; intro h8 F8 N8)
        | ((with_reducible show wpAny _ _ (call (Value.builtin "list.pop") _) _ _ _); refine pop_bl (by k_asm) N₁ (.head (hoff.ne (.head _))) hus (by assumption) huz' ?_; intro h8 v8 F8 N8 H8)
        | (k_unfold; (try dsimp only)) | ((((fail_if_success (with_reducible show InvPostN _ _ _ _ _ _ _ _ _)); (fail_if_success (with_reducible show InvEndN _ _ _ _ _ _ _)); (fail_if_success (with_reducible show wpG _ _ _ _ _ _)); (fail_if_success (with_reducible show wpAny _ _ (pyIter (Value.ref _)) _ _ _)))); (first | (with_reducible (k_here; (with_reducible show wpAny _ _ (truthy (Value.bytes (List.toArray _) _)) _ _ _); (refine truthy_bytesL (by walk_at "my:b_size") ?_); intro _)) | (with_reducible (k_here; (with_reducible show wpAny _ _ (compareOp CmpOp.Eq (Value.bytes (List.toArray _) _) (Value.bytes (List.toArray _) _)) _ _ _); (refine eq_bytesL ?_))) | (with_reducible (k_here; (with_reducible show wpAny _ _ (compareOp CmpOp.NotEq (Value.bytes (List.toArray _) _) (Value.bytes (List.toArray _) _)) _ _ _); (refine ne_bytesL ?_))) | walk1)) | ((((fail_if_success (with_reducible show InvPostN _ _ _ _ _ _ _ _ _)); (fail_if_success (with_reducible show InvEndN _ _ _ _ _ _ _)); (fail_if_success (with_reducible show wpG _ _ _ _ _ _)); (fail_if_success (with_reducible show wpAny _ _ (pyIter (Value.ref _)) _ _ _)))); dsimp only; (first | (with_reducible (k_here; (with_reducible show wpAny _ _ (truthy (Value.bytes (List.toArray _) _)) _ _ _); (refine truthy_bytesL (by walk_at "my:b_size") ?_); intro _)) | (with_reducible (k_here; (with_reducible show wpAny _ _ (compareOp CmpOp.Eq (Value.bytes (List.toArray _) _) (Value.bytes (List.toArray _) _)) _ _ _); (refine eq_bytesL ?_))) | (with_reducible (k_here; (with_reducible show wpAny _ _ (compareOp CmpOp.NotEq (Value.bytes (List.toArray _) _) (Value.bytes (List.toArray _) _)) _ _ _); (refine ne_bytesL ?_))) | walk1)) | (leave1; walk_say "STEP leave1"; try dsimp only) | fail "no step")
      all_goals (try dsimp only)
      all_goals (
        refine bl_end (by k_asm) (by assumption) (fun z hz => if_neg hz) (by first | exact ns_dot (by assumption) | exact ns_nil (by assumption) | exact ns_name (by assumption) (by assumption) (by assumption) | exact ns_re (by assumption) (by assumption) (by assumption) (by assumption) | exact ns_ld (by assumption) (by assumption) (by assumption) (by assumption) (by assumption) | exact ns_pop (by assumption) (by assumption) (by assumption) (by assumption) (by assumption) | exact ns_ne (by assumption) (by assumption) (by assumption) (by assumption)) (by first | assumption | exact BytesAre.push (by assumption)) (by first | exact .inl rfl | exact .inr rfl))
    · intro u us n h tk hus F₁ N₁
      have hj1 := joinFold_len p hz
      have hj0 := rootB_le p
      have hj2 : (joinL [47] ((splitL 47 (restB p)).foldl (normStep (rootB p)) [])).length ≤ 16777216 := by omega
      (repeat' (first | (k_unfold; (try dsimp only)) | ((((fail_if_success (with_reducible show InvPostN _ _ _ _ _ _ _ _ _)); (fail_if_success (with_reducible show InvEndN _ _ _ _ _ _ _)); (fail_if_success (with_reducible show wpG _ _ _ _ _ _)); (fail_if_success (with_reducible show wpAny _ _ (pyIter (Value.ref _)) _ _ _)))); (first | (with_reducible ((with_reducible show wpAny _ _ (getMethod (Value.bytes _ _) _ _) _ _ _); (k_here; (with_reducible refine method_join ?_)))) | (with_reducible ((with_reducible show wpAny _ _ (call (Value.builtin "bytes.join") _) _ _ _); (k_here; k_dflt (refine' join_K (by exact News.isList (by k_asm) (by k_mem)) (by assumption) (by first | assumption | walk_at "my:b_size") ?_; k_whole); intro t9 tk9))) | (with_reducible (k_here; (with_reducible show wpAny _ _ (binaryOp Operator.Add (Value.bytes (List.toArray _) _) (Value.bytes (List.toArray _) _)) _ _ _); k_dflt (refine' bytes_add_K ?z rfl ?_; (case z => (simp only [List.size_toArray, List.length_cons, List.length_nil]; first | omega | walk_at "my:b_size")); k_whole); intro t9 k9)) | (with_reducible (k_here; (with_reducible show wpAny _ _ (truthy (Value.bytes (List.toArray _) _)) _ _ _); (refine truthy_bytesL (by walk_at "my:b_size") ?_); intro _)) | walk1)) | ((((fail_if_success (with_reducible show InvPostN _ _ _ _ _ _ _ _ _)); (fail_if_success (with_reducible show InvEndN _ _ _ _ _ _ _)); (fail_if_success (with_reducible show wpG _ _ _ _ _ _)); (fail_if_success (with_reducible show wpAny _ _ (pyIter (Value.ref _)) _ _ _)))); dsimp only; (first | (with_reducible ((with_reducible show wpAny _ _ (getMethod (Value.bytes _ _) _ _) _ _ _); (k_here; (with_reducible refine method_join ?_)))) | (with_reducible ((with_reducible show wpAny _ _ (call (Value.builtin "bytes.join") _) _ _ _); (k_here; k_dflt (refine' join_K (by exact News.isList (by k_asm) (by k_mem)) (by assumption) (by first | assumption | walk_at "my:b_size") ?_; k_whole); intro t9 tk9))) | (with_reducible (k_here; (with_reducible show wpAny _ _ (binaryOp Operator.Add (Value.bytes (List.toArray _) _) (Value.bytes (List.toArray _) _)) _ _ _); k_dflt (refine' bytes_add_K ?z rfl ?_; (case z => (simp only [List.size_toArray, List.length_cons, List.length_nil]; first | omega | walk_at "my:b_size")); k_whole); intro t9 k9)) | (with_reducible (k_here; (with_reducible show wpAny _ _ (truthy (Value.bytes (List.toArray _) _)) _ _ _); (refine truthy_bytesL (by walk_at "my:b_size") ?_); intro _)) | walk1)) | (leave1; walk_say "STEP leave1"; try dsimp only) | fail "no step"))
      all_goals exact ret_bytes ret (by first | exact normB_a (by assumption) (by assumption) | exact normB_b (by assumption) (by assumption)) (by (exact gsub_nil (by assumption) (by assumption)))
  · exact ret_bytes ret (normB_c (by assumption)) (by (exact gsub_nil (by assumption) (by assumption)))
end
noncomputable abbrev baObj (b : List UInt8) : Obj := { cls := .type "bytearray", data := .bytearray b.toArray }
theorem owner_ba : Manifest.owners.lookup (String.ofList ['y', 'a', 'r', 'r', 'a', 'e', 't', 'y', 'b'].reverse) = some Manifest.sig_bytearray := by kernel_rfl
theorem slot_ba_setitem : Slot "bytearray" "__setitem__" "bytearray.__setitem__" :=
  .of (owner := "bytearray") (n := "__setitem__") (by rw [typeLookup_type, builtinLookup_eq_fast]; kernel_rfl) (by decide +kernel) (by decide +kernel) (by decide +kernel)
    (by first | exact .inl (by decide +kernel) | exact .inr (by decide +kernel)) (by rw [isSubtype_type]; kernel_rfl)
theorem entry_ba_setitem : entryFor table "bytearray.__setitem__" = some Builtin.«bytearray.__setitem__» := entryFor_of_tree (by kernel_rfl)
theorem args_ba_setitem (a b c : Value) : argsOk "bytearray.__setitem__" ⟨[a, b, c], []⟩ := by
  unfold argsOk; rw [signature?_of (id := "bytearray.__setitem__") (n := ['_', '_', 'm', 'e', 't', 'i', 't', 'e', 's', '_', '_']) (o := ['y', 'a', 'r', 'r', 'a', 'e', 't', 'y', 'b']) (by kernel_rfl) owner_ba]; kernel_rfl
theorem slot_ba_init : Slot "bytearray" "__init__" "bytearray.__init__" :=
  .of (owner := "bytearray") (n := "__init__") (by rw [typeLookup_type, builtinLookup_eq_fast]; kernel_rfl) (by decide +kernel) (by decide +kernel) (by decide +kernel)
    (by first | exact .inl (by decide +kernel) | exact .inr (by decide +kernel)) (by rw [isSubtype_type]; kernel_rfl)
theorem entry_ba_init : entryFor table "bytearray.__init__" = some Builtin.«bytearray.__init__» := entryFor_of_tree (by kernel_rfl)
section
variable {prog : Program} {w : World} {A : Around} {E : Value → Shared → Prop} {s : Shared} {h₀ : Heap} {L D : Addr} {m : Str → Option Value} {news news' : List (Addr × Obj)} {b : List UInt8}
theorem subscript_int {M : Model} {k : Int} {t : Tok} {Q : Option Int → Shared → Prop} (hfit : Builtin.Bytes.fitsIndex k = true) (h : Q (some k) s) :
    wpAny M A (Builtin.Bytes.subscript? (.int k t)) Q E s := by
  unfold Builtin.Bytes.subscript?
  refine wpAny_bind (wpAny_specialOf (T := "int") (typeIs_int s k t) int_index ?_)
  show wpAny M A (asIndex (.int k t) >>= _) Q E s
  refine wpAny_bind (wpAny_of_eq (a := k) rfl ?_)
  show wpAny M A (if (!Builtin.Bytes.fitsIndex k) = true then _ else _) Q E s
  rw [if_neg (by rw [hfit]; decide)]
  exact wpAny_pure h
theorem setItem_ba {k x : Int} {t u : Tok} {Q : Unit → Shared → Prop} (ho : s.heap.get? D = some (baObj b)) (h0 : 0 ≤ k) (h1 : k < b.length) (hz : b.length ≤ 100000) (hx0 : 0 ≤ x) (hx1 : x < 256)
    (hQ : ∀ h', h'.get? D = some (baObj (b.set k.toNat x.toNat.toUInt8)) → Heap.SameBut D s.heap h' → Q () { s with heap := h' }) :
    wpAny (model prog w) A (setItem (.ref D) (.int k t) (.int x u)) Q E s := by
  have hT : s.TypeIs (.ref D) "bytearray" := ⟨_, ho, rfl⟩
  unfold setItem
  try with_reducible refine wpAny_holding ?_
  first | refine wpAny_bind (wpAny_pure ?_) | skip
  refine wpAny_bind (wpAny_sequenceKey hT (by decide) ?_)
  refine wpAny_bind (wpAny_callSpecial?_slot (name := Str.ofString "__setitem__") hT slot_ba_setitem
    (wpAny_call_entry slot_ba_setitem hT entry_ba_setitem ?_ (args_ba_setitem _ _ _)))
  unfold Builtin.«bytearray.__setitem__»
  dsimp only
  refine bm_if_false rfl ?_
  refine wpAny_bind (subscript_int (by unfold Builtin.Bytes.fitsIndex; simp only [Bool.and_eq_true, decide_eq_true_eq]; omega) ?_)
  dsimp only
  refine wpAny_bind (m := Builtin.Bytes.byteValue (.int x u)) ?_
  unfold Builtin.Bytes.byteValue
  refine wpAny_bind (wpAny_of_eq (rfl : asIndex (.int x u) = pure x) ?_)
  refine bm_if_false (by simp only [Bool.or_eq_false_iff, decide_eq_false_iff_not]; omega) (wpAny_pure ?_)
  refine wpAny_bind (m := Builtin.Bytes.payload (.ref D)) ?_
  unfold Builtin.Bytes.payload Builtin.Bytes.payload?
  refine wpAny_bind (wpAny_bind (wpAny_load ho ?_))
  refine wpAny_pure (wpAny_pure ?_)
  have hk : seqIndex? k b.toArray.size = some k.toNat := by
    have h2 : ¬ k < 0 := by omega
    have h3 : k < (b.toArray.size : Int) := by rw [List.size_toArray]; exact h1
    unfold seqIndex?
    simp only [h2, if_false]
    rw [if_pos (by simp only [Bool.and_eq_true, decide_eq_true_eq]; omega)]
  rw [hk]
  dsimp only
  refine wpAny_bind ?_
  show wpAny _ _ (updateBytearray D (fun y => y.setIfInBounds k.toNat x.toNat.toUInt8)) _ _ _
  unfold updateBytearray
  refine wpAny_bind (wpAny_load ho ?_)
  show wpAny _ _ (update D (Obj.mapBytearray (fun y => y.setIfInBounds k.toNat x.toNat.toUInt8)) >>= fun _ => lookBehind D) _ _ _
  refine wpAny_bind (wpAny_update ho ?_)
  have e : Obj.mapBytearray (fun y => y.setIfInBounds k.toNat x.toNat.toUInt8) (baObj b) = baObj (b.set k.toNat x.toNat.toUInt8) := by
    show ({ cls := .type "bytearray", data := .bytearray (b.toArray.setIfInBounds k.toNat x.toNat.toUInt8) } : Obj) = _
    simp
  have hS₂ : (s.heap.update D (Obj.mapBytearray (fun y => y.setIfInBounds k.toNat x.toNat.toUInt8))).get? D = some (baObj (b.set k.toNat x.toNat.toUInt8)) := by
    rw [← e]
    exact Heap.get?_update_self _ ho rfl
  refine wpAny_lookBehind hS₂ ?_ ?_
  · show (if (b.set k.toNat x.toNat.toUInt8).toArray.size > sizeLine then some "bytearray:memory" else none) = none
    rw [if_neg]
    rw [List.size_toArray, List.length_set, sizeLine_eq]
    omega
  · first
      | exact wpAny_bind (wpAny_pure (wpAny_pure ⟨.none, rfl, wpAny_pure (hQ _ hS₂ (Heap.SameBut.update ..))⟩))
      | exact wpAny_pure ⟨.none, rfl, wpAny_pure (hQ _ hS₂ (Heap.SameBut.update ..))⟩
theorem setItem_baK {k x : Int} {t u : Tok} {Q : Unit → Shared → Prop} (F : Fr h₀ L s.heap m) (N : News h₀ L s.heap news) (U : Upd D (baObj b) (baObj (b.set k.toNat x.toNat.toUInt8)) news news') (h0 : 0 ≤ k) (h1 : k < b.length) (hz : b.length ≤ 100000) (hx0 : 0 ≤ x) (hx1 : x < 256)
    (hQ : ∀ h', Fr h₀ L h' m → News h₀ L h' news' → Q () { s with heap := h' }) :
    wpAny (model prog w) A (setItem (.ref D) (.int k t) (.int x u)) Q E s := by
  obtain ⟨pre, post, rfl, rfl, a1, a2⟩ := U.split
  have z := N (D, baObj b) (List.mem_append.mpr (.inr (.head _)))
  refine setItem_ba z.1 h0 h1 hz hx0 hx1 fun h' ho' hs => ?_
  exact hQ h' (F.change hs z.2.1 z.2.2) (news_set N a1 a2 hs ho')
theorem look_ba_bytes : typeLookup (.type "bytearray") "__bytes__" = pure none := by rw [typeLookup_type, builtinLookup_eq_fast]; kernel_rfl
theorem look_ba_index : typeLookup (.type "bytearray") "__index__" = pure none := by rw [typeLookup_type, builtinLookup_eq_fast]; kernel_rfl
theorem look_ba_buffer : typeLookup (.type "bytearray") "__buffer__" = pure (some (.builtin "bytearray.__buffer__")) := by rw [typeLookup_type, builtinLookup_eq_fast]; kernel_rfl
theorem look_ba_release : typeLookup (.type "bytearray") "__release_buffer__" = pure (some (.builtin "bytearray.__release_buffer__")) := by rw [typeLookup_type, builtinLookup_eq_fast]; kernel_rfl
theorem sub_ba : isSubtype (.type "bytearray") (.type "bytearray") = pure true := by rw [isSubtype_type]; kernel_rfl
end
section
variable {prog : Program} {w : World} {A : Around} {E : Value → Shared → Prop} {s : Shared} {h₀ : Heap} {L D : Addr} {m : Str → Option Value} {news news' : List (Addr × Obj)} {b : List UInt8}
theorem ownSlot_ba {M : Model} {name : String} {id : String} {Q : Bool → Shared → Prop} (hT : s.TypeIs (.ref D) "bytearray") (hl : typeLookup (.type "bytearray") (name : Str) = pure (some (.builtin id))) (he : id.endsWith ("." ++ name) = true)
    (hx : id.dropRight (name.length + 1) = "bytearray") (h : Q true s) : wpAny M A (Builtin.Bytes.slotIsOwn (.ref D) name) Q E s := by
  unfold Builtin.Bytes.slotIsOwn
  refine wpAny_bind (wpAny_specialOf hT hl ?_)
  dsimp only
  refine bm_if_false (by rw [he]; rfl) ?_
  rw [hx]
  exact wpAny_isInstance hT sub_ba h
theorem release_ba {M : Model} {Q : Bool → Shared → Prop} (hT : s.TypeIs (.ref D) "bytearray") (h : Q false s) : wpAny M A (Builtin.Bytes.ownRelease (.ref D)) Q E s := by
  unfold Builtin.Bytes.ownRelease
  exact wpAny_bind (ownSlot_ba hT look_ba_release (by decide +kernel) (by decide +kernel) (wpAny_pure h))
theorem payload_ba {M : Model} {Q : Array UInt8 → Shared → Prop} (ho : s.heap.get? D = some (baObj b)) (h : Q b.toArray s) : wpAny M A (Builtin.Bytes.payload (.ref D)) Q E s := by
  unfold Builtin.Bytes.payload Builtin.Bytes.payload?
  refine wpAny_bind (wpAny_bind (wpAny_load ho ?_))
  exact wpAny_pure (wpAny_pure h)
theorem buffer_ba {M : Model} {id : String} {full : Bool} {Q : Option (Array UInt8) → Shared → Prop} (ho : s.heap.get? D = some (baObj b)) (h : Q (some b.toArray) s) : wpAny M A (Builtin.Bytes.buffer? id (.ref D) full) Q E s := by
  have hT : s.TypeIs (.ref D) "bytearray" := ⟨_, ho, rfl⟩
  unfold Builtin.Bytes.buffer?
  refine wpAny_bind (wpAny_specialOf hT look_ba_buffer ?_)
  dsimp only
  refine wpAny_bind (ownSlot_ba hT look_ba_buffer (by decide +kernel) (by decide +kernel) ?_)
  refine bm_if_false rfl ?_
  refine wpAny_bind (wpAny_specialOf hT look_ba_buffer ?_)
  refine wpAny_bind (release_ba hT ?_)
  refine bm_if_false rfl ?_
  exact wpAny_bind (payload_ba ho (wpAny_pure h))
theorem bytes_new_ba {Q : Value → Shared → Prop} (ho : s.heap.get? D = some (baObj b)) (hz : b.length ≤ 100000) (hQ : ∀ t k, Q (.bytes b.toArray t) { s with toks := k }) :
    codeAny (model prog w) A (.call (.builtin "bytes.__new__") ⟨[.type "bytes", .ref D], []⟩) (wants Q E) s := by
  refine codeAny_of_tree ?_
  show wpAny _ A.in1 (do checkBuiltinCall "bytes.__new__" ⟨[.type "bytes", .ref D], []⟩; again (.builtin "bytes.__new__" ⟨[.type "bytes", .ref D], []⟩)) _ _ s
  refine wpAny_bind (wpAny_of_eq (F.bm_newCall _) (wpAny_pure ⟨plainId_quiet F.bm_plain _, codeAny_builtin F.bm_entry ?_⟩))
  rw [Around.under_plainId F.bm_plain _]
  have hT : s.TypeIs (.ref D) "bytearray" := ⟨_, ho, rfl⟩
  unfold Builtin.«bytes.__new__»
  refine wpAny_bind (wpAny_of_eq (a := true) rfl ?_)
  refine bm_if_false rfl ?_
  refine wpAny_bind (wpAny_of_eq F.bm_sub ?_)
  refine bm_if_false rfl ?_
  refine wpAny_bind (wpAny_of_eq (F.bm_bind _) ?_)
  refine wpAny_bind (wpAny_of_eq (a := ()) rfl ?_)
  refine wpAny_bind (wpAny_of_eq (a := ()) rfl ?_)
  refine bm_if_false rfl ?_
  refine wpAny_bind (wpAny_specialOf hT look_ba_bytes ?_)
  refine wpAny_bind (wpAny_bind ?_)
  show wpAny _ _ (load D >>= _) _ _ _
  refine wpAny_bind (wpAny_load ho ?_)
  refine wpAny_pure (wpAny_pure ?_)
  refine bm_if_false rfl ?_
  refine wpAny_bind (wpAny_specialOf hT look_ba_index ?_)
  refine bm_if_true rfl ?_
  first
    | show wpAny _ _ (Builtin.Bytes.buffer? "bytes.__new__" (.ref D) true >>= _) _ _ _
    | (refine wpAny_bind ?_; show wpAny _ _ (Builtin.Bytes.buffer? "bytes.__new__" (.ref D) true >>= _) _ _ _)
  refine wpAny_bind (buffer_ba ho ?_)
  dsimp only
  refine wpAny_bind (wpAny_rule ?_)
  refine wpAny_bind (wpAny_mkBytes ?_ (by rw [List.size_toArray, sizeLine_eq]; omega))
  first
    | exact wpAny_pure (hQ _ _)
    | exact wpAny_bind (wpAny_pure (wpAny_pure (hQ _ _)))
theorem call_bytes_ba {Q : Value → Shared → Prop} (ho : s.heap.get? D = some (baObj b)) (hz : b.length ≤ 100000) (hQ : ∀ t k, Q (.bytes b.toArray t) { s with toks := k }) :
    wpAny (model prog w) A (call (.type "bytes") [.ref D]) Q E s := by
  refine callType_codes (Q₁ := fun obj s₁ => s₁.TypeIs obj "bytes" ∧ Q obj s₁) F.bm_called (F.bm_typeCall _) F.entry_object_init
    (bytes_new_ba ho hz fun t k => ⟨PySem.W.typeIs_bytes _ _ _, hQ t k⟩) fun obj s₁ h₁ => ?_
  exact ⟨h₁.1, F.args_object_init_2 obj _, object_init_meets F.bm_called.init.lookup F.bm_called.made (by decide) prog w A.in1 _ s₁ ⟨h₁.1, rfl, h₁.2⟩⟩
end
theorem ba_mro : mroOf (.type "bytearray") = pure [.type "bytearray", .type "object"] := by rw [mroOf_type]; kernel_rfl
theorem ba_lookup_new : typeLookup (.type "bytearray") "__new__" = pure (some (.builtin "bytearray.__new__")) := by rw [typeLookup_type, builtinLookup_eq_fast]; kernel_rfl
theorem ba_made : Bind.madeBy (.type "bytearray") = pure (some "bytearray.__new__") := madeBy_type ba_mro ba_lookup_new (by decide +kernel)
theorem ba_typeCall (a : Value) : checkTypeCall "bytearray" ⟨[a], []⟩ = pure () := by kernel_rfl
theorem ba_newCall (a : Value) : checkBuiltinCall "bytearray.__new__" ⟨[.type "bytearray", a], []⟩ = pure () := by kernel_rfl
theorem ba_entry_new : entryFor table "bytearray.__new__" = some Builtin.«list.__new__» := entryFor_alias (id' := "list.__new__") (by kernel_rfl) (by first | rfl | decide +kernel) (by decide +kernel) (by kernel_rfl)
theorem ba_plain_new : plainId "bytearray.__new__" = true := by decide +kernel
theorem ba_owner_new : ("bytearray.__new__".splitOn ".__new__").headD "" = "bytearray" := by simp +decide [String.splitOn, String.splitOnAux]
theorem ba_cannot : ((Manifest.find? "bytearray").bind (·.mro.findSome? fun t => (Manifest.find? t).bind fun b => if b.noNew then some true else if b.attrs.any (·.1 == "__new__") then some false else none)).getD false = false := by decide +kernel
theorem ba_bind (v : Value) : Builtin.Bytes.bindOptional "bytearray.__init__" "bytearray" ["source", "encoding", "errors"] [v] [] = pure [some v, none, none] := by kernel_rfl
theorem ba_args_init (a b : Value) : argsOk "bytearray.__init__" ⟨[a, b], []⟩ := by
  unfold argsOk; rw [signature?_of (id := "bytearray.__init__") (n := ['_', '_', 't', 'i', 'n', 'i', '_', '_']) (o := ['y', 'a', 'r', 'r', 'a', 'e', 't', 'y', 'b']) (by kernel_rfl) owner_ba]; kernel_rfl
section
variable {prog : Program} {w : World} {A : Around} {E : Value → Shared → Prop} {s : Shared} {h₀ : Heap} {L D : Addr} {m : Str → Option Value} {news news' : List (Addr × Obj)} {b : List UInt8}
theorem if_falseG {α : Type} {M : Model} {c : Bool} {a b : Sem α} {Q : α → Shared → Prop} (hc : c = false) (h : wpG M A b Q E s) : wpG M A (if c = true then a else b) Q E s := by
  subst hc
  exact h
theorem okB {id : String} {args : Args} (h : goodIds.contains id = true) : okCode (.builtin id args) = true := h
theorem codeG_builtin {R : Result → Shared → Prop} {id : String} {args : Args} {b : Builtin} (ok : okCode (.builtin id args) = true) (hb : entryFor table id = some b)
    (h : wpG (model prog w) (A.under (.builtin id args)) (b args)
      (fun fin s' => match fin with | .done f => R (.ok f) s' | .again c' => c'.quiet = true ∧ codeG (model prog w) A c' R s') (fun e s' => R (.error e) s') s) :
    codeG (model prog w) A (.builtin id args) R s := by
  refine codeG_of_tree ok ?_
  show wpG _ _ (match entryFor table id with | some b => b args | none => unsupported ((withoutEnding? id "#data").getD id)) _ _ s
  rw [hb]; exact h
theorem codeG_call_builtin {R : Result → Shared → Prop} {id : String} {args : Args} {b : Builtin} (ok : okCode (.builtin id args) = true) (hq : plainId id = true) (hb : entryFor table id = some b)
    (h : wpAny (model prog w) A.in1 (checkBuiltinCall id args) (fun _ s₁ => wpG (model prog w) A.in1 (b args)
      (fun fin s' => match fin with | .done f => R (.ok f) s' | .again c' => c'.quiet = true ∧ codeG (model prog w) A c' R s') (fun e s' => R (.error e) s') s₁)
      (fun e s' => R (.error e) s') s) : codeG (model prog w) A (.call (.builtin id) args) R s := by
  refine codeG_of_tree rfl ?_
  show wpG _ A.in1 (do checkBuiltinCall id args; again (.builtin id args)) _ _ s
  refine wpG_bindA (wpAny_mono h (fun _ s₁ h₁ => wpG_pure (And.intro (plainId_quiet hq args) (codeG_builtin ok hb ?_))) fun _ _ h' => h')
  rw [Around.under_plainId hq args]
  exact h₁
theorem ba_new (a : Value) {Q₁ : Value → Shared → Prop} (h : Q₁ (.ref s.heap.objs.size) { s with heap := s.heap.push (baObj []) }) :
    wpAny (model prog w) A (call (.builtin "bytearray.__new__") [.type "bytearray", a]) Q₁ E s := by
  refine wpAny_call (codeAny_of_tree ?_)
  show wpAny _ A.in1 (do checkBuiltinCall "bytearray.__new__" ⟨[.type "bytearray", a], []⟩; again (.builtin "bytearray.__new__" ⟨[.type "bytearray", a], []⟩)) _ _ s
  refine wpAny_bind (wpAny_of_eq (ba_newCall a) (wpAny_pure ⟨plainId_quiet ba_plain_new _, codeAny_builtin_stack ba_entry_new rfl fun p st => ?_⟩))
  rw [Around.under_plainId ba_plain_new _]
  have hsub := sub_ba
  have hown := ba_owner_new
  obtain ⟨hp, g, d, tk, os⟩ := s
  simp only [hown]
  wp_walk
  exact h
theorem write_ba {M : Model} {Q : Unit → Shared → Prop} (f : List UInt8 → List UInt8) {g : Array UInt8 → Array UInt8} (ho : s.heap.get? D = some (baObj b)) (hz : (f b).length ≤ 100000)
    (hQ : ∀ h', h'.get? D = some (baObj (f b)) → Heap.SameBut D s.heap h' → Q () { s with heap := h' }) (hg : g b.toArray = (f b).toArray := by simp) : wpAny M A (Builtin.Bytes.write (.ref D) g) Q E s := by
  show wpAny _ _ (updateBytearray D g) _ _ _
  unfold updateBytearray
  refine wpAny_bind (wpAny_load ho ?_)
  show wpAny _ _ (update D (Obj.mapBytearray g) >>= fun _ => lookBehind D) _ _ _
  refine wpAny_bind (wpAny_update ho ?_)
  have e : Obj.mapBytearray g (baObj b) = baObj (f b) := by
    show ({ cls := .type "bytearray", data := .bytearray (g b.toArray) } : Obj) = _
    rw [hg]
  have hS₂ : (s.heap.update D (Obj.mapBytearray g)).get? D = some (baObj (f b)) := by
    rw [← e]
    exact Heap.get?_update_self _ ho rfl
  refine wpAny_lookBehind hS₂ ?_ (hQ _ hS₂ (Heap.SameBut.update ..))
  show (if (f b).toArray.size > sizeLine then some "bytearray:memory" else none) = none
  rw [if_neg]
  rw [List.size_toArray, sizeLine_eq]
  omega
theorem ba_init {n : Int} {t : Tok} {Q : Fin → Shared → Prop} (ho : s.heap.get? D = some (baObj [])) (h0 : 0 ≤ n) (hz : n ≤ 100000)
    (hQ : ∀ h', h'.get? D = some (baObj (List.replicate n.toNat 0)) → Heap.SameBut D s.heap h' → Q (.done (.ret .none)) { s with heap := h' }) :
    wpG (model prog w) A (Builtin.«bytearray.__init__» ⟨[.ref D, .int n t], []⟩) Q E s := by
  have hT : s.TypeIs (.ref D) "bytearray" := ⟨_, ho, rfl⟩
  unfold Builtin.«bytearray.__init__»
  dsimp only
  refine wpG_bindA (release_ba hT ?_)
  refine if_falseG rfl ?_
  refine wpG_bindA (wpAny_of_eq (ba_bind _) ?_)
  refine wpG_bindA (wpAny_of_eq (a := ()) rfl ?_)
  refine wpG_bindA (wpAny_of_eq (a := ()) rfl ?_)
  refine wpG_bind (wpG_bind (wpG_exported ?_))
  show wpG _ _ (Builtin.Bytes.exportsOf (.ref D) >>= _) _ _ _
  refine wpG_of ?_
  unfold Builtin.Bytes.exportsOf
  refine wpAny_bind (wpAny_bind (wpAny_load ho (wpAny_pure (wpAny_pure (wpG_of ?_)))))
  refine bm_if_false rfl ?_
  refine wpAny_bind (write_ba (fun _ => []) ho (by simp) ?_)
  intro h₁ ho₁ hs₁
  dsimp only
  refine wpAny_bind (wpAny_of_eq (a := none) rfl ?_)
  refine bm_if_false rfl ?_
  refine wpAny_bind (wpAny_of_eq (a := ()) rfl ?_)
  refine wpAny_bind (wpAny_specialOf (T := "int") (typeIs_int _ n t) int_index ?_)
  refine bm_if_true rfl ?_
  refine wpAny_bind (wpAny_attempt (wpAny_of_eq (rfl : asIndex (.int n t) = pure n) ?_))
  dsimp only
  refine bm_if_false (by unfold Builtin.Bytes.fitsIndex; simp only [Bool.not_eq_false', Bool.and_eq_true, decide_eq_true_eq]; omega) ?_
  refine wpAny_ite ?_
  rw [if_neg (by omega)]
  refine bm_if_false (by simp only [beq_eq_false_iff_ne, ne_eq]; omega) ?_
  refine bm_if_false (KBy.tooLong_not (by omega)) ?_
  refine wpAny_bind (wpAny_rule ?_)
  refine wpAny_ite ?_
  by_cases hn : n > 0
  · rw [if_pos hn]
    refine wpAny_bind (write_ba (fun _ => List.replicate n.toNat 0) ho₁ (by simp; omega) ?_)
    intro h₂ ho₂ hs₂
    exact wpAny_pure (hQ h₂ ho₂ (hs₁.trans hs₂))
  · rw [if_neg hn]
    have e : n.toNat = 0 := by omega
    exact wpAny_pure (hQ h₁ (by rw [e]; exact ho₁) hs₁)
theorem call_ba {n : Int} {t : Tok} {Q : Value → Shared → Prop} (h0 : 0 ≤ n) (hz : n ≤ 100000)
    (hQ : ∀ D h', h'.get? D = some (baObj (List.replicate n.toNat 0)) → D = s.heap.objs.size → (∀ b o, s.heap.get? b = some o → h'.get? b = some o) → Q (.ref D) { s with heap := h' }) :
    wpG (model prog w) A (call (.type "bytearray") [.int n t]) Q E s := by
  refine wpG_call (codeG_of_tree rfl ?_)
  show wpG _ _ (callAny (.type "bytearray") _) _ _ _
  refine wpG_pure ⟨Code.quiet_builtin _ (by decide +kernel), codeG_builtin (okB (by decide +kernel)) F.entry_type_call ?_⟩
  rw [Around.under_plain (weight_type_call_type "bytearray" _ []) rfl]
  unfold Builtin.«type.__call__»
  dsimp only
  refine if_falseG (by decide) ?_
  refine if_falseG ba_cannot ?_
  refine wpG_bindA (wpAny_of_eq (ba_typeCall _) ?_)
  refine wpG_bindA (wpAny_of_eq ba_mro ?_)
  refine if_falseG rfl ?_
  refine wpG_bindA (wpAny_of_eq ba_made ?_)
  dsimp only
  refine wpG_bindA (wpAny_pure ?_)
  refine wpG_bindA (wpAny_holding (ba_new _ ?_))
  have ho : (s.heap.push (baObj [])).get? s.heap.objs.size = some (baObj []) := Heap.get?_push_size _ rfl
  have hT : ({ s with heap := s.heap.push (baObj []) } : Shared).TypeIs (.ref s.heap.objs.size) "bytearray" := ⟨_, ho, rfl⟩
  refine wpG_bindA (wpAny_isInstance hT sub_ba ?_)
  refine if_falseG rfl ?_
  refine wpG_bind (wpG_holding ?_)
  simp only [callSpecial?]
  refine wpG_bindA (wpAny_specialOf hT slot_ba_init.lookup ?_)
  simp only [slot_ba_init.bind]
  refine wpG_holding (wpG_bindA (wpAny_pure (wpG_bind ?_)))
  refine wpG_call (codeG_call_builtin (okB (by decide +kernel)) slot_ba_init.plain entry_ba_init (slot_ba_init.check _ _ _ _ _ _ _ _ hT (ba_args_init _ _) ?_))
  refine ba_init ho h0 hz fun h' ho' hs => ?_
  dsimp only
  refine wpG_pure ?_
  dsimp only
  refine if_falseG rfl ?_
  refine wpG_pure ?_
  refine hQ _ h' ho' rfl fun b o e => (hs.2 b (Nat.ne_of_lt (Heap.lt_size e))).trans (Heap.get?_push_of_some _ e)
end
section
variable {M : Model} {A : Around} {E : Value → Shared → Prop} {s : Shared} {env : Env}
theorem wpG_execs_cons {st : Stmt} {rest : List Stmt} {Q : Flow → Shared → Prop}
    (h : wpG M A (exec st env) (fun f s' => match f with | .next => wpG M A (execs rest env) Q E s' | f => Q f s') E s) :
    wpG M A (execs (st :: rest) env) Q E s := fun Γ p hΓ hg => by
  rw [execs_cons, Sem.wp_bind']
  refine Sem.wp_mono M Γ _ (fun f p' s' h' => ?_) (fun _ _ _ h' => h') _ _ (h Γ p hΓ hg)
  cases f <;> first | exact h' Γ p' hΓ hg | exact h'
theorem wpG_Assign_Name {x pos' value pos} {Q : Flow → Shared → Prop}
    (h : wpG M A (eval value env) (fun v s₁ => wpAny M A (storeName env x v) (fun _ => Q .next) E s₁) E s)
    (hs : swapsWith value (some (.Name x pos')) pos.line env = pure false := by rfl) :
    wpG M A (exec (.Assign [.Name x pos'] value pos) env) Q E s := fun Γ p hΓ hg => by
  simp only [exec_Assign_Name env x pos' value pos hs, Sem.wp_bind', Sem.wp_cmd_standAt, Sem.wp_bindName, Sem.wp_pure']
  exact Sem.wp_mono M Γ _ (fun v _ s₁ h₁ => h₁ Γ _ hΓ) (fun _ _ _ h' => h') _ _ (h Γ _ hΓ hg)
theorem wpG_Return {e pos} {Q : Flow → Shared → Prop} (h : wpG M A (eval e env) (fun v => Q (.ret v)) E s) :
    wpG M A (exec (.Return (some e) pos) env) Q E s := fun Γ p hΓ hg => by
  simp only [exec_Return_some, Sem.wp_bind', Sem.wp_cmd_standAt, Sem.wp_pure']; exact h Γ _ hΓ hg
theorem wpG_standAt {pos : Pos} {Q : Unit → Shared → Prop} (h : Q () s) : wpG M A (standAt pos) Q E s := fun _ _ _ _ => h
theorem wpG_operate {vs : List Value} {m : Sem Value} {Q : Value → Shared → Prop} (h : wpG M A m Q E s) : wpG M A (operate vs m) Q E s :=
  fun Γ p hΓ hg => by rw [Sem.wp_operate]; exact h Γ p hΓ hg
theorem wpG_Call_Name {id : Str} {p pos : Pos} {args : List Expr} {Q : Value → Shared → Prop}
    (h : wpAny M A (eval (.Name id p) env) (fun f s₁ => wpG M A (callWith pos f [] (backTo pos (starEach args env)) []) Q E s₁) E s) :
    wpG M A (eval (.Call (.Name id p) args [] pos) env) Q E s := by
  rw [arm_eval_Call_Name']
  exact wpG_bindA h
theorem wpG_spliced_nil {Q : List Value → Shared → Prop} (h : Q [] s) : wpG M A (spliced []) Q E s := wpG_pure h
theorem wpG_spliced_cons {x : Sem Value} {rest : List (Bool × Sem Value)} {Q : List Value → Shared → Prop}
    (h : wpG M A x (fun v s₁ => wpG M A (spliced rest) (fun vs s₂ => Q (v :: vs) s₂) E s₁) E s) : wpG M A (spliced ((false, x) :: rest)) Q E s := by
  unfold spliced
  refine wpG_bind (wpG_mono h (fun v s₁ h₁ => ?_) fun _ _ e => e)
  refine wpG_bind (wpG_pure ?_)
  exact wpG_bind (wpG_holding (wpG_mono h₁ (fun vs s₂ h₂ => wpG_pure h₂) fun _ _ e => e))
theorem wpG_evalArgs {f : Value} {x : Sem Value} {rest : List (Bool × Sem Value)} {Q : Args → Shared → Prop}
    (h : wpG M A (spliced ((false, x) :: rest)) (fun vs s' => Q ⟨vs, []⟩ s') E s) : wpG M A (evalArgs f true ((false, x) :: rest) []) Q E s := by
  unfold evalArgs
  show wpG M A (spliced ((false, x) :: rest) >>= _) Q E s
  refine wpG_bind (wpG_mono h (fun vs s' h' => ?_) fun _ _ x => x)
  refine wpG_holding ?_
  exact wpG_bind (wpG_pure (wpG_bind (wpG_pure (wpG_pure h'))))
theorem wpG_callWith {P : Heap → Prop} {pos : Pos} {f : Value} {first : List Value} {Q : Value → Shared → Prop} {args : List (Bool × Sem Value)} (hplain : args.any (·.1) = false)
    (hk : ∀ h, P h → ∃ k, (k = Keeper.frame ∨ k = Keeper.machine ∨ k = Keeper.boundFrame) ∧ Looks M h (keeperOf f) k)
    (h : wpG M A (evalArgs f true args []) (fun a s₁ => P s₁.heap ∧ wpG M A (call f (first ++ a.pos) a.kw) Q E s₁) E s) : wpG M A (callWith pos f first args []) Q E s := by
  have hplain' : (args.any (·.1) || ([] : List (Option Str × Sem Value)).any (·.1.isNone)) = false := by rw [hplain]; rfl
  unfold callWith
  refine wpG_bind (wpG_holding (wpG_mono h (fun a s₁ h₁ => wpG_bind (wpG_standAt ?_)) fun _ _ x => x))
  obtain ⟨k, hk', L⟩ := hk _ h₁.1
  simp only [hplain']
  refine wpG_bindA (L.here ?_)
  have tail : ∀ {t : Sem Value}, wpG M A t Q E s₁ → wpG M A (t >>= fun r => holding [r] point >>= fun _ => pure r) Q E s₁ :=
    fun ht => wpG_bind (wpG_mono ht (fun r s₂ hr => wpG_bindA (wpAny_holding (wpAny_point (wpG_pure hr)))) fun _ _ x => x)
  have marked (mk : Value) : wpG M A (callMarked mk f (first ++ a.pos) a.kw) Q E s₁ := by unfold callMarked; exact wpG_keep h₁.2
  rcases hk' with rfl | rfl | rfl <;> dsimp only <;> first | exact tail h₁.2 | (split <;> first | exact tail h₁.2 | exact tail (marked _))
theorem wpG_call1 {P : Heap → Prop} {pos : Pos} {f : Value} {e1 : Expr} {Q : Value → Shared → Prop}
    (hk : ∀ h, P h → ∃ k, (k = Keeper.frame ∨ k = Keeper.machine ∨ k = Keeper.boundFrame) ∧ Looks M h (keeperOf f) k)
    (h : wpG M A (eval e1 env) (fun v s₁ => P s₁.heap ∧ wpG M A (call f [v]) Q E s₁) E s)
    (he : starEach [e1] env = [(false, eval e1 env)] := by rfl) : wpG M A (callWith pos f [] (backTo pos (starEach [e1] env)) []) Q E s := by
  rw [he]
  refine wpG_callWith rfl hk (wpG_evalArgs (wpG_spliced_cons (wpG_mono h (fun v s₁ h₁ => wpG_spliced_nil h₁) fun _ _ e => e)))
theorem wpG_call2 {P : Heap → Prop} {pos : Pos} {f : Value} {e1 e2 : Expr} {Q : Value → Shared → Prop}
    (hk : ∀ h, P h → ∃ k, (k = Keeper.frame ∨ k = Keeper.machine ∨ k = Keeper.boundFrame) ∧ Looks M h (keeperOf f) k)
    (h : wpG M A (eval e1 env) (fun v s₁ => wpG M A (eval e2 env) (fun v2 s₂ => P s₂.heap ∧ wpG M A (call f [v, v2]) Q E s₂) E s₁) E s)
    (he : starEach [e1, e2] env = [(false, eval e1 env), (false, eval e2 env)] := by rfl) : wpG M A (callWith pos f [] (backTo pos (starEach [e1, e2] env)) []) Q E s := by
  rw [he]
  refine wpG_callWith rfl hk (wpG_evalArgs (wpG_spliced_cons (wpG_mono h (fun v s₁ h₁ => wpG_spliced_cons (wpG_mono h₁ (fun v2 s₂ h₂ => wpG_spliced_nil h₂) fun _ _ e => e)) fun _ _ e => e)))
end
section
variable {prog : Program} {w : World} {A₀ A : Around} {s : Shared} {base h₀ : Heap} {outer : List Env} {L : Addr} {m : Str → Option Value} {env : Env} {news : List (Addr × Obj)}
theorem codeG_call_function {R : Result → Shared → Prop} {a : Addr} {args : Args} {o : Obj} {fd : FuncData} {body : List Stmt} (hroom : A.depth < recursionLimit)
    (ho : s.heap.get? a = some o)
    (hd' : o.data = .func fd) (hco : fd.scope.isCoroutine = false) (hgen : fd.scope.isGenerator = false) (hbody : fd.body = .stmts body) (hcd : s.heap.CodeRec fd.code fd.qualname)
    (h : wpAny (model prog w) A.in1 (bindArgs fd args) (fun binds s₁ =>
      wpAny (model prog w) A.in1 (newFunctionEnv fd.scope fd.globals fd.closure binds (fd.qualname ++ ".<locals>.") (some a) fd.code none fd.builtins)
        (fun env s₂ => s₂.heap.NoLimit ∧ codeG (model prog w) A (.func body env) R s₂) (fun e s' => R (.error e) s') s₁) (fun e s' => R (.error e) s') s) :
    codeG (model prog w) A (.call (.ref a) args) R s := by
  refine codeG_of_tree rfl (wpG_of ?_)
  show wpAny _ A.in1 (callAny (.ref a) args) _ _ s
  simp only [callAny]
  refine wpAny_bind (wpAny_load ho ?_)
  obtain ⟨c, oc, vs, tq, hc, hoc, hdc, hq⟩ := hcd
  simp only [hd', callFunction, hco, hgen, hbody, hc]
  rw [hc] at h
  refine wpAny_bind (m := field (.ref c) 1) (wpAny_field hoc hdc hq (wpAny_bind (wpAny_pure ?_)))
  exact wpAny_bind (wpAny_mono h (fun binds s₁ h₁ => wpAny_bind (wpAny_mono h₁ (fun env s₂ h₂ => wpAny_bind (wpAny_enterFrame h₂.1 hroom
    (wpAny_pure (And.intro rfl h₂.2)))) fun _ _ h' => h')) fun _ _ h' => h')
theorem codeG_func {R : Result → Shared → Prop} {body env}
    (h : wpG (model prog w) (A.deeper env) (execs body env) (fun f s' => R (.ok (.ret (match f with | .ret v => v | _ => .none))) s') (fun _ _ => False) s) :
    codeG (model prog w) A (.func body env) R s := by
  refine codeG_of_tree rfl ?_
  show wpG _ (A.deeper env) (do point; match ← (execs body env).onRaise (leaving env) with | .ret v => ret v | _ => ret .none) _ _ s
  refine wpG_bindA (wpAny_point (wpG_bind (wpG_onRaise (wpG_mono h (fun f s' h' => ?_) fun _ _ h' => h'))))
  cases f <;> exact wpG_pure h'
theorem code_defGG {K : Frag} {p : Program} {loose : List Str} {mean : ExcName → Option Value} {mg mb : Str → Option Value} {R : Result → Shared → Prop} {name qual : Str} {params : Arguments} {body : List Stmt} {scope : Scope} {dV kV doc pm cdv ct oc : Value} {an od : Option Addr} {osl : Array (Option Value)} {f : Addr} {args : Args} {binds : List (Str × Value)}
    (B : Below A₀ base outer h₀) (F : Fr h₀ L s.heap m) (X₀ : K.In h₀) (T : Top p loose mean mg mb h₀) (hA : A.frames = some (env :: outer)) (hf : env.frame = some L) (hke : env.scope.kind = .function)
    (ho : K.lookup f = some ⟨oc, od, .func (fnOf name qual params body scope dV kV doc pm an cdv ct), osl⟩) (hcd : codeIn K cdv qual = true) (hroom : A.depth < recursionLimit)
    (hbind : BindsTo s (fnOf name qual params body scope dV kV doc pm an cdv ct) args binds) (hloc : ∀ y ∈ binds, scope.names.lookup y.1 = some .local)
    (h : ∀ g L' h₁, Fr h₀ L g m → Fr g L' h₁ (fun y => binds.reverse.lookup y) → News g L' h₁ [] → Below A base (env :: outer) g → K.In g → Top p loose mean mg mb g → GSub s.heap g (([] : List (Addr × Obj)).map (·.1)) →
      wpG (model prog w) (A.deeper (envOf qual scope L' f cdv)) (execs body (envOf qual scope L' f cdv))
        (fun fl s' => R (.ok (.ret (match fl with | .ret v => v | _ => .none))) s') (fun _ _ => False)
        { s with heap := h₁, toks := s.toks + binds.length })
    (hco : scope.isCoroutine = false) (hgen : scope.isGenerator = false) (hk : scope.kind = .function)
    (hcell : ∀ x ∈ scope.names, x.2 ≠ .cell) : codeG (model prog w) A (.call (.ref f) args) R s := by
  obtain ⟨FG, BG, st, lv⟩ := groundX (R := R) B F (News.nil (h := s.heap)) hA hf hke
  refine codeG_call_function (fd := fnX name qual params body scope [] dV kV doc pm an cdv ct) (body := body) hroom ((X₀.keeps F.keep) _ _ ho) rfl hco hgen rfl (codeRec_of (X₀.keeps F.keep) hcd) (hbind _ _ _ _ ?_)
  refine wpAny_newFunctionEnv hcell hloc (fun h₁ hns hsb => ⟨(T.nolimit.keeps F.keep).fresh _ hsb, codeG_func ?_⟩) hk
  have hk₁ : ∀ b o, s.heap.get? b = some o → h₁.get? b = some o := fun b o e => hsb.extBut b o (Nat.ne_of_lt (Heap.lt_size e)) (Heap.get?_push_of_some _ e)
  exact h _ s.heap.objs.size h₁ FG ⟨hns, hk₁, Nat.le_refl _⟩ (fun p hp => nomatch hp) BG (X₀.keeps st) (T.keeps st) (fun b o e _ => e)
end
noncomputable def swAt (wd : Nat) (b : List UInt8) (k : Nat) : UInt8 := b.getD (k / wd * wd + (wd - 1 - k % wd)) 0
noncomputable def swapB (wd : Nat) (b : List UInt8) : List UInt8 := (List.range b.length).map (swAt wd b)
noncomputable def fillB (wd : Nat) (b : List UInt8) (P : Nat → Bool) : List UInt8 := (List.range b.length).map fun k => if P k then swAt wd b k else 0
theorem fillB_len (wd b P) : (fillB wd b P).length = b.length := by simp [fillB]
theorem fillB_congr {wd b} {P P' : Nat → Bool} (h : ∀ k, k < b.length → P k = P' k) : fillB wd b P = fillB wd b P' := by
  unfold fillB
  refine List.map_congr_left fun k hk => ?_
  rw [h k (List.mem_range.mp hk)]
theorem fillB_zero {wd b} {P : Nat → Bool} (h : ∀ k, k < b.length → P k = false) : fillB wd b P = List.replicate b.length 0 := by
  unfold fillB
  rw [List.eq_replicate_iff]
  refine ⟨by simp, ?_⟩
  intro x hx
  obtain ⟨k, hk, rfl⟩ := List.mem_map.mp hx
  rw [h k (List.mem_range.mp hk)]
  rfl
theorem fillB_all {wd b} {P : Nat → Bool} (h : ∀ k, k < b.length → P k = true) : fillB wd b P = swapB wd b := by
  unfold fillB swapB
  refine List.map_congr_left fun k hk => ?_
  rw [h k (List.mem_range.mp hk)]
  rfl
theorem fillB_get (wd b P) (k : Nat) : (fillB wd b P)[k]? = if k < b.length then some (if P k then swAt wd b k else 0) else none := by
  unfold fillB
  rw [List.getElem?_map]
  by_cases h : k < b.length
  · rw [List.getElem?_range h, if_pos h]; rfl
  · rw [if_neg h, List.getElem?_eq_none (by simpa using h)]; rfl
theorem fillB_set {wd b} {P P' : Nat → Bool} {k₀ : Nat} {v : UInt8} (hv : v = swAt wd b k₀) (hP : ∀ k, k < b.length → P' k = (P k || decide (k = k₀))) : (fillB wd b P).set k₀ v = fillB wd b P' := by
  refine List.ext_getElem? fun k => ?_
  rw [List.getElem?_set, fillB_get, fillB_get, fillB_len]
  by_cases hk : k < b.length
  · rw [if_pos hk, if_pos hk, hP k hk]
    by_cases e : k₀ = k
    · subst e
      simp [hv, hk]
    · have : decide (k = k₀) = false := decide_eq_false (fun q => e q.symm)
      rw [if_neg e, this, Bool.or_false]
  · rw [if_neg hk, if_neg hk]
    by_cases e : k₀ = k
    · subst e
      simp [hk]
    · rw [if_neg e]
noncomputable def filled (wd i j k : Nat) : Bool := decide (k < i * wd) || (decide (i * wd + wd - j ≤ k) && decide (k < i * wd + wd))
theorem filled_start (wd k : Nat) : filled wd 0 0 k = false := by
  unfold filled
  rw [Bool.eq_false_iff, ne_eq, Bool.or_eq_true, Bool.and_eq_true]
  simp only [decide_eq_true_eq]
  omega
theorem filled_wr {k a c : Nat} : (k < a ∨ (a ≤ k ∧ k < c)) ↔ (k < a ∨ k < c) := by omega
theorem filled_word (wd i k : Nat) : filled wd i wd k = filled wd (i + 1) 0 k := by
  unfold filled
  have e : (i + 1) * wd = i * wd + wd := Nat.succ_mul i wd
  rw [e, Nat.add_sub_cancel, Nat.sub_zero, Bool.eq_iff_iff]
  simp only [Bool.or_eq_true, Bool.and_eq_true, decide_eq_true_eq]
  generalize i * wd = a
  rw [filled_wr]
  exact ⟨fun h => .inl (h.elim (fun h => Nat.lt_of_lt_of_le h (Nat.le_add_right _ _)) id), fun h => h.elim .inr fun h => absurd h.2 (Nat.not_lt.mpr h.1)⟩
theorem filled_ar {k a c m : Nat} (hc : c < m) : (k < a ∨ (c ≤ k ∧ k < m)) ↔ ((k < a ∨ (c + 1 ≤ k ∧ k < m)) ∨ k = c) := by omega
theorem filled_step (wd i j k : Nat) (hj : j < wd) : filled wd i (j + 1) k = (filled wd i j k || decide (k = i * wd + wd - 1 - j)) := by
  unfold filled
  generalize i * wd = a
  obtain ⟨c, hc⟩ : ∃ c, a + wd = c + (j + 1) := ⟨a + wd - (j + 1), by omega⟩
  have e1 : a + wd - (j + 1) = c := by rw [hc]; exact Nat.add_sub_cancel _ _
  have e2 : a + wd - j = c + 1 := by rw [hc]; exact Nat.sub_eq_of_eq_add (by rw [Nat.add_comm j 1, ← Nat.add_assoc])
  have e3 : a + wd - 1 - j = c := by rw [Nat.sub_sub, Nat.add_comm 1 j]; exact e1
  rw [e1, e2, e3, Bool.eq_iff_iff]
  simp only [Bool.or_eq_true, Bool.and_eq_true, decide_eq_true_eq]
  exact filled_ar (by omega)
theorem swAt_place {wd : Nat} {b : List UInt8} {i j : Nat} (hj : j < wd) : swAt wd b (i * wd + wd - 1 - j) = b.getD (i * wd + j) 0 := by
  unfold swAt
  have e : i * wd + wd - 1 - j = (wd - 1 - j) + wd * i := by rw [Nat.mul_comm wd i, Nat.sub_sub, Nat.sub_sub, Nat.add_sub_assoc (by omega), Nat.add_comm]
  have hw : 0 < wd := by omega
  have h1 : (i * wd + wd - 1 - j) / wd = i := by
    rw [e, Nat.add_mul_div_left _ _ hw, Nat.div_eq_of_lt (by omega), Nat.zero_add]
  have h2 : (i * wd + wd - 1 - j) % wd = wd - 1 - j := by
    rw [e, Nat.add_mul_mod_self_left, Nat.mod_eq_of_lt (by omega)]
  rw [h1, h2]
  congr 1
  rw [Nat.sub_sub_self (Nat.le_sub_one_of_lt hj)]
section
variable {prog : Program} {w : World} {A : Around} {E : Value → Shared → Prop} {s : Shared} {env : Env} {h₀ : Heap} {x : Str} {body : List Stmt} {Q : Flow → Shared → Prop} {m₀ : Str → Option Value}
theorem iter_rng {r : Addr} {a b c : Int} {t₀ u₀ v₀ : Tok} {n : Nat} {rest : List (Addr × Obj)} (J : Nat → (Str → Option Value) → List (Addr × Obj) → Prop)
    (hh : A.handled = none) (hr : IsRange s.heap r a b c t₀ u₀ v₀) (hsmall : Builtin.Range.small a b c = true) (hn : Builtin.Range.rangeSize a b c = (n : Int)) (F : Fr h₀ env.locals s.heap m₀) (N : News h₀ env.locals s.heap rest) (hj : J 0 m₀ rest)
    (turn : ∀ i t m₁ news₁ h tk own, i < n → news₁.map (·.1) = rest.map (·.1) → OwnOff own (rest.map (·.1)) → J i m₁ news₁ → Fr h₀ env.locals h (fun y => if y = x then some (.int (a + (i : Int) * c) t) else m₁ y) → News h₀ env.locals h (news₁ ++ own) →
      wpAny (model prog w) A (execs body env) (InvPostN h₀ env.locals (J (i + 1)) own (rest.map (·.1)) { s with heap := h, toks := tk } Q) E { s with heap := h, toks := tk })
    (done : ∀ m₁ news₁ h tk, J n m₁ news₁ → Fr h₀ env.locals h m₁ → News h₀ env.locals h news₁ → Q .next { s with heap := h, toks := tk }) :
    wpAny (model prog w) A (pyIter (.ref r)) (fun it s₂ => LoopAtV prog w A h₀ env x body Q E it s₂) E s := by
  refine wpAny_pyIter_range hr hsmall ?_
  have W : Walks prog w A s.heap.objs.size [s.heap.objs.size] [s.heap.objs.size] n (fun i v => i < n ∧ ∃ t, v = .int (a + i * c) t)
      (fun i h => IsRangeIter h s.heap.objs.size (a + (i : Nat) * c) ((n : Int) - (i : Nat)) c) := (Walks.range hh _ a c n).bound
  refine loop_invN J W ?_ ?_ ?_ ?_ (by show IsRangeIter _ _ _ _ _; rw [hn]; simpa using Heap.get?_push_size _ rfl) (F.push _) (fun p hp => ⟨Heap.get?_push_of_some _ (N p hp).1, (N p hp).2⟩) hj ?_ ?_
  · intro hm
    exact absurd F.ns.lt ((List.mem_singleton.mp hm) ▸ Nat.lt_irrefl _)
  · intro b hb
    rw [List.mem_singleton.mp hb]
    exact next_is_new F
  · intro p hp hI
    exact absurd (Heap.lt_size (N p hp).1) ((List.mem_singleton.mp hI) ▸ Nat.lt_irrefl _)
  · intro p hp hI
    exact absurd (Heap.lt_size (N p hp).1) ((List.mem_singleton.mp hI) ▸ Nat.lt_irrefl _)
  · rintro i v m₁ news₁ h tk own hi ⟨_, t, rfl⟩ hadr hoff hJ F₁ N₁
    exact turn i t m₁ news₁ h tk own hi hadr hoff hJ F₁ N₁
  · exact done
theorem iter_ba {r D : Addr} {a b c : Int} {t₀ u₀ v₀ : Tok} {n : Nat} {keepL : List (Addr × Obj)} (y₂ : Str) (g : Nat → List UInt8)
    (hh : A.handled = none) (hr : IsRange s.heap r a b c t₀ u₀ v₀) (hsmall : Builtin.Range.small a b c = true) (hn : Builtin.Range.rangeSize a b c = (n : Int)) (F : Fr h₀ env.locals s.heap m₀) (N : News h₀ env.locals s.heap ((D, baObj (g 0)) :: keepL)) (hD : ∀ p ∈ keepL, p.1 ≠ D)
    (turn : ∀ (i : Nat) (t : Tok) (u : Str → Option Value) (h : Heap) (tk : Nat) (own : List (Addr × Obj)), i < n → OwnOff own [D] → Fr h₀ env.locals h (fun z => if z = x then some (.int (a + (i : Int) * c) t) else if z = y₂ then u z else m₀ z) → News h₀ env.locals h ((D, baObj (g i)) :: own) →
      wpAny (model prog w) A (execs body env) (InvPostN h₀ env.locals (fun m' nx => nx = [(D, baObj (g (i + 1)))] ∧ ∀ z, z ≠ x → z ≠ y₂ → m' z = m₀ z) own [D] { s with heap := h, toks := tk } Q) E { s with heap := h, toks := tk })
    (done : ∀ (u : Str → Option Value) h tk, Fr h₀ env.locals h (fun z => if z = x then u z else if z = y₂ then u z else m₀ z) → News h₀ env.locals h ((D, baObj (g n)) :: keepL) → Q .next { s with heap := h, toks := tk }) :
    wpAny (model prog w) A (pyIter (.ref r)) (fun it s₂ => LoopAtV prog w A h₀ env x body Q E it s₂) E s := by
  refine iter_rng (fun i m nx => nx = (D, baObj (g i)) :: keepL ∧ ∀ z, z ≠ x → z ≠ y₂ → m z = m₀ z) hh hr hsmall hn F N ⟨rfl, fun _ _ _ => rfl⟩ ?_ ?_
  · rintro i t m₁ nx h tk own hi _ hoff ⟨rfl, hm⟩ F₁ N₁
    have e : (fun z => if z = x then some (Value.int (a + (i : Int) * c) t) else m₁ z) = fun z => if z = x then some (Value.int (a + (i : Int) * c) t) else if z = y₂ then m₁ z else m₀ z := by
      funext z
      by_cases h1 : z = x
      · simp [h1]
      · simp only [if_neg h1]
        by_cases h2 : z = y₂
        · simp [h2]
        · simp only [if_neg h2]; exact hm z h1 h2
    rw [e] at F₁
    have hoff' : OwnOff (keepL ++ own) [D] := by
      intro p hp q hq
      rw [List.mem_singleton.mp hq]
      rcases List.mem_append.mp hp with hp | hp
      · exact hD p hp
      · exact hoff p hp D (by simp)
    refine wpAny_mono (turn i t m₁ h tk (keepL ++ own) hi hoff' F₁ N₁) (fun f s₂ p => ?_) fun _ _ e => e
    have fin : InvEndN h₀ env.locals (fun m' nx => nx = [(D, baObj (g (i + 1)))] ∧ ∀ z, z ≠ x → z ≠ y₂ → m' z = m₀ z) (keepL ++ own) [D] { s with heap := h, toks := tk } s₂ →
        InvEndN h₀ env.locals (fun m nx => nx = (D, baObj (g (i + 1))) :: keepL ∧ ∀ z, z ≠ x → z ≠ y₂ → m z = m₀ z) own (((D, baObj (g 0)) :: keepL).map (·.1)) { s with heap := h, toks := tk } s₂ := by
      rintro ⟨h', tk', m', news', nx, e, F', N', hn', ho, ha, rfl, hm'⟩
      refine ⟨h', tk', m', news', (D, baObj (g (i + 1))) :: keepL, e, F', N', fun p hp => ?_, fun p hp => ho p (List.mem_append.mpr (.inr hp)), rfl, rfl, hm'⟩
      rcases List.mem_cons.mp hp with rfl | hp
      · exact hn' _ (by simp)
      · exact ho p (List.mem_append.mpr (.inl hp))
    cases f with
    | ret v => exact p
    | brk => exact p
    | next => exact fin p
    | cont => exact fin p
  · rintro m₁ nx h tk ⟨rfl, hm⟩ F₁ N₁
    refine done m₁ h tk ?_ N₁
    have e : (fun z => if z = x then m₁ z else if z = y₂ then m₁ z else m₀ z) = m₁ := by
      funext z
      by_cases h1 : z = x
      · simp [h1]
      · simp only [if_neg h1]
        by_cases h2 : z = y₂
        · simp [h2]
        · simp only [if_neg h2]; exact (hm z h1 h2).symm
    rw [e]; exact F₁
theorem ba_end {L : Addr} {x y₂ : Str} {m' : Str → Option Value} {D : Addr} {own : List (Addr × Obj)} {b b' : List UInt8} {s₁ : Shared} {h' : Heap} {tk' : Nat} {f : Flow}
    (F : Fr h₀ L h' m') (N : News h₀ L h' ((D, baObj b') :: own)) (hm : ∀ z, z ≠ x → z ≠ y₂ → m' z = m₀ z) (e : b = b') (hf : f = .next ∨ f = .cont) :
    InvPostN h₀ L (fun m' nx => nx = [(D, baObj b)] ∧ ∀ z, z ≠ x → z ≠ y₂ → m' z = m₀ z) own [D] s₁ Q f { s₁ with heap := h', toks := tk' } := by
  subst e
  have key : InvEndN h₀ L (fun m' nx => nx = [(D, baObj b)] ∧ ∀ z, z ≠ x → z ≠ y₂ → m' z = m₀ z) own [D] s₁ { s₁ with heap := h', toks := tk' } :=
    ⟨h', tk', m', _, [(D, baObj b)], rfl, F, N, fun p hp => by rw [List.mem_singleton.mp hp]; exact .head _, fun p hp => .tail _ hp, rfl, rfl, hm⟩
  rcases hf with rfl | rfl <;> exact key
theorem len_bytesL {b : List UInt8} {t : Tok} {Q : Value → Shared → Prop} (hz : b.length ≤ 16777216) (h : ∀ t' k, Q (.int b.length t') { s with toks := k }) : wpAny (model prog w) A (call (.builtin "len") [.bytes b.toArray t]) Q E s := by
  refine len_bytes (by rw [List.size_toArray]; omega) ?_
  rw [List.size_toArray]
  exact h _ _
theorem news_push {h₀ h h' : Heap} {L D : Addr} {m : Str → Option Value} {o : Obj} {news : List (Addr × Obj)} (F : Fr h₀ L h m) (N : News h₀ L h news) (hk : ∀ b o, h.get? b = some o → h'.get? b = some o) (hD : h'.get? D = some o) (e : D = h.objs.size) : News h₀ L h' ((D, o) :: news) := by
  subst e
  intro q hq
  rcases List.mem_cons.mp hq with rfl | hq
  · refine ⟨hD, ?_, ?_⟩
    · obtain ⟨oL, _, _, hL, _⟩ := F.ns
      exact Nat.ne_of_gt (Heap.lt_size hL)
    · exact next_is_new F
  · exact ⟨hk _ _ (N q hq).1, (N q hq).2⟩
theorem item_bytesL {value slice : PySem.Expr} {b : List UInt8} {i : Int} {t ui : Tok} {Q : Value → Shared → Prop} (hz : b.length ≤ 16777216) (h0 : 0 ≤ i) (h1 : i < (b.length : Int))
    (h : ∀ t' k, Q (.int ((b.getD i.toNat 0).toNat : Nat) t') { s with toks := k })
    (hs : subscripted slice false (.bytes b.toArray t) (.int i ui) = operate [.bytes b.toArray t, .int i ui] (getItem (.bytes b.toArray t) (.int i ui)) := by with_unfolding_all rfl)
    (ht : ∀ r, letTemporaryGo value (.bytes b.toArray t) r = pure () := by intro _; with_unfolding_all rfl) : wpAny (model prog w) A (subscriptTail value slice (.bytes b.toArray t) (.int i ui)) Q E s :=
  KBy.item_N (by omega) h0 h1 (h _ _) hs ht
end
theorem small_of {n c : Int} (h0 : 0 ≤ n) (h1 : n ≤ 1000000) (h2 : 0 < c) (h3 : c ≤ 1000000) (hn : 0 ≤ Builtin.Range.rangeSize 0 n c) (hn' : Builtin.Range.rangeSize 0 n c ≤ 1000000) : Builtin.Range.small 0 n c = true := by
  unfold Builtin.Range.small Builtin.Range.rangeFitsLong
  simp only [Bool.and_eq_true, decide_eq_true_eq, Bool.or_eq_true]
  refine ⟨⟨⟨⟨?_, ?_⟩, ?_⟩, ?_⟩, .inr ?_⟩
  · omega
  · omega
  · omega
  · omega
  · rw [if_pos h2]
    simp only [Bool.and_eq_true, decide_eq_true_eq]
    omega
theorem rangeSize_mul {q wd : Nat} (hw : 0 < wd) : Builtin.Range.rangeSize 0 ((q * wd : Nat) : Int) (wd : Int) = (q : Int) := by
  unfold Builtin.Range.rangeSize
  rw [if_pos (by omega)]
  cases q with
  | zero => simp
  | succ q =>
    have h1 : (0 : Int) < (((q + 1) * wd : Nat) : Int) := by
      have : 0 < (q + 1) * wd := Nat.mul_pos (Nat.succ_pos q) hw
      omega
    rw [if_pos h1]
    have e : ((((q + 1) * wd : Nat) : Int) - 0 - 1) = ((wd - 1 : Nat) : Int) + (wd : Int) * (q : Int) := by
      rw [Nat.succ_mul]
      push_cast
      rw [Int.mul_comm (wd : Int) (q : Int)]
      omega
    rw [e, Int.add_mul_ediv_left _ _ (by omega)]
    have h2 : ((wd - 1 : Nat) : Int) / (wd : Int) = 0 := Int.ediv_eq_zero_of_lt (by omega) (by omega)
    rw [h2]
    omega
theorem rangeSize_one {n : Nat} : Builtin.Range.rangeSize 0 (n : Int) 1 = (n : Int) := by
  have := rangeSize_mul (q := n) (wd := 1) (by omega)
  simpa using this
theorem inner_eq {wd i j : Nat} {b : List UInt8} {k r : Int} (hj : j < wd) (ek : k = ((i * wd + wd - 1 - j : Nat) : Int)) (er : r = ((i * wd + j : Nat) : Int)) :
    fillB wd b (filled wd i (j + 1)) = (fillB wd b (filled wd i j)).set k.toNat ((((b.getD r.toNat 0).toNat : Nat) : Int).toNat.toUInt8) := by
  subst ek er
  rw [Int.toNat_natCast, Int.toNat_natCast, Int.toNat_natCast]
  refine (fillB_set ?_ fun k _ => filled_step wd i j k hj).symm
  rw [swAt_place hj]
  simp
local macro_rules | `(tactic| walk_at "my:idx") => `(tactic| first | (omega) | ((rw [fillB_len]; omega)) | ((simp only [fillB_len] at *; omega)) | (exact Int.ofNat_lt.mpr (UInt8.toNat_lt _)))
section
variable {w : World} {mean : ExcName → Option Value} {mg mb : Str → Option Value} {dp un : Nat} {gd : Option (List Code)} {cn : Str} {cs : Scope} {a : Addr} {ccd : Value} {cl : List (Str × Addr)} {outer : List Env} {A₀ : Around} {base h₀ : Heap} {L : Addr} {m : Str → Option Value} {news : List (Addr × Obj)} {s : Shared} {Q E : Value → Shared → Prop}
theorem byteswap_call {b : List UInt8} {t u : Tok} {wd : Nat}
    (B : Below A₀ base outer h₀) (F : Fr h₀ L s.heap m) (X : (hd.heap_39 w.params).In h₀) (T : Top hd.view_39 (looseW hd.view_39 []) mean mg mb h₀) (hk : cs.kind = .function)
    (hd1 : dp + 3 < recursionLimit) (hu : un + 60 < cLine) (hz : b.length ≤ 100000) (hw0 : 0 < wd) (hwz : wd ≤ 100000) (q : Nat) (hq : b.length = q * wd)
    (ret : ∀ (t : Tok) (h' : Heap) (tk' : Nat), (∀ b o, s.heap.get? b = some o → h'.get? b = some o) → Q (.bytes (swapB wd b).toArray t) { s with heap := h', toks := tk' }) :
    wpG (model Challenge.rw_nq0013_02.row.prog w) (ktrTop dp un gd cn cs L a ccd cl outer) (call (.ref 28) [.bytes b.toArray t, .int (wd : Int) u]) Q E s := by
  w_top off
  revert X
  k_fill
  intro X
  refine wpG_call ?_
  k_dflt ((refine' code_defGG ?k1 ?k2 ?k3 ?k5 ?kA ?kF ?kK ?k6 ?k7 ?k8 ?k9 ?kB ?_ ?c2 ?c3 ?c4 ?c5; (case kA => exact rfl); (case kF => exact rfl); (case kK => assumption); (case k1 => k_asm); (case k2 => k_asm); (case k3 => k_asm); (case k5 => k_asm); (case k6 => k_is); (case k7 => k_is); (case k8 => ktr_room); (case k9 => exact BindsTo.of_eq rfl); (case c5 => decide); (case kB => exact locs rfl); (case c2 => exact rfl); (case c3 => exact rfl); (case c4 => exact rfl); k_whole; intro g' L' h' FG' F' N' B' X' T' hG'; (try dsimp only); (try k_lift B')))
  refine wpG_execs_cons (wpG_Assign_Name (wpG_Call_Name ?_))
  (repeat' (first | (k_unfold; (try dsimp only)) | ((((fail_if_success (with_reducible show InvPostN _ _ _ _ _ _ _ _ _)); (fail_if_success (with_reducible show InvEndN _ _ _ _ _ _ _)); (fail_if_success (with_reducible show wpG _ _ _ _ _ _)); (fail_if_success (with_reducible show wpAny _ _ (pyIter (Value.ref _)) _ _ _)))); walk1) | ((((fail_if_success (with_reducible show InvPostN _ _ _ _ _ _ _ _ _)); (fail_if_success (with_reducible show InvEndN _ _ _ _ _ _ _)); (fail_if_success (with_reducible show wpG _ _ _ _ _ _)); (fail_if_success (with_reducible show wpAny _ _ (pyIter (Value.ref _)) _ _ _)))); dsimp only; walk1) | (leave1; walk_say "STEP leave1"; try dsimp only) | fail "no step"))
  refine wpG_call1 (P := fun _ => True) (fun _ _ => ⟨.machine, .inr (.inl rfl), Looks.of_pure rfl⟩) (wpG_of ?_)
  (repeat' (first | (k_unfold; (try dsimp only)) | ((((fail_if_success (with_reducible show InvPostN _ _ _ _ _ _ _ _ _)); (fail_if_success (with_reducible show InvEndN _ _ _ _ _ _ _)); (fail_if_success (with_reducible show wpG _ _ _ _ _ _)); (fail_if_success (with_reducible show wpAny _ _ (pyIter (Value.ref _)) _ _ _)))); (first | (with_reducible (k_here; (with_reducible show wpAny _ _ (call (Value.builtin "len") [Value.bytes (List.toArray _) _]) _ _ _); (refine len_bytesL (by walk_at "my:b_size") ?_); intro _ _)) | walk1)) | ((((fail_if_success (with_reducible show InvPostN _ _ _ _ _ _ _ _ _)); (fail_if_success (with_reducible show InvEndN _ _ _ _ _ _ _)); (fail_if_success (with_reducible show wpG _ _ _ _ _ _)); (fail_if_success (with_reducible show wpAny _ _ (pyIter (Value.ref _)) _ _ _)))); dsimp only; (first | (with_reducible (k_here; (with_reducible show wpAny _ _ (call (Value.builtin "len") [Value.bytes (List.toArray _) _]) _ _ _); (refine len_bytesL (by walk_at "my:b_size") ?_); intro _ _)) | walk1)) | (leave1; walk_say "STEP leave1"; try dsimp only) | fail "no step"))
  · trivial
  (with_reducible rename Fr _ _ _ _ => kF)
  (with_reducible rename News _ _ _ _ => kN)
  refine call_ba (by omega) (by omega) fun D9 h9 hD9 eD9 keep9 => ?_
  have F9 := Fr.keeps kF keep9
  have N9 := news_push kF kN keep9 hD9 eD9
  clear eD9 hD9 keep9 kF kN
  (repeat' (first | (k_unfold; (try dsimp only)) | ((((fail_if_success (with_reducible show InvPostN _ _ _ _ _ _ _ _ _)); (fail_if_success (with_reducible show InvEndN _ _ _ _ _ _ _)); (fail_if_success (with_reducible show wpG _ _ _ _ _ _)); (fail_if_success (with_reducible show wpAny _ _ (pyIter (Value.ref _)) _ _ _)))); walk1) | ((((fail_if_success (with_reducible show InvPostN _ _ _ _ _ _ _ _ _)); (fail_if_success (with_reducible show InvEndN _ _ _ _ _ _ _)); (fail_if_success (with_reducible show wpG _ _ _ _ _ _)); (fail_if_success (with_reducible show wpAny _ _ (pyIter (Value.ref _)) _ _ _)))); dsimp only; walk1) | (leave1; walk_say "STEP leave1"; try dsimp only) | fail "no step"))
  dsimp only
  refine wpG_of ?_
  (repeat' (first | (k_unfold; (try dsimp only)) | ((((fail_if_success (with_reducible show InvPostN _ _ _ _ _ _ _ _ _)); (fail_if_success (with_reducible show InvEndN _ _ _ _ _ _ _)); (fail_if_success (with_reducible show wpG _ _ _ _ _ _)); (fail_if_success (with_reducible show wpAny _ _ (pyIter (Value.ref _)) _ _ _)))); (first | (with_reducible (k_here; (with_reducible show wpAny _ _ (call (Value.builtin "len") [Value.bytes (List.toArray _) _]) _ _ _); (refine len_bytesL (by walk_at "my:b_size") ?_); intro _ _)) | walk1)) | ((((fail_if_success (with_reducible show InvPostN _ _ _ _ _ _ _ _ _)); (fail_if_success (with_reducible show InvEndN _ _ _ _ _ _ _)); (fail_if_success (with_reducible show wpG _ _ _ _ _ _)); (fail_if_success (with_reducible show wpAny _ _ (pyIter (Value.ref _)) _ _ _)))); dsimp only; (first | (with_reducible (k_here; (with_reducible show wpAny _ _ (call (Value.builtin "len") [Value.bytes (List.toArray _) _]) _ _ _); (refine len_bytesL (by walk_at "my:b_size") ?_); intro _ _)) | walk1)) | (leave1; walk_say "STEP leave1"; try dsimp only) | fail "no step"))
  (with_reducible rename IsRange _ _ _ _ _ _ _ _ => kR)
  (with_reducible rename Fr _ _ _ _ => kF)
  (with_reducible rename News _ _ _ _ => kN)
  rw [Int.toNat_natCast, ← fillB_zero (wd := wd) (fun k _ => filled_start wd k)] at kN
  have hqz : q ≤ 100000 := by
    have := Nat.mul_le_mul (Nat.le_refl q) hw0
    omega
  have hrs : Builtin.Range.rangeSize 0 (b.length : Int) (wd : Int) = (q : Int) := by rw [hq]; exact rangeSize_mul hw0
  refine iter_ba (n := q) (Str.ofString "j") (fun i => fillB wd b (filled wd i 0)) rfl kR (small_of (by omega) (by omega) (by omega) (by omega) (by omega) (by omega)) hrs kF kN (fun p hp => nomatch hp) ?_ ?_
  · intro i ti ui hi tki own hiq hoff Fi Ni
    have hib : i * wd + wd ≤ b.length := by
      rw [hq, ← Nat.succ_mul]
      exact Nat.mul_le_mul_right wd hiq
    (repeat' (first | (k_unfold; (try dsimp only)) | ((((fail_if_success (with_reducible show InvPostN _ _ _ _ _ _ _ _ _)); (fail_if_success (with_reducible show InvEndN _ _ _ _ _ _ _)); (fail_if_success (with_reducible show wpG _ _ _ _ _ _)); (fail_if_success (with_reducible show wpAny _ _ (pyIter (Value.ref _)) _ _ _)))); walk1) | ((((fail_if_success (with_reducible show InvPostN _ _ _ _ _ _ _ _ _)); (fail_if_success (with_reducible show InvEndN _ _ _ _ _ _ _)); (fail_if_success (with_reducible show wpG _ _ _ _ _ _)); (fail_if_success (with_reducible show wpAny _ _ (pyIter (Value.ref _)) _ _ _)))); dsimp only; walk1) | (leave1; walk_say "STEP leave1"; try dsimp only) | fail "no step"))
    (with_reducible rename IsRange _ _ _ _ _ _ _ _ => kRi)
    (with_reducible rename Fr _ _ _ _ => kFi)
    (with_reducible rename News _ _ _ _ => kNi)
    refine iter_ba (n := wd) (Str.ofString "j") (fun j => fillB wd b (filled wd i j)) rfl kRi (small_of (by omega) (by omega) (by omega) (by omega) (by rw [rangeSize_one]; omega) (by rw [rangeSize_one]; omega)) rangeSize_one kFi kNi (fun p hp => hoff p hp D9 (by simp)) ?_ ?_
    · intro j tj uj hj tkj ownj hjw hoffj Fj Nj
      (repeat' (first | (k_unfold; (try dsimp only)) | ((((fail_if_success (with_reducible show InvPostN _ _ _ _ _ _ _ _ _)); (fail_if_success (with_reducible show InvEndN _ _ _ _ _ _ _)); (fail_if_success (with_reducible show wpG _ _ _ _ _ _)); (fail_if_success (with_reducible show wpAny _ _ (pyIter (Value.ref _)) _ _ _)))); (first | (with_reducible (k_here; (with_reducible show wpAny _ _ (subscriptTail _ _ (Value.bytes (List.toArray _) _) (Value.int _ _)) _ _ _); (refine item_bytesL (by walk_at "my:b_size") (by walk_at "my:idx") (by walk_at "my:idx") ?_); intro _ _)) | (with_reducible (k_here; (with_reducible show wpAny _ _ (setItem (Value.ref _) (Value.int _ _) (Value.int _ _)) _ _ _); k_dflt (refine' setItem_baK ?F ?N ?U ?a ?b ?z ?c ?d ?_; (case F => k_asm); (case N => k_asm); (case U => k_upd); (case a => walk_at "my:idx"); (case b => walk_at "my:idx"); (case z => walk_at "my:idx"); (case c => omega); (case d => walk_at "my:idx")); intro h' F' N'; (try dsimp only at N'); (try k_sweep))) | walk1)) | ((((fail_if_success (with_reducible show InvPostN _ _ _ _ _ _ _ _ _)); (fail_if_success (with_reducible show InvEndN _ _ _ _ _ _ _)); (fail_if_success (with_reducible show wpG _ _ _ _ _ _)); (fail_if_success (with_reducible show wpAny _ _ (pyIter (Value.ref _)) _ _ _)))); dsimp only; (first | (with_reducible (k_here; (with_reducible show wpAny _ _ (subscriptTail _ _ (Value.bytes (List.toArray _) _) (Value.int _ _)) _ _ _); (refine item_bytesL (by walk_at "my:b_size") (by walk_at "my:idx") (by walk_at "my:idx") ?_); intro _ _)) | (with_reducible (k_here; (with_reducible show wpAny _ _ (setItem (Value.ref _) (Value.int _ _) (Value.int _ _)) _ _ _); k_dflt (refine' setItem_baK ?F ?N ?U ?a ?b ?z ?c ?d ?_; (case F => k_asm); (case N => k_asm); (case U => k_upd); (case a => walk_at "my:idx"); (case b => walk_at "my:idx"); (case z => walk_at "my:idx"); (case c => omega); (case d => walk_at "my:idx")); intro h' F' N'; (try dsimp only at N'); (try k_sweep))) | walk1)) | (leave1; walk_say "STEP leave1"; try dsimp only) | fail "no step"))
      exact ba_end (s₁ := ⟨hj, s.gens, s.drawn, tkj, s.os⟩) (by k_asm) (by assumption) (fun z h1 h2 => by simp only [if_neg h1]) (inner_eq hjw (by omega) (by omega)) (.inl rfl)
    · intro uj hj tkj Fj Nj
      (repeat' (first | (k_unfold; (try dsimp only)) | ((((fail_if_success (with_reducible show InvPostN _ _ _ _ _ _ _ _ _)); (fail_if_success (with_reducible show InvEndN _ _ _ _ _ _ _)); (fail_if_success (with_reducible show wpG _ _ _ _ _ _)); (fail_if_success (with_reducible show wpAny _ _ (pyIter (Value.ref _)) _ _ _)))); walk1) | ((((fail_if_success (with_reducible show InvPostN _ _ _ _ _ _ _ _ _)); (fail_if_success (with_reducible show InvEndN _ _ _ _ _ _ _)); (fail_if_success (with_reducible show wpG _ _ _ _ _ _)); (fail_if_success (with_reducible show wpAny _ _ (pyIter (Value.ref _)) _ _ _)))); dsimp only; walk1) | (leave1; walk_say "STEP leave1"; try dsimp only) | fail "no step"))
      exact ba_end (s₁ := ⟨hi, s.gens, s.drawn, tki, s.os⟩) (by k_asm) (by assumption) (fun z h1 h2 => by simp only [if_neg h1, if_neg h2]) (fillB_congr fun k _ => (filled_word wd i k).symm) (.inl rfl)
  · intro ui hi tki Fi Ni
    (repeat' (first | (k_unfold; (try dsimp only)) | ((((fail_if_success (with_reducible show InvPostN _ _ _ _ _ _ _ _ _)); (fail_if_success (with_reducible show InvEndN _ _ _ _ _ _ _)); (fail_if_success (with_reducible show wpG _ _ _ _ _ _)); (fail_if_success (with_reducible show wpAny _ _ (pyIter (Value.ref _)) _ _ _)))); (first | (with_reducible (k_here; (with_reducible show wpAny _ _ (call (Value.type _) [Value.ref _]) _ _ _); k_dflt (refine' call_bytes_ba ?o ?z ?_; (case o => exact (News.get (by k_asm) (by k_mem))); (case z => walk_at "my:idx")); intro _ _)) | walk1)) | ((((fail_if_success (with_reducible show InvPostN _ _ _ _ _ _ _ _ _)); (fail_if_success (with_reducible show InvEndN _ _ _ _ _ _ _)); (fail_if_success (with_reducible show wpG _ _ _ _ _ _)); (fail_if_success (with_reducible show wpAny _ _ (pyIter (Value.ref _)) _ _ _)))); dsimp only; (first | (with_reducible (k_here; (with_reducible show wpAny _ _ (call (Value.type _) [Value.ref _]) _ _ _); k_dflt (refine' call_bytes_ba ?o ?z ?_; (case o => exact (News.get (by k_asm) (by k_mem))); (case z => walk_at "my:idx")); intro _ _)) | walk1)) | (leave1; walk_say "STEP leave1"; try dsimp only) | fail "no step"))
    exact ret_bytes (s := s) ret (fillB_all fun k hk => by unfold filled; simp only [Bool.or_eq_true, decide_eq_true_eq]; left; omega).symm (by (exact gsub_nil (by assumption) (by assumption)))
end
noncomputable def letterB (k : Int) : List UInt8 := cutL [97, 98, 99, 100, 101, 102, 103] (some k) (some (k + 1))
noncomputable def stepB (k x : Int) : List UInt8 := if x.fmod 5 < 2 then [46, 46] else if x.fmod 5 = 4 then [46] else if x.fdiv 5 = 0 then letterB k else if x.fdiv 5 = 1 then letterB k ++ [46] else [46] ++ letterB k
section
variable {k x : Int}
theorem stepB_a (h : x.fmod 5 < 2) : stepB k x = [46, 46] := by unfold stepB; rw [if_pos h]
theorem stepB_b (h : ¬ x.fmod 5 < 2) (h' : x.fmod 5 = 4) : stepB k x = [46] := by unfold stepB; rw [if_neg h, if_pos h']
theorem stepB_c (h : ¬ x.fmod 5 < 2) (h' : x.fmod 5 ≠ 4) (e : x.fdiv 5 = 0) : stepB k x = letterB k := by unfold stepB; rw [if_neg h, if_neg h', if_pos e]
theorem stepB_d (h : ¬ x.fmod 5 < 2) (h' : x.fmod 5 ≠ 4) (e : x.fdiv 5 = 1) : stepB k x = letterB k ++ [46] := by unfold stepB; rw [if_neg h, if_neg h', if_neg (by omega), if_pos e]
theorem stepB_e (h : ¬ x.fmod 5 < 2) (h' : x.fmod 5 ≠ 4) (e : x.fdiv 5 = 2) : stepB k x = [46] ++ letterB k := by unfold stepB; rw [if_neg h, if_neg h', if_neg (by omega), if_neg (by omega)]
end
section
variable {w : World} {mean : ExcName → Option Value} {mg mb : Str → Option Value} {dp un : Nat} {gd : Option (List Code)} {cn : Str} {cs : Scope} {a : Addr} {ccd : Value} {cl : List (Str × Addr)} {outer : List Env} {A₀ : Around} {base h₀ : Heap} {L : Addr} {m : Str → Option Value} {news : List (Addr × Obj)} {s : Shared} {Q E : Value → Shared → Prop}
theorem step_call {k x : Int} {t u : Tok}
    (B : Below A₀ base outer h₀) (F : Fr h₀ L s.heap m) (X : (hd.heap_39 w.params).In h₀) (T : Top hd.view_39 (looseW hd.view_39 []) mean mg mb h₀) (hk : cs.kind = .function)
    (hd1 : dp + 3 < recursionLimit) (hu : un + 60 < cLine) (hk0 : 0 ≤ k) (hk1 : k < 7) (hx0 : 0 ≤ x) (hx1 : x < 15)
    (ret : ∀ (t : Tok) (h' : Heap) (tk' : Nat), (∀ b o, s.heap.get? b = some o → h'.get? b = some o) → Q (.bytes (stepB k x).toArray t) { s with heap := h', toks := tk' }) :
    wpAny (model Challenge.rw_nq0013_02.row.prog w) (ktrTop dp un gd cn cs L a ccd cl outer) (call (.ref 122) [.int k t, .int x u]) Q E s := by
  w_top off
  revert X
  k_fill
  intro X
  refine wpAny_call ?_
  k_dflt ((refine' code_defG ?k1 ?k2 ?k3 News.nil ?k5 ?kA ?kF ?kK ?k6 ?k7 ?k8 ?k9 ?kB ?_ ?c2 ?c3 ?c4 ?c5; (case kA => exact rfl); (case kF => exact rfl); (case kK => assumption); (case k1 => k_asm); (case k2 => k_asm); (case k3 => k_asm); (case k5 => k_asm); (case k6 => k_is); (case k7 => k_is); (case k8 => ktr_room); (case k9 => exact BindsTo.of_eq rfl); (case c5 => decide); (case kB => exact locs rfl); (case c2 => exact rfl); (case c3 => exact rfl); (case c4 => exact rfl); k_whole; intro g' L' h' FG' F' N' B' X' T' hG'; (try dsimp only); (try k_lift B'); (try k_fold)))
  have hlet : (cutL ([97, 98, 99, 100, 101, 102, 103] : List UInt8) (some k) (some (k + 1))).length ≤ 7 := cutL_le _ _ _
  (repeat' (first | (k_unfold; (try dsimp only)) | ((((fail_if_success (with_reducible show InvPostN _ _ _ _ _ _ _ _ _)); (fail_if_success (with_reducible show InvEndN _ _ _ _ _ _ _)); (fail_if_success (with_reducible show wpG _ _ _ _ _ _)); (fail_if_success (with_reducible show wpAny _ _ (pyIter (Value.ref _)) _ _ _)))); (first | (with_reducible (k_here; (with_reducible show wpAny _ _ (subscriptTail _ (Expr.Slice _ _ none _) (Value.bytes (List.toArray _) _) (Value.ref _)) _ _ _); (with_reducible rename Fr _ _ _ _ => F'); (with_reducible rename News _ _ _ _ => N'); (refine slice_any (s := ⟨_, _, _, _, _⟩) F' N' (by constructor) (by constructor) (by walk_at "my:b_size") ?_); intro _ _ _ _ _)) | (with_reducible (k_here; (with_reducible show wpAny _ _ (binaryOp Operator.Add (Value.bytes (List.toArray _) _) (Value.bytes (List.toArray _) _)) _ _ _); k_dflt (refine' bytes_add_K ?z rfl ?_; (case z => (simp only [List.size_toArray, List.length_cons, List.length_nil]; first | omega | walk_at "my:b_size")); k_whole); intro t9 k9)) | walk1)) | ((((fail_if_success (with_reducible show InvPostN _ _ _ _ _ _ _ _ _)); (fail_if_success (with_reducible show InvEndN _ _ _ _ _ _ _)); (fail_if_success (with_reducible show wpG _ _ _ _ _ _)); (fail_if_success (with_reducible show wpAny _ _ (pyIter (Value.ref _)) _ _ _)))); dsimp only; (first | (with_reducible (k_here; (with_reducible show wpAny _ _ (subscriptTail _ (Expr.Slice _ _ none _) (Value.bytes (List.toArray _) _) (Value.ref _)) _ _ _); (with_reducible rename Fr _ _ _ _ => F'); (with_reducible rename News _ _ _ _ => N'); (refine slice_any (s := ⟨_, _, _, _, _⟩) F' N' (by constructor) (by constructor) (by walk_at "my:b_size") ?_); intro _ _ _ _ _)) | (with_reducible (k_here; (with_reducible show wpAny _ _ (binaryOp Operator.Add (Value.bytes (List.toArray _) _) (Value.bytes (List.toArray _) _)) _ _ _); k_dflt (refine' bytes_add_K ?z rfl ?_; (case z => (simp only [List.size_toArray, List.length_cons, List.length_nil]; first | omega | walk_at "my:b_size")); k_whole); intro t9 k9)) | walk1)) | (leave1; walk_say "STEP leave1"; try dsimp only) | fail "no step"))
  all_goals exact ret_bytes ret (by first | exact stepB_a (by assumption) | exact stepB_b (by assumption) (by assumption) | exact stepB_c (by assumption) (by assumption) (by assumption) | exact stepB_d (by assumption) (by assumption) (by assumption) | exact stepB_e (by assumption) (by assumption) (by assumption)) (by (exact gsub_nil (by assumption) (by assumption)))
theorem turned_call {b : List UInt8} {t : Tok}
    (B : Below A₀ base outer h₀) (F : Fr h₀ L s.heap m) (X : (hd.heap_39 w.params).In h₀) (T : Top hd.view_39 (looseW hd.view_39 []) mean mg mb h₀) (hk : cs.kind = .function)
    (hd1 : dp + 5 < recursionLimit) (hu : un + 80 < cLine) (hz : b.length ≤ 100000)
    (ret : ∀ (t : Tok) (h' : Heap) (tk' : Nat), (∀ b o, s.heap.get? b = some o → h'.get? b = some o) → Q (.bytes (swapB (max 1 b.length) b).toArray t) { s with heap := h', toks := tk' }) :
    wpG (model Challenge.rw_nq0013_02.row.prog w) (ktrTop dp un gd cn cs L a ccd cl outer) (call (.ref 129) [.bytes b.toArray t]) Q E s := by
  w_top off
  revert X
  k_fill
  intro X
  refine wpG_call ?_
  k_dflt ((refine' code_defGG ?k1 ?k2 ?k3 ?k5 ?kA ?kF ?kK ?k6 ?k7 ?k8 ?k9 ?kB ?_ ?c2 ?c3 ?c4 ?c5; (case kA => exact rfl); (case kF => exact rfl); (case kK => assumption); (case k1 => k_asm); (case k2 => k_asm); (case k3 => k_asm); (case k5 => k_asm); (case k6 => k_is); (case k7 => k_is); (case k8 => ktr_room); (case k9 => exact BindsTo.of_eq rfl); (case c5 => decide); (case kB => exact locs rfl); (case c2 => exact rfl); (case c3 => exact rfl); (case c4 => exact rfl); k_whole; intro g' L' h' FG' F' N' B' X' T' hG'; (try dsimp only); (try k_lift B')))
  refine wpG_execs_cons (wpG_Return (wpG_Call_Name ?_))
  (repeat' (first | (k_unfold; (try dsimp only)) | ((((fail_if_success (with_reducible show InvPostN _ _ _ _ _ _ _ _ _)); (fail_if_success (with_reducible show InvEndN _ _ _ _ _ _ _)); (fail_if_success (with_reducible show wpG _ _ _ _ _ _)); (fail_if_success (with_reducible show wpAny _ _ (pyIter (Value.ref _)) _ _ _)))); walk1) | ((((fail_if_success (with_reducible show InvPostN _ _ _ _ _ _ _ _ _)); (fail_if_success (with_reducible show InvEndN _ _ _ _ _ _ _)); (fail_if_success (with_reducible show wpG _ _ _ _ _ _)); (fail_if_success (with_reducible show wpAny _ _ (pyIter (Value.ref _)) _ _ _)))); dsimp only; walk1) | (leave1; walk_say "STEP leave1"; try dsimp only) | fail "no step"))
  refine wpG_call2 (P := fun h => (hd.heap_39 w.params).In h) (fun h X => keeps_K (by k_is) h X) (wpG_of ?_)
  (repeat' (first | (k_unfold; (try dsimp only)) | ((((fail_if_success (with_reducible show InvPostN _ _ _ _ _ _ _ _ _)); (fail_if_success (with_reducible show InvEndN _ _ _ _ _ _ _)); (fail_if_success (with_reducible show wpG _ _ _ _ _ _)); (fail_if_success (with_reducible show wpAny _ _ (pyIter (Value.ref _)) _ _ _)))); walk1) | ((((fail_if_success (with_reducible show InvPostN _ _ _ _ _ _ _ _ _)); (fail_if_success (with_reducible show InvEndN _ _ _ _ _ _ _)); (fail_if_success (with_reducible show wpG _ _ _ _ _ _)); (fail_if_success (with_reducible show wpAny _ _ (pyIter (Value.ref _)) _ _ _)))); dsimp only; walk1) | (leave1; walk_say "STEP leave1"; try dsimp only) | fail "no step"))
  refine wpG_of ?_
  (repeat' (first | (k_unfold; (try dsimp only)) | ((((fail_if_success (with_reducible show InvPostN _ _ _ _ _ _ _ _ _)); (fail_if_success (with_reducible show InvEndN _ _ _ _ _ _ _)); (fail_if_success (with_reducible show wpG _ _ _ _ _ _)); (fail_if_success (with_reducible show wpAny _ _ (pyIter (Value.ref _)) _ _ _)))); (first | (with_reducible (k_here; (with_reducible show wpAny _ _ (call (Value.builtin "len") [Value.bytes (List.toArray _) _]) _ _ _); (refine len_bytesL (by walk_at "my:b_size") ?_); intro _ _)) | walk1)) | ((((fail_if_success (with_reducible show InvPostN _ _ _ _ _ _ _ _ _)); (fail_if_success (with_reducible show InvEndN _ _ _ _ _ _ _)); (fail_if_success (with_reducible show wpG _ _ _ _ _ _)); (fail_if_success (with_reducible show wpAny _ _ (pyIter (Value.ref _)) _ _ _)))); dsimp only; (first | (with_reducible (k_here; (with_reducible show wpAny _ _ (call (Value.builtin "len") [Value.bytes (List.toArray _) _]) _ _ _); (refine len_bytesL (by walk_at "my:b_size") ?_); intro _ _)) | walk1)) | (leave1; walk_say "STEP leave1"; try dsimp only) | fail "no step"))
  have e : (if (b.length : Int) > 1 then (b.length : Int) else 1) = ((max 1 b.length : Nat) : Int) := by split <;> omega
  rw [e]
  refine byteswap_call (by k_asm) (by k_asm) (by k_asm) (by k_asm) rfl (by ktr_room) (by ktr_units) hz (by omega) (by omega) (min 1 b.length) ?_ ?_
  · by_cases h : b.length = 0
    · rw [h]; rfl
    · have h1 : min 1 b.length = 1 := by omega
      have h2 : max 1 b.length = b.length := by omega
      rw [h1, h2, Nat.one_mul]
  · intro t9 h9 tk9 keep9
    exact ret t9 h9 tk9 fun b o e => keep9 b o (gsub_nil (by assumption) (by assumption) b o e)
end
section
variable {prog : Program} {w : World} {A : Around} {E : Value → Shared → Prop} {s : Shared} {env : Env} {h₀ : Heap} {x : Str} {body : List Stmt} {Q : Flow → Shared → Prop} {m₀ : Str → Option Value}
noncomputable abbrev IntJ (x y : Str) (m₀ : Str → Option Value) (rest : List (Addr × Obj)) (v : Int) (P : Prop) (m' : Str → Option Value) (nx : List (Addr × Obj)) : Prop :=
  nx = rest ∧ (∃ t, m' y = some (.int v t)) ∧ (∀ z, z ≠ x → z ≠ y → m' z = m₀ z) ∧ P
theorem int_map {x y : Str} {m₁ m₀ : Str → Option Value} {v : Option Value} {k : Value} (hy : m₁ y = some k) (hm : ∀ z, z ≠ x → z ≠ y → m₁ z = m₀ z) :
    (fun z => if z = x then v else m₁ z) = fun z => if z = x then v else if z = y then some k else m₀ z := by
  funext z
  by_cases h1 : z = x
  · simp [h1]
  · simp only [if_neg h1]
    by_cases h2 : z = y
    · subst h2; simp [hy]
    · simp only [if_neg h2]; exact hm z h1 h2
theorem iter_int {r : Addr} {a b c : Int} {t₀ u₀ v₀ ty : Tok} {n : Nat} {rest : List (Addr × Obj)} (y : Str) (f : Nat → Int) (P : Nat → Prop)
    (hh : A.handled = none) (hr : IsRange s.heap r a b c t₀ u₀ v₀) (hsmall : Builtin.Range.small a b c = true) (hn : Builtin.Range.rangeSize a b c = (n : Int)) (F : Fr h₀ env.locals s.heap m₀) (N : News h₀ env.locals s.heap rest)
    (hy : m₀ y = some (.int (f 0) ty)) (h0 : P 0)
    (turn : ∀ (i : Nat) (t ty : Tok) (h : Heap) (tk : Nat) (own : List (Addr × Obj)), i < n → OwnOff own (rest.map (·.1)) → P i → Fr h₀ env.locals h (fun z => if z = x then some (.int (a + (i : Int) * c) t) else if z = y then some (.int (f i) ty) else m₀ z) → News h₀ env.locals h (rest ++ own) →
      wpAny (model prog w) A (execs body env) (InvPostN h₀ env.locals (IntJ x y m₀ rest (f (i + 1)) (P (i + 1))) own (rest.map (·.1)) { s with heap := h, toks := tk } Q) E { s with heap := h, toks := tk })
    (done : ∀ (u : Str → Option Value) t h tk, P n → Fr h₀ env.locals h (fun z => if z = x then u z else if z = y then some (.int (f n) t) else m₀ z) → News h₀ env.locals h rest → Q .next { s with heap := h, toks := tk }) :
    wpAny (model prog w) A (pyIter (.ref r)) (fun it s₂ => LoopAtV prog w A h₀ env x body Q E it s₂) E s := by
  refine iter_rng (fun i => IntJ x y m₀ rest (f i) (P i)) hh hr hsmall hn F N ⟨rfl, ⟨ty, hy⟩, fun _ _ _ => rfl, h0⟩ ?_ ?_
  · rintro i t m₁ nx h tk own hi _ hoff ⟨rfl, ⟨t', hy'⟩, hm, hP⟩ F₁ N₁
    rw [int_map hy' hm] at F₁
    exact turn i t t' h tk own hi hoff hP F₁ N₁
  · rintro m₁ nx h tk ⟨rfl, ⟨t', hy'⟩, hm, hP⟩ F₁ N₁
    refine done m₁ t' h tk hP ?_ N₁
    have e : (fun z => if z = x then m₁ z else if z = y then some (Value.int (f n) t') else m₀ z) = m₁ := by
      funext z
      by_cases h1 : z = x
      · simp [h1]
      · simp only [if_neg h1]
        by_cases h2 : z = y
        · subst h2; simp [hy']
        · simp only [if_neg h2]; exact (hm z h1 h2).symm
    rw [e]; exact F₁
theorem int_end {L : Addr} {x y : Str} {m' : Str → Option Value} {own rest news' : List (Addr × Obj)} {v v' : Int} {t : Tok} {P : Prop} {s₁ : Shared} {h' : Heap} {tk' : Nat} {f : Flow}
    (F : Fr h₀ L h' m') (N : News h₀ L h' news') (hs : ∀ p ∈ rest ++ own, p ∈ news') (hy : m' y = some (.int v' t)) (hm : ∀ z, z ≠ x → z ≠ y → m' z = m₀ z) (e : v = v') (hP : P) (hf : f = .next ∨ f = .cont) :
    InvPostN h₀ L (IntJ x y m₀ rest v P) own (rest.map (·.1)) s₁ Q f { s₁ with heap := h', toks := tk' } := by
  subst e
  have key : InvEndN h₀ L (IntJ x y m₀ rest v P) own (rest.map (·.1)) s₁ { s₁ with heap := h', toks := tk' } :=
    ⟨h', tk', m', _, rest, rfl, F, N, fun p hp => hs p (List.mem_append.mpr (.inl hp)), fun p hp => hs p (List.mem_append.mpr (.inr hp)), rfl, rfl, ⟨t, hy⟩, hm, hP⟩
  rcases hf with rfl | rfl <;> exact key
end
noncomputable def hgt (ns : List Int) (place way : Int) : Nat → Int
  | 0 => 1
  | j + 1 => hgt ns place way j + ns.getD ((place + way * ((j : Int) + 1)).fmod 7).toNat 0
noncomputable def spanF (ns : List Int) (place way : Int) : Int := match (List.range 6).find? (fun j => hgt ns place way (j + 1) == 0) with
  | some j => (j : Int) + 1
  | none => 7
theorem getD_small {ns : List Int} (h : ∀ n ∈ ns, -1 ≤ n ∧ n ≤ 1) (k : Nat) : -1 ≤ ns.getD k 0 ∧ ns.getD k 0 ≤ 1 := by
  rw [List.getD_eq_getElem?_getD]
  cases e : ns[k]? with
  | none => exact ⟨by decide, by decide⟩
  | some n => exact h n (List.mem_of_getElem? e)
theorem hgt_bound {ns : List Int} (h : ∀ n ∈ ns, -1 ≤ n ∧ n ≤ 1) (place way : Int) : ∀ i : Nat, -(i : Int) ≤ hgt ns place way i - 1 ∧ hgt ns place way i - 1 ≤ (i : Int)
  | 0 => by simp [hgt]
  | i + 1 => by
    have h1 := hgt_bound h place way i
    have h2 := getD_small h ((place + way * ((i : Int) + 1)).fmod 7).toNat
    simp only [hgt]
    omega
theorem hgt_next {ns : List Int} {place way : Int} {i : Nat} : hgt ns place way (i + 1) = hgt ns place way i + ns.getD ((place + way * (1 + (i : Int) * 1)).fmod 7).toNat 0 := by
  rw [show (1 + (i : Int) * 1) = (i : Int) + 1 from by omega]
  rfl
theorem spanF_some {ns : List Int} {place way : Int} {i : Nat} (hi : i < 6) (hP : ∀ j, j < i → hgt ns place way (j + 1) ≠ 0) (h : hgt ns place way (i + 1) = 0) : spanF ns place way = 1 + (i : Int) * 1 := by
  unfold spanF
  have e : (List.range 6).find? (fun j => hgt ns place way (j + 1) == 0) = some i := by
    rw [List.find?_eq_some_iff_append]
    refine ⟨by simp [h], List.range i, (List.range (6 - (i + 1))).map (· + (i + 1)), ?_, ?_⟩
    · have : 6 = i + 1 + (6 - (i + 1)) := by omega
      rw [this, List.range_add, List.range_succ]
      simp
      intro a _
      omega
    · intro j hj
      simp [hP j (List.mem_range.mp hj)]
  rw [e]
  show (i : Int) + 1 = _
  omega
theorem spanF_none {ns : List Int} {place way : Int} (hP : ∀ j, j < 6 → hgt ns place way (j + 1) ≠ 0) : spanF ns place way = 7 := by
  unfold spanF
  have e : (List.range 6).find? (fun j => hgt ns place way (j + 1) == 0) = none := by
    rw [List.find?_eq_none]
    intro j hj
    simp [hP j (List.mem_range.mp hj)]
  rw [e]
theorem ret_int {s : Shared} {Q : Value → Shared → Prop} {r r' : Int} {h' : Heap} {tk' : Nat} {t : Tok} (ret : ∀ (t : Tok) (h' : Heap) (tk' : Nat), (∀ b o, s.heap.get? b = some o → h'.get? b = some o) → Q (.int r t) { s with heap := h', toks := tk' })
    (e : r = r') (hk : ∀ b o, s.heap.get? b = some o → h'.get? b = some o) : Q (.int r' t) { s with heap := h', toks := tk' } := by
  subst e
  exact ret t h' tk' hk
section
variable {w : World} {mean : ExcName → Option Value} {mg mb : Str → Option Value} {dp un : Nat} {gd : Option (List Code)} {cn : Str} {cs : Scope} {a : Addr} {ccd : Value} {cl : List (Str × Addr)} {outer : List Env} {A₀ : Around} {base h₀ : Heap} {L : Addr} {m : Str → Option Value} {news : List (Addr × Obj)} {s : Shared} {Q E : Value → Shared → Prop}
theorem span_call {l : Addr} {vs : List Value} {ns : List Int} {place way : Int} {t u : Tok}
    (B : Below A₀ base outer h₀) (F : Fr h₀ L s.heap m) (X : (hd.heap_39 w.params).In h₀) (T : Top hd.view_39 (looseW hd.view_39 []) mean mg mb h₀) (hk : cs.kind = .function)
    (hd1 : dp + 3 < recursionLimit) (hu : un + 60 < cLine) (hl : s.heap.IsList l vs.toArray) (hi : IntsAre vs ns) (hlen : ns.length = 7) (hns : ∀ n ∈ ns, -1 ≤ n ∧ n ≤ 1) (hp : 0 ≤ place ∧ place < 7) (hw : way = 1 ∨ way = -1)
    (ret : ∀ (t : Tok) (h' : Heap) (tk' : Nat), (∀ b o, s.heap.get? b = some o → h'.get? b = some o) → Q (.int (spanF ns place way) t) { s with heap := h', toks := tk' }) :
    wpAny (model Challenge.rw_nq0013_02.row.prog w) (ktrTop dp un gd cn cs L a ccd cl outer) (call (.ref 136) [.ref l, .int place t, .int way u]) Q E s := by
  w_top off
  revert X
  k_fill
  intro X
  refine wpAny_call ?_
  k_dflt ((refine' code_defG ?k1 ?k2 ?k3 News.nil ?k5 ?kA ?kF ?kK ?k6 ?k7 ?k8 ?k9 ?kB ?_ ?c2 ?c3 ?c4 ?c5; (case kA => exact rfl); (case kF => exact rfl); (case kK => assumption); (case k1 => k_asm); (case k2 => k_asm); (case k3 => k_asm); (case k5 => k_asm); (case k6 => k_is); (case k7 => k_is); (case k8 => ktr_room); (case k9 => exact BindsTo.of_eq rfl); (case c5 => decide); (case kB => exact locs rfl); (case c2 => exact rfl); (case c3 => exact rfl); (case c4 => exact rfl); k_whole; intro g' L' h' FG' F' N' B' X' T' hG'; (try dsimp only); (try k_lift B'); (try k_fold)))
  (with_reducible rename GSub _ _ _ => hG)
  have hl' := hl.at fun o e => hG _ o e (fun q => by cases q)
  (repeat' (first | (k_unfold; (try dsimp only)) | ((((fail_if_success (with_reducible show InvPostN _ _ _ _ _ _ _ _ _)); (fail_if_success (with_reducible show InvEndN _ _ _ _ _ _ _)); (fail_if_success (with_reducible show wpG _ _ _ _ _ _)); (fail_if_success (with_reducible show wpAny _ _ (pyIter (Value.ref _)) _ _ _)))); walk1) | ((((fail_if_success (with_reducible show InvPostN _ _ _ _ _ _ _ _ _)); (fail_if_success (with_reducible show InvEndN _ _ _ _ _ _ _)); (fail_if_success (with_reducible show wpG _ _ _ _ _ _)); (fail_if_success (with_reducible show wpAny _ _ (pyIter (Value.ref _)) _ _ _)))); dsimp only; walk1) | (leave1; walk_say "STEP leave1"; try dsimp only) | fail "no step"))
  (with_reducible rename IsRange _ _ _ _ _ _ _ _ => kR)
  (with_reducible rename Fr _ _ _ _ => kF)
  (with_reducible rename News _ _ _ _ => kN)
  refine iter_int (n := 6) (rest := []) (Str.ofString "height") (hgt ns place way) (fun i => ∀ j, j < i → hgt ns place way (j + 1) ≠ 0) rfl kR (by decide) (by decide) kF kN rfl (fun j hj => absurd hj (Nat.not_lt_zero j)) ?_ ?_
  · intro i ti tyi hi tki own hi6 hoff hP Fi Ni
    have hhi := hgt_bound hns place way i
    (repeat' (first | (k_unfold; (try dsimp only)) | ((((fail_if_success (with_reducible show InvPostN _ _ _ _ _ _ _ _ _)); (fail_if_success (with_reducible show InvEndN _ _ _ _ _ _ _)); (fail_if_success (with_reducible show wpG _ _ _ _ _ _)); (fail_if_success (with_reducible show wpAny _ _ (pyIter (Value.ref _)) _ _ _)))); walk1) | ((((fail_if_success (with_reducible show InvPostN _ _ _ _ _ _ _ _ _)); (fail_if_success (with_reducible show InvEndN _ _ _ _ _ _ _)); (fail_if_success (with_reducible show wpG _ _ _ _ _ _)); (fail_if_success (with_reducible show wpAny _ _ (pyIter (Value.ref _)) _ _ _)))); dsimp only; walk1) | (leave1; walk_say "STEP leave1"; try dsimp only) | fail "no step"))
    · dsimp only
      unfold InvPostN
      dsimp only
      (repeat' (first | (k_unfold; (try dsimp only)) | ((((fail_if_success (with_reducible show InvPostN _ _ _ _ _ _ _ _ _)); (fail_if_success (with_reducible show InvEndN _ _ _ _ _ _ _)); (fail_if_success (with_reducible show wpG _ _ _ _ _ _)); (fail_if_success (with_reducible show wpAny _ _ (pyIter (Value.ref _)) _ _ _)))); walk1) | ((((fail_if_success (with_reducible show InvPostN _ _ _ _ _ _ _ _ _)); (fail_if_success (with_reducible show InvEndN _ _ _ _ _ _ _)); (fail_if_success (with_reducible show wpG _ _ _ _ _ _)); (fail_if_success (with_reducible show wpAny _ _ (pyIter (Value.ref _)) _ _ _)))); dsimp only; walk1) | (leave1; walk_say "STEP leave1"; try dsimp only) | fail "no step"))
      exact ret_int (s := s) ret (spanF_some hi6 hP (by rw [hgt_next]; assumption)) (by (exact gsub_nil (by assumption) (by assumption)))
    · refine int_end (s₁ := ⟨hi, s.gens, s.drawn, tki, s.os⟩) (by k_asm) (by k_asm) (fun p hp => hp) rfl (fun z h1 h2 => by simp only [if_neg h1, if_neg h2]) hgt_next ?_ (.inl rfl)
      intro j hj
      by_cases e : j = i
      · subst e
        rw [hgt_next]; assumption
      · exact hP j (by omega)
  · intro ui ti hi tki hP Fi Ni
    (repeat' (first | (k_unfold; (try dsimp only)) | ((((fail_if_success (with_reducible show InvPostN _ _ _ _ _ _ _ _ _)); (fail_if_success (with_reducible show InvEndN _ _ _ _ _ _ _)); (fail_if_success (with_reducible show wpG _ _ _ _ _ _)); (fail_if_success (with_reducible show wpAny _ _ (pyIter (Value.ref _)) _ _ _)))); walk1) | ((((fail_if_success (with_reducible show InvPostN _ _ _ _ _ _ _ _ _)); (fail_if_success (with_reducible show InvEndN _ _ _ _ _ _ _)); (fail_if_success (with_reducible show wpG _ _ _ _ _ _)); (fail_if_success (with_reducible show wpAny _ _ (pyIter (Value.ref _)) _ _ _)))); dsimp only; walk1) | (leave1; walk_say "STEP leave1"; try dsimp only) | fail "no step"))
    exact ret_int (s := s) ret (spanF_none hP) (by (exact gsub_nil (by assumption) (by assumption)))
end
section
variable {prog : Program} {w : World} {A : Around} {E : Value → Shared → Prop} {s : Shared} {env : Env} {h₀ : Heap} {x : Str} {body : List Stmt} {Q : Flow → Shared → Prop} {m₀ : Str → Option Value}
noncomputable abbrev LiJ (x y y₂ : Str) (m₀ : Str → Option Value) (D : Addr) (v : Int) (bs : List (List UInt8)) (m' : Str → Option Value) (nx : List (Addr × Obj)) : Prop :=
  (∃ us' n', nx = [(D, listOf us'.toArray n')] ∧ BytesAre us' bs) ∧ (∃ t, m' y = some (.int v t)) ∧ (∀ z, z ≠ x → z ≠ y → z ≠ y₂ → m' z = m₀ z)
theorem li_map {x y y₂ : Str} {m₁ m₀ : Str → Option Value} {v : Option Value} {k : Value} (hy : m₁ y = some k) (hm : ∀ z, z ≠ x → z ≠ y → z ≠ y₂ → m₁ z = m₀ z) :
    (fun z => if z = x then v else m₁ z) = fun z => if z = x then v else if z = y then some k else if z = y₂ then m₁ z else m₀ z := by
  funext z
  by_cases h1 : z = x
  · simp [h1]
  · simp only [if_neg h1]
    by_cases h2 : z = y
    · subst h2; simp [hy]
    · simp only [if_neg h2]
      by_cases h3 : z = y₂
      · simp [h3]
      · simp only [if_neg h3]; exact hm z h1 h2 h3
theorem iter_li {r D : Addr} {a b c : Int} {t₀ u₀ v₀ ty : Tok} {n n₀ : Nat} {us₀ : List Value} {more : List (Addr × Obj)} (y y₂ : Str) (f : Nat → Int) (g : Nat → List (List UInt8))
    (hh : A.handled = none) (hr : IsRange s.heap r a b c t₀ u₀ v₀) (hsmall : Builtin.Range.small a b c = true) (hn : Builtin.Range.rangeSize a b c = (n : Int)) (F : Fr h₀ env.locals s.heap m₀) (N : News h₀ env.locals s.heap ((D, listOf us₀.toArray n₀) :: more))
    (hy : m₀ y = some (.int (f 0) ty)) (hu : BytesAre us₀ (g 0))
    (turn : ∀ (i : Nat) (t ty : Tok) (us : List Value) (nn : Nat) (u : Str → Option Value) (h : Heap) (tk : Nat) (own : List (Addr × Obj)), i < n → OwnOff own [D] → BytesAre us (g i) → Fr h₀ env.locals h (fun z => if z = x then some (.int (a + (i : Int) * c) t) else if z = y then some (.int (f i) ty) else if z = y₂ then u z else m₀ z) → News h₀ env.locals h ((D, listOf us.toArray nn) :: own) →
      wpAny (model prog w) A (execs body env) (InvPostN h₀ env.locals (LiJ x y y₂ m₀ D (f (i + 1)) (g (i + 1))) own [D] { s with heap := h, toks := tk } Q) E { s with heap := h, toks := tk })
    (done : ∀ (u : Str → Option Value) t us nn h tk, BytesAre us (g n) → Fr h₀ env.locals h (fun z => if z = x then u z else if z = y then some (.int (f n) t) else if z = y₂ then u z else m₀ z) → News h₀ env.locals h [(D, listOf us.toArray nn)] → Q .next { s with heap := h, toks := tk }) :
    wpAny (model prog w) A (pyIter (.ref r)) (fun it s₂ => LoopAtV prog w A h₀ env x body Q E it s₂) E s := by
  refine iter_rng (rest := [(D, listOf us₀.toArray n₀)]) (fun i => LiJ x y y₂ m₀ D (f i) (g i)) hh hr hsmall hn F (fun q hq => N q (by rw [List.mem_singleton.mp hq]; exact .head _)) ⟨⟨us₀, n₀, rfl, hu⟩, ⟨ty, hy⟩, fun _ _ _ _ => rfl⟩ ?_ ?_
  · rintro i t m₁ nx h tk own hi _ hoff ⟨⟨us, nn, rfl, hus⟩, ⟨t', hy'⟩, hm⟩ F₁ N₁
    rw [li_map hy' hm] at F₁
    exact turn i t t' us nn m₁ h tk own hi hoff hus F₁ N₁
  · rintro m₁ nx h tk ⟨⟨us, nn, rfl, hus⟩, ⟨t', hy'⟩, hm⟩ F₁ N₁
    refine done m₁ t' us nn h tk hus ?_ N₁
    have e : (fun z => if z = x then m₁ z else if z = y then some (Value.int (f n) t') else if z = y₂ then m₁ z else m₀ z) = m₁ := by
      funext z
      by_cases h1 : z = x
      · simp [h1]
      · simp only [if_neg h1]
        by_cases h2 : z = y
        · subst h2; simp [hy']
        · simp only [if_neg h2]
          by_cases h3 : z = y₂
          · simp [h3]
          · simp only [if_neg h3]; exact (hm z h1 h2 h3).symm
    rw [e]; exact F₁
theorem li_end {L : Addr} {x y y₂ : Str} {m' : Str → Option Value} {D : Addr} {own : List (Addr × Obj)} {its : Array Value} {n' : Nat} {v v' : Int} {t : Tok} {r r' : List (List UInt8)} {s₁ : Shared} {h' : Heap} {tk' : Nat} {f : Flow}
    (F : Fr h₀ L h' m') (N : News h₀ L h' ((D, listOf its n') :: own)) (hy : m' y = some (.int v' t)) (hm : ∀ z, z ≠ x → z ≠ y → z ≠ y₂ → m' z = m₀ z) (ev : v = v') (e : r = r') (hb : BytesAre its.toList r') (hf : f = .next ∨ f = .cont) :
    InvPostN h₀ L (LiJ x y y₂ m₀ D v r) own [D] s₁ Q f { s₁ with heap := h', toks := tk' } := by
  subst e ev
  have key : InvEndN h₀ L (LiJ x y y₂ m₀ D v r) own [D] s₁ { s₁ with heap := h', toks := tk' } :=
    ⟨h', tk', m', _, [(D, listOf its n')], rfl, F, N, fun p hp => by rw [List.mem_singleton.mp hp]; exact .head _, fun p hp => .tail _ hp, rfl, ⟨its.toList, n', by rw [Array.toArray_toList], hb⟩, ⟨t, hy⟩, hm⟩
  rcases hf with rfl | rfl <;> exact key
end
theorem BytesAre.flat {vs : List Value} {bs : List (List UInt8)} (h : BytesAre vs bs) : ∀ n : Nat, BytesAre (List.replicate n vs).flatten (List.replicate n bs).flatten
  | 0 => trivial
  | n + 1 => by
    rw [List.replicate_succ, List.replicate_succ, List.flatten_cons, List.flatten_cons]
    exact h.append (BytesAre.flat h n)
theorem BytesAre.at {vs : List Value} {bs : List (List UInt8)} (h : BytesAre vs bs) {k : Nat} (hk : k < bs.length) : ∃ t, vs[k]? = some (.bytes (bs.getD k []).toArray t) := by
  have hk' : k < vs.length := by rw [h.length]; exact hk
  obtain ⟨b, t, e1, e2⟩ := h.get (List.getElem?_eq_getElem hk')
  refine ⟨t, ?_⟩
  rw [List.getElem?_eq_getElem hk', e2, List.getD_eq_getElem?_getD, e1]
  rfl
section
variable {prog : Program} {w : World} {A : Around} {E : Value → Shared → Prop} {s : Shared} {h₀ : Heap} {L l l₂ : Addr} {m : Str → Option Value} {news : List (Addr × Obj)} {vs ws : List Value} {bs cs : List (List UInt8)} {Q : Value → Shared → Prop}
theorem mul_bl {x : Int} {u : Tok} (F : Fr h₀ L s.heap m) (N : News h₀ L s.heap news) (hl : s.heap.IsList l vs.toArray) (hv : BytesAre vs bs) (h0 : -1000 ≤ x) (h1 : x ≤ 1000) (hb : bs.length * x.toNat ≤ 256)
    (h : ∀ (D : Addr) (ws : List Value) (h' : Heap), BytesAre ws (List.replicate x.toNat bs).flatten → Fr h₀ L h' m → News h₀ L h' ((D, listOf ws.toArray 0) :: news) → (∀ q ∈ news, q.1 < D) → Q (.ref D) { s with heap := h' }) :
    wpAny (model prog w) A (binaryOp .Mult (.ref l) (.int x u)) Q E s :=
  KMa.mul F N hl (by omega) (by omega) (by rw [hv.length]; exact hb) rfl fun D h' F' N' hl' => h D _ h' (hv.flat _) F' N' hl'
theorem isl_keep {g h : Heap} (F : Fr g L h m) (hl : g.IsList l vs.toArray) : h.IsList l vs.toArray := hl.at fun o e => F.keep l o e
theorem add_bl (F : Fr h₀ L s.heap m) (N : News h₀ L s.heap news) (hl : s.heap.IsList l vs.toArray) (hb : s.heap.IsList l₂ ws.toArray) (hv : BytesAre vs bs) (hw : BytesAre ws cs) (hz : bs.length + cs.length ≤ 16777216)
    (h : ∀ (D : Addr) (us : List Value) (h' : Heap), BytesAre us (bs ++ cs) → Fr h₀ L h' m → News h₀ L h' ((D, listOf us.toArray 0) :: news) → (∀ q ∈ news, q.1 < D) → Q (.ref D) { s with heap := h' }) :
    wpAny (model prog w) A (binaryOp .Add (.ref l) (.ref l₂)) Q E s :=
  add_lists (hsz := by rw [hv.length, hw.length, sizeLine_eq]; exact hz) F N hl hb fun h' F' N' => h _ (vs ++ ws) h' (hv.append hw) F' N' fun q hq => Heap.lt_size (N q hq).1
theorem item_bl {value slice : PySem.Expr} {k : Int} {u : Tok} (hl : s.heap.IsList l vs.toArray) (hv : BytesAre vs bs) (h0 : 0 ≤ k) (h1 : k < (bs.length : Int)) (hz : bs.length ≤ 1000000)
    (h : ∀ t, Q (.bytes (bs.getD k.toNat []).toArray t) s)
    (hs : subscripted slice false (.ref l) (.int k u) = operate [.ref l, .int k u] (getItem (.ref l) (.int k u)) := by with_unfolding_all rfl) :
    wpAny (model prog w) A (subscriptTail value slice (.ref l) (.int k u)) Q E s := by
  obtain ⟨t, e⟩ := hv.at (k := k.toNat) (by omega)
  exact tail_any hl.typeIs slot_list_getitem.lookup (wpAny_getItem_list hl h0 (by omega) (by rw [List.getElem?_toArray]; exact e) (h t)) hs
end
local macro_rules | `(tactic| walk_at "my:bytes") => `(tactic| first | (first | (with_reducible assumption) | exact BytesAre.one | (refine BytesAre.append ?_ ?_ <;> assumption)))
local macro_rules | `(tactic| walk_at "my:isl") => `(tactic| first | exact News.isList (by k_asm) (by k_mem) | exact isl_keep (by k_asm) (by assumption))
local macro_rules | `(tactic| walk_at "my:len") => `(tactic| first | ((simp only [List.length_append, List.length_flatten, List.map_replicate, List.sum_replicate_nat, List.length_cons, List.length_nil, List.length_replicate]; omega)))
noncomputable def plc (begin way : Int) (i : Nat) : Nat := ((begin + way * (i : Int)).fmod 7).toNat
noncomputable def isLeft (rs sp : List Int) (begin way : Int) (i : Nat) : Bool := decide (rs.getD (plc begin way i) 0 = 1) && decide ((i : Int) + sp.getD (plc begin way i) 0 > 6)
noncomputable def leftF (ring : List (List UInt8)) (rs sp : List Int) (begin way : Int) : Nat → List (List UInt8)
  | 0 => []
  | i + 1 => leftF ring rs sp begin way i ++ (if isLeft rs sp begin way i then [ring.getD (plc begin way i) []] else [])
noncomputable def dotsF (rs sp : List Int) (begin way : Int) : Nat → Int
  | 0 => 0
  | i + 1 => if isLeft rs sp begin way i then dotsF rs sp begin way i else dotsF rs sp begin way i - rs.getD (plc begin way i) 0
noncomputable def dueF (ring : List (List UInt8)) (rs sp : List Int) (begin way : Int) : List UInt8 :=
  let r := joinL [47] ((List.replicate (dotsF rs sp begin way 7).toNat [[46, 46]]).flatten ++ leftF ring rs sp begin way 7)
  if r = [] then [46] else r
theorem dots_bound {rs : List Int} (h : ∀ n ∈ rs, -1 ≤ n ∧ n ≤ 1) (sp : List Int) (begin way : Int) : ∀ i : Nat, -(i : Int) ≤ dotsF rs sp begin way i ∧ dotsF rs sp begin way i ≤ (i : Int)
  | 0 => by simp [dotsF]
  | i + 1 => by
    have h1 := dots_bound h sp begin way i
    have h2 := getD_small h (plc begin way i)
    unfold dotsF
    split <;> omega
theorem left_le (ring : List (List UInt8)) (rs sp : List Int) (begin way : Int) : ∀ i : Nat, (leftF ring rs sp begin way i).length ≤ i
  | 0 => by simp [leftF]
  | i + 1 => by
    have := left_le ring rs sp begin way i
    unfold leftF
    rw [List.length_append]
    split <;> simp <;> omega
theorem left_small {ring : List (List UInt8)} (h : ∀ q ∈ ring, q.length ≤ 2) (rs sp : List Int) (begin way : Int) : ∀ i : Nat, ((leftF ring rs sp begin way i).map List.length).sum ≤ 2 * i
  | 0 => by simp [leftF]
  | i + 1 => by
    have h1 := left_small h rs sp begin way i
    have h2 : (ring.getD (plc begin way i) []).length ≤ 2 := by
      rw [List.getD_eq_getElem?_getD]
      cases e : ring[plc begin way i]? with
      | none => exact Nat.zero_le _
      | some q => exact h q (List.mem_of_getElem? e)
    unfold leftF
    rw [List.map_append, List.sum_append]
    split
    · simp only [List.map_cons, List.map_nil, List.sum_cons, List.sum_nil]; omega
    · simp only [List.map_nil, List.sum_nil]; omega
theorem plc_eq {begin way : Int} {i : Nat} : ((begin + way * (0 + (i : Int) * 1)).fmod 7).toNat = plc begin way i := by
  unfold plc
  rw [show (0 + (i : Int) * 1) = (i : Int) from by omega]
theorem li_left {rs sp : List Int} {begin way : Int} {i : Nat} (h1 : rs.getD ((begin + way * (0 + (i : Int) * 1)).fmod 7).toNat 0 = 1) (h2 : 6 < 0 + (i : Int) * 1 + sp.getD ((begin + way * (0 + (i : Int) * 1)).fmod 7).toNat 0) : isLeft rs sp begin way i = true := by
  rw [plc_eq] at h1 h2
  unfold isLeft
  simp only [Bool.and_eq_true, decide_eq_true_eq]
  exact ⟨h1, by omega⟩
theorem li_not1 {rs sp : List Int} {begin way : Int} {i : Nat} (h1 : rs.getD ((begin + way * (0 + (i : Int) * 1)).fmod 7).toNat 0 ≠ 1) : isLeft rs sp begin way i = false := by
  rw [plc_eq] at h1
  unfold isLeft
  rw [decide_eq_false h1]; rfl
theorem li_not2 {rs sp : List Int} {begin way : Int} {i : Nat} (h2 : ¬ 6 < 0 + (i : Int) * 1 + sp.getD ((begin + way * (0 + (i : Int) * 1)).fmod 7).toNat 0) : isLeft rs sp begin way i = false := by
  rw [plc_eq] at h2
  unfold isLeft
  rw [decide_eq_false (p := (i : Int) + _ > 6) (by omega), Bool.and_false]
theorem left_yes {ring : List (List UInt8)} {rs sp : List Int} {begin way : Int} {i : Nat} (h : isLeft rs sp begin way i = true) : leftF ring rs sp begin way (i + 1) = leftF ring rs sp begin way i ++ [ring.getD ((begin + way * (0 + (i : Int) * 1)).fmod 7).toNat []] := by
  rw [plc_eq, leftF, if_pos h]
theorem left_no {ring : List (List UInt8)} {rs sp : List Int} {begin way : Int} {i : Nat} (h : isLeft rs sp begin way i = false) : leftF ring rs sp begin way (i + 1) = leftF ring rs sp begin way i := by
  rw [leftF, if_neg (by rw [h]; exact Bool.false_ne_true), List.append_nil]
theorem dots_yes {rs sp : List Int} {begin way : Int} {i : Nat} (h : isLeft rs sp begin way i = true) : dotsF rs sp begin way (i + 1) = dotsF rs sp begin way i := by
  rw [dotsF, if_pos h]
theorem dots_no {rs sp : List Int} {begin way : Int} {i : Nat} (h : isLeft rs sp begin way i = false) : dotsF rs sp begin way (i + 1) = dotsF rs sp begin way i - rs.getD ((begin + way * (0 + (i : Int) * 1)).fmod 7).toNat 0 := by
  rw [plc_eq, dotsF, if_neg (by rw [h]; exact Bool.false_ne_true)]
theorem fmod7 (x : Int) : 0 ≤ x.fmod 7 ∧ x.fmod 7 < 7 := ⟨Int.fmod_nonneg_of_pos _ (by decide), Int.fmod_lt_of_pos _ (by decide)⟩
theorem due_size {ring : List (List UInt8)} (h : ∀ q ∈ ring, q.length ≤ 2) {rs sp : List Int} {begin way : Int} (hr : ∀ n ∈ rs, -1 ≤ n ∧ n ≤ 1) : (joinL [47] ((List.replicate (dotsF rs sp begin way 7).toNat [[46, 46]]).flatten ++ leftF ring rs sp begin way 7)).length ≤ 100 := by
  have h1 := left_small h rs sp begin way 7
  have h2 := left_le ring rs sp begin way 7
  have h3 := dots_bound hr sp begin way 7
  rw [List.flatten_replicate_singleton, joinL_length, List.map_append, List.sum_append, List.length_append, List.map_replicate, List.sum_replicate_nat, List.length_replicate]
  simp only [List.length_cons, List.length_nil]
  omega
theorem dueF_a {ring : List (List UInt8)} {rs sp : List Int} {begin way : Int} (h : joinL [47] ((List.replicate (dotsF rs sp begin way 7).toNat [[46, 46]]).flatten ++ leftF ring rs sp begin way 7) ≠ []) : dueF ring rs sp begin way = joinL [47] ((List.replicate (dotsF rs sp begin way 7).toNat [[46, 46]]).flatten ++ leftF ring rs sp begin way 7) := by
  unfold dueF
  exact if_neg h
theorem dueF_b {ring : List (List UInt8)} {rs sp : List Int} {begin way : Int} (h : ¬ joinL [47] ((List.replicate (dotsF rs sp begin way 7).toNat [[46, 46]]).flatten ++ leftF ring rs sp begin way 7) ≠ []) : dueF ring rs sp begin way = [46] := by
  unfold dueF
  exact if_pos (Classical.not_not.mp h)
section
variable {w : World} {mean : ExcName → Option Value} {mg mb : Str → Option Value} {dp un : Nat} {gd : Option (List Code)} {cn : Str} {cs : Scope} {a : Addr} {ccd : Value} {cl : List (Str × Addr)} {outer : List Env} {A₀ : Around} {base h₀ : Heap} {L : Addr} {m : Str → Option Value} {news : List (Addr × Obj)} {s : Shared} {Q E : Value → Shared → Prop}
theorem due_call {lr l ls : Addr} {vr vs vp : List Value} {ring : List (List UInt8)} {rs sp : List Int} {begin way : Int} {t u : Tok}
    (B : Below A₀ base outer h₀) (F : Fr h₀ L s.heap m) (X : (hd.heap_39 w.params).In h₀) (T : Top hd.view_39 (looseW hd.view_39 []) mean mg mb h₀) (hk : cs.kind = .function)
    (hd1 : dp + 3 < recursionLimit) (hu : un + 60 < cLine) (hlr : s.heap.IsList lr vr.toArray) (hr : BytesAre vr ring) (hrl : ring.length = 7) (hrz : ∀ q ∈ ring, q.length ≤ 2)
    (hl : s.heap.IsList l vs.toArray) (hi : IntsAre vs rs) (hlen : rs.length = 7) (hns : ∀ n ∈ rs, -1 ≤ n ∧ n ≤ 1)
    (hls : s.heap.IsList ls vp.toArray) (hip : IntsAre vp sp) (hlenp : sp.length = 7) (hsp : ∀ n ∈ sp, 0 ≤ n ∧ n ≤ 7) (hp : -1 ≤ begin ∧ begin < 7) (hw : way = 1 ∨ way = -1)
    (ret : ∀ (t : Tok) (h' : Heap) (tk' : Nat), (∀ b o, s.heap.get? b = some o → h'.get? b = some o) → Q (.bytes (dueF ring rs sp begin way).toArray t) { s with heap := h', toks := tk' }) :
    wpAny (model Challenge.rw_nq0013_02.row.prog w) (ktrTop dp un gd cn cs L a ccd cl outer) (call (.ref 143) [.ref lr, .ref l, .ref ls, .int begin t, .int way u]) Q E s := by
  w_top off
  revert X
  k_fill
  intro X
  refine wpAny_call ?_
  k_dflt ((refine' code_defG ?k1 ?k2 ?k3 News.nil ?k5 ?kA ?kF ?kK ?k6 ?k7 ?k8 ?k9 ?kB ?_ ?c2 ?c3 ?c4 ?c5; (case kA => exact rfl); (case kF => exact rfl); (case kK => assumption); (case k1 => k_asm); (case k2 => k_asm); (case k3 => k_asm); (case k5 => k_asm); (case k6 => k_is); (case k7 => k_is); (case k8 => ktr_room); (case k9 => exact BindsTo.of_eq rfl); (case c5 => decide); (case kB => exact locs rfl); (case c2 => exact rfl); (case c3 => exact rfl); (case c4 => exact rfl); k_whole; intro g' L' h' FG' F' N' B' X' T' hG'; (try dsimp only); (try k_lift B'); (try k_fold)))
  (with_reducible rename GSub _ _ _ => hG)
  have hl' := hl.at fun o e => hG _ o e (fun q => by cases q)
  have hlr' := hlr.at fun o e => hG _ o e (fun q => by cases q)
  have hls' := hls.at fun o e => hG _ o e (fun q => by cases q)
  (repeat' (first | (k_unfold; (try dsimp only)) | ((((fail_if_success (with_reducible show InvPostN _ _ _ _ _ _ _ _ _)); (fail_if_success (with_reducible show InvEndN _ _ _ _ _ _ _)); (fail_if_success (with_reducible show wpG _ _ _ _ _ _)); (fail_if_success (with_reducible show wpAny _ _ (pyIter (Value.ref _)) _ _ _)))); walk1) | ((((fail_if_success (with_reducible show InvPostN _ _ _ _ _ _ _ _ _)); (fail_if_success (with_reducible show InvEndN _ _ _ _ _ _ _)); (fail_if_success (with_reducible show wpG _ _ _ _ _ _)); (fail_if_success (with_reducible show wpAny _ _ (pyIter (Value.ref _)) _ _ _)))); dsimp only; walk1) | (leave1; walk_say "STEP leave1"; try dsimp only) | fail "no step"))
  (with_reducible rename IsRange _ _ _ _ _ _ _ _ => kR)
  (with_reducible rename Fr _ _ _ _ => kF)
  (with_reducible rename News _ _ _ _ => kN)
  refine iter_li (n := 7) (us₀ := []) (Str.ofString "dots") (Str.ofString "place") (dotsF rs sp begin way) (leftF ring rs sp begin way) rfl kR (by decide) (by decide) kF kN rfl trivial ?_ ?_
  · intro i ti tyi us nn ui hi tki own hi7 hoff hus Fi Ni
    have hpm := fmod7 (begin + way * (0 + (i : Int) * 1))
    have hdz := dots_bound hns sp begin way i
    have huz : us.length ≤ 7 := by
      rw [hus.length]
      have := left_le ring rs sp begin way i
      omega
    (repeat' (first | (k_unfold; (try dsimp only)) | ((((fail_if_success (with_reducible show InvPostN _ _ _ _ _ _ _ _ _)); (fail_if_success (with_reducible show InvEndN _ _ _ _ _ _ _)); (fail_if_success (with_reducible show wpG _ _ _ _ _ _)); (fail_if_success (with_reducible show wpAny _ _ (pyIter (Value.ref _)) _ _ _)))); (first | (with_reducible (k_here; (with_reducible show wpAny _ _ (subscriptTail _ _ (Value.ref _) (Value.int _ _)) _ _ _); k_dflt (refine' item_bl ?q9l ?q9v ?q9a ?q9b ?q9z ?_; (case q9l => walk_at "my:isl"); (case q9v => with_reducible assumption); (case q9a => walk_at "my:idx"); (case q9b => walk_at "my:idx"); (case q9z => walk_at "my:idx"); k_whole); intro t9)) | walk1)) | ((((fail_if_success (with_reducible show InvPostN _ _ _ _ _ _ _ _ _)); (fail_if_success (with_reducible show InvEndN _ _ _ _ _ _ _)); (fail_if_success (with_reducible show wpG _ _ _ _ _ _)); (fail_if_success (with_reducible show wpAny _ _ (pyIter (Value.ref _)) _ _ _)))); dsimp only; (first | (with_reducible (k_here; (with_reducible show wpAny _ _ (subscriptTail _ _ (Value.ref _) (Value.int _ _)) _ _ _); k_dflt (refine' item_bl ?q9l ?q9v ?q9a ?q9b ?q9z ?_; (case q9l => walk_at "my:isl"); (case q9v => with_reducible assumption); (case q9a => walk_at "my:idx"); (case q9b => walk_at "my:idx"); (case q9z => walk_at "my:idx"); k_whole); intro t9)) | walk1)) | (leave1; walk_say "STEP leave1"; try dsimp only) | fail "no step"))
    · have hL := li_left (sp := sp) (by assumption) (by assumption)
      exact li_end (s₁ := ⟨hi, s.gens, s.drawn, tki, s.os⟩) (by k_asm) (by assumption) rfl (fun z h1 h2 h3 => by simp only [if_neg h1, if_neg h2, if_neg h3]) (dots_yes hL) (left_yes hL) (BytesAre.push (by assumption)) (.inl rfl)
    · have hL := li_not2 (rs := rs) (sp := sp) (by assumption)
      exact li_end (s₁ := ⟨hi, s.gens, s.drawn, tki, s.os⟩) (by k_asm) (by assumption) rfl (fun z h1 h2 h3 => by simp only [if_neg h1, if_neg h2, if_neg h3]) (dots_no hL) (left_no hL) (by assumption) (.inl rfl)
    · have hL := li_not1 (rs := rs) (sp := sp) (by assumption)
      exact li_end (s₁ := ⟨hi, s.gens, s.drawn, tki, s.os⟩) (by k_asm) (by assumption) rfl (fun z h1 h2 h3 => by simp only [if_neg h1, if_neg h2, if_neg h3]) (dots_no hL) (left_no hL) (by assumption) (.inl rfl)
  · intro ui ti us nn hi tki hus Fi Ni
    have hdz := dots_bound hns sp begin way 7
    have hll := left_le ring rs sp begin way 7
    have hjs := due_size hrz (sp := sp) (begin := begin) (way := way) hns
    have hjz : (joinL [47] ((List.replicate (dotsF rs sp begin way 7).toNat [[46, 46]]).flatten ++ leftF ring rs sp begin way 7)).length ≤ 16777216 := by omega
    (repeat' (first | (k_unfold; (try dsimp only)) | ((((fail_if_success (with_reducible show InvPostN _ _ _ _ _ _ _ _ _)); (fail_if_success (with_reducible show InvEndN _ _ _ _ _ _ _)); (fail_if_success (with_reducible show wpG _ _ _ _ _ _)); (fail_if_success (with_reducible show wpAny _ _ (pyIter (Value.ref _)) _ _ _)))); (first | (with_reducible ((with_reducible show wpAny _ _ (getMethod (Value.bytes _ _) _ _) _ _ _); (k_here; (with_reducible refine method_join ?_)))) | (with_reducible (k_here; (with_reducible show wpAny _ _ (binaryOp Operator.Mult (Value.ref _) (Value.int _ _)) _ _ _); k_dflt (refine' mul_bl ?q9F ?q9N ?q9l ?q9v ?q9a ?q9b ?q9z ?_; (case q9F => k_asm); (case q9N => k_asm); (case q9l => walk_at "my:isl"); (case q9v => walk_at "my:bytes"); (case q9a => walk_at "my:idx"); (case q9b => walk_at "my:idx"); (case q9z => (simp only [List.length_cons, List.length_nil]; walk_at "my:idx")); k_whole); intro D9 ws9 h9 ba9 F9 N9 l9; (try k_lt l9))) | (with_reducible (k_here; (with_reducible show wpAny _ _ (binaryOp Operator.Add (Value.ref _) (Value.ref _)) _ _ _); k_dflt (refine' add_bl ?q9F ?q9N ?q9l ?q9l2 ?q9v ?q9v2 ?q9z ?_; (case q9F => k_asm); (case q9N => k_asm); (case q9l => walk_at "my:isl"); (case q9l2 => walk_at "my:isl"); (case q9v => walk_at "my:bytes"); (case q9v2 => walk_at "my:bytes"); (case q9z => walk_at "my:len"); k_whole); intro D9 ws9 h9 ba9 F9 N9 l9; (try k_lt l9))) | (with_reducible ((with_reducible show wpAny _ _ (call (Value.builtin "bytes.join") _) _ _ _); (k_here; k_dflt (refine' join_K (by exact News.isList (by k_asm) (by k_mem)) (by assumption) (by first | assumption | walk_at "my:b_size") ?_; k_whole); intro t9 tk9))) | (with_reducible (k_here; (with_reducible show wpAny _ _ (truthy (Value.bytes (List.toArray _) _)) _ _ _); (refine truthy_bytesL (by walk_at "my:b_size") ?_); intro _)) | walk1)) | ((((fail_if_success (with_reducible show InvPostN _ _ _ _ _ _ _ _ _)); (fail_if_success (with_reducible show InvEndN _ _ _ _ _ _ _)); (fail_if_success (with_reducible show wpG _ _ _ _ _ _)); (fail_if_success (with_reducible show wpAny _ _ (pyIter (Value.ref _)) _ _ _)))); dsimp only; (first | (with_reducible ((with_reducible show wpAny _ _ (getMethod (Value.bytes _ _) _ _) _ _ _); (k_here; (with_reducible refine method_join ?_)))) | (with_reducible (k_here; (with_reducible show wpAny _ _ (binaryOp Operator.Mult (Value.ref _) (Value.int _ _)) _ _ _); k_dflt (refine' mul_bl ?q9F ?q9N ?q9l ?q9v ?q9a ?q9b ?q9z ?_; (case q9F => k_asm); (case q9N => k_asm); (case q9l => walk_at "my:isl"); (case q9v => walk_at "my:bytes"); (case q9a => walk_at "my:idx"); (case q9b => walk_at "my:idx"); (case q9z => (simp only [List.length_cons, List.length_nil]; walk_at "my:idx")); k_whole); intro D9 ws9 h9 ba9 F9 N9 l9; (try k_lt l9))) | (with_reducible (k_here; (with_reducible show wpAny _ _ (binaryOp Operator.Add (Value.ref _) (Value.ref _)) _ _ _); k_dflt (refine' add_bl ?q9F ?q9N ?q9l ?q9l2 ?q9v ?q9v2 ?q9z ?_; (case q9F => k_asm); (case q9N => k_asm); (case q9l => walk_at "my:isl"); (case q9l2 => walk_at "my:isl"); (case q9v => walk_at "my:bytes"); (case q9v2 => walk_at "my:bytes"); (case q9z => walk_at "my:len"); k_whole); intro D9 ws9 h9 ba9 F9 N9 l9; (try k_lt l9))) | (with_reducible ((with_reducible show wpAny _ _ (call (Value.builtin "bytes.join") _) _ _ _); (k_here; k_dflt (refine' join_K (by exact News.isList (by k_asm) (by k_mem)) (by assumption) (by first | assumption | walk_at "my:b_size") ?_; k_whole); intro t9 tk9))) | (with_reducible (k_here; (with_reducible show wpAny _ _ (truthy (Value.bytes (List.toArray _) _)) _ _ _); (refine truthy_bytesL (by walk_at "my:b_size") ?_); intro _)) | walk1)) | (leave1; walk_say "STEP leave1"; try dsimp only) | fail "no step"))
    all_goals exact ret_bytes (s := s) ret (by first | exact dueF_a (by assumption) | exact dueF_b (by assumption)) (by (exact gsub_nil (by assumption) (by assumption)))
end
open PySem PySem.W PySem.Calls PyProof.Rows PySem.Spec
theorem call_cellsG {prog : Program} {w : World} {A : Around} {R : Result → Shared → Prop} {s : Shared} {name : Str} {params : Arguments} {body : List Stmt} {scope : Scope}
    {pm cd doc : Value} {a : Addr} {o : Obj} {args : List Value} {binds : List (Str × Value)}
    (hroom : A.depth < recursionLimit) (ho : s.heap.get? a = some o) (hdata : o.data = .func (Calls.docDef name params body scope pm cd doc)) (hlim : s.heap.NoLimit) (hcd : s.heap.CodeRec cd name)
    (hbind : bindArgs (Calls.docDef name params body scope pm cd doc) ⟨args, []⟩ = pure binds)
    (hkind : ∀ x ∈ binds, scope.names.lookup x.1 = some .local ∨ (scope.names.lookup x.1 = some .cell ∧ ((cellsFrom (s.heap.objs.size + 1) scope.names []).lookup x.1).isSome = true))
    (hnd : ((cellsFrom 0 scope.names []).map (·.1)).Nodup)
    (h : ∀ h₁ tk cells, Fr s.heap s.heap.objs.size h₁ (bindL (envOfC name scope s.heap.objs.size a cd).kindOf binds fun _ => none) → News s.heap s.heap.objs.size h₁ cells →
      CellsAre (bindC (envOfC name scope s.heap.objs.size a cd).kindOf binds fun _ => none) (cellsFrom (s.heap.objs.size + 1) scope.names []) cells →
      wpG (model prog w) (A.deeper (envOfC name scope s.heap.objs.size a cd)) (execs body (envOfC name scope s.heap.objs.size a cd))
        (fun f s' => R (.ok (.ret (match f with | .ret v => v | _ => .none))) s') (fun _ _ => False)
        { s with heap := h₁, toks := tk })
    (hco : scope.isCoroutine = false := by rfl) (hgen : scope.isGenerator = false := by rfl) (hk : scope.kind = .function := by rfl) :
    codeG (model prog w) A (.call (.ref a) ⟨args, []⟩) R s := by
  refine codeG_call_function (fd := Calls.docDef name params body scope pm cd doc) (body := body) hroom ho hdata hco hgen rfl hcd ?_
  rw [hbind]
  refine wpAny_pure ?_
  refine wpAny_newFunctionEnv_cells hk hkind fun env' he s' x => ?_
  subst he
  refine ⟨hlim.keeps x.toInCall.keep, codeG_func ?_⟩
  obtain ⟨h₁, tk, rfl, _⟩ := x.done
  obtain ⟨cells, NC, Y⟩ := Cl.news (h₀ := s.heap) (Nat.le_refl _) fun n c hm => ⟨x.cell n c (lookup_of_mem_nodup (cellsFrom_names scope.names 0 (s.heap.objs.size + 1) [] [] rfl ▸ hnd) hm), x.above n c hm⟩
  exact h h₁ tk cells ⟨x.toInCall.ns, x.toInCall.keep, Nat.le_refl _⟩ NC Y
section
variable {M : Model} {A : Around} {s : Shared} {env : Env}
noncomputable abbrev noE : Value → Shared → Prop := fun _ _ => False
theorem wpG_runOwn {c : Code} {Q : Flow → Shared → Prop}
    (hc : codeG M A c (fun r s' => match r with | .ok f => Q f s' | .error _ => False) s) :
    wpG M A (runOwn c env none) Q noE s := by
  unfold runOwn
  exact wpG_onRaise (wpG_run (h := none) hc)
theorem wpG_For {target iter body orelse pos} {Q : Flow → Shared → Prop}
    (h : wpAny M A (eval iter env) (fun x s₁ => wpAny M A (pyIter x) (fun it s₂ =>
      codeG M A (.forLoop target it body orelse env) (fun r s' => match r with | .ok f => Q f s' | .error _ => False) s₂) noE s₁) noE s)
    (hs : ∀ x, foldedSetIterable iter env x = pure x := by intro _; rfl) :
    wpG M A (exec (.For target iter body orelse pos) env) Q noE s := by
  rw [exec_For]
  refine wpG_bind (wpG_standAt (wpG_bindA (wpAny_mono h (fun x s₁ h₁ => ?_) fun _ _ h' => h')))
  rw [hs x]
  refine wpG_bind (wpG_pure (wpG_bind (wpG_standAt (wpG_bindA (wpAny_holding (wpAny_mono h₁ (fun it s₂ h₂ => wpG_runOwn h₂) fun _ _ h' => h'))))))
end
section
variable {prog : Program} {w : World} {A : Around} {s : Shared} {env : Env}
theorem codeG_block_nil {R : Result → Shared → Prop} (h : R (.ok .next) s) : codeG (model prog w) A (.block [] env) R s :=
  codeG_of rfl (codeAny_block (wpAny_pure h))
theorem codeG_forLoop {R : Result → Shared → Prop} {target it body env} (I : Nat → Shared → Prop)
    (turn : ∀ n s, I n s → wpAny (model prog w) A (pyNext it) (fun r s₁ => match r with
      | none => R (.ok .next) s₁
      | some v => wpAny (model prog w) A (assign target env v) (fun _ s₂ => wpG (model prog w) A (execs body env) (fun f s₃ => match f with
          | .next | .cont => ∃ m, m < n ∧ I m s₃
          | .brk => R (.ok .next) s₃
          | .ret v => R (.ok (.ret v)) s₃) noE s₂) noE s₁) noE s)
    (n : Nat) (h : I n s) (ht : ∀ v, letOwnedTupleGo target it v = pure () := by intro _; rfl) : codeG (model prog w) A (.forLoop target it body [] env) R s := by
  induction n using Nat.strongRecOn generalizing s with
  | ind n ih =>
    refine codeG_of_tree rfl ?_
    show wpG _ _ ((forTurn target it body [] env).onRaise (fun x => do noteFrame x env; theTreesLotGoes x)) _ _ s
    refine wpG_onRaise ?_
    simp only [forTurn]
    refine wpG_bind (wpG_standAt (wpG_bind (wpG_onRaise (wpG_of (wpAny_mono (turn n s h) (fun r s₁ h₁ => ?_) fun _ _ h' => h')))))
    cases r with
    | none => exact wpG_pure ⟨rfl, codeG_block_nil h₁⟩
    | some v =>
      dsimp only
      rw [ht v]
      refine wpG_bind (wpG_pure ?_)
      refine wpG_bindA (wpAny_mono h₁ (fun _ s₂ h₂ => wpG_bind (wpG_mono h₂ (fun f s₃ h₃ => ?_) fun _ _ h' => h')) fun _ _ h' => h')
      cases f with
      | next => obtain ⟨m, hm, hI⟩ := h₃; exact wpG_pure ⟨rfl, ih m hm hI⟩
      | cont => obtain ⟨m, hm, hI⟩ := h₃; exact wpG_pure ⟨rfl, ih m hm hI⟩
      | brk => exact wpG_pure h₃
      | ret v => exact wpG_pure h₃
theorem iter_rngG {h₀ : Heap} {x : Str} {px : Pos} {body : List Stmt} {Q : Flow → Shared → Prop} {m₀ : Str → Option Value} {r : Addr} {a b c : Int} {t₀ u₀ v₀ : Tok} {n : Nat} {rest : List (Addr × Obj)} (J : (Str → Option Value) → Prop)
    (hh : A.handled = none) (hx : env.kindOf x = some .local) (hp : (env.scope.kind == .class || (env.scope.kind == .module && env.locals != env.globals)) = false)
    (hr : IsRange s.heap r a b c t₀ u₀ v₀) (hsmall : Builtin.Range.small a b c = true) (hn : Builtin.Range.rangeSize a b c = (n : Int)) (F : Fr h₀ env.locals s.heap m₀) (N : News h₀ env.locals s.heap rest) (hj : J m₀)
    (turn : ∀ i t m₁ I oI h tk, i < n → J m₁ → Fr h₀ env.locals h (fun y => if y = x then some (.int (a + (i : Int) * c) t) else m₁ y) → News h₀ env.locals h ((I, oI) :: rest) → (∀ q ∈ rest, q.1 < I) →
      wpG (model prog w) A (execs body env) (fun f s₃ => match f with
          | .next | .cont => ∃ h' tk' m', s₃ = { s with heap := h', toks := tk' } ∧ J m' ∧ Fr h₀ env.locals h' m' ∧ News h₀ env.locals h' ((I, oI) :: rest)
          | .brk => Q .next s₃
          | .ret v => Q (.ret v) s₃) noE { s with heap := h, toks := tk })
    (done : ∀ m₁ h tk, J m₁ → Fr h₀ env.locals h m₁ → News h₀ env.locals h rest → Q .next { s with heap := h, toks := tk }) :
    wpAny (model prog w) A (pyIter (.ref r)) (fun it s₂ => codeG (model prog w) A (.forLoop (.Name x px) it body [] env) (fun r s' => match r with | .ok f => Q f s' | .error _ => False) s₂) noE s := by
  refine wpAny_pyIter_range hr hsmall ?_
  generalize hI : s.heap.objs.size = I
  have W := (Walks.range (prog := prog) (w := w) hh I a c n)
  have hIL : env.locals ≠ I := fun q => absurd F.ns.lt (by rw [q, hI]; exact Nat.lt_irrefl _)
  have hI0 : h₀.get? I = none := hI ▸ next_is_new F
  have hlt : ∀ q ∈ rest, q.1 < I := fun q hq => hI ▸ Heap.lt_size (N q hq).1
  refine codeG_forLoop (fun k s' => ∃ i h tk m₁, k = n - i ∧ i ≤ n ∧ s' = { s with heap := h, toks := tk } ∧ J m₁ ∧ Fr h₀ env.locals h m₁ ∧ News h₀ env.locals h rest ∧ IsRangeIter h I (a + (i : Nat) * c) ((n : Int) - (i : Nat)) c) ?_ n ?_
  · rintro k s' ⟨i, h, tk, m₁, rfl, hi, rfl, hJ, F₁, N₁, st⟩
    by_cases hin : i < n
    · refine W.item i _ _ _ hin st fun v h' tk' ⟨t, hv⟩ st' kp => ?_
      subst hv
      have F₂ : Fr h₀ env.locals h' m₁ := LCg.fr_but F₁ kp hIL hI0
      have N₂ : News h₀ env.locals h' rest := LCg.news_but N₁ kp fun p hp => Nat.ne_of_lt (hlt p hp)
      refine wpAny_assign_Name (wpAny_storeName_local hx F₂.ns (fun h₂ hn₂ hs₂ => ?_) hp)
      have F₃ : Fr h₀ env.locals h₂ _ := F₂.set hn₂ hs₂
      have N₃ : News h₀ env.locals h₂ rest := fun p hp => ⟨hs₂.extBut _ _ (N₂ p hp).2.1 (N₂ p hp).1, (N₂ p hp).2⟩
      obtain ⟨oI, eI, bk⟩ : ∃ o, h'.get? I = some o ∧ ∀ g : Heap, g.get? I = some o → IsRangeIter g I (a + ((i + 1 : Nat) : Int) * c) ((n : Int) - ((i + 1 : Nat) : Int)) c := ⟨_, st', fun g e => e⟩
      have e₃ : h₂.get? I = some oI := hs₂.extBut _ _ (Ne.symm hIL) eI
      refine wpG_mono (turn i t m₁ I oI h₂ _ hin hJ F₃ (fun p hp => ?_) hlt) (fun f s₃ p => ?_) fun _ _ e => e
      · rcases List.mem_cons.mp hp with rfl | hp
        · exact ⟨e₃, Ne.symm hIL, hI0⟩
        · exact N₃ p hp
      · have go : (∃ h' tk' m', s₃ = { s with heap := h', toks := tk' } ∧ J m' ∧ Fr h₀ env.locals h' m' ∧ News h₀ env.locals h' ((I, oI) :: rest)) → ∃ m, m < n - i ∧ ∃ i h tk m₁, m = n - i ∧ i ≤ n ∧ s₃ = { s with heap := h, toks := tk } ∧ J m₁ ∧ Fr h₀ env.locals h m₁ ∧ News h₀ env.locals h rest ∧ IsRangeIter h I (a + (i : Nat) * c) ((n : Int) - (i : Nat)) c := by
          rintro ⟨h', tk', m', e, hJ', F', N'⟩
          exact ⟨n - (i + 1), by omega, i + 1, h', tk', m', rfl, hin, e, hJ', F', fun p hp => N' p (List.mem_cons_of_mem _ hp), bk _ (N' _ List.mem_cons_self).1⟩
        cases f with
        | next => exact go p
        | cont => exact go p
        | brk => exact p
        | ret v => exact p
    · have e : i = n := by omega
      subst e
      refine W.done _ _ _ st fun h' tk' kp => ?_
      exact done m₁ h' tk' hJ (LCg.fr_but F₁ kp hIL hI0) (LCg.news_but N₁ kp fun p hp => Nat.ne_of_lt (hlt p hp))
  · refine ⟨0, _, _, m₀, by omega, Nat.zero_le _, rfl, hj, F.push _, fun p hp => ⟨Heap.get?_push_of_some _ (N p hp).1, (N p hp).2⟩, ?_⟩
    show IsRangeIter _ _ _ _ _
    rw [hn, ← hI]; simpa using Heap.get?_push_size _ rfl
end
section
variable {prog : Program} {w : World} {A : Around} {h₀ : Heap} {L : Addr} {m : Str → Option Value} {env : Env} {elt : Expr} {x : Str} {scope : Scope} {cl : List (Str × Addr)} {s : Shared} {S : List (Addr × Obj) → Prop} {P : Nat → Value → Prop} {Fin : List Value → List (Addr × Obj) → Prop} {news : List (Addr × Obj)}
theorem cr_rest {n : Nat} (G : Nat → Value → Prop)
    (turn : ∀ i v I oI C oC D m₂ ys h tk (E' : Value → Shared → Prop), i < n → P i v → LCg.NsObj oC m₂ → m₂ x = some v → Fr h₀ L h m → News h₀ L h ((I, oI) :: (C, oC) :: (D, LCg.lst ys) :: news) → LCg.Off3 I C D news → ((@Ne Nat I C) ∧ (@Ne Nat I D) ∧ (@Ne Nat C D)) →
      wpAny (model prog w) A (eval elt (compEnvC scope cl C env)) (LCg.CompEnd h₀ L m { s with heap := h, toks := tk } I oI C oC D (LCg.lst ys) S (fun y news' => news' = news ∧ G i y)) E' { s with heap := h, toks := tk })
    (fin : ∀ ys, ys.length = n → (∀ i y, ys[i]? = some y → G i y) → Fin ys news) : LCg.CompRest prog w A h₀ L m env elt x scope cl s S P Fin n 0 [] news := by
  have key : ∀ (j i : Nat) (ys : List Value), i + j = n → ys.length = i → (∀ i y, ys[i]? = some y → G i y) → LCg.CompRest prog w A h₀ L m env elt x scope cl s S P Fin j i ys news := by
    intro j
    induction j with
    | zero => exact fun i ys hi hl hy => LCg.CompRest.zero (fin ys (by omega) hy)
    | succ j ih =>
      intro i ys hi hl hy
      refine LCg.CompRest.succ ?_
      intro v I oI C oC D m₂ h tk E' hv hC hx F N off ne
      refine wpAny_mono (turn i v I oI C oC D m₂ ys h tk E' (by omega) hv hC hx F N off ne) (fun y s₂ hq => ?_) fun _ _ e => e
      obtain ⟨h', tk', nw, e, F', N', off', hS, hn, hg⟩ := hq
      rw [hn] at N' off' hS
      refine ⟨h', tk', news, e, F', N', off', hS, ?_⟩
      refine ih (i + 1) _ (by omega) (by simp [hl]) fun k z hz => ?_
      by_cases hk : k < ys.length
      · rw [List.getElem?_append_left hk] at hz; exact hy k z hz
      · rw [List.getElem?_append_right (by omega)] at hz
        have e0 : k - ys.length = 0 := by
          cases e : k - ys.length with
          | zero => rfl
          | succ q => rw [e] at hz; simp at hz
        rw [e0] at hz
        have : k = i := by omega
        subst this
        simp at hz
        exact hz ▸ hg
  exact key n 0 [] (by omega) rfl (fun i y e => by simp at e)
end
section
variable {prog : Program} {w : World} {A : Around} {E : Value → Shared → Prop} {s : Shared}
theorem slice_listS {value slice : Expr} {l : Addr} {items : Array Value} {vl vu vt : Value} {lo hi st : Option Int} {Q : Value → Shared → Prop} {ops : List Value}
    (hl : s.heap.IsList l items) (pl : IsPart vl lo) (pu : IsPart vu hi) (pt : IsPart vt st) (h0 : st ≠ some 0)
    (h : Q (.ref (s.heap.objs.size + 1)) { s with heap := (s.heap.push { cls := .type "slice", data := .fields #[vl, vu, vt] }).push { cls := .type "list", data := .seq (slicePick items lo hi st) } })
    (hs : subscripted slice false (.ref l) (.ref s.heap.objs.size) = operate ops (getItem (.ref l) (.ref s.heap.objs.size)))
    (ht : ∀ r, letTemporaryGo value (.ref l) r = pure () := by intro _; with_unfolding_all rfl)
    (hsz : items.size ≤ sizeLine := by size_fits) :
    wpAny (model prog w) A (subscriptTail value slice (.ref l) (.ref s.heap.objs.size)) Q E { s with heap := s.heap.push { cls := .type "slice", data := .fields #[vl, vu, vt] } } := by
  refine subscriptTail_ops (Heap.IsList.typeIs (s := { s with heap := s.heap.push { cls := .type "slice", data := .fields #[vl, vu, vt] } }) (hl.push _)) list_getitem_lookup
    (wpAny_getItem_list_slice (hl.push _) (Heap.IsSliceOf.new ..) pl pu pt h0 ?_ hsz) hs ht
  show Q (.ref (s.heap.push _).objs.size) _
  rw [Heap.size_push]
  exact h
theorem pick_mem {items : Array Value} {lo hi st : Option Int} {v : Value} (h : v ∈ slicePick items lo hi st) : v ∈ items := by
  unfold slicePick at h
  rw [List.mem_toArray, List.mem_filterMap] at h
  obtain ⟨i, _, e⟩ := h
  exact Array.mem_of_getElem? e
theorem slice_ints {h₀ : Heap} {L : Addr} {m : Str → Option Value} {news : List (Addr × Obj)} {value slice : Expr} {l : Addr} {vs : List Value} {ns : List Int} {vl vu vt : Value} {lo hi st : Option Int} {Q : Value → Shared → Prop}
    (F : Fr h₀ L s.heap m) (N : News h₀ L s.heap news) (hl : s.heap.IsList l vs.toArray) (hi' : IntsAre vs ns) (pl : IsPart vl lo) (pu : IsPart vu hi) (pt : IsPart vt st) (h0 : st ≠ some 0) (hz : ns.length ≤ 16777216)
    (h : ∀ (D : Addr) (ws : List Value) (ms : List Int) h', IntsAre ws ms → Fr h₀ L h' m → News h₀ L h' ((D, listOf ws.toArray 0) :: news) → (∀ q ∈ news, q.1 < D) → Q (.ref D) { s with heap := h' })
    (hs : subscripted slice false (.ref l) (.ref s.heap.objs.size) = operate [.ref l, .ref s.heap.objs.size] (getItem (.ref l) (.ref s.heap.objs.size)) := by with_unfolding_all rfl)
    (ht : ∀ r, letTemporaryGo value (.ref l) r = pure () := by intro _; with_unfolding_all rfl) :
    wpAny (model prog w) A (subscriptTail value slice (.ref l) (.ref s.heap.objs.size)) Q E { s with heap := s.heap.push { cls := .type "slice", data := .fields #[vl, vu, vt] } } := by
  refine slice_listS hl pl pu pt h0 ?_ hs ht (by rw [sizeLine_eq]; simpa [hi'.length] using hz)
  have ha : AllInts (slicePick vs.toArray lo hi st) := fun v hv => hi'.allInts v (pick_mem hv)
  have e1 : s.heap.objs.size + 1 = (s.heap.push { cls := .type "slice", data := .fields #[vl, vu, vt] }).objs.size := by rw [Heap.size_push]
  have up : ∀ b o, s.heap.get? b = some o → ((s.heap.push { cls := .type "slice", data := .fields #[vl, vu, vt] }).push { cls := .type "list", data := .seq (slicePick vs.toArray lo hi st) }).get? b = some o :=
    fun b o e => Heap.get?_push_of_some _ (Heap.get?_push_of_some _ e)
  have F1 : Fr h₀ L (s.heap.push { cls := .type "slice", data := .fields #[vl, vu, vt] }) m := F.push _
  refine h _ (slicePick vs.toArray lo hi st).toList _ _ (intsAre_of ha) (F.keeps up) (fun p hp => ?_) (fun q hq => Nat.lt_succ_of_lt (Heap.lt_size (N q hq).1))
  rcases List.mem_cons.mp hp with rfl | hp
  · refine ⟨?_, ?_, ?_⟩
    · show Heap.get? _ (s.heap.objs.size + 1) = _
      rw [e1]; exact Heap.get?_push_size _ rfl
    · show s.heap.objs.size + 1 ≠ L
      have h9 : L < s.heap.objs.size := F.ns.lt
      exact fun q => absurd h9 (by rw [← q]; exact Nat.not_lt.mpr (Nat.le_succ _))
    · show h₀.get? (s.heap.objs.size + 1) = none
      rw [e1]; exact next_is_new F1
  · exact ⟨up _ _ (N p hp).1, (N p hp).2⟩
theorem BytesAre.take : ∀ {vs : List Value} {bs : List (List UInt8)}, BytesAre vs bs → ∀ n, BytesAre (vs.take n) (bs.take n)
  | [], [], _, n => by simp [BytesAre]
  | _ :: _, _ :: _, _, 0 => by simp [BytesAre]
  | _ :: _, _ :: _, h, n + 1 => by simp only [List.take_succ_cons]; exact ⟨h.1, h.2.take n⟩
theorem BytesAre.drop : ∀ {vs : List Value} {bs : List (List UInt8)}, BytesAre vs bs → ∀ n, BytesAre (vs.drop n) (bs.drop n)
  | [], [], _, n => by simp [BytesAre]
  | _ :: _, _ :: _, h, 0 => by simpa using h
  | _ :: _, _ :: _, h, n + 1 => by simp only [List.drop_succ_cons]; exact h.2.drop n
theorem BytesAre.rev : ∀ {vs : List Value} {bs : List (List UInt8)}, BytesAre vs bs → BytesAre vs.reverse bs.reverse
  | [], [], _ => by simp [BytesAre]
  | v :: vs, b :: bs, h => by
    rw [List.reverse_cons, List.reverse_cons]
    exact h.2.rev.append ⟨h.1, trivial⟩
theorem pick_rev (items : Array Value) : slicePick items none none (some (-1)) = items.toList.reverse.toArray := by
  have e : sliceBounds none none (some (-1)) items.size = ((items.size : Int) - 1, -1, -1) := by simp [sliceBounds]
  unfold slicePick
  rw [e]
  congr 1
  have e2 : sliceRange ((items.size : Int) - 1) (-1) (-1) = (List.range items.size).map fun k => items.size - 1 - k := by
    have e3 : (if (-1 : Int) > 0 then (if (items.size : Int) - 1 < -1 then (-1 - ((items.size : Int) - 1) + -1 - 1) / -1 else 0) else (if (items.size : Int) - 1 > -1 then ((items.size : Int) - 1 - -1 - -1 - 1) / (- -1) else 0)) = (items.size : Int) := by
      rw [if_neg (by omega)]
      by_cases h : (items.size : Int) - 1 > -1
      · rw [if_pos h, show (- -1 : Int) = 1 from rfl, Int.ediv_one]; omega
      · rw [if_neg h]; omega
    unfold sliceRange
    rw [e3]
    simp only [Int.toNat_natCast]
    refine List.map_congr_left fun k hk => ?_
    have := List.mem_range.mp hk
    omega
  rw [e2, List.filterMap_map]
  have key : ∀ (l : List Value) (n : Nat), n ≤ l.length → (List.range n).filterMap (fun k => l[n - 1 - k]?) = (l.take n).reverse := by
    intro l n
    induction n with
    | zero => intro _; simp
    | succ n ih =>
      intro h
      rw [List.range_succ_eq_map, List.filterMap_cons, List.filterMap_map]
      have hn : n < l.length := h
      have e4 : l[n + 1 - 1 - 0]? = some l[n] := by simp [hn]
      rw [e4, List.take_add_one, List.getElem?_eq_getElem hn]
      simp only [Option.toList_some, List.reverse_append, List.reverse_cons, List.reverse_nil, List.nil_append, List.cons_append]
      congr 1
      rw [← ih (by omega)]
      congr 1
      funext k
      show l[n + 1 - 1 - (k + 1)]? = _
      congr 1
      rw [Nat.add_sub_cancel, Nat.sub_sub, Nat.add_comm 1 k]
  have := key items.toList items.size (by simp)
  rw [show items.toList.take items.size = items.toList from List.take_of_length_le (by simp)] at this
  rw [← this]
  congr 1
  funext k
  simp
theorem slice_made {h₀ : Heap} {L : Addr} {m : Str → Option Value} {news : List (Addr × Obj)} {value slice : Expr} {l : Addr} {vs ws : List Value} {vl vu vt : Value} {lo hi st : Option Int} {Q : Value → Shared → Prop} {ops : List Value}
    (F : Fr h₀ L s.heap m) (N : News h₀ L s.heap news) (hl : s.heap.IsList l vs.toArray) (pl : IsPart vl lo) (pu : IsPart vu hi) (pt : IsPart vt st) (h0 : st ≠ some 0) (hz : vs.length ≤ 16777216) (hw : slicePick vs.toArray lo hi st = ws.toArray)
    (h : ∀ (D : Addr) h', Fr h₀ L h' m → News h₀ L h' ((D, listOf ws.toArray 0) :: news) → (∀ q ∈ news, q.1 < D) → Q (.ref D) { s with heap := h' })
    (hs : subscripted slice false (.ref l) (.ref s.heap.objs.size) = operate ops (getItem (.ref l) (.ref s.heap.objs.size)))
    (ht : ∀ r, letTemporaryGo value (.ref l) r = pure () := by intro _; with_unfolding_all rfl) :
    wpAny (model prog w) A (subscriptTail value slice (.ref l) (.ref s.heap.objs.size)) Q E { s with heap := s.heap.push { cls := .type "slice", data := .fields #[vl, vu, vt] } } := by
  refine slice_listS hl pl pu pt h0 ?_ hs ht (by rw [sizeLine_eq]; simpa using hz)
  rw [hw]
  have e1 : s.heap.objs.size + 1 = (s.heap.push { cls := .type "slice", data := .fields #[vl, vu, vt] }).objs.size := by rw [Heap.size_push]
  have up : ∀ b o, s.heap.get? b = some o → ((s.heap.push { cls := .type "slice", data := .fields #[vl, vu, vt] }).push { cls := .type "list", data := .seq ws.toArray }).get? b = some o :=
    fun b o e => Heap.get?_push_of_some _ (Heap.get?_push_of_some _ e)
  have F1 : Fr h₀ L (s.heap.push { cls := .type "slice", data := .fields #[vl, vu, vt] }) m := F.push _
  refine h _ _ (F.keeps up) (fun p hp => ?_) (fun q hq => Nat.lt_succ_of_lt (Heap.lt_size (N q hq).1))
  rcases List.mem_cons.mp hp with rfl | hp
  · refine ⟨?_, ?_, ?_⟩
    · show Heap.get? _ (s.heap.objs.size + 1) = _
      rw [e1]; exact Heap.get?_push_size _ rfl
    · show s.heap.objs.size + 1 ≠ L
      have h9 : L < s.heap.objs.size := F.ns.lt
      exact fun q => absurd h9 (by rw [← q]; exact Nat.not_lt.mpr (Nat.le_succ _))
    · show h₀.get? (s.heap.objs.size + 1) = none
      rw [e1]; exact next_is_new F1
  · exact ⟨up _ _ (N p hp).1, (N p hp).2⟩
theorem slice_bl {h₀ : Heap} {L : Addr} {m : Str → Option Value} {news : List (Addr × Obj)} {value slice : Expr} {l : Addr} {vs : List Value} {bs : List (List UInt8)} {vl vu : Value} {lo hi : Option Int} {Q : Value → Shared → Prop}
    (F : Fr h₀ L s.heap m) (N : News h₀ L s.heap news) (hl : s.heap.IsList l vs.toArray) (hv : BytesAre vs bs) (pl : IsPart vl lo) (pu : IsPart vu hi) (hz : bs.length ≤ 16777216)
    (h : ∀ (D : Addr) (ws : List Value) h', BytesAre ws (cutL bs lo hi) → Fr h₀ L h' m → News h₀ L h' ((D, listOf ws.toArray 0) :: news) → (∀ q ∈ news, q.1 < D) → Q (.ref D) { s with heap := h' })
    (hs : subscripted slice false (.ref l) (.ref s.heap.objs.size) = operate [.ref s.heap.objs.size, .ref l] (getItem (.ref l) (.ref s.heap.objs.size)) := by with_unfolding_all rfl)
    (ht : ∀ r, letTemporaryGo value (.ref l) r = pure () := by intro _; with_unfolding_all rfl) :
    wpAny (model prog w) A (subscriptTail value slice (.ref l) (.ref s.heap.objs.size)) Q E { s with heap := s.heap.push { cls := .type "slice", data := .fields #[vl, vu, .none] } } := by
  refine slice_made (ws := cutL vs lo hi) F N hl pl pu .none (by simp) (by rw [hv.length]; exact hz) ?_ (fun D h' F' N' q => h D _ h' ?_ F' N' q) hs ht
  · rw [slicePick_plain]; simp only [List.size_toArray, cutL]
  · unfold cutL
    rw [hv.length]
    exact (hv.drop _).take _
theorem slice_blr {h₀ : Heap} {L : Addr} {m : Str → Option Value} {news : List (Addr × Obj)} {value slice : Expr} {l : Addr} {vs : List Value} {bs : List (List UInt8)} {t : Tok} {Q : Value → Shared → Prop}
    (F : Fr h₀ L s.heap m) (N : News h₀ L s.heap news) (hl : s.heap.IsList l vs.toArray) (hv : BytesAre vs bs) (hz : bs.length ≤ 16777216)
    (h : ∀ (D : Addr) (ws : List Value) h', BytesAre ws bs.reverse → Fr h₀ L h' m → News h₀ L h' ((D, listOf ws.toArray 0) :: news) → (∀ q ∈ news, q.1 < D) → Q (.ref D) { s with heap := h' })
    (hs : subscripted slice false (.ref l) (.ref s.heap.objs.size) = operate [.ref l, .ref s.heap.objs.size] (getItem (.ref l) (.ref s.heap.objs.size)) := by with_unfolding_all rfl)
    (ht : ∀ r, letTemporaryGo value (.ref l) r = pure () := by intro _; with_unfolding_all rfl) :
    wpAny (model prog w) A (subscriptTail value slice (.ref l) (.ref s.heap.objs.size)) Q E { s with heap := s.heap.push { cls := .type "slice", data := .fields #[.none, .none, .int (-1) t] } } :=
  slice_made (ws := vs.reverse) F N hl .none .none (.int _ _) (by simp) (by rw [hv.length]; exact hz) (pick_rev _) (fun D h' F' N' q => h D _ h' hv.rev F' N' q) hs ht
theorem eqAt_bytes {s : Shared} (b : List UInt8) (t u : Tok) : SeqAt.EqAt A s (.bytes b.toArray t) (.bytes b.toArray u) true := fun prog w E Q h => by
  unfold eqBool
  refine wpAny_holding ?_
  refine wpAny_ite_split (fun hab => ?_) (fun hab => ?_)
  · exact wpAny_bind (wpAny_rule (wpAny_pure h))
  · exact wpAny_bind (richCompare_gives (typeIs_bytes s b.toArray t) (typeIs_bytes s b.toArray u) FB.slot_bytes_eq FB.entry_bytes_eq (FB.args_bytes_eq_2 _ _) (gives_bytes_eq b.toArray b.toArray t u) (by simp [Made.takes]) (wpAny_truthy_bool (by simpa using h)))
theorem ne_bl {l l₂ : Addr} {vs ws : List Value} {bs : List (List UInt8)} {Q : Value → Shared → Prop} (hl : s.heap.IsList l vs.toArray) (hb : s.heap.IsList l₂ ws.toArray) (hv : BytesAre vs bs) (hw : BytesAre ws bs) (hu : A.units < cLine) (h : Q (.bool false) s) :
    wpAny (model prog w) A (compareOp .NotEq (.ref l) (.ref l₂)) Q E s := by
  refine SeqAt.RcNeAt.lists (e := fun _ => true) hl hb (by simp [hv.length, hw.length]) hu (fun j h1 h2 => ?_) prog w E Q (by rw [show (List.range vs.toArray.size).all (fun _ => true) = true from List.all_eq_true.mpr fun _ _ => rfl]; exact h)
  have g1 : vs[j]? = some (vs.toArray[j]) := by simp at h1; simp [h1]
  have g2 : ws[j]? = some (ws.toArray[j]) := by simp at h2; simp [h2]
  obtain ⟨b, t, e1, e2⟩ := hv.get g1
  obtain ⟨c, u, e3, e4⟩ := hw.get g2
  rw [e1] at e3
  cases e3
  rw [e2, e4]
  exact eqAt_bytes b t u
end
noncomputable def riseF (b : List UInt8) : Int := if b = [46, 46] then -1 else if b = [46] then 0 else 1
theorem rise_dd : riseF [46, 46] = -1 := rfl
theorem rise_dot : riseF [46] = 0 := rfl
theorem rise_name {b : List UInt8} (h : b ≠ [46, 46]) (h' : b ≠ [46]) : riseF b = 1 := by unfold riseF; rw [if_neg h, if_neg h']
noncomputable def htF (st : Nat → List UInt8) : Nat → Int
  | 0 => 0
  | n + 1 => htF st n + riseF (st n)
noncomputable def kpF (st : Nat → List UInt8) (root : List UInt8) (n k : Nat) : Bool :=
  if st k = [46, 46] then decide (root = []) && (List.range (k + 1)).all fun j => decide (htF st (k + 1) < htF st j)
  else decide (st k ≠ [46]) && (List.range n).all fun j => decide (k ≤ j → htF st k < htF st (j + 1))
theorem kpF_succ (st : Nat → List UInt8) (root : List UInt8) (n k : Nat) (hk : k ≤ n) : kpF st root (n + 1) k = (kpF st root n k && (decide (st k = [46, 46]) || decide (htF st k < htF st (n + 1)))) := by
  unfold kpF
  by_cases h : st k = [46, 46]
  · simp [h]
  · simp only [h, if_false, List.range_succ, List.all_append, List.all_cons, List.all_nil, Bool.and_true, decide_false, Bool.false_or]
    rw [Bool.and_assoc]
    congr 2
    simp [hk]
structure StackAt (st : Nat → List UInt8) (root : List UInt8) (n : Nat) (ds ns : List Nat) (base : Int) : Prop where
  kept : (List.range n).filter (kpF st root n) = ds ++ ns
  dsd : ∀ k ∈ ds, st k = [46, 46]
  nsn : ∀ k ∈ ns, st k ≠ [46, 46] ∧ st k ≠ [46]
  hts : ns.map (htF st) = (List.range ns.length).map fun (l : Nat) => base + (l : Int)
  top : htF st n = base + (ns.length : Int)
  low : ∀ j, j ≤ n → base ≤ htF st j
  dots : root = [] → (ds.length : Int) = -base
  none : root ≠ [] → ds = []
  acc : ((List.range n).map st).foldl (normStep root) [] = (ds ++ ns).map st
theorem hts_lt {f : Nat → Int} {ns : List Nat} {base : Int} (h : ns.map f = (List.range ns.length).map fun (l : Nat) => base + (l : Int)) : ∀ k ∈ ns, base ≤ f k ∧ f k < base + (ns.length : Int) := by
  intro k hk
  have : f k ∈ ns.map f := List.mem_map_of_mem hk
  rw [h, List.mem_map] at this
  obtain ⟨l, hl, e⟩ := this
  have := List.mem_range.mp hl
  omega
theorem hts_snoc {f : Nat → Int} {ns : List Nat} {x : Nat} {base : Int} (h : (ns ++ [x]).map f = (List.range (ns ++ [x]).length).map fun (l : Nat) => base + (l : Int)) :
    (ns.map f = (List.range ns.length).map fun (l : Nat) => base + (l : Int)) ∧ f x = base + (ns.length : Int) := by
  simp only [List.map_append, List.map_cons, List.map_nil, List.length_append, List.length_cons, List.length_nil, List.range_succ, Nat.zero_add] at h
  have := List.append_inj h (by simp)
  exact ⟨this.1, by simpa using this.2⟩
theorem hts_push {f : Nat → Int} {ns : List Nat} {x : Nat} {base : Int} (h : ns.map f = (List.range ns.length).map fun (l : Nat) => base + (l : Int)) (hx : f x = base + (ns.length : Int)) :
    (ns ++ [x]).map f = (List.range (ns ++ [x]).length).map fun (l : Nat) => base + (l : Int) := by
  simp only [List.map_append, List.map_cons, List.map_nil, List.length_append, List.length_cons, List.length_nil, List.range_succ, Nat.zero_add]
  rw [h, hx]
theorem stack_step {st : Nat → List UInt8} {root : List UInt8} (hst : ∀ k, st k ≠ []) {n : Nat} {ds ns : List Nat} {base : Int} (S : StackAt st root n ds ns base) : ∃ ds ns base, StackAt st root (n + 1) ds ns base := by
  have hfil : (List.range (n + 1)).filter (kpF st root (n + 1)) = ds ++ ns.filter (fun k => decide (htF st k < htF st (n + 1))) ++ (if kpF st root (n + 1) n then [n] else []) := by
    rw [List.range_succ, List.filter_append]
    congr 1
    · have e1 : (List.range n).filter (kpF st root (n + 1)) = ((List.range n).filter (kpF st root n)).filter (fun k => decide (st k = [46, 46]) || decide (htF st k < htF st (n + 1))) := by
        rw [List.filter_filter]
        refine List.filter_congr fun k hk => ?_
        rw [kpF_succ st root n k (Nat.le_of_lt (List.mem_range.mp hk)), Bool.and_comm]
      rw [e1, S.kept, List.filter_append]
      congr 1
      · rw [List.filter_eq_self]
        intro k hk
        simp [S.dsd k hk]
      · refine List.filter_congr fun k hk => ?_
        simp [(S.nsn k hk).1]
    · by_cases h : kpF st root (n + 1) n = true <;> simp [h]
  have hfold : ((List.range (n + 1)).map st).foldl (normStep root) [] = normStep root ((ds ++ ns).map st) (st n) := by
    rw [List.range_succ, List.map_append, List.foldl_append, S.acc]; rfl
  have hsucc : htF st (n + 1) = htF st n + riseF (st n) := rfl
  have hlt := hts_lt S.hts
  have htop := S.top
  have hnk : ∀ k ∈ ns, k < n := by
    intro k hk
    have : k ∈ (List.range n).filter (kpF st root n) := by rw [S.kept]; exact List.mem_append_right _ hk
    exact List.mem_range.mp (List.mem_filter.mp this).1
  by_cases h1 : st n = [46]
  · rw [h1, rise_dot] at hsucc
    have hno : kpF st root (n + 1) n = false := by unfold kpF; rw [h1]; simp
    refine ⟨ds, ns, base, ?_, S.dsd, S.nsn, S.hts, by omega, fun j hj => ?_, S.dots, S.none, ?_⟩
    · rw [hfil, hno, List.filter_eq_self.mpr fun k hk => by have := hlt k hk; simp; omega]; simp
    · by_cases e : j = n + 1
      · subst e; have := S.low n (Nat.le_refl _); omega
      · exact S.low j (by omega)
    · rw [hfold, h1]; simp [normStep]
  by_cases h2 : st n = [46, 46]
  · rw [h2, rise_dd] at hsucc
    by_cases hm : ns = []
    · subst hm
      simp only [List.length_nil] at htop
      by_cases hr : root = []
      · have hyes : kpF st root (n + 1) n = true := by
          unfold kpF
          rw [if_pos h2]
          simp only [hr, decide_true, Bool.true_and, List.all_eq_true, decide_eq_true_eq, List.mem_range]
          intro j hj
          have := S.low j (by omega)
          omega
        refine ⟨ds ++ [n], [], base - 1, ?_, ?_, (fun k hk => nomatch hk), rfl, by simp only [List.length_nil]; omega, fun j hj => ?_, fun _ => ?_, fun h => absurd hr h, ?_⟩
        · rw [hfil, hyes]; simp
        · intro k hk
          rcases List.mem_append.mp hk with hk | hk
          · exact S.dsd k hk
          · rw [List.mem_singleton.mp hk]; exact h2
        · by_cases e : j = n + 1
          · subst e; omega
          · have := S.low j (by omega); omega
        · have := S.dots hr
          simp only [List.length_append, List.length_cons, List.length_nil]
          omega
        · rw [hfold, h2]
          simp only [List.append_nil, List.map_append, List.map_cons, List.map_nil, h2]
          unfold normStep
          rw [if_neg (by simp)]
          refine if_pos (.inr ?_)
          rcases List.eq_nil_or_concat ds with e | ⟨ds', x, e⟩
          · left; subst e; exact ⟨hr, rfl⟩
          · right
            subst e
            have := S.dsd x (by simp)
            simp [this]
      · have hds := S.none hr
        subst hds
        have hno : kpF st root (n + 1) n = false := by unfold kpF; rw [if_pos h2]; simp [hr]
        refine ⟨[], [], base - 1, ?_, (fun k hk => nomatch hk), (fun k hk => nomatch hk), rfl, by simp only [List.length_nil]; omega, fun j hj => ?_, fun h => absurd h hr, fun _ => rfl, ?_⟩
        · rw [hfil, hno]; simp
        · by_cases e : j = n + 1
          · subst e; omega
          · have := S.low j (by omega); omega
        · rw [hfold, h2]; simp [normStep, hr]
    · rcases List.eq_nil_or_concat ns with e | ⟨ns', x, e⟩
      · exact absurd e hm
      subst e
      obtain ⟨e1, e2⟩ := hts_snoc (by simpa using S.hts)
      have hlen : ((ns'.concat x).length : Int) = (ns'.length : Int) + 1 := by simp
      have hlt' := hts_lt e1
      have hno : kpF st root (n + 1) n = false := by
        unfold kpF
        rw [if_pos h2]
        rw [Bool.and_eq_false_iff]
        right
        rw [List.all_eq_false]
        refine ⟨x, List.mem_range.mpr ?_, ?_⟩
        · have := hnk x (by simp); omega
        · simp; omega
      refine ⟨ds, ns', base, ?_, S.dsd, fun k hk => S.nsn k (by simp [hk]), e1, by omega, fun j hj => ?_, S.dots, S.none, ?_⟩
      · rw [hfil, hno]
        simp only [Bool.false_eq_true, if_false, List.append_nil, List.concat_eq_append, List.filter_append, List.filter_cons, List.filter_nil]
        rw [List.filter_eq_self.mpr fun k hk => by have := hlt' k hk; simp; omega]
        have : ¬ htF st x < htF st (n + 1) := by omega
        simp [this]
      · by_cases e : j = n + 1
        · subst e; omega
        · exact S.low j (by omega)
      · rw [hfold, h2]
        have hx := (S.nsn x (by simp)).1
        unfold normStep
        rw [if_neg (by simp), if_neg]
        · simp [List.dropLast_append_of_ne_nil]
        · simp [hx]
  · have hr1 := rise_name h2 h1
    rw [hr1] at hsucc
    have hyes : kpF st root (n + 1) n = true := by
      unfold kpF
      rw [if_neg h2]
      simp only [h1, ne_eq, not_false_eq_true, decide_true, Bool.true_and, List.all_eq_true, decide_eq_true_eq, List.mem_range]
      intro j hj hle
      obtain rfl : j = n := by omega
      omega
    refine ⟨ds, ns ++ [n], base, ?_, S.dsd, ?_, hts_push S.hts htop, by simp only [List.length_append, List.length_cons, List.length_nil]; omega, fun j hj => ?_, S.dots, S.none, ?_⟩
    · rw [hfil, hyes, List.filter_eq_self.mpr fun k hk => by have := hlt k hk; simp; omega]; simp
    · intro k hk
      rcases List.mem_append.mp hk with hk | hk
      · exact S.nsn k hk
      · rw [List.mem_singleton.mp hk]; exact ⟨h2, h1⟩
    · by_cases e : j = n + 1
      · subst e; have := S.low n (Nat.le_refl _); omega
      · exact S.low j (by omega)
    · rw [hfold]
      unfold normStep
      rw [if_neg (by simp [h1, hst n]), if_pos (.inl h2)]
      simp
theorem stack_inv {st : Nat → List UInt8} (root : List UInt8) (hst : ∀ k, st k ≠ []) : ∀ n, ∃ ds ns base, StackAt st root n ds ns base
  | 0 => ⟨[], [], 0, rfl, (fun k hk => nomatch hk), (fun k hk => nomatch hk), rfl, rfl, (fun j hj => by have e : j = 0 := Nat.le_zero.mp hj; subst e; exact Int.le_refl _), fun _ => rfl, fun _ => rfl, rfl⟩
  | n + 1 => by
    obtain ⟨ds, ns, base, S⟩ := stack_inv root hst n
    exact stack_step hst S
theorem bytes_of (R : Nat → List UInt8 → Prop) : ∀ {ys : List Value}, (∀ i y, ys[i]? = some y → ∃ b t, R i b ∧ y = .bytes b.toArray t) → ∃ bs, BytesAre ys bs ∧ ∀ i b, bs[i]? = some b → R i b
  | [], _ => ⟨[], trivial, fun i b e => by simp at e⟩
  | y :: ys, h => by
    obtain ⟨b, t, hr, e⟩ := h 0 y rfl
    obtain ⟨bs, hb, hR⟩ := bytes_of (fun i => R (i + 1)) (ys := ys) fun i z e => h (i + 1) z (by simpa using e)
    refine ⟨b :: bs, ⟨⟨t, e⟩, hb⟩, fun i c e => ?_⟩
    cases i with
    | zero => simp at e; exact e ▸ hr
    | succ i => exact hR i c (by simpa using e)
theorem ints_of (R : Nat → Int → Prop) : ∀ {ys : List Value}, (∀ i y, ys[i]? = some y → ∃ b t, R i b ∧ y = .int b t) → ∃ bs, IntsAre ys bs ∧ ∀ i b, bs[i]? = some b → R i b
  | [], _ => ⟨[], .nil, fun i b e => by simp at e⟩
  | y :: ys, h => by
    obtain ⟨b, t, hr, e⟩ := h 0 y rfl
    obtain ⟨bs, hb, hR⟩ := ints_of (fun i => R (i + 1)) (ys := ys) fun i z e => h (i + 1) z (by simpa using e)
    subst e
    refine ⟨b :: bs, .cons b t hb, fun i c e => ?_⟩
    cases i with
    | zero => simp at e; exact e ▸ hr
    | succ i => exact hR i c (by simpa using e)
theorem table_of {α : Type} {l : List α} {n : Nat} {f : Nat → α} (hl : l.length = n) (h : ∀ i b, l[i]? = some b → b = f i) : l = (List.range n).map f := by
  refine List.ext_getElem? fun i => ?_
  rw [List.getElem?_map]
  cases e : l[i]? with
  | none => rw [List.getElem?_eq_none_iff] at e; rw [List.getElem?_eq_none_iff.mpr (by simp; omega)]; rfl
  | some q =>
    have := (List.getElem?_eq_some_iff.mp e).1
    rw [h i q e, List.getElem?_range (by omega)]; rfl
theorem cut_take {α : Type} (l : List α) (k : Nat) (h : k ≤ l.length) : cutL l none (some (k : Int)) = l.take k := by
  unfold cutL
  show (l.drop 0).take (clipAt l.length k - 0) = _
  rw [clipAt_nat, List.drop_zero]
  congr 1
  omega
theorem cut_drop {α : Type} (l : List α) (k : Nat) (h : k ≤ l.length) : cutL l (some (k : Int)) none = l.drop k := by
  unfold cutL
  show (l.drop (clipAt l.length k)).take (l.length - clipAt l.length k) = _
  rw [clipAt_nat]
  have : min k l.length = k := by omega
  rw [this, List.take_of_length_le (by simp)]
theorem joinL_nil : ∀ l : List (List UInt8), joinL [] l = l.flatten
  | [] => rfl
  | [p] => by simp [joinL]
  | p :: q :: r => by rw [joinL, joinL_nil (q :: r)]; simp
section
variable {M : Model} {A : Around} {E : Value → Shared → Prop} {s : Shared} {env : Env}
theorem wpG_BinOp {l op r pos} {Q : Value → Shared → Prop}
    (h : wpG M A (eval l env) (fun a s₁ => wpG M A (eval r env) (fun b s₂ => wpAny M A (binaryOp op a b) Q E s₂) E s₁) E s) :
    wpG M A (eval (.BinOp l op r pos) env) Q E s := by
  rw [arm_eval_BinOp]
  exact wpG_bind (wpG_mono h (fun a s₁ h₁ => wpG_bind (wpG_holding (wpG_mono h₁ (fun b s₂ h₂ => wpG_bind (wpG_standAt (wpG_operate (wpG_of h₂)))) fun _ _ e => e))) fun _ _ e => e)
theorem wpG_List2 {e1 e2 : Expr} {pos : Pos} {Q : Value → Shared → Prop}
    (h : wpG M A (spliced (backTo pos (starEach [e1, e2] env))) (fun vs s' => wpAny M A (newList vs) Q E s') E s) : wpG M A (eval (.List [e1, e2] pos) env) Q E s := by
  rw [arm_eval_List]
  exact wpG_bind (wpG_standAt (wpG_bind (wpG_mono h (fun vs s' h' => wpG_of h') fun _ _ e => e)))
end
theorem iter_rng3 {prog : Program} {w : World} {A : Around} {s : Shared} {env : Env} {h₀ : Heap} {x : Str} (n1 n2 n3 : Str) {px : Pos} {body : List Stmt} {Q : Flow → Shared → Prop} {m₀ : Str → Option Value} {r : Addr} {a b c : Int} {t₀ u₀ v₀ : Tok} {n : Nat} {rest : List (Addr × Obj)}
    (hh : A.handled = none) (hx : env.kindOf x = some .local) (hp : (env.scope.kind == .class || (env.scope.kind == .module && env.locals != env.globals)) = false)
    (hr : IsRange s.heap r a b c t₀ u₀ v₀) (hsmall : Builtin.Range.small a b c = true) (hn : Builtin.Range.rangeSize a b c = (n : Int)) (F : Fr h₀ env.locals s.heap m₀) (N : News h₀ env.locals s.heap rest)
    (turn : ∀ i t vx v1 v2 v3 I oI h tk, i < n → Fr h₀ env.locals h (fun y => if y = x then some (.int (a + (i : Int) * c) t) else if y = n3 then v3 else if y = n2 then v2 else if y = n1 then v1 else if y = x then vx else m₀ y) → News h₀ env.locals h ((I, oI) :: rest) → (∀ q ∈ rest, q.1 < I) →
      wpG (model prog w) A (execs body env) (fun f s₃ => match f with
          | .next | .cont => ∃ h' tk' m', s₃ = { s with heap := h', toks := tk' } ∧ (∀ y, y ≠ x → y ≠ n1 → y ≠ n2 → y ≠ n3 → m' y = m₀ y) ∧ Fr h₀ env.locals h' m' ∧ News h₀ env.locals h' ((I, oI) :: rest)
          | .brk => Q .next s₃
          | .ret v => Q (.ret v) s₃) noE { s with heap := h, toks := tk })
    (done : ∀ m₁ h tk, Fr h₀ env.locals h m₁ → News h₀ env.locals h rest → Q .next { s with heap := h, toks := tk }) :
    wpAny (model prog w) A (pyIter (.ref r)) (fun it s₂ => codeG (model prog w) A (.forLoop (.Name x px) it body [] env) (fun r s' => match r with | .ok f => Q f s' | .error _ => False) s₂) noE s := by
  refine iter_rngG (fun m => ∀ y, y ≠ x → y ≠ n1 → y ≠ n2 → y ≠ n3 → m y = m₀ y) hh hx hp hr hsmall hn F N (fun _ _ _ _ _ => rfl) ?_ fun m₁ h tk _ F' N' => done m₁ h tk F' N'
  intro i t m₁ I oI h tk hi hJ F' N' hlt
  have e : (fun y => if y = x then some (Value.int (a + (i : Int) * c) t) else m₁ y) = (fun y => if y = x then some (.int (a + (i : Int) * c) t) else if y = n3 then m₁ n3 else if y = n2 then m₁ n2 else if y = n1 then m₁ n1 else if y = x then none else m₀ y) := by
    funext y
    by_cases h1 : y = x
    · simp [h1]
    · by_cases h4 : y = n3
      · simp [h4]
      · by_cases h3 : y = n2
        · subst h3; simp [h4]
        · by_cases h2 : y = n1
          · subst h2; simp [h3, h4]
          · simp only [if_neg h1, if_neg h2, if_neg h3, if_neg h4]; exact hJ y h1 h2 h3 h4
  rw [e] at F'
  exact turn i t none _ _ _ I oI h tk hi F' N' hlt
section
variable {M : Model} {A : Around} {E : Value → Shared → Prop} {s : Shared} {env : Env}
theorem wpG_pair {e1 e2 : Expr} {pos : Pos} {Q : Value → Shared → Prop}
    (h : wpG M A (eval e1 env) (fun v s₁ => wpG M A (eval e2 env) (fun v2 s₂ => wpAny M A (newList [v, v2]) Q E s₂) E s₁) E s)
    (he : starEach [e1, e2] env = [(false, eval e1 env), (false, eval e2 env)] := by rfl) : wpG M A (eval (.List [e1, e2] pos) env) Q E s := by
  refine wpG_List2 ?_
  rw [he]
  exact wpG_spliced_cons (wpG_mono h (fun v s₁ h₁ => wpG_spliced_cons (wpG_mono h₁ (fun v2 s₂ h₂ => wpG_spliced_nil h₂) fun _ _ e => e)) fun _ _ e => e)
end
section
variable {prog : Program} {w : World} {A : Around} {E : Value → Shared → Prop} {s : Shared}
theorem ne_bl2 {l l₂ : Addr} {vs ws : List Value} {bs cs : List (List UInt8)} {Q : Value → Shared → Prop} (hl : s.heap.IsList l vs.toArray) (hb : s.heap.IsList l₂ ws.toArray) (hv : BytesAre vs bs) (hw : BytesAre ws cs) (e : bs = cs) (hu : A.units < cLine) (h : Q (.bool false) s) :
    wpAny (model prog w) A (compareOp .NotEq (.ref l) (.ref l₂)) Q E s := by
  subst e
  exact ne_bl hl hb hv hw hu h
end
theorem BytesAre.two {b c : List UInt8} {t u : Tok} : BytesAre [.bytes b.toArray t, .bytes c.toArray u] [b, c] := ⟨⟨t, rfl⟩, ⟨u, rfl⟩, trivial⟩
local macro_rules | `(tactic| walk_at "my:len") => `(tactic| first | ((first | omega | (simp only [List.length_append, List.length_reverse]; omega))))
local macro_rules | `(tactic| walk_at "my:bytes") => `(tactic| first | (exact BytesAre.two))
noncomputable def menu (i : Nat) : List (List UInt8) := [[46, 46], [46], [97 + i.toUInt8], [97 + i.toUInt8, 46], [46, 97 + i.toUInt8]]
theorem step_menu0 : ∀ i : Fin 7, ∀ x : Fin 15, stepB ((i : Nat) : Int) ((x : Nat) : Int) ∈ menu i := by decide +kernel
theorem step_menu {i : Nat} {x : Int} (hi : i < 7) (h0 : 0 ≤ x) (h1 : x < 15) : stepB (i : Int) x ∈ menu i := by
  have := step_menu0 ⟨i, hi⟩ ⟨x.toNat, by omega⟩
  have e : ((x.toNat : Nat) : Int) = x := by omega
  simpa [e] using this
theorem menu_len {i : Nat} {b : List UInt8} (h : b ∈ menu i) : 1 ≤ b.length ∧ b.length ≤ 2 := by
  simp only [menu, List.mem_cons, List.not_mem_nil, or_false] at h
  rcases h with rfl | rfl | rfl | rfl | rfl <;> simp
noncomputable def wordF (b : List UInt8) : List UInt8 := cutL (b ++ [47, 47]) none (some 3)
theorem word_len {b : List UInt8} (h : 1 ≤ b.length ∧ b.length ≤ 2) : (wordF b).length = 3 := by
  have h9 : clipAt (b.length + 2) 3 = 3 := by rw [clipAt_in (by omega) (by omega)]; rfl
  unfold wordF cutL
  rw [List.length_take, List.length_drop, List.length_append]
  show min (clipAt (b.length + 2) 3 - 0) (b.length + 2 - 0) = 3
  rw [h9]
  omega
theorem swap_get (wd : Nat) (b : List UInt8) (k : Nat) : (swapB wd b)[k]? = if k < b.length then some (swAt wd b k) else none := by
  unfold swapB
  rw [List.getElem?_map]
  by_cases h : k < b.length
  · rw [List.getElem?_range h, if_pos h]; rfl
  · rw [if_neg h, List.getElem?_eq_none (by simpa using h)]; rfl
theorem swap_len (wd : Nat) (b : List UInt8) : (swapB wd b).length = b.length := by simp [swapB]
theorem swap_one (b : List UInt8) : swapB (max 1 b.length) b = b.reverse := by
  refine List.ext_getElem? fun k => ?_
  rw [swap_get]
  by_cases h : k < b.length
  · have e : max 1 b.length = b.length := by omega
    rw [if_pos h, List.getElem?_reverse h, e]
    unfold swAt
    rw [Nat.div_eq_of_lt h, Nat.mod_eq_of_lt h, List.getD_eq_getElem?_getD]
    have : 0 * b.length + (b.length - 1 - k) = b.length - 1 - k := by omega
    rw [this, List.getElem?_eq_getElem (by omega : b.length - 1 - k < b.length)]
    rfl
  · rw [if_neg h, List.getElem?_eq_none (by simpa using h)]
theorem swap_app {wd : Nat} {q r : List UInt8} (hw : 0 < wd) (hq : q.length = wd) : swapB wd (q ++ r) = q.reverse ++ swapB wd r := by
  refine List.ext_getElem? fun k => ?_
  rw [swap_get]
  by_cases h : k < wd
  · rw [if_pos (by simp; omega), List.getElem?_append_left (by simp; omega), List.getElem?_reverse (by omega)]
    unfold swAt
    rw [Nat.div_eq_of_lt h, Nat.mod_eq_of_lt h, List.getD_eq_getElem?_getD]
    have : 0 * wd + (wd - 1 - k) = wd - 1 - k := by omega
    rw [this, List.getElem?_append_left (by omega), hq, List.getElem?_eq_getElem (by omega : wd - 1 - k < q.length)]
    rfl
  · obtain ⟨j, rfl⟩ : ∃ j, k = wd + j := ⟨k - wd, by omega⟩
    rw [List.getElem?_append_right (by simp; omega), swap_get]
    have e : wd + j - q.reverse.length = j := by simp; omega
    rw [e]
    by_cases hj : j < r.length
    · rw [if_pos hj, if_pos (by simp; omega)]
      congr 1
      unfold swAt
      rw [List.getD_eq_getElem?_getD, List.getD_eq_getElem?_getD, Nat.add_div_left _ hw, Nat.add_mod_left, Nat.succ_mul]
      rw [List.getElem?_append_right (by omega)]
      congr 2
      omega
    · rw [if_neg hj, if_neg (by simp; omega)]
theorem swap_words {wd : Nat} (hw : 0 < wd) : ∀ ws : List (List UInt8), (∀ q ∈ ws, q.length = wd) → swapB wd ws.flatten = (ws.map List.reverse).flatten
  | [], _ => rfl
  | q :: ws, h => by
    rw [List.flatten_cons, swap_app hw (h q (.head _)), swap_words hw ws fun p hp => h p (.tail _ hp)]
    rfl
theorem words_take : ∀ (ws : List (List UInt8)) (k : Nat), (∀ q ∈ ws, q.length = 3) → ws.flatten.take (3 * k) = (ws.take k).flatten
  | [], k, _ => by simp
  | q :: ws, 0, _ => by simp
  | q :: ws, k + 1, h => by
    have hq := h q (.head _)
    rw [List.flatten_cons, List.take_append, List.take_of_length_le (by omega), List.take_succ_cons, List.flatten_cons]
    have : 3 * (k + 1) - q.length = 3 * k := by omega
    rw [this, words_take ws k fun p hp => h p (.tail _ hp)]
theorem words_drop : ∀ (ws : List (List UInt8)) (k : Nat), (∀ q ∈ ws, q.length = 3) → ws.flatten.drop (3 * k) = (ws.drop k).flatten
  | [], k, _ => by simp
  | q :: ws, 0, _ => by simp
  | q :: ws, k + 1, h => by
    have hq := h q (.head _)
    rw [List.flatten_cons, List.drop_append, List.drop_of_length_le (by omega), List.drop_succ_cons, List.nil_append]
    have : 3 * (k + 1) - q.length = 3 * k := by omega
    rw [this, words_drop ws k fun p hp => h p (.tail _ hp)]
theorem words_len : ∀ (ws : List (List UInt8)), (∀ q ∈ ws, q.length = 3) → ws.flatten.length = 3 * ws.length
  | [], _ => rfl
  | q :: ws, h => by
    rw [List.flatten_cons, List.length_append, h q (.head _), words_len ws fun p hp => h p (.tail _ hp), List.length_cons]; omega
noncomputable def halvesF (words : List (List UInt8)) (i : Nat) : List UInt8 :=
  swapB (max 1 (cutL (joinL [] words) none (some (3 * (0 + (i : Int) * 1)))).length) (cutL (joinL [] words) none (some (3 * (0 + (i : Int) * 1)))) ++
  swapB (max 1 (cutL (joinL [] words) (some (3 * (0 + (i : Int) * 1))) none).length) (cutL (joinL [] words) (some (3 * (0 + (i : Int) * 1))) none)
noncomputable def begunF (words : List (List UInt8)) (i : Nat) : List (List UInt8) := cutL words (some (0 + (i : Int) * 1)) none ++ cutL words none (some (0 + (i : Int) * 1))
theorem begun_eq {words : List (List UInt8)} {i : Nat} (hi : i ≤ words.length) : begunF words i = words.drop i ++ words.take i := by
  unfold begunF
  rw [show (0 + (i : Int) * 1) = (i : Int) from by omega, cut_take _ _ hi, cut_drop _ _ hi]
theorem halves_eq {words : List (List UInt8)} {i : Nat} (h : ∀ q ∈ words, q.length = 3) (hi : i ≤ words.length) : halvesF words i = (words.take i).flatten.reverse ++ (words.drop i).flatten.reverse := by
  unfold halvesF
  have hl := words_len words h
  rw [show (3 * (0 + (i : Int) * 1)) = ((3 * i : Nat) : Int) from by omega, joinL_nil, cut_take _ _ (by omega), cut_drop _ _ (by omega), swap_one, swap_one, words_take _ _ h, words_drop _ _ h]
theorem halves_len {words : List (List UInt8)} {i : Nat} (h : ∀ q ∈ words, q.length = 3) (hi : i ≤ words.length) : (halvesF words i).length = 3 * words.length := by
  rw [halves_eq h hi, List.length_append, List.length_reverse, List.length_reverse, ← List.length_append, ← List.flatten_append, List.take_append_drop, words_len _ h]
theorem rows_a {words : List (List UInt8)} {i : Nat} (h : ∀ q ∈ words, q.length = 3) (hi : i ≤ words.length) : swapB (max 1 (halvesF words i).length) (halvesF words i) = joinL [] (begunF words i) := by
  rw [swap_one, halves_eq h hi, begun_eq hi, joinL_nil, List.reverse_append, List.reverse_reverse, List.reverse_reverse, List.flatten_append]
theorem rows_b {words : List (List UInt8)} {i : Nat} (h : ∀ q ∈ words, q.length = 3) (hi : i ≤ words.length) : swapB 3 (halvesF words i) = joinL [] (begunF words i).reverse := by
  have hf : ∀ ws : List (List UInt8), ws.flatten.reverse = (ws.reverse.map List.reverse).flatten := fun ws => by rw [List.reverse_flatten, List.map_reverse]
  rw [halves_eq h hi, begun_eq hi, joinL_nil, hf, hf, ← List.flatten_append, swap_words (by decide)]
  · simp [Function.comp_def]
  · intro q hq
    simp only [List.mem_append, List.mem_map, List.mem_reverse] at hq
    rcases hq with ⟨p, hp, rfl⟩ | ⟨p, hp, rfl⟩
    · rw [List.length_reverse]; exact h p (List.mem_of_mem_take hp)
    · rw [List.length_reverse]; exact h p (List.mem_of_mem_drop hp)
noncomputable def stF (ring : List (List UInt8)) (b w : Int) (j : Nat) : List UInt8 := ring.getD (plc b w j) []
theorem plc_lt (b w : Int) (j : Nat) : plc b w j < 7 := by
  unfold plc
  have := fmod7 (b + w * (j : Int))
  omega
theorem ring7 {α : Type} {l : List α} (h : l.length = 7) : ∃ a b c d e f g, l = [a, b, c, d, e, f, g] := by
  match l, h with
  | [a, b, c, d, e, f, g], _ => exact ⟨a, b, c, d, e, f, g, rfl⟩
theorem begun_f {ring : List (List UInt8)} (h : ring.length = 7) {i : Nat} (hi : i < 7) : begunF (ring.map wordF) i = ((List.range 7).map fun j => wordF (stF ring (i : Int) 1 j)) := by
  rw [begun_eq (by simp; omega)]
  obtain ⟨a, b, c, d, e, f, g, rfl⟩ := ring7 h
  obtain rfl | rfl | rfl | rfl | rfl | rfl | rfl : i = 0 ∨ i = 1 ∨ i = 2 ∨ i = 3 ∨ i = 4 ∨ i = 5 ∨ i = 6 := by omega
  all_goals rfl
theorem begun_b {ring : List (List UInt8)} (h : ring.length = 7) {i : Nat} (hi : i < 7) : (begunF (ring.map wordF) i).reverse = ((List.range 7).map fun j => wordF (stF ring ((i : Int) - 1) (-1) j)) := by
  rw [begun_eq (by simp; omega)]
  obtain ⟨a, b, c, d, e, f, g, rfl⟩ := ring7 h
  obtain rfl | rfl | rfl | rfl | rfl | rfl | rfl : i = 0 ∨ i = 1 ∨ i = 2 ∨ i = 3 ∨ i = 4 ∨ i = 5 ∨ i = 6 := by omega
  all_goals rfl
theorem split_app {c : UInt8} : ∀ {q : List UInt8} (r : List UInt8), c ∉ q → splitL c (q ++ c :: r) = q :: splitL c r
  | [], r, _ => by show splitL c (c :: r) = _; rw [splitL, if_pos rfl]
  | x :: q, r, h => by
    have hx : x ≠ c := fun e => h (e ▸ .head _)
    rw [List.cons_append, splitL, if_neg hx, split_app r fun m => h (.tail _ m)]
noncomputable def WordOk (q : List UInt8) : Prop := 47 ∉ q ∧ 1 ≤ q.length ∧ q.length ≤ 2
theorem wordF_eq {q : List UInt8} (h : WordOk q) : wordF q = q ++ [47] ∨ wordF q = q ++ [47, 47] := by
  obtain ⟨_, h1, h2⟩ := h
  unfold wordF
  rw [show (3 : Int) = ((3 : Nat) : Int) from rfl, cut_take _ _ (by simp; omega)]
  match q, h1, h2 with
  | [a], _, _ => exact .inr rfl
  | [a, b], _, _ => exact .inl rfl
theorem norm_nil (r : List UInt8) (a : List (List UInt8)) : normStep r a [] = a := by simp [normStep]
theorem fold_words : ∀ (qs : List (List UInt8)) (a : List (List UInt8)), (∀ q ∈ qs, WordOk q) → (splitL 47 (qs.map wordF).flatten).foldl (normStep []) a = qs.foldl (normStep []) a
  | [], a, _ => by simp [splitL, norm_nil]
  | q :: qs, a, h => by
    have hq := h q (.head _)
    rw [List.map_cons, List.flatten_cons, List.foldl_cons]
    rcases wordF_eq hq with e | e
    · rw [e, List.append_assoc, List.singleton_append, split_app _ hq.1, List.foldl_cons, fold_words qs _ fun p hp => h p (.tail _ hp)]
    · rw [e, List.append_assoc, List.cons_append, split_app _ hq.1, List.foldl_cons]
      show (splitL 47 (47 :: (qs.map wordF).flatten)).foldl _ _ = _
      rw [splitL, if_pos rfl, List.foldl_cons, norm_nil, fold_words qs _ fun p hp => h p (.tail _ hp)]
theorem norm_words {q : List UInt8} {qs : List (List UInt8)} (h : ∀ p ∈ q :: qs, WordOk p) : normB (joinL [] ((q :: qs).map wordF)) = (let r := joinL [47] ((q :: qs).foldl (normStep []) []); if r = [] then [46] else r) := by
  have hq := h q (.head _)
  rw [joinL_nil]
  have hne : ((q :: qs).map wordF).flatten = q ++ (((q :: qs).map wordF).flatten.drop q.length) := by
    rw [List.map_cons, List.flatten_cons]
    rcases wordF_eq hq with e | e <;> rw [e] <;> simp
  obtain ⟨x, q', rfl⟩ : ∃ x q', q = x :: q' := by
    cases q with
    | nil => exact absurd hq.2.1 (by simp)
    | cons x q' => exact ⟨x, q', rfl⟩
  have hx : x ≠ 47 := fun e => hq.1 (e ▸ .head _)
  generalize hp : ((x :: q') :: qs).map wordF = ws at *
  obtain ⟨r, hr⟩ : ∃ r, ws.flatten = x :: r := ⟨_, hne⟩
  have h1 : cutL ws.flatten none (some 1) ≠ [47] := by
    rw [hr, show (1 : Int) = ((1 : Nat) : Int) from rfl, cut_take _ _ (by simp)]
    simp [hx]
  have e1 : rootB ws.flatten = [] := by unfold rootB; rw [if_pos h1]
  have e2 : restB ws.flatten = ws.flatten := by unfold restB; rw [if_pos h1]
  unfold normB
  rw [if_neg (by rw [hr]; simp), e1, e2, List.nil_append, ← hp, fold_words _ _ h]
section
variable {ring : List (List UInt8)} {rs sp : List Int} {b w : Int}
theorem rise_at (hl : ring.length = 7) (hr : rs = ring.map riseF) (j : Nat) : rs.getD (plc b w j) 0 = riseF (stF ring b w j) := by
  have := plc_lt b w j
  subst hr
  unfold stF
  rw [List.getD_eq_getElem?_getD, List.getD_eq_getElem?_getD, List.getElem?_map, List.getElem?_eq_getElem (by omega)]
  rfl
theorem plc_plc (b w : Int) (i t : Nat) : (((plc b w i : Nat) : Int) + w * ((t : Int) + 1)).fmod 7 = (b + w * ((i + (t + 1) : Nat) : Int)).fmod 7 := by
  unfold plc
  have h1 := fmod7 (b + w * (i : Int))
  have e : w * ((i + (t + 1) : Nat) : Int) = w * (i : Int) + w * ((t : Int) + 1) := by
    rw [← Int.mul_add]; congr 1
  rw [Int.toNat_of_nonneg h1.1, e]
  generalize w * (i : Int) = p
  generalize w * ((t : Int) + 1) = q
  rw [Int.fmod_eq_emod_of_nonneg _ (by decide), Int.fmod_eq_emod_of_nonneg _ (by decide), Int.fmod_eq_emod_of_nonneg _ (by decide)]
  omega
theorem hgt_ht (hl : ring.length = 7) (hr : rs = ring.map riseF) {i : Nat} (h1 : riseF (stF ring b w i) = 1) : ∀ t, hgt rs ((plc b w i : Nat) : Int) w t = htF (stF ring b w) (i + t + 1) - htF (stF ring b w) i
  | 0 => by
    show (1 : Int) = htF (stF ring b w) i + riseF (stF ring b w i) - _
    omega
  | t + 1 => by
    have ih := hgt_ht hl hr h1 t
    rw [hgt, plc_plc, ih]
    have := rise_at (b := b) (w := w) hl hr (i + (t + 1))
    unfold plc at this
    rw [this]
    show _ = htF (stF ring b w) (i + (t + 1)) + riseF (stF ring b w (i + (t + 1))) - _
    have e : i + t + 1 = i + (t + 1) := by omega
    rw [e]
    omega
theorem rise_range (q : List UInt8) : -1 ≤ riseF q ∧ riseF q ≤ 1 := by
  unfold riseF
  split <;> (try split) <;> omega
theorem span_iff (hl : ring.length = 7) (hr : rs = ring.map riseF) {i : Nat} (hi : i < 7) (h1 : riseF (stF ring b w i) = 1) :
    (i : Int) + spanF rs ((plc b w i : Nat) : Int) w > 6 ↔ ∀ j, j < 7 → i ≤ j → htF (stF ring b w) i < htF (stF ring b w) (j + 1) := by
  unfold spanF
  have key : ∀ t, hgt rs ((plc b w i : Nat) : Int) w t = htF (stF ring b w) (i + t + 1) - htF (stF ring b w) i := hgt_ht hl hr h1
  cases e : (List.range 6).find? (fun j => hgt rs ((plc b w i : Nat) : Int) w (j + 1) == 0) with
  | none =>
    rw [List.find?_eq_none] at e
    have hne : ∀ t, t < 6 → htF (stF ring b w) (i + (t + 1) + 1) ≠ htF (stF ring b w) i := by
      intro t ht q
      have := e t (List.mem_range.mpr ht)
      rw [key] at this
      simp [q] at this
    refine ⟨fun _ => ?_, fun _ => by dsimp only; omega⟩
    have go : ∀ t, t ≤ 6 → htF (stF ring b w) i < htF (stF ring b w) (i + t + 1) := by
      intro t
      induction t with
      | zero => intro _; show _ < htF (stF ring b w) i + riseF (stF ring b w i); omega
      | succ t ih =>
        intro ht
        have h2 := ih (by omega)
        have h3 := hne t (by omega)
        have h4 : htF (stF ring b w) (i + (t + 1) + 1) = htF (stF ring b w) (i + t + 1) + riseF (stF ring b w (i + t + 1)) := rfl
        have h5 := rise_range (stF ring b w (i + t + 1))
        omega
    intro j hj hij
    have := go (j - i) (by omega)
    rwa [show i + (j - i) + 1 = j + 1 from by omega] at this
  | some j =>
    obtain ⟨h2, as, bs, h3, h4⟩ := List.find?_eq_some_iff_append.mp e
    have hj : as.length = j ∧ j < 6 := by
      have hlen := congrArg List.length h3
      have hg := congrArg (fun l => l[as.length]?) h3
      simp only [List.length_range, List.length_append, List.length_cons] at hlen
      simp [List.getElem?_range (by omega : as.length < 6)] at hg
      omega
    have hz : htF (stF ring b w) (i + (j + 1) + 1) = htF (stF ring b w) i := by
      have := key (j + 1)
      simp only [beq_iff_eq] at h2
      omega
    have hne : ∀ t, t < j → htF (stF ring b w) (i + (t + 1) + 1) ≠ htF (stF ring b w) i := by
      intro t ht q
      have hmem : t ∈ as := by
        have hg := congrArg (fun l => l[t]?) h3
        simp only [List.getElem?_range (by omega : t < 6)] at hg
        rw [List.getElem?_append_left (by omega)] at hg
        exact List.mem_of_getElem? hg.symm
      have := h4 t hmem
      rw [key] at this
      simp [q] at this
    dsimp only
    constructor
    · intro hgt6
      have go : ∀ t, t ≤ j → htF (stF ring b w) i < htF (stF ring b w) (i + t + 1) := by
        intro t
        induction t with
        | zero => intro _; show _ < htF (stF ring b w) i + riseF (stF ring b w i); omega
        | succ t ih =>
          intro ht
          have h2 := ih (by omega)
          have h3 := hne t (by omega)
          have h4 : htF (stF ring b w) (i + (t + 1) + 1) = htF (stF ring b w) (i + t + 1) + riseF (stF ring b w (i + t + 1)) := rfl
          have h5 := rise_range (stF ring b w (i + t + 1))
          omega
      intro k hk hik
      have := go (k - i) (by omega)
      rwa [show i + (k - i) + 1 = k + 1 from by omega] at this
    · intro hall
      by_cases h : i + (j + 1) < 7
      · have := hall (i + (j + 1)) h (by omega)
        omega
      · omega
theorem isLeft_eq (hl : ring.length = 7) (hr : rs = ring.map riseF) (hst : ∀ k, stF ring b w k ≠ []) (hs : ∀ p : Nat, p < 7 → sp.getD p 0 = spanF rs (p : Int) w) {i : Nat} (hi : i < 7) :
    isLeft rs sp b w i = (kpF (stF ring b w) [] 7 i && decide (stF ring b w i ≠ [46, 46])) := by
  unfold isLeft
  rw [rise_at hl hr, hs _ (plc_lt b w i)]
  unfold kpF
  by_cases h2 : stF ring b w i = [46, 46]
  · simp [h2, rise_dd]
  · by_cases h1 : stF ring b w i = [46]
    · simp [h1, rise_dot]
    · have h3 := rise_name h2 h1
      have h4 := span_iff hl hr hi h3
      rw [if_neg h2, Bool.eq_iff_iff]
      simp only [h3, h1, h2, Bool.and_eq_true, decide_eq_true_eq, ne_eq, not_false_eq_true, true_and, and_true, List.all_eq_true, List.mem_range]
      exact h4
theorem leftF_filter (n : Nat) : leftF ring rs sp b w n = ((List.range n).filter (isLeft rs sp b w)).map (stF ring b w) := by
  induction n with
  | zero => rfl
  | succ n ih =>
    rw [leftF, ih, List.range_succ, List.filter_append, List.map_append]
    congr 1
    by_cases h : isLeft rs sp b w n = true <;> simp [h, stF]
theorem dotsF_eq (hl : ring.length = 7) (hr : rs = ring.map riseF) (n : Nat) : dotsF rs sp b w n = (((List.range n).filter (isLeft rs sp b w)).length : Int) - htF (stF ring b w) n := by
  induction n with
  | zero => rfl
  | succ n ih =>
    have e : htF (stF ring b w) (n + 1) = htF (stF ring b w) n + riseF (stF ring b w n) := rfl
    rw [dotsF, ih, List.range_succ, List.filter_append, List.length_append, e, rise_at hl hr]
    by_cases h : isLeft rs sp b w n = true
    · have h1 : riseF (stF ring b w n) = 1 := by
        unfold isLeft at h
        rw [rise_at hl hr, Bool.and_eq_true] at h
        simpa using h.1
      simp only [h, if_true, h1, List.filter_cons, List.filter_nil, List.length_cons, List.length_nil]
      omega
    · simp only [h, List.filter_cons, List.filter_nil, List.length_nil, if_false, Bool.false_eq_true]
      omega
theorem due_stack (hl : ring.length = 7) (hr : rs = ring.map riseF) (hst : ∀ k, stF ring b w k ≠ []) (hs : ∀ p : Nat, p < 7 → sp.getD p 0 = spanF rs (p : Int) w) :
    ((List.range 7).map (stF ring b w)).foldl (normStep []) [] = (List.replicate (dotsF rs sp b w 7).toNat [[46, 46]]).flatten ++ leftF ring rs sp b w 7 := by
  obtain ⟨ds, ns, base, S⟩ := stack_inv (st := stF ring b w) [] hst 7
  have hns : (List.range 7).filter (isLeft rs sp b w) = ns := by
    have e1 : (List.range 7).filter (isLeft rs sp b w) = ((List.range 7).filter (kpF (stF ring b w) [] 7)).filter (fun k => decide (stF ring b w k ≠ [46, 46])) := by
      rw [List.filter_filter]
      refine List.filter_congr fun k hk => ?_
      rw [isLeft_eq hl hr hst hs (List.mem_range.mp hk), Bool.and_comm]
    rw [e1, S.kept, List.filter_append, List.filter_eq_nil_iff.mpr fun k hk => by simp [S.dsd k hk], List.filter_eq_self.mpr fun k hk => by simp [(S.nsn k hk).1], List.nil_append]
  have hd : (dotsF rs sp b w 7).toNat = ds.length := by
    rw [dotsF_eq (ring := ring) hl hr, hns]
    have := S.top
    have := S.dots rfl
    omega
  rw [S.acc, leftF_filter, hns, hd, List.map_append, List.flatten_replicate_singleton]
  congr 1
  rw [List.eq_replicate_iff]
  refine ⟨by simp, fun x hx => ?_⟩
  obtain ⟨k, hk, rfl⟩ := List.mem_map.mp hx
  exact S.dsd k hk
theorem norm_due (hl : ring.length = 7) (hr : rs = ring.map riseF) (hw : ∀ q ∈ ring, WordOk q) (hs : ∀ p : Nat, p < 7 → sp.getD p 0 = spanF rs (p : Int) w) :
    normB (joinL [] ((List.range 7).map fun j => wordF (stF ring b w j))) = dueF ring rs sp b w := by
  have hm : ∀ k, stF ring b w k ∈ ring := by
    intro k
    have := plc_lt b w k
    unfold stF
    rw [List.getD_eq_getElem?_getD, List.getElem?_eq_getElem (by omega)]
    exact List.getElem_mem _
  have hst : ∀ k, stF ring b w k ≠ [] := fun k e => by have := (hw _ (hm k)).2.1; rw [e] at this; simp at this
  have e : ((List.range 7).map fun j => wordF (stF ring b w j)) = ((List.range 7).map (stF ring b w)).map wordF := by rw [List.map_map]; rfl
  rw [e]
  have h0 : (List.range 7).map (stF ring b w) = stF ring b w 0 :: ((List.range' 1 6).map (stF ring b w)) := rfl
  unfold dueF
  rw [← due_stack hl hr hst hs, h0, norm_words]
  intro p hp
  rw [← h0, List.mem_map] at hp
  obtain ⟨k, _, rfl⟩ := hp
  exact hw _ (hm k)
end
theorem law2_f {ring : List (List UInt8)} {rises forth : List Int} (hl : ring.length = 7) (hr : rises = ring.map riseF) (hw : ∀ q ∈ ring, WordOk q) (hs : forth = (List.range 7).map fun (i : Nat) => spanF rises (i : Int) 1) {i : Nat} (hi : i < 7) :
    normB (joinL [] (begunF (ring.map wordF) i)) = dueF ring rises forth (i : Int) 1 := by
  rw [begun_f hl hi]
  refine norm_due hl hr hw fun p hp => ?_
  subst hs
  rw [List.getD_eq_getElem?_getD, List.getElem?_map, List.getElem?_range hp]; rfl
theorem law2_b {ring : List (List UInt8)} {rises back : List Int} (hl : ring.length = 7) (hr : rises = ring.map riseF) (hw : ∀ q ∈ ring, WordOk q) (hs : back = (List.range 7).map fun (i : Nat) => spanF rises (i : Int) (-1)) {i : Nat} (hi : i < 7) :
    normB (joinL [] (begunF (ring.map wordF) i).reverse) = dueF ring rises back ((i : Int) - 1) (-1) := by
  rw [begun_b hl hi]
  refine norm_due hl hr hw fun p hp => ?_
  subst hs
  rw [List.getD_eq_getElem?_getD, List.getElem?_map, List.getElem?_range hp]; rfl
theorem menu_ok {i : Nat} {q : List UInt8} (hi : i < 7) (h : q ∈ menu i) : WordOk q := by
  refine ⟨?_, menu_len h⟩
  simp only [menu, List.mem_cons, List.not_mem_nil, or_false] at h
  obtain rfl | rfl | rfl | rfl | rfl | rfl | rfl : i = 0 ∨ i = 1 ∨ i = 2 ∨ i = 3 ∨ i = 4 ∨ i = 5 ∨ i = 6 := by omega
  all_goals rcases h with rfl | rfl | rfl | rfl | rfl <;> decide
theorem spanF_range (ns : List Int) (place way : Int) : 0 ≤ spanF ns place way ∧ spanF ns place way ≤ 7 := by
  unfold spanF
  cases e : (List.range 6).find? (fun j => hgt ns place way (j + 1) == 0) with
  | none => simp
  | some j =>
    have := List.mem_range.mp (List.mem_of_find?_eq_some e)
    dsimp only
    omega
theorem table_range {l : List Int} {n : Nat} {ns : List Int} {way : Int} (h : l = (List.range n).map fun (i : Nat) => spanF ns (i : Int) way) : ∀ q ∈ l, 0 ≤ q ∧ q ≤ 7 := by
  intro q hq
  rw [h, List.mem_map] at hq
  obtain ⟨i, _, rfl⟩ := hq
  exact spanF_range _ _ _
theorem law2 : PySem.Challenge.rw_nq0013_02.Holds := by
  w_top off
  refine hd ?_
  k_fill
  intro w s₀ s₁ mg mb G Y fa o pm cd doc dV kV ho hdd hcd hD hmg hg args vals as hpre hlay hrd hwl hlo
  have KX := kIn_of Y
  refine Ground.open G ?_
  intro T B D TE TW
  wrow_args hpre hlay hrd hwl hlo
  rename List Int => scr
  have post : ∀ (L : Addr) (m : Str → Option Value) (h : Heap) (tk : Nat), Fr s₁.heap L h m → GoodWG Challenge.rw_nq0013_02.row.claim (classAt s₀.heap) (ExcName.means s₀.heap) [ofPy (PySem.PyData.list (scr.map PySem.PyData.int))] s₁ (Except.ok (Flow.ret (Value.bool true))) { heap := h, gens := s₁.gens, drawn := s₁.drawn, toks := tk, os := s₁.os } := by
    intro L m h tk Fc
    refine GoodW.toG (goodW_bool Fc hg (raisesW_false ?_) ?_)
    · wrow_none_raised
    · wrow_post
  refine wpG_call ?_
  have K0 := below_caller (Top.heap T)
  have he := Dflts.none hD rfl
  subst he
  have he := Dflts.noKw hD
  subst he
  refine call_cellsG (by decide) ho (fd_plain hdd) (Top.nolimit T) hcd rfl (kinds_of (by kinds_ok)) (by decide) fun h₁ tk₁ cells F N0 X0 => ?_
  cells_open X0
  refine wpG_execs_cons (wpG_of ?_)
  (repeat' (first | (k_unfold; (try dsimp only)) | ((((fail_if_success (with_reducible show InvPostN _ _ _ _ _ _ _ _ _)); (fail_if_success (with_reducible show InvEndN _ _ _ _ _ _ _)); (fail_if_success (with_reducible show wpG _ _ _ _ _ _)); (fail_if_success (with_reducible show wpAny _ _ (pyIter (Value.ref _)) _ _ _)))); walk1) | ((((fail_if_success (with_reducible show InvPostN _ _ _ _ _ _ _ _ _)); (fail_if_success (with_reducible show InvEndN _ _ _ _ _ _ _)); (fail_if_success (with_reducible show wpG _ _ _ _ _ _)); (fail_if_success (with_reducible show wpAny _ _ (pyIter (Value.ref _)) _ _ _)))); dsimp only; walk1) | (leave1; walk_say "STEP leave1"; try dsimp only) | fail "no step"))
  refine wpG_execs_cons (wpG_of ?_)
  refine LCg.Assign_ListComp_U (F₀ := by k_asm) (by rfl) (by with_unfolding_all rfl) (by with_unfolding_all rfl) (by decide) (by rfl) (by decide) (by rfl) (by rfl) (by rfl) ?_
  (repeat' (first | (k_unfold; (try dsimp only)) | ((((((fail_if_success (with_reducible show InvPostN _ _ _ _ _ _ _ _ _)); (fail_if_success (with_reducible show InvEndN _ _ _ _ _ _ _)); (fail_if_success (with_reducible show wpG _ _ _ _ _ _)); (fail_if_success (with_reducible show wpAny _ _ (pyIter (Value.ref _)) _ _ _)))); (fail_if_success (with_reducible show LCg.CompSrc _ _ _ _ _ _ _ _ _ _ _ _ _ _)); (fail_if_success (with_reducible show LCg.CompEnd _ _ _ _ _ _ _ _ _ _ _ _ _ _)))); walk1) | ((((((fail_if_success (with_reducible show InvPostN _ _ _ _ _ _ _ _ _)); (fail_if_success (with_reducible show InvEndN _ _ _ _ _ _ _)); (fail_if_success (with_reducible show wpG _ _ _ _ _ _)); (fail_if_success (with_reducible show wpAny _ _ (pyIter (Value.ref _)) _ _ _)))); (fail_if_success (with_reducible show LCg.CompSrc _ _ _ _ _ _ _ _ _ _ _ _ _ _)); (fail_if_success (with_reducible show LCg.CompEnd _ _ _ _ _ _ _ _ _ _ _ _ _ _)))); dsimp only; walk1) | ((((((fail_if_success (with_reducible show InvPostN _ _ _ _ _ _ _ _ _)); (fail_if_success (with_reducible show InvEndN _ _ _ _ _ _ _)); (fail_if_success (with_reducible show wpG _ _ _ _ _ _)); (fail_if_success (with_reducible show wpAny _ _ (pyIter (Value.ref _)) _ _ _)))); (fail_if_success (with_reducible show LCg.CompSrc _ _ _ _ _ _ _ _ _ _ _ _ _ _)); (fail_if_success (with_reducible show LCg.CompEnd _ _ _ _ _ _ _ _ _ _ _ _ _ _)))); leave1; walk_say "STEP leave1"; try dsimp only) | fail "no step"))
  rename IsRange _ _ _ _ _ _ _ _ => hr1
  rename Fr _ _ _ _ => F1
  rename News _ _ _ _ => N1
  refine LCg.CompSrc.range rfl F1 N1 hr1 (by decide) (n := 7) (by rfl) (by rw [sizeLine_eq]; decide) fun g => cr_rest (fun i y => ∃ b t, (∃ x : Int, 0 ≤ x ∧ x < 15 ∧ b = stepB (i : Int) x) ∧ y = .bytes b.toArray t) ?_ ?_
  · intro i v I oI C oC D m₂ ys h tk E' hi hv hC hx Fc Nc off ne
    obtain ⟨t, rfl⟩ := hv
    clear F1 N1 hr1
    (repeat' (first | (k_unfold; (try dsimp only)) | ((((((((((fail_if_success (with_reducible show InvPostN _ _ _ _ _ _ _ _ _)); (fail_if_success (with_reducible show InvEndN _ _ _ _ _ _ _)); (fail_if_success (with_reducible show wpG _ _ _ _ _ _)); (fail_if_success (with_reducible show wpAny _ _ (pyIter (Value.ref _)) _ _ _)))); (fail_if_success (with_reducible show LCg.CompSrc _ _ _ _ _ _ _ _ _ _ _ _ _ _)); (fail_if_success (with_reducible show LCg.CompEnd _ _ _ _ _ _ _ _ _ _ _ _ _ _)))); (fail_if_success (with_reducible show wpAny _ _ (eval (Expr.ListComp _ _ _ _) _) _ _ _)))); (fail_if_success (with_reducible show wpAny _ _ (call (Value.ref _) _) _ _ _)))); (first | (with_reducible (k_here; (with_reducible show wpAny _ _ (subscriptTail _ (Expr.Slice (some _) none (some _) _) (Value.ref _) (Value.ref _)) _ _ _); k_dflt (refine' slice_ints (s := ⟨_, _, _, _, _⟩) ?q9F ?q9N ?q9l ?q9v ?q9a ?q9b ?q9c ?q9d ?q9z ?_; (case q9F => k_asm); (case q9N => k_asm); (case q9l => walk_at "my:isl"); (case q9v => assumption); (case q9a => constructor); (case q9b => constructor); (case q9c => constructor); (case q9d => decide); (case q9z => omega); k_whole); intro D9 ws9 ms9 h9 ia9 F9 N9 l9; (try k_lt l9))) | walk1)) | ((((((((((fail_if_success (with_reducible show InvPostN _ _ _ _ _ _ _ _ _)); (fail_if_success (with_reducible show InvEndN _ _ _ _ _ _ _)); (fail_if_success (with_reducible show wpG _ _ _ _ _ _)); (fail_if_success (with_reducible show wpAny _ _ (pyIter (Value.ref _)) _ _ _)))); (fail_if_success (with_reducible show LCg.CompSrc _ _ _ _ _ _ _ _ _ _ _ _ _ _)); (fail_if_success (with_reducible show LCg.CompEnd _ _ _ _ _ _ _ _ _ _ _ _ _ _)))); (fail_if_success (with_reducible show wpAny _ _ (eval (Expr.ListComp _ _ _ _) _) _ _ _)))); (fail_if_success (with_reducible show wpAny _ _ (call (Value.ref _) _) _ _ _)))); dsimp only; (first | (with_reducible (k_here; (with_reducible show wpAny _ _ (subscriptTail _ (Expr.Slice (some _) none (some _) _) (Value.ref _) (Value.ref _)) _ _ _); k_dflt (refine' slice_ints (s := ⟨_, _, _, _, _⟩) ?q9F ?q9N ?q9l ?q9v ?q9a ?q9b ?q9c ?q9d ?q9z ?_; (case q9F => k_asm); (case q9N => k_asm); (case q9l => walk_at "my:isl"); (case q9v => assumption); (case q9a => constructor); (case q9b => constructor); (case q9c => constructor); (case q9d => decide); (case q9z => omega); k_whole); intro D9 ws9 ms9 h9 ia9 F9 N9 l9; (try k_lt l9))) | walk1)) | ((((((((((fail_if_success (with_reducible show InvPostN _ _ _ _ _ _ _ _ _)); (fail_if_success (with_reducible show InvEndN _ _ _ _ _ _ _)); (fail_if_success (with_reducible show wpG _ _ _ _ _ _)); (fail_if_success (with_reducible show wpAny _ _ (pyIter (Value.ref _)) _ _ _)))); (fail_if_success (with_reducible show LCg.CompSrc _ _ _ _ _ _ _ _ _ _ _ _ _ _)); (fail_if_success (with_reducible show LCg.CompEnd _ _ _ _ _ _ _ _ _ _ _ _ _ _)))); (fail_if_success (with_reducible show wpAny _ _ (eval (Expr.ListComp _ _ _ _) _) _ _ _)))); (fail_if_success (with_reducible show wpAny _ _ (call (Value.ref _) _) _ _ _)))); leave1; walk_say "STEP leave1"; try dsimp only) | fail "no step"))
    rename Fr _ _ _ _ => kF9
    rename News _ _ _ _ => kN9
    refine step_call (by k_asm) (by k_asm) (by k_asm) (by k_asm) rfl (by ktr_room) (by ktr_units) (by omega) (by omega) (fmod_lo _ (by decide)) (fmod_hi _ (by decide)) ?_
    intro t9 h9 tk9 keep9
    have F2 := Fr.keeps kF9 keep9
    have N2 := News.grown kN9 keep9
    clear keep9 kF9 kN9
    (try dsimp only)
    (repeat' (first | (k_unfold; (try dsimp only)) | ((((((((((fail_if_success (with_reducible show InvPostN _ _ _ _ _ _ _ _ _)); (fail_if_success (with_reducible show InvEndN _ _ _ _ _ _ _)); (fail_if_success (with_reducible show wpG _ _ _ _ _ _)); (fail_if_success (with_reducible show wpAny _ _ (pyIter (Value.ref _)) _ _ _)))); (fail_if_success (with_reducible show LCg.CompSrc _ _ _ _ _ _ _ _ _ _ _ _ _ _)); (fail_if_success (with_reducible show LCg.CompEnd _ _ _ _ _ _ _ _ _ _ _ _ _ _)))); (fail_if_success (with_reducible show wpAny _ _ (eval (Expr.ListComp _ _ _ _) _) _ _ _)))); (fail_if_success (with_reducible show wpAny _ _ (call (Value.ref _) _) _ _ _)))); walk1) | ((((((((((fail_if_success (with_reducible show InvPostN _ _ _ _ _ _ _ _ _)); (fail_if_success (with_reducible show InvEndN _ _ _ _ _ _ _)); (fail_if_success (with_reducible show wpG _ _ _ _ _ _)); (fail_if_success (with_reducible show wpAny _ _ (pyIter (Value.ref _)) _ _ _)))); (fail_if_success (with_reducible show LCg.CompSrc _ _ _ _ _ _ _ _ _ _ _ _ _ _)); (fail_if_success (with_reducible show LCg.CompEnd _ _ _ _ _ _ _ _ _ _ _ _ _ _)))); (fail_if_success (with_reducible show wpAny _ _ (eval (Expr.ListComp _ _ _ _) _) _ _ _)))); (fail_if_success (with_reducible show wpAny _ _ (call (Value.ref _) _) _ _ _)))); dsimp only; walk1) | ((((((((((fail_if_success (with_reducible show InvPostN _ _ _ _ _ _ _ _ _)); (fail_if_success (with_reducible show InvEndN _ _ _ _ _ _ _)); (fail_if_success (with_reducible show wpG _ _ _ _ _ _)); (fail_if_success (with_reducible show wpAny _ _ (pyIter (Value.ref _)) _ _ _)))); (fail_if_success (with_reducible show LCg.CompSrc _ _ _ _ _ _ _ _ _ _ _ _ _ _)); (fail_if_success (with_reducible show LCg.CompEnd _ _ _ _ _ _ _ _ _ _ _ _ _ _)))); (fail_if_success (with_reducible show wpAny _ _ (eval (Expr.ListComp _ _ _ _) _) _ _ _)))); (fail_if_success (with_reducible show wpAny _ _ (call (Value.ref _) _) _ _ _)))); leave1; walk_say "STEP leave1"; try dsimp only) | fail "no step"))
    exact LCg.CompEnd.intro F2 N2 _ (fun p hp => List.mem_cons_of_mem _ hp) off trivial ⟨rfl, _, _, ⟨_, fmod_lo _ (by decide), fmod_hi _ (by decide), by rw [Int.zero_add]⟩, rfl⟩
  clear F1 N1 hr1
  intro ys7 hlen7 hy7 D3 h3 tk3 F3 N3 o3
  obtain ⟨ring, hring, hR⟩ := bytes_of _ hy7
  clear hy7
  have hrl : ring.length = 7 := by rw [← hring.length]; exact hlen7
  simp only [LCg.Off1, and_true] at o3
  (try dsimp only)
  refine wpG_execs_cons (wpG_Assign_Name (wpG_of ?_))
  refine LCg.ListComp_U (F₀ := F3) (by with_unfolding_all rfl) (by decide) (by rfl) (by decide) (by rfl) ?_
  (repeat' (first | (k_unfold; (try dsimp only)) | ((((((fail_if_success (with_reducible show InvPostN _ _ _ _ _ _ _ _ _)); (fail_if_success (with_reducible show InvEndN _ _ _ _ _ _ _)); (fail_if_success (with_reducible show wpG _ _ _ _ _ _)); (fail_if_success (with_reducible show wpAny _ _ (pyIter (Value.ref _)) _ _ _)))); (fail_if_success (with_reducible show LCg.CompSrc _ _ _ _ _ _ _ _ _ _ _ _ _ _)); (fail_if_success (with_reducible show LCg.CompEnd _ _ _ _ _ _ _ _ _ _ _ _ _ _)))); walk1) | ((((((fail_if_success (with_reducible show InvPostN _ _ _ _ _ _ _ _ _)); (fail_if_success (with_reducible show InvEndN _ _ _ _ _ _ _)); (fail_if_success (with_reducible show wpG _ _ _ _ _ _)); (fail_if_success (with_reducible show wpAny _ _ (pyIter (Value.ref _)) _ _ _)))); (fail_if_success (with_reducible show LCg.CompSrc _ _ _ _ _ _ _ _ _ _ _ _ _ _)); (fail_if_success (with_reducible show LCg.CompEnd _ _ _ _ _ _ _ _ _ _ _ _ _ _)))); dsimp only; walk1) | ((((((fail_if_success (with_reducible show InvPostN _ _ _ _ _ _ _ _ _)); (fail_if_success (with_reducible show InvEndN _ _ _ _ _ _ _)); (fail_if_success (with_reducible show wpG _ _ _ _ _ _)); (fail_if_success (with_reducible show wpAny _ _ (pyIter (Value.ref _)) _ _ _)))); (fail_if_success (with_reducible show LCg.CompSrc _ _ _ _ _ _ _ _ _ _ _ _ _ _)); (fail_if_success (with_reducible show LCg.CompEnd _ _ _ _ _ _ _ _ _ _ _ _ _ _)))); leave1; walk_say "STEP leave1"; try dsimp only) | fail "no step"))
  have e7 : ys7.toArray.size = 7 := by simp [hlen7]
  refine LCg.CompSrc.ledger (its := ys7.toArray) rfl F3 N3 (by k_mem) (by rw [sizeLine_eq, e7]; decide) fun g => ?_
  rw [e7]
  refine cr_rest (fun i y => ∃ b t, b = riseF (ring.getD i []) ∧ y = .int b t) ?_ ?_
  · intro i v I oI C oC D m₂ ys h tk E' hi hv hC hx Fc Nc off ne
    rw [List.getElem?_toArray] at hv
    obtain ⟨b, t, hb, rfl⟩ := hring.get hv
    have hg : ring.getD i [] = b := by rw [List.getD_eq_getElem?_getD, hb]; rfl
    rw [hg]
    clear F3 N3
    (repeat' (first | (k_unfold; (try dsimp only)) | ((((((fail_if_success (with_reducible show InvPostN _ _ _ _ _ _ _ _ _)); (fail_if_success (with_reducible show InvEndN _ _ _ _ _ _ _)); (fail_if_success (with_reducible show wpG _ _ _ _ _ _)); (fail_if_success (with_reducible show wpAny _ _ (pyIter (Value.ref _)) _ _ _)))); (fail_if_success (with_reducible show LCg.CompSrc _ _ _ _ _ _ _ _ _ _ _ _ _ _)); (fail_if_success (with_reducible show LCg.CompEnd _ _ _ _ _ _ _ _ _ _ _ _ _ _)))); (first | (with_reducible (k_here; (with_reducible show wpAny _ _ (compareOp CmpOp.Eq (Value.bytes (List.toArray _) _) (Value.bytes (List.toArray _) _)) _ _ _); (refine eq_bytesL ?_))) | walk1)) | ((((((fail_if_success (with_reducible show InvPostN _ _ _ _ _ _ _ _ _)); (fail_if_success (with_reducible show InvEndN _ _ _ _ _ _ _)); (fail_if_success (with_reducible show wpG _ _ _ _ _ _)); (fail_if_success (with_reducible show wpAny _ _ (pyIter (Value.ref _)) _ _ _)))); (fail_if_success (with_reducible show LCg.CompSrc _ _ _ _ _ _ _ _ _ _ _ _ _ _)); (fail_if_success (with_reducible show LCg.CompEnd _ _ _ _ _ _ _ _ _ _ _ _ _ _)))); dsimp only; (first | (with_reducible (k_here; (with_reducible show wpAny _ _ (compareOp CmpOp.Eq (Value.bytes (List.toArray _) _) (Value.bytes (List.toArray _) _)) _ _ _); (refine eq_bytesL ?_))) | walk1)) | ((((((fail_if_success (with_reducible show InvPostN _ _ _ _ _ _ _ _ _)); (fail_if_success (with_reducible show InvEndN _ _ _ _ _ _ _)); (fail_if_success (with_reducible show wpG _ _ _ _ _ _)); (fail_if_success (with_reducible show wpAny _ _ (pyIter (Value.ref _)) _ _ _)))); (fail_if_success (with_reducible show LCg.CompSrc _ _ _ _ _ _ _ _ _ _ _ _ _ _)); (fail_if_success (with_reducible show LCg.CompEnd _ _ _ _ _ _ _ _ _ _ _ _ _ _)))); leave1; walk_say "STEP leave1"; try dsimp only) | fail "no step"))
    all_goals exact LCg.CompEnd.intro Fc Nc _ (fun p hp => hp) off (.inr ⟨_, List.mem_cons_self, rfl, _, rfl⟩) ⟨rfl, _, _, by simp [riseF, *], rfl⟩
  intro ysR hlR hyR D4 h4 tk4 F4 N4 o4
  clear F3 N3
  obtain ⟨rises, hrises, hRR⟩ := ints_of _ hyR
  clear hyR
  have hrr : rises.length = 7 := by rw [← hrises.length]; exact hlR
  have er : rises = ring.map riseF := by
    refine List.ext_getElem? fun i => ?_
    rw [List.getElem?_map]
    cases e : rises[i]? with
    | none => rw [List.getElem?_eq_none_iff] at e; rw [List.getElem?_eq_none_iff.mpr (by omega)]; rfl
    | some q =>
      have := (List.getElem?_eq_some_iff.mp e).1
      rw [hRR i q e, List.getD_eq_getElem?_getD, List.getElem?_eq_getElem (by omega : i < ring.length)]; rfl
  have hns : ∀ n ∈ rises, -1 ≤ n ∧ n ≤ 1 := by
    intro n hn
    rw [er, List.mem_map] at hn
    obtain ⟨b, _, rfl⟩ := hn
    unfold riseF
    split <;> (try split) <;> omega
  simp only [LCg.Off1, and_true] at o4
  (repeat' (first | (k_unfold; (try dsimp only)) | ((((((fail_if_success (with_reducible show InvPostN _ _ _ _ _ _ _ _ _)); (fail_if_success (with_reducible show InvEndN _ _ _ _ _ _ _)); (fail_if_success (with_reducible show wpG _ _ _ _ _ _)); (fail_if_success (with_reducible show wpAny _ _ (pyIter (Value.ref _)) _ _ _)))); (fail_if_success (with_reducible show LCg.CompSrc _ _ _ _ _ _ _ _ _ _ _ _ _ _)); (fail_if_success (with_reducible show LCg.CompEnd _ _ _ _ _ _ _ _ _ _ _ _ _ _)))); walk1) | ((((((fail_if_success (with_reducible show InvPostN _ _ _ _ _ _ _ _ _)); (fail_if_success (with_reducible show InvEndN _ _ _ _ _ _ _)); (fail_if_success (with_reducible show wpG _ _ _ _ _ _)); (fail_if_success (with_reducible show wpAny _ _ (pyIter (Value.ref _)) _ _ _)))); (fail_if_success (with_reducible show LCg.CompSrc _ _ _ _ _ _ _ _ _ _ _ _ _ _)); (fail_if_success (with_reducible show LCg.CompEnd _ _ _ _ _ _ _ _ _ _ _ _ _ _)))); dsimp only; walk1) | ((((((fail_if_success (with_reducible show InvPostN _ _ _ _ _ _ _ _ _)); (fail_if_success (with_reducible show InvEndN _ _ _ _ _ _ _)); (fail_if_success (with_reducible show wpG _ _ _ _ _ _)); (fail_if_success (with_reducible show wpAny _ _ (pyIter (Value.ref _)) _ _ _)))); (fail_if_success (with_reducible show LCg.CompSrc _ _ _ _ _ _ _ _ _ _ _ _ _ _)); (fail_if_success (with_reducible show LCg.CompEnd _ _ _ _ _ _ _ _ _ _ _ _ _ _)))); leave1; walk_say "STEP leave1"; try dsimp only) | fail "no step"))
  (try dsimp only)
  refine wpG_execs_cons (wpG_of ?_)
  refine LCg.Assign_ListComp_U (F₀ := by k_asm) (by rfl) (by with_unfolding_all rfl) (by with_unfolding_all rfl) (by decide) (by rfl) (by decide) (by rfl) (by rfl) (by rfl) ?_
  (repeat' (first | (k_unfold; (try dsimp only)) | ((((((fail_if_success (with_reducible show InvPostN _ _ _ _ _ _ _ _ _)); (fail_if_success (with_reducible show InvEndN _ _ _ _ _ _ _)); (fail_if_success (with_reducible show wpG _ _ _ _ _ _)); (fail_if_success (with_reducible show wpAny _ _ (pyIter (Value.ref _)) _ _ _)))); (fail_if_success (with_reducible show LCg.CompSrc _ _ _ _ _ _ _ _ _ _ _ _ _ _)); (fail_if_success (with_reducible show LCg.CompEnd _ _ _ _ _ _ _ _ _ _ _ _ _ _)))); walk1) | ((((((fail_if_success (with_reducible show InvPostN _ _ _ _ _ _ _ _ _)); (fail_if_success (with_reducible show InvEndN _ _ _ _ _ _ _)); (fail_if_success (with_reducible show wpG _ _ _ _ _ _)); (fail_if_success (with_reducible show wpAny _ _ (pyIter (Value.ref _)) _ _ _)))); (fail_if_success (with_reducible show LCg.CompSrc _ _ _ _ _ _ _ _ _ _ _ _ _ _)); (fail_if_success (with_reducible show LCg.CompEnd _ _ _ _ _ _ _ _ _ _ _ _ _ _)))); dsimp only; walk1) | ((((((fail_if_success (with_reducible show InvPostN _ _ _ _ _ _ _ _ _)); (fail_if_success (with_reducible show InvEndN _ _ _ _ _ _ _)); (fail_if_success (with_reducible show wpG _ _ _ _ _ _)); (fail_if_success (with_reducible show wpAny _ _ (pyIter (Value.ref _)) _ _ _)))); (fail_if_success (with_reducible show LCg.CompSrc _ _ _ _ _ _ _ _ _ _ _ _ _ _)); (fail_if_success (with_reducible show LCg.CompEnd _ _ _ _ _ _ _ _ _ _ _ _ _ _)))); leave1; walk_say "STEP leave1"; try dsimp only) | fail "no step"))
  rename IsRange _ _ _ _ _ _ _ _ => hr1
  rename Fr _ _ _ _ => F1
  rename News _ _ _ _ => N1
  refine LCg.CompSrc.range rfl F1 N1 hr1 (by decide) (n := 7) (by rfl) (by rw [sizeLine_eq]; decide) fun g => cr_rest (fun i y => ∃ b t, b = spanF rises (i : Int) (1) ∧ y = .int b t) ?_ ?_
  · intro i v I oI C oC D m₂ ys h tk E' hi hv hC hx Fc Nc off ne
    obtain ⟨t, rfl⟩ := hv
    clear F1 N1 hr1
    (repeat' (first | (k_unfold; (try dsimp only)) | ((((((((((fail_if_success (with_reducible show InvPostN _ _ _ _ _ _ _ _ _)); (fail_if_success (with_reducible show InvEndN _ _ _ _ _ _ _)); (fail_if_success (with_reducible show wpG _ _ _ _ _ _)); (fail_if_success (with_reducible show wpAny _ _ (pyIter (Value.ref _)) _ _ _)))); (fail_if_success (with_reducible show LCg.CompSrc _ _ _ _ _ _ _ _ _ _ _ _ _ _)); (fail_if_success (with_reducible show LCg.CompEnd _ _ _ _ _ _ _ _ _ _ _ _ _ _)))); (fail_if_success (with_reducible show wpAny _ _ (eval (Expr.ListComp _ _ _ _) _) _ _ _)))); (fail_if_success (with_reducible show wpAny _ _ (call (Value.ref _) _) _ _ _)))); walk1) | ((((((((((fail_if_success (with_reducible show InvPostN _ _ _ _ _ _ _ _ _)); (fail_if_success (with_reducible show InvEndN _ _ _ _ _ _ _)); (fail_if_success (with_reducible show wpG _ _ _ _ _ _)); (fail_if_success (with_reducible show wpAny _ _ (pyIter (Value.ref _)) _ _ _)))); (fail_if_success (with_reducible show LCg.CompSrc _ _ _ _ _ _ _ _ _ _ _ _ _ _)); (fail_if_success (with_reducible show LCg.CompEnd _ _ _ _ _ _ _ _ _ _ _ _ _ _)))); (fail_if_success (with_reducible show wpAny _ _ (eval (Expr.ListComp _ _ _ _) _) _ _ _)))); (fail_if_success (with_reducible show wpAny _ _ (call (Value.ref _) _) _ _ _)))); dsimp only; walk1) | ((((((((((fail_if_success (with_reducible show InvPostN _ _ _ _ _ _ _ _ _)); (fail_if_success (with_reducible show InvEndN _ _ _ _ _ _ _)); (fail_if_success (with_reducible show wpG _ _ _ _ _ _)); (fail_if_success (with_reducible show wpAny _ _ (pyIter (Value.ref _)) _ _ _)))); (fail_if_success (with_reducible show LCg.CompSrc _ _ _ _ _ _ _ _ _ _ _ _ _ _)); (fail_if_success (with_reducible show LCg.CompEnd _ _ _ _ _ _ _ _ _ _ _ _ _ _)))); (fail_if_success (with_reducible show wpAny _ _ (eval (Expr.ListComp _ _ _ _) _) _ _ _)))); (fail_if_success (with_reducible show wpAny _ _ (call (Value.ref _) _) _ _ _)))); leave1; walk_say "STEP leave1"; try dsimp only) | fail "no step"))
    rename Fr _ _ _ _ => kF9
    rename News _ _ _ _ => kN9
    refine span_call (by k_asm) (by k_asm) (by k_asm) (by k_asm) rfl (by ktr_room) (by ktr_units) (by walk_at "my:isl") (by assumption) (by assumption) (by assumption) (by constructor <;> omega) (.inl rfl) ?_
    intro t9 h9 tk9 keep9
    have F2 := Fr.keeps kF9 keep9
    have N2 := News.grown kN9 keep9
    clear keep9 kF9 kN9
    (try dsimp only)
    (repeat' (first | (k_unfold; (try dsimp only)) | ((((((((((fail_if_success (with_reducible show InvPostN _ _ _ _ _ _ _ _ _)); (fail_if_success (with_reducible show InvEndN _ _ _ _ _ _ _)); (fail_if_success (with_reducible show wpG _ _ _ _ _ _)); (fail_if_success (with_reducible show wpAny _ _ (pyIter (Value.ref _)) _ _ _)))); (fail_if_success (with_reducible show LCg.CompSrc _ _ _ _ _ _ _ _ _ _ _ _ _ _)); (fail_if_success (with_reducible show LCg.CompEnd _ _ _ _ _ _ _ _ _ _ _ _ _ _)))); (fail_if_success (with_reducible show wpAny _ _ (eval (Expr.ListComp _ _ _ _) _) _ _ _)))); (fail_if_success (with_reducible show wpAny _ _ (call (Value.ref _) _) _ _ _)))); walk1) | ((((((((((fail_if_success (with_reducible show InvPostN _ _ _ _ _ _ _ _ _)); (fail_if_success (with_reducible show InvEndN _ _ _ _ _ _ _)); (fail_if_success (with_reducible show wpG _ _ _ _ _ _)); (fail_if_success (with_reducible show wpAny _ _ (pyIter (Value.ref _)) _ _ _)))); (fail_if_success (with_reducible show LCg.CompSrc _ _ _ _ _ _ _ _ _ _ _ _ _ _)); (fail_if_success (with_reducible show LCg.CompEnd _ _ _ _ _ _ _ _ _ _ _ _ _ _)))); (fail_if_success (with_reducible show wpAny _ _ (eval (Expr.ListComp _ _ _ _) _) _ _ _)))); (fail_if_success (with_reducible show wpAny _ _ (call (Value.ref _) _) _ _ _)))); dsimp only; walk1) | ((((((((((fail_if_success (with_reducible show InvPostN _ _ _ _ _ _ _ _ _)); (fail_if_success (with_reducible show InvEndN _ _ _ _ _ _ _)); (fail_if_success (with_reducible show wpG _ _ _ _ _ _)); (fail_if_success (with_reducible show wpAny _ _ (pyIter (Value.ref _)) _ _ _)))); (fail_if_success (with_reducible show LCg.CompSrc _ _ _ _ _ _ _ _ _ _ _ _ _ _)); (fail_if_success (with_reducible show LCg.CompEnd _ _ _ _ _ _ _ _ _ _ _ _ _ _)))); (fail_if_success (with_reducible show wpAny _ _ (eval (Expr.ListComp _ _ _ _) _) _ _ _)))); (fail_if_success (with_reducible show wpAny _ _ (call (Value.ref _) _) _ _ _)))); leave1; walk_say "STEP leave1"; try dsimp only) | fail "no step"))
    exact LCg.CompEnd.intro F2 N2 _ (fun p hp => hp) off trivial ⟨rfl, _, _, by rw [Int.zero_add], rfl⟩
  clear F1 N1 hr1
  intro ysforth hlenforth hyforth Dforth hforth tkforth Fforth Nforth oforth
  obtain ⟨forth, hforthi, hRforth⟩ := ints_of _ hyforth
  clear hyforth
  have hlforth : forth.length = 7 := by rw [← hforthi.length]; exact hlenforth
  have eforth := table_of hlforth hRforth
  simp only [LCg.Off1, and_true] at oforth
  (try dsimp only)
  refine wpG_execs_cons (wpG_of ?_)
  refine LCg.Assign_ListComp_U (F₀ := by k_asm) (by rfl) (by with_unfolding_all rfl) (by with_unfolding_all rfl) (by decide) (by rfl) (by decide) (by rfl) (by rfl) (by rfl) ?_
  (repeat' (first | (k_unfold; (try dsimp only)) | ((((((fail_if_success (with_reducible show InvPostN _ _ _ _ _ _ _ _ _)); (fail_if_success (with_reducible show InvEndN _ _ _ _ _ _ _)); (fail_if_success (with_reducible show wpG _ _ _ _ _ _)); (fail_if_success (with_reducible show wpAny _ _ (pyIter (Value.ref _)) _ _ _)))); (fail_if_success (with_reducible show LCg.CompSrc _ _ _ _ _ _ _ _ _ _ _ _ _ _)); (fail_if_success (with_reducible show LCg.CompEnd _ _ _ _ _ _ _ _ _ _ _ _ _ _)))); walk1) | ((((((fail_if_success (with_reducible show InvPostN _ _ _ _ _ _ _ _ _)); (fail_if_success (with_reducible show InvEndN _ _ _ _ _ _ _)); (fail_if_success (with_reducible show wpG _ _ _ _ _ _)); (fail_if_success (with_reducible show wpAny _ _ (pyIter (Value.ref _)) _ _ _)))); (fail_if_success (with_reducible show LCg.CompSrc _ _ _ _ _ _ _ _ _ _ _ _ _ _)); (fail_if_success (with_reducible show LCg.CompEnd _ _ _ _ _ _ _ _ _ _ _ _ _ _)))); dsimp only; walk1) | ((((((fail_if_success (with_reducible show InvPostN _ _ _ _ _ _ _ _ _)); (fail_if_success (with_reducible show InvEndN _ _ _ _ _ _ _)); (fail_if_success (with_reducible show wpG _ _ _ _ _ _)); (fail_if_success (with_reducible show wpAny _ _ (pyIter (Value.ref _)) _ _ _)))); (fail_if_success (with_reducible show LCg.CompSrc _ _ _ _ _ _ _ _ _ _ _ _ _ _)); (fail_if_success (with_reducible show LCg.CompEnd _ _ _ _ _ _ _ _ _ _ _ _ _ _)))); leave1; walk_say "STEP leave1"; try dsimp only) | fail "no step"))
  rename IsRange _ _ _ _ _ _ _ _ => hr1
  rename Fr _ _ _ _ => F1
  rename News _ _ _ _ => N1
  refine LCg.CompSrc.range rfl F1 N1 hr1 (by decide) (n := 7) (by rfl) (by rw [sizeLine_eq]; decide) fun g => cr_rest (fun i y => ∃ b t, b = spanF rises (i : Int) (-1) ∧ y = .int b t) ?_ ?_
  · intro i v I oI C oC D m₂ ys h tk E' hi hv hC hx Fc Nc off ne
    obtain ⟨t, rfl⟩ := hv
    clear F1 N1 hr1
    (repeat' (first | (k_unfold; (try dsimp only)) | ((((((((((fail_if_success (with_reducible show InvPostN _ _ _ _ _ _ _ _ _)); (fail_if_success (with_reducible show InvEndN _ _ _ _ _ _ _)); (fail_if_success (with_reducible show wpG _ _ _ _ _ _)); (fail_if_success (with_reducible show wpAny _ _ (pyIter (Value.ref _)) _ _ _)))); (fail_if_success (with_reducible show LCg.CompSrc _ _ _ _ _ _ _ _ _ _ _ _ _ _)); (fail_if_success (with_reducible show LCg.CompEnd _ _ _ _ _ _ _ _ _ _ _ _ _ _)))); (fail_if_success (with_reducible show wpAny _ _ (eval (Expr.ListComp _ _ _ _) _) _ _ _)))); (fail_if_success (with_reducible show wpAny _ _ (call (Value.ref _) _) _ _ _)))); walk1) | ((((((((((fail_if_success (with_reducible show InvPostN _ _ _ _ _ _ _ _ _)); (fail_if_success (with_reducible show InvEndN _ _ _ _ _ _ _)); (fail_if_success (with_reducible show wpG _ _ _ _ _ _)); (fail_if_success (with_reducible show wpAny _ _ (pyIter (Value.ref _)) _ _ _)))); (fail_if_success (with_reducible show LCg.CompSrc _ _ _ _ _ _ _ _ _ _ _ _ _ _)); (fail_if_success (with_reducible show LCg.CompEnd _ _ _ _ _ _ _ _ _ _ _ _ _ _)))); (fail_if_success (with_reducible show wpAny _ _ (eval (Expr.ListComp _ _ _ _) _) _ _ _)))); (fail_if_success (with_reducible show wpAny _ _ (call (Value.ref _) _) _ _ _)))); dsimp only; walk1) | ((((((((((fail_if_success (with_reducible show InvPostN _ _ _ _ _ _ _ _ _)); (fail_if_success (with_reducible show InvEndN _ _ _ _ _ _ _)); (fail_if_success (with_reducible show wpG _ _ _ _ _ _)); (fail_if_success (with_reducible show wpAny _ _ (pyIter (Value.ref _)) _ _ _)))); (fail_if_success (with_reducible show LCg.CompSrc _ _ _ _ _ _ _ _ _ _ _ _ _ _)); (fail_if_success (with_reducible show LCg.CompEnd _ _ _ _ _ _ _ _ _ _ _ _ _ _)))); (fail_if_success (with_reducible show wpAny _ _ (eval (Expr.ListComp _ _ _ _) _) _ _ _)))); (fail_if_success (with_reducible show wpAny _ _ (call (Value.ref _) _) _ _ _)))); leave1; walk_say "STEP leave1"; try dsimp only) | fail "no step"))
    rename Fr _ _ _ _ => kF9
    rename News _ _ _ _ => kN9
    refine span_call (by k_asm) (by k_asm) (by k_asm) (by k_asm) rfl (by ktr_room) (by ktr_units) (by walk_at "my:isl") (by assumption) (by assumption) (by assumption) (by constructor <;> omega) (.inr rfl) ?_
    intro t9 h9 tk9 keep9
    have F2 := Fr.keeps kF9 keep9
    have N2 := News.grown kN9 keep9
    clear keep9 kF9 kN9
    (try dsimp only)
    (repeat' (first | (k_unfold; (try dsimp only)) | ((((((((((fail_if_success (with_reducible show InvPostN _ _ _ _ _ _ _ _ _)); (fail_if_success (with_reducible show InvEndN _ _ _ _ _ _ _)); (fail_if_success (with_reducible show wpG _ _ _ _ _ _)); (fail_if_success (with_reducible show wpAny _ _ (pyIter (Value.ref _)) _ _ _)))); (fail_if_success (with_reducible show LCg.CompSrc _ _ _ _ _ _ _ _ _ _ _ _ _ _)); (fail_if_success (with_reducible show LCg.CompEnd _ _ _ _ _ _ _ _ _ _ _ _ _ _)))); (fail_if_success (with_reducible show wpAny _ _ (eval (Expr.ListComp _ _ _ _) _) _ _ _)))); (fail_if_success (with_reducible show wpAny _ _ (call (Value.ref _) _) _ _ _)))); walk1) | ((((((((((fail_if_success (with_reducible show InvPostN _ _ _ _ _ _ _ _ _)); (fail_if_success (with_reducible show InvEndN _ _ _ _ _ _ _)); (fail_if_success (with_reducible show wpG _ _ _ _ _ _)); (fail_if_success (with_reducible show wpAny _ _ (pyIter (Value.ref _)) _ _ _)))); (fail_if_success (with_reducible show LCg.CompSrc _ _ _ _ _ _ _ _ _ _ _ _ _ _)); (fail_if_success (with_reducible show LCg.CompEnd _ _ _ _ _ _ _ _ _ _ _ _ _ _)))); (fail_if_success (with_reducible show wpAny _ _ (eval (Expr.ListComp _ _ _ _) _) _ _ _)))); (fail_if_success (with_reducible show wpAny _ _ (call (Value.ref _) _) _ _ _)))); dsimp only; walk1) | ((((((((((fail_if_success (with_reducible show InvPostN _ _ _ _ _ _ _ _ _)); (fail_if_success (with_reducible show InvEndN _ _ _ _ _ _ _)); (fail_if_success (with_reducible show wpG _ _ _ _ _ _)); (fail_if_success (with_reducible show wpAny _ _ (pyIter (Value.ref _)) _ _ _)))); (fail_if_success (with_reducible show LCg.CompSrc _ _ _ _ _ _ _ _ _ _ _ _ _ _)); (fail_if_success (with_reducible show LCg.CompEnd _ _ _ _ _ _ _ _ _ _ _ _ _ _)))); (fail_if_success (with_reducible show wpAny _ _ (eval (Expr.ListComp _ _ _ _) _) _ _ _)))); (fail_if_success (with_reducible show wpAny _ _ (call (Value.ref _) _) _ _ _)))); leave1; walk_say "STEP leave1"; try dsimp only) | fail "no step"))
    exact LCg.CompEnd.intro F2 N2 _ (fun p hp => hp) off trivial ⟨rfl, _, _, by rw [Int.zero_add], rfl⟩
  clear F1 N1 hr1
  intro ysback hlenback hyback Dback hback tkback Fback Nback oback
  obtain ⟨back, hbacki, hRback⟩ := ints_of _ hyback
  clear hyback
  have hlback : back.length = 7 := by rw [← hbacki.length]; exact hlenback
  have eback := table_of hlback hRback
  simp only [LCg.Off1, and_true] at oback
  (try dsimp only)
  have hmenu : ∀ i b, ring[i]? = some b → b ∈ menu i := by
    intro i b e
    have h7 : i < 7 := by rw [← hrl]; exact (List.getElem?_eq_some_iff.mp e).1
    obtain ⟨x, h0, h1, rfl⟩ := hR i b e
    exact step_menu h7 h0 h1
  have hrz : ∀ q ∈ ring, 1 ≤ q.length ∧ q.length ≤ 2 := by
    intro q hq
    obtain ⟨i, hi⟩ := List.mem_iff_getElem?.mp hq
    exact menu_len (hmenu i q hi)
  have hrz2 : ∀ q ∈ ring, q.length ≤ 2 := fun q hq => (hrz q hq).2
  have hok : ∀ q ∈ ring, WordOk q := by
    intro q hq
    obtain ⟨i, hi⟩ := List.mem_iff_getElem?.mp hq
    exact menu_ok (by rw [← hrl]; exact (List.getElem?_eq_some_iff.mp hi).1) (hmenu i q hi)
  have hfz := table_range eforth
  have hbz := table_range eback
  refine wpG_execs_cons (wpG_of ?_)
  refine LCg.Assign_ListComp_U (F₀ := by k_asm) (by rfl) (by with_unfolding_all rfl) (by with_unfolding_all rfl) (by decide) (by rfl) (by decide) (by rfl) (by rfl) (by rfl) ?_
  (repeat' (first | (k_unfold; (try dsimp only)) | ((((((fail_if_success (with_reducible show InvPostN _ _ _ _ _ _ _ _ _)); (fail_if_success (with_reducible show InvEndN _ _ _ _ _ _ _)); (fail_if_success (with_reducible show wpG _ _ _ _ _ _)); (fail_if_success (with_reducible show wpAny _ _ (pyIter (Value.ref _)) _ _ _)))); (fail_if_success (with_reducible show LCg.CompSrc _ _ _ _ _ _ _ _ _ _ _ _ _ _)); (fail_if_success (with_reducible show LCg.CompEnd _ _ _ _ _ _ _ _ _ _ _ _ _ _)))); walk1) | ((((((fail_if_success (with_reducible show InvPostN _ _ _ _ _ _ _ _ _)); (fail_if_success (with_reducible show InvEndN _ _ _ _ _ _ _)); (fail_if_success (with_reducible show wpG _ _ _ _ _ _)); (fail_if_success (with_reducible show wpAny _ _ (pyIter (Value.ref _)) _ _ _)))); (fail_if_success (with_reducible show LCg.CompSrc _ _ _ _ _ _ _ _ _ _ _ _ _ _)); (fail_if_success (with_reducible show LCg.CompEnd _ _ _ _ _ _ _ _ _ _ _ _ _ _)))); dsimp only; walk1) | ((((((fail_if_success (with_reducible show InvPostN _ _ _ _ _ _ _ _ _)); (fail_if_success (with_reducible show InvEndN _ _ _ _ _ _ _)); (fail_if_success (with_reducible show wpG _ _ _ _ _ _)); (fail_if_success (with_reducible show wpAny _ _ (pyIter (Value.ref _)) _ _ _)))); (fail_if_success (with_reducible show LCg.CompSrc _ _ _ _ _ _ _ _ _ _ _ _ _ _)); (fail_if_success (with_reducible show LCg.CompEnd _ _ _ _ _ _ _ _ _ _ _ _ _ _)))); leave1; walk_say "STEP leave1"; try dsimp only) | fail "no step"))
  rename Fr _ _ _ _ => F1
  rename News _ _ _ _ => N1
  refine LCg.CompSrc.ledger (its := ys7.toArray) rfl F1 N1 (by k_mem) (by rw [sizeLine_eq, e7]; decide) fun g => ?_
  rw [e7]
  refine cr_rest (fun i y => ∃ b t, b = wordF (ring.getD i []) ∧ y = .bytes b.toArray t) ?_ ?_
  · intro i v I oI C oC D m₂ ys h tk E' hi hv hC hx Fc Nc off ne
    rw [List.getElem?_toArray] at hv
    obtain ⟨b, t, hb, rfl⟩ := hring.get hv
    have hg : ring.getD i [] = b := by rw [List.getD_eq_getElem?_getD, hb]; rfl
    have hbz : b.length ≤ 2 := (menu_len (hmenu i b hb)).2
    rw [hg]
    clear F1 N1
    (repeat' (first | (k_unfold; (try dsimp only)) | ((((((fail_if_success (with_reducible show InvPostN _ _ _ _ _ _ _ _ _)); (fail_if_success (with_reducible show InvEndN _ _ _ _ _ _ _)); (fail_if_success (with_reducible show wpG _ _ _ _ _ _)); (fail_if_success (with_reducible show wpAny _ _ (pyIter (Value.ref _)) _ _ _)))); (fail_if_success (with_reducible show LCg.CompSrc _ _ _ _ _ _ _ _ _ _ _ _ _ _)); (fail_if_success (with_reducible show LCg.CompEnd _ _ _ _ _ _ _ _ _ _ _ _ _ _)))); (first | (with_reducible (k_here; (with_reducible show wpAny _ _ (binaryOp Operator.Add (Value.bytes (List.toArray _) _) (Value.bytes (List.toArray _) _)) _ _ _); k_dflt (refine' bytes_add_K ?z rfl ?_; (case z => (simp only [List.size_toArray, List.length_cons, List.length_nil]; first | omega | walk_at "my:b_size")); k_whole); intro t9 k9)) | (with_reducible (k_here; (with_reducible show wpAny _ _ (subscriptTail _ (Expr.Slice _ _ none _) (Value.bytes (List.toArray _) _) (Value.ref _)) _ _ _); (with_reducible rename Fr _ _ _ _ => F'); (with_reducible rename News _ _ _ _ => N'); (refine slice_any (s := ⟨_, _, _, _, _⟩) F' N' (by constructor) (by constructor) (by walk_at "my:b_size") ?_); intro _ _ _ _ _)) | walk1)) | ((((((fail_if_success (with_reducible show InvPostN _ _ _ _ _ _ _ _ _)); (fail_if_success (with_reducible show InvEndN _ _ _ _ _ _ _)); (fail_if_success (with_reducible show wpG _ _ _ _ _ _)); (fail_if_success (with_reducible show wpAny _ _ (pyIter (Value.ref _)) _ _ _)))); (fail_if_success (with_reducible show LCg.CompSrc _ _ _ _ _ _ _ _ _ _ _ _ _ _)); (fail_if_success (with_reducible show LCg.CompEnd _ _ _ _ _ _ _ _ _ _ _ _ _ _)))); dsimp only; (first | (with_reducible (k_here; (with_reducible show wpAny _ _ (binaryOp Operator.Add (Value.bytes (List.toArray _) _) (Value.bytes (List.toArray _) _)) _ _ _); k_dflt (refine' bytes_add_K ?z rfl ?_; (case z => (simp only [List.size_toArray, List.length_cons, List.length_nil]; first | omega | walk_at "my:b_size")); k_whole); intro t9 k9)) | (with_reducible (k_here; (with_reducible show wpAny _ _ (subscriptTail _ (Expr.Slice _ _ none _) (Value.bytes (List.toArray _) _) (Value.ref _)) _ _ _); (with_reducible rename Fr _ _ _ _ => F'); (with_reducible rename News _ _ _ _ => N'); (refine slice_any (s := ⟨_, _, _, _, _⟩) F' N' (by constructor) (by constructor) (by walk_at "my:b_size") ?_); intro _ _ _ _ _)) | walk1)) | ((((((fail_if_success (with_reducible show InvPostN _ _ _ _ _ _ _ _ _)); (fail_if_success (with_reducible show InvEndN _ _ _ _ _ _ _)); (fail_if_success (with_reducible show wpG _ _ _ _ _ _)); (fail_if_success (with_reducible show wpAny _ _ (pyIter (Value.ref _)) _ _ _)))); (fail_if_success (with_reducible show LCg.CompSrc _ _ _ _ _ _ _ _ _ _ _ _ _ _)); (fail_if_success (with_reducible show LCg.CompEnd _ _ _ _ _ _ _ _ _ _ _ _ _ _)))); leave1; walk_say "STEP leave1"; try dsimp only) | fail "no step"))
    rename Fr _ _ _ _ => F2
    rename News _ _ _ _ => N2
    exact LCg.CompEnd.intro F2 N2 _ (fun p hp => hp) off (.inr ⟨_, by k_mem, rfl, _, rfl⟩) ⟨rfl, _, _, rfl, rfl⟩
  clear F1 N1
  intro ysW hlW hyW DW hW tkW FW NW oW
  obtain ⟨words, hwords, hRW⟩ := bytes_of _ hyW
  clear hyW
  have hww : words.length = 7 := by rw [← hwords.length]; exact hlW
  have ew : words = ring.map wordF := by
    refine List.ext_getElem? fun i => ?_
    rw [List.getElem?_map]
    cases e : words[i]? with
    | none => rw [List.getElem?_eq_none_iff] at e; rw [List.getElem?_eq_none_iff.mpr (by omega)]; rfl
    | some q =>
      have := (List.getElem?_eq_some_iff.mp e).1
      rw [hRW i q e, List.getD_eq_getElem?_getD, List.getElem?_eq_getElem (by omega : i < ring.length)]; rfl
  have hwz : ∀ q ∈ words, q.length = 3 := by
    intro q hq
    rw [ew, List.mem_map] at hq
    obtain ⟨b, hb, rfl⟩ := hq
    exact word_len (hrz b hb)
  simp only [LCg.Off1, and_true] at oW
  (try dsimp only)
  have hj : (joinL ([] : List UInt8) words).length = 21 := by
    rw [joinL_length]
    have e1 : words.map List.length = List.replicate 7 3 := List.eq_replicate_iff.mpr ⟨by simp [hww], fun b hb => by
      obtain ⟨q, hq, rfl⟩ := List.mem_map.mp hb
      exact hwz q hq⟩
    rw [e1]; simp
  have hj' : (joinL ([] : List UInt8) words).length ≤ 16777216 := by omega
  refine wpG_execs_cons (wpG_of ?_)
  (repeat' (first | (k_unfold; (try dsimp only)) | ((((((fail_if_success (with_reducible show InvPostN _ _ _ _ _ _ _ _ _)); (fail_if_success (with_reducible show InvEndN _ _ _ _ _ _ _)); (fail_if_success (with_reducible show wpG _ _ _ _ _ _)); (fail_if_success (with_reducible show wpAny _ _ (pyIter (Value.ref _)) _ _ _)))); (fail_if_success (with_reducible show LCg.CompSrc _ _ _ _ _ _ _ _ _ _ _ _ _ _)); (fail_if_success (with_reducible show LCg.CompEnd _ _ _ _ _ _ _ _ _ _ _ _ _ _)))); (first | (with_reducible ((with_reducible show wpAny _ _ (getMethod (Value.bytes _ _) _ _) _ _ _); (k_here; (with_reducible refine method_join ?_)))) | (with_reducible ((with_reducible show wpAny _ _ (call (Value.builtin "bytes.join") _) _ _ _); (k_here; k_dflt (refine' join_K (by exact News.isList (by k_asm) (by k_mem)) (by assumption) (by first | assumption | walk_at "my:b_size") ?_; k_whole); intro t9 tk9))) | walk1)) | ((((((fail_if_success (with_reducible show InvPostN _ _ _ _ _ _ _ _ _)); (fail_if_success (with_reducible show InvEndN _ _ _ _ _ _ _)); (fail_if_success (with_reducible show wpG _ _ _ _ _ _)); (fail_if_success (with_reducible show wpAny _ _ (pyIter (Value.ref _)) _ _ _)))); (fail_if_success (with_reducible show LCg.CompSrc _ _ _ _ _ _ _ _ _ _ _ _ _ _)); (fail_if_success (with_reducible show LCg.CompEnd _ _ _ _ _ _ _ _ _ _ _ _ _ _)))); dsimp only; (first | (with_reducible ((with_reducible show wpAny _ _ (getMethod (Value.bytes _ _) _ _) _ _ _); (k_here; (with_reducible refine method_join ?_)))) | (with_reducible ((with_reducible show wpAny _ _ (call (Value.builtin "bytes.join") _) _ _ _); (k_here; k_dflt (refine' join_K (by exact News.isList (by k_asm) (by k_mem)) (by assumption) (by first | assumption | walk_at "my:b_size") ?_; k_whole); intro t9 tk9))) | walk1)) | ((((((fail_if_success (with_reducible show InvPostN _ _ _ _ _ _ _ _ _)); (fail_if_success (with_reducible show InvEndN _ _ _ _ _ _ _)); (fail_if_success (with_reducible show wpG _ _ _ _ _ _)); (fail_if_success (with_reducible show wpAny _ _ (pyIter (Value.ref _)) _ _ _)))); (fail_if_success (with_reducible show LCg.CompSrc _ _ _ _ _ _ _ _ _ _ _ _ _ _)); (fail_if_success (with_reducible show LCg.CompEnd _ _ _ _ _ _ _ _ _ _ _ _ _ _)))); leave1; walk_say "STEP leave1"; try dsimp only) | fail "no step"))
  (try dsimp only)
  refine wpG_execs_cons (wpG_For ?_)
  (repeat' (first | (k_unfold; (try dsimp only)) | ((((((fail_if_success (with_reducible show InvPostN _ _ _ _ _ _ _ _ _)); (fail_if_success (with_reducible show InvEndN _ _ _ _ _ _ _)); (fail_if_success (with_reducible show wpG _ _ _ _ _ _)); (fail_if_success (with_reducible show wpAny _ _ (pyIter (Value.ref _)) _ _ _)))); (fail_if_success (with_reducible show LCg.CompSrc _ _ _ _ _ _ _ _ _ _ _ _ _ _)); (fail_if_success (with_reducible show LCg.CompEnd _ _ _ _ _ _ _ _ _ _ _ _ _ _)))); walk1) | ((((((fail_if_success (with_reducible show InvPostN _ _ _ _ _ _ _ _ _)); (fail_if_success (with_reducible show InvEndN _ _ _ _ _ _ _)); (fail_if_success (with_reducible show wpG _ _ _ _ _ _)); (fail_if_success (with_reducible show wpAny _ _ (pyIter (Value.ref _)) _ _ _)))); (fail_if_success (with_reducible show LCg.CompSrc _ _ _ _ _ _ _ _ _ _ _ _ _ _)); (fail_if_success (with_reducible show LCg.CompEnd _ _ _ _ _ _ _ _ _ _ _ _ _ _)))); dsimp only; walk1) | ((((((fail_if_success (with_reducible show InvPostN _ _ _ _ _ _ _ _ _)); (fail_if_success (with_reducible show InvEndN _ _ _ _ _ _ _)); (fail_if_success (with_reducible show wpG _ _ _ _ _ _)); (fail_if_success (with_reducible show wpAny _ _ (pyIter (Value.ref _)) _ _ _)))); (fail_if_success (with_reducible show LCg.CompSrc _ _ _ _ _ _ _ _ _ _ _ _ _ _)); (fail_if_success (with_reducible show LCg.CompEnd _ _ _ _ _ _ _ _ _ _ _ _ _ _)))); leave1; walk_say "STEP leave1"; try dsimp only) | fail "no step"))
  rename IsRange _ _ _ _ _ _ _ _ => hr1
  rename Fr _ _ _ _ => F1
  rename News _ _ _ _ => N1
  rename Tok => t8
  refine iter_rng3 (Str.ofString "halves") (Str.ofString "begun") (Str.ofString "rows") rfl (by rfl) (by rfl) hr1 (by decide) (n := 7) (by rfl) F1 N1 ?_ ?_
  · intro i t vx v1 v2 v3 I oI h tk hi Fc Nc hlt
    clear F1 N1 hr1
    refine wpG_execs_cons (wpG_Assign_Name (wpG_BinOp (wpG_Call_Name ?_)))
    (repeat' (first | (k_unfold; (try dsimp only)) | ((((((fail_if_success (with_reducible show InvPostN _ _ _ _ _ _ _ _ _)); (fail_if_success (with_reducible show InvEndN _ _ _ _ _ _ _)); (fail_if_success (with_reducible show wpG _ _ _ _ _ _)); (fail_if_success (with_reducible show wpAny _ _ (pyIter (Value.ref _)) _ _ _)))); (fail_if_success (with_reducible show LCg.CompSrc _ _ _ _ _ _ _ _ _ _ _ _ _ _)); (fail_if_success (with_reducible show LCg.CompEnd _ _ _ _ _ _ _ _ _ _ _ _ _ _)))); walk1) | ((((((fail_if_success (with_reducible show InvPostN _ _ _ _ _ _ _ _ _)); (fail_if_success (with_reducible show InvEndN _ _ _ _ _ _ _)); (fail_if_success (with_reducible show wpG _ _ _ _ _ _)); (fail_if_success (with_reducible show wpAny _ _ (pyIter (Value.ref _)) _ _ _)))); (fail_if_success (with_reducible show LCg.CompSrc _ _ _ _ _ _ _ _ _ _ _ _ _ _)); (fail_if_success (with_reducible show LCg.CompEnd _ _ _ _ _ _ _ _ _ _ _ _ _ _)))); dsimp only; walk1) | ((((((fail_if_success (with_reducible show InvPostN _ _ _ _ _ _ _ _ _)); (fail_if_success (with_reducible show InvEndN _ _ _ _ _ _ _)); (fail_if_success (with_reducible show wpG _ _ _ _ _ _)); (fail_if_success (with_reducible show wpAny _ _ (pyIter (Value.ref _)) _ _ _)))); (fail_if_success (with_reducible show LCg.CompSrc _ _ _ _ _ _ _ _ _ _ _ _ _ _)); (fail_if_success (with_reducible show LCg.CompEnd _ _ _ _ _ _ _ _ _ _ _ _ _ _)))); leave1; walk_say "STEP leave1"; try dsimp only) | fail "no step"))
    refine wpG_call1 (P := fun h => (hd.heap_39 w.params).In h) (fun h X => keeps_K (by k_is) h X) (wpG_of ?_)
    (repeat' (first | (k_unfold; (try dsimp only)) | ((((((fail_if_success (with_reducible show InvPostN _ _ _ _ _ _ _ _ _)); (fail_if_success (with_reducible show InvEndN _ _ _ _ _ _ _)); (fail_if_success (with_reducible show wpG _ _ _ _ _ _)); (fail_if_success (with_reducible show wpAny _ _ (pyIter (Value.ref _)) _ _ _)))); (fail_if_success (with_reducible show LCg.CompSrc _ _ _ _ _ _ _ _ _ _ _ _ _ _)); (fail_if_success (with_reducible show LCg.CompEnd _ _ _ _ _ _ _ _ _ _ _ _ _ _)))); (first | (with_reducible (k_here; (with_reducible show wpAny _ _ (subscriptTail _ (Expr.Slice _ _ none _) (Value.bytes (List.toArray _) _) (Value.ref _)) _ _ _); (with_reducible rename Fr _ _ _ _ => F'); (with_reducible rename News _ _ _ _ => N'); (refine slice_any (s := ⟨_, _, _, _, _⟩) F' N' (by constructor) (by constructor) (by walk_at "my:b_size") ?_); intro _ _ _ _ _)) | walk1)) | ((((((fail_if_success (with_reducible show InvPostN _ _ _ _ _ _ _ _ _)); (fail_if_success (with_reducible show InvEndN _ _ _ _ _ _ _)); (fail_if_success (with_reducible show wpG _ _ _ _ _ _)); (fail_if_success (with_reducible show wpAny _ _ (pyIter (Value.ref _)) _ _ _)))); (fail_if_success (with_reducible show LCg.CompSrc _ _ _ _ _ _ _ _ _ _ _ _ _ _)); (fail_if_success (with_reducible show LCg.CompEnd _ _ _ _ _ _ _ _ _ _ _ _ _ _)))); dsimp only; (first | (with_reducible (k_here; (with_reducible show wpAny _ _ (subscriptTail _ (Expr.Slice _ _ none _) (Value.bytes (List.toArray _) _) (Value.ref _)) _ _ _); (with_reducible rename Fr _ _ _ _ => F'); (with_reducible rename News _ _ _ _ => N'); (refine slice_any (s := ⟨_, _, _, _, _⟩) F' N' (by constructor) (by constructor) (by walk_at "my:b_size") ?_); intro _ _ _ _ _)) | walk1)) | ((((((fail_if_success (with_reducible show InvPostN _ _ _ _ _ _ _ _ _)); (fail_if_success (with_reducible show InvEndN _ _ _ _ _ _ _)); (fail_if_success (with_reducible show wpG _ _ _ _ _ _)); (fail_if_success (with_reducible show wpAny _ _ (pyIter (Value.ref _)) _ _ _)))); (fail_if_success (with_reducible show LCg.CompSrc _ _ _ _ _ _ _ _ _ _ _ _ _ _)); (fail_if_success (with_reducible show LCg.CompEnd _ _ _ _ _ _ _ _ _ _ _ _ _ _)))); leave1; walk_say "STEP leave1"; try dsimp only) | fail "no step"))
    have hc1 : (cutL (joinL [] words) none (some (3 * (0 + (i : Int) * 1)))).length ≤ 21 := by rw [← hj]; exact cutL_le _ _ _
    have hc2 : (cutL (joinL [] words) (some (3 * (0 + (i : Int) * 1))) none).length ≤ 21 := by rw [← hj]; exact cutL_le _ _ _
    rename Fr _ _ _ _ => Fa
    rename News _ _ _ _ => Na
    refine turned_call (by k_asm) (by k_asm) (by k_asm) (by k_asm) rfl (by ktr_room) (by ktr_units) (by omega) ?_
    intro ta ha tka keepa
    have Fb := Fr.keeps Fa keepa
    have Nb := News.grown Na keepa
    clear keepa Fa Na
    (try dsimp only)
    refine wpG_Call_Name ?_
    (repeat' (first | (k_unfold; (try dsimp only)) | ((((((fail_if_success (with_reducible show InvPostN _ _ _ _ _ _ _ _ _)); (fail_if_success (with_reducible show InvEndN _ _ _ _ _ _ _)); (fail_if_success (with_reducible show wpG _ _ _ _ _ _)); (fail_if_success (with_reducible show wpAny _ _ (pyIter (Value.ref _)) _ _ _)))); (fail_if_success (with_reducible show LCg.CompSrc _ _ _ _ _ _ _ _ _ _ _ _ _ _)); (fail_if_success (with_reducible show LCg.CompEnd _ _ _ _ _ _ _ _ _ _ _ _ _ _)))); walk1) | ((((((fail_if_success (with_reducible show InvPostN _ _ _ _ _ _ _ _ _)); (fail_if_success (with_reducible show InvEndN _ _ _ _ _ _ _)); (fail_if_success (with_reducible show wpG _ _ _ _ _ _)); (fail_if_success (with_reducible show wpAny _ _ (pyIter (Value.ref _)) _ _ _)))); (fail_if_success (with_reducible show LCg.CompSrc _ _ _ _ _ _ _ _ _ _ _ _ _ _)); (fail_if_success (with_reducible show LCg.CompEnd _ _ _ _ _ _ _ _ _ _ _ _ _ _)))); dsimp only; walk1) | ((((((fail_if_success (with_reducible show InvPostN _ _ _ _ _ _ _ _ _)); (fail_if_success (with_reducible show InvEndN _ _ _ _ _ _ _)); (fail_if_success (with_reducible show wpG _ _ _ _ _ _)); (fail_if_success (with_reducible show wpAny _ _ (pyIter (Value.ref _)) _ _ _)))); (fail_if_success (with_reducible show LCg.CompSrc _ _ _ _ _ _ _ _ _ _ _ _ _ _)); (fail_if_success (with_reducible show LCg.CompEnd _ _ _ _ _ _ _ _ _ _ _ _ _ _)))); leave1; walk_say "STEP leave1"; try dsimp only) | fail "no step"))
    refine wpG_call1 (P := fun h => (hd.heap_39 w.params).In h) (fun h X => keeps_K (by k_is) h X) (wpG_of ?_)
    (repeat' (first | (k_unfold; (try dsimp only)) | ((((((fail_if_success (with_reducible show InvPostN _ _ _ _ _ _ _ _ _)); (fail_if_success (with_reducible show InvEndN _ _ _ _ _ _ _)); (fail_if_success (with_reducible show wpG _ _ _ _ _ _)); (fail_if_success (with_reducible show wpAny _ _ (pyIter (Value.ref _)) _ _ _)))); (fail_if_success (with_reducible show LCg.CompSrc _ _ _ _ _ _ _ _ _ _ _ _ _ _)); (fail_if_success (with_reducible show LCg.CompEnd _ _ _ _ _ _ _ _ _ _ _ _ _ _)))); (first | (with_reducible (k_here; (with_reducible show wpAny _ _ (subscriptTail _ (Expr.Slice _ _ none _) (Value.bytes (List.toArray _) _) (Value.ref _)) _ _ _); (with_reducible rename Fr _ _ _ _ => F'); (with_reducible rename News _ _ _ _ => N'); (refine slice_any (s := ⟨_, _, _, _, _⟩) F' N' (by constructor) (by constructor) (by walk_at "my:b_size") ?_); intro _ _ _ _ _)) | walk1)) | ((((((fail_if_success (with_reducible show InvPostN _ _ _ _ _ _ _ _ _)); (fail_if_success (with_reducible show InvEndN _ _ _ _ _ _ _)); (fail_if_success (with_reducible show wpG _ _ _ _ _ _)); (fail_if_success (with_reducible show wpAny _ _ (pyIter (Value.ref _)) _ _ _)))); (fail_if_success (with_reducible show LCg.CompSrc _ _ _ _ _ _ _ _ _ _ _ _ _ _)); (fail_if_success (with_reducible show LCg.CompEnd _ _ _ _ _ _ _ _ _ _ _ _ _ _)))); dsimp only; (first | (with_reducible (k_here; (with_reducible show wpAny _ _ (subscriptTail _ (Expr.Slice _ _ none _) (Value.bytes (List.toArray _) _) (Value.ref _)) _ _ _); (with_reducible rename Fr _ _ _ _ => F'); (with_reducible rename News _ _ _ _ => N'); (refine slice_any (s := ⟨_, _, _, _, _⟩) F' N' (by constructor) (by constructor) (by walk_at "my:b_size") ?_); intro _ _ _ _ _)) | walk1)) | ((((((fail_if_success (with_reducible show InvPostN _ _ _ _ _ _ _ _ _)); (fail_if_success (with_reducible show InvEndN _ _ _ _ _ _ _)); (fail_if_success (with_reducible show wpG _ _ _ _ _ _)); (fail_if_success (with_reducible show wpAny _ _ (pyIter (Value.ref _)) _ _ _)))); (fail_if_success (with_reducible show LCg.CompSrc _ _ _ _ _ _ _ _ _ _ _ _ _ _)); (fail_if_success (with_reducible show LCg.CompEnd _ _ _ _ _ _ _ _ _ _ _ _ _ _)))); leave1; walk_say "STEP leave1"; try dsimp only) | fail "no step"))
    rename Fr _ _ _ _ => Fa
    rename News _ _ _ _ => Na
    refine turned_call (by k_asm) (by k_asm) (by k_asm) (by k_asm) rfl (by ktr_room) (by ktr_units) (by omega) ?_
    intro tb hb tkb keepb
    have Fc' := Fr.keeps Fa keepb
    have Nc' := News.grown Na keepb
    clear keepb Fa Na
    (try dsimp only)
    generalize hA : swapB (max 1 (cutL (joinL [] words) none (some (3 * (0 + (i : Int) * 1)))).length) (cutL (joinL [] words) none (some (3 * (0 + (i : Int) * 1)))) = partA
    generalize hB : swapB (max 1 (cutL (joinL [] words) (some (3 * (0 + (i : Int) * 1))) none).length) (cutL (joinL [] words) (some (3 * (0 + (i : Int) * 1))) none) = partB
    have hAl : partA.length ≤ 21 := by rw [← hA, swap_len]; exact hc1
    have hBl : partB.length ≤ 21 := by rw [← hB, swap_len]; exact hc2
    have hH : partA ++ partB = halvesF words i := by rw [← hA, ← hB]; rfl
    (repeat' (first | (k_unfold; (try dsimp only)) | ((((((fail_if_success (with_reducible show InvPostN _ _ _ _ _ _ _ _ _)); (fail_if_success (with_reducible show InvEndN _ _ _ _ _ _ _)); (fail_if_success (with_reducible show wpG _ _ _ _ _ _)); (fail_if_success (with_reducible show wpAny _ _ (pyIter (Value.ref _)) _ _ _)))); (fail_if_success (with_reducible show LCg.CompSrc _ _ _ _ _ _ _ _ _ _ _ _ _ _)); (fail_if_success (with_reducible show LCg.CompEnd _ _ _ _ _ _ _ _ _ _ _ _ _ _)))); (first | (with_reducible (k_here; (with_reducible show wpAny _ _ (binaryOp Operator.Add (Value.bytes (List.toArray _) _) (Value.bytes (List.toArray _) _)) _ _ _); k_dflt (refine' bytes_add_K ?z rfl ?_; (case z => (simp only [List.size_toArray, List.length_cons, List.length_nil]; first | omega | walk_at "my:b_size")); k_whole); intro t9 k9)) | walk1)) | ((((((fail_if_success (with_reducible show InvPostN _ _ _ _ _ _ _ _ _)); (fail_if_success (with_reducible show InvEndN _ _ _ _ _ _ _)); (fail_if_success (with_reducible show wpG _ _ _ _ _ _)); (fail_if_success (with_reducible show wpAny _ _ (pyIter (Value.ref _)) _ _ _)))); (fail_if_success (with_reducible show LCg.CompSrc _ _ _ _ _ _ _ _ _ _ _ _ _ _)); (fail_if_success (with_reducible show LCg.CompEnd _ _ _ _ _ _ _ _ _ _ _ _ _ _)))); dsimp only; (first | (with_reducible (k_here; (with_reducible show wpAny _ _ (binaryOp Operator.Add (Value.bytes (List.toArray _) _) (Value.bytes (List.toArray _) _)) _ _ _); k_dflt (refine' bytes_add_K ?z rfl ?_; (case z => (simp only [List.size_toArray, List.length_cons, List.length_nil]; first | omega | walk_at "my:b_size")); k_whole); intro t9 k9)) | walk1)) | ((((((fail_if_success (with_reducible show InvPostN _ _ _ _ _ _ _ _ _)); (fail_if_success (with_reducible show InvEndN _ _ _ _ _ _ _)); (fail_if_success (with_reducible show wpG _ _ _ _ _ _)); (fail_if_success (with_reducible show wpAny _ _ (pyIter (Value.ref _)) _ _ _)))); (fail_if_success (with_reducible show LCg.CompSrc _ _ _ _ _ _ _ _ _ _ _ _ _ _)); (fail_if_success (with_reducible show LCg.CompEnd _ _ _ _ _ _ _ _ _ _ _ _ _ _)))); leave1; walk_say "STEP leave1"; try dsimp only) | fail "no step"))
    (try dsimp only)
    rename Fr _ _ _ _ => Fd
    rename News _ _ _ _ => Nd
    rw [hH] at Fd
    clear hA hB hH hAl hBl
    have hHl : (halvesF words i).length = 21 := by rw [halves_len hwz (by omega), hww]
    have hra := rows_a (i := i) hwz (by omega)
    have hrb := rows_b (i := i) hwz (by omega)
    have hna := law2_f hrl er hok eforth (i := i) hi
    have hnb := law2_b hrl er hok eback (i := i) hi
    rw [← ew, ← hra] at hna
    rw [← ew, ← hrb] at hnb
    have hi0 : (i : Int) = 0 + (i : Int) * 1 := by omega
    rw [hi0] at hna hnb
    unfold begunF at hra hrb
    generalize halvesF words i = H at Fd hHl hra hrb hna hnb
    have hE1 : [swapB (max 1 H.length) H, swapB 3 H] = [joinL [] (cutL words (some (0 + (i : Int) * 1)) none ++ cutL words none (some (0 + (i : Int) * 1))), joinL [] (cutL words (some (0 + (i : Int) * 1)) none ++ cutL words none (some (0 + (i : Int) * 1))).reverse] := by rw [← hra, ← hrb]
    have hE2 : [normB (swapB (max 1 H.length) H), normB (swapB 3 H)] = [dueF ring rises forth (0 + (i : Int) * 1) 1, dueF ring rises back (0 + (i : Int) * 1 - 1) (-1)] := by rw [hna, hnb]
    have hl1 : (swapB (max 1 H.length) H).length = 21 := by rw [swap_len, hHl]
    have hl2 : (swapB 3 H).length = 21 := by rw [swap_len, hHl]
    have hl1' := hl1
    have hl2' := hl2
    rw [hra] at hl1'
    rw [hrb] at hl2'
    have hcw1 : (cutL words (some (0 + (i : Int) * 1)) none).length ≤ 7 := by rw [← hww]; exact cutL_le _ _ _
    have hcw2 : (cutL words none (some (0 + (i : Int) * 1))).length ≤ 7 := by rw [← hww]; exact cutL_le _ _ _
    have hz1 : (joinL [] (cutL words (some (0 + (i : Int) * 1)) none ++ cutL words none (some (0 + (i : Int) * 1)))).length ≤ 16777216 := by omega
    have hz2 : (joinL [] (cutL words (some (0 + (i : Int) * 1)) none ++ cutL words none (some (0 + (i : Int) * 1))).reverse).length ≤ 16777216 := by omega
    refine wpG_execs_cons (wpG_of ?_)
    (repeat' (first | (k_unfold; (try dsimp only)) | ((((((fail_if_success (with_reducible show InvPostN _ _ _ _ _ _ _ _ _)); (fail_if_success (with_reducible show InvEndN _ _ _ _ _ _ _)); (fail_if_success (with_reducible show wpG _ _ _ _ _ _)); (fail_if_success (with_reducible show wpAny _ _ (pyIter (Value.ref _)) _ _ _)))); (fail_if_success (with_reducible show LCg.CompSrc _ _ _ _ _ _ _ _ _ _ _ _ _ _)); (fail_if_success (with_reducible show LCg.CompEnd _ _ _ _ _ _ _ _ _ _ _ _ _ _)))); (first | (with_reducible (k_here; (with_reducible show wpAny _ _ (subscriptTail _ (Expr.Slice _ _ none _) (Value.ref _) (Value.ref _)) _ _ _); k_dflt (refine' slice_bl (s := ⟨_, _, _, _, _⟩) ?q9F ?q9N ?q9l ?q9v ?q9a ?q9b ?q9z ?_; (case q9F => k_asm); (case q9N => k_asm); (case q9l => walk_at "my:isl"); (case q9v => walk_at "my:bytes"); (case q9a => constructor); (case q9b => constructor); (case q9z => walk_at "my:len"); k_whole); intro D9 ws9 h9 ba9 F9 N9 l9; (try k_lt l9))) | (with_reducible (k_here; (with_reducible show wpAny _ _ (binaryOp Operator.Add (Value.ref _) (Value.ref _)) _ _ _); k_dflt (refine' add_bl ?q9F ?q9N ?q9l ?q9l2 ?q9v ?q9v2 ?q9z ?_; (case q9F => k_asm); (case q9N => k_asm); (case q9l => walk_at "my:isl"); (case q9l2 => walk_at "my:isl"); (case q9v => walk_at "my:bytes"); (case q9v2 => walk_at "my:bytes"); (case q9z => walk_at "my:len"); k_whole); intro D9 ws9 h9 ba9 F9 N9 l9; (try k_lt l9))) | walk1)) | ((((((fail_if_success (with_reducible show InvPostN _ _ _ _ _ _ _ _ _)); (fail_if_success (with_reducible show InvEndN _ _ _ _ _ _ _)); (fail_if_success (with_reducible show wpG _ _ _ _ _ _)); (fail_if_success (with_reducible show wpAny _ _ (pyIter (Value.ref _)) _ _ _)))); (fail_if_success (with_reducible show LCg.CompSrc _ _ _ _ _ _ _ _ _ _ _ _ _ _)); (fail_if_success (with_reducible show LCg.CompEnd _ _ _ _ _ _ _ _ _ _ _ _ _ _)))); dsimp only; (first | (with_reducible (k_here; (with_reducible show wpAny _ _ (subscriptTail _ (Expr.Slice _ _ none _) (Value.ref _) (Value.ref _)) _ _ _); k_dflt (refine' slice_bl (s := ⟨_, _, _, _, _⟩) ?q9F ?q9N ?q9l ?q9v ?q9a ?q9b ?q9z ?_; (case q9F => k_asm); (case q9N => k_asm); (case q9l => walk_at "my:isl"); (case q9v => walk_at "my:bytes"); (case q9a => constructor); (case q9b => constructor); (case q9z => walk_at "my:len"); k_whole); intro D9 ws9 h9 ba9 F9 N9 l9; (try k_lt l9))) | (with_reducible (k_here; (with_reducible show wpAny _ _ (binaryOp Operator.Add (Value.ref _) (Value.ref _)) _ _ _); k_dflt (refine' add_bl ?q9F ?q9N ?q9l ?q9l2 ?q9v ?q9v2 ?q9z ?_; (case q9F => k_asm); (case q9N => k_asm); (case q9l => walk_at "my:isl"); (case q9l2 => walk_at "my:isl"); (case q9v => walk_at "my:bytes"); (case q9v2 => walk_at "my:bytes"); (case q9z => walk_at "my:len"); k_whole); intro D9 ws9 h9 ba9 F9 N9 l9; (try k_lt l9))) | walk1)) | ((((((fail_if_success (with_reducible show InvPostN _ _ _ _ _ _ _ _ _)); (fail_if_success (with_reducible show InvEndN _ _ _ _ _ _ _)); (fail_if_success (with_reducible show wpG _ _ _ _ _ _)); (fail_if_success (with_reducible show wpAny _ _ (pyIter (Value.ref _)) _ _ _)))); (fail_if_success (with_reducible show LCg.CompSrc _ _ _ _ _ _ _ _ _ _ _ _ _ _)); (fail_if_success (with_reducible show LCg.CompEnd _ _ _ _ _ _ _ _ _ _ _ _ _ _)))); leave1; walk_say "STEP leave1"; try dsimp only) | fail "no step"))
    (try dsimp only)
    refine wpG_execs_cons (wpG_Assign_Name ?_)
    refine wpG_pair ?_
    refine wpG_Call_Name ?_
    (repeat' (first | (k_unfold; (try dsimp only)) | ((((((fail_if_success (with_reducible show InvPostN _ _ _ _ _ _ _ _ _)); (fail_if_success (with_reducible show InvEndN _ _ _ _ _ _ _)); (fail_if_success (with_reducible show wpG _ _ _ _ _ _)); (fail_if_success (with_reducible show wpAny _ _ (pyIter (Value.ref _)) _ _ _)))); (fail_if_success (with_reducible show LCg.CompSrc _ _ _ _ _ _ _ _ _ _ _ _ _ _)); (fail_if_success (with_reducible show LCg.CompEnd _ _ _ _ _ _ _ _ _ _ _ _ _ _)))); walk1) | ((((((fail_if_success (with_reducible show InvPostN _ _ _ _ _ _ _ _ _)); (fail_if_success (with_reducible show InvEndN _ _ _ _ _ _ _)); (fail_if_success (with_reducible show wpG _ _ _ _ _ _)); (fail_if_success (with_reducible show wpAny _ _ (pyIter (Value.ref _)) _ _ _)))); (fail_if_success (with_reducible show LCg.CompSrc _ _ _ _ _ _ _ _ _ _ _ _ _ _)); (fail_if_success (with_reducible show LCg.CompEnd _ _ _ _ _ _ _ _ _ _ _ _ _ _)))); dsimp only; walk1) | ((((((fail_if_success (with_reducible show InvPostN _ _ _ _ _ _ _ _ _)); (fail_if_success (with_reducible show InvEndN _ _ _ _ _ _ _)); (fail_if_success (with_reducible show wpG _ _ _ _ _ _)); (fail_if_success (with_reducible show wpAny _ _ (pyIter (Value.ref _)) _ _ _)))); (fail_if_success (with_reducible show LCg.CompSrc _ _ _ _ _ _ _ _ _ _ _ _ _ _)); (fail_if_success (with_reducible show LCg.CompEnd _ _ _ _ _ _ _ _ _ _ _ _ _ _)))); leave1; walk_say "STEP leave1"; try dsimp only) | fail "no step"))
    refine wpG_call1 (P := fun h => (hd.heap_39 w.params).In h) (fun h X => keeps_K (by k_is) h X) (wpG_of ?_)
    (repeat' (first | (k_unfold; (try dsimp only)) | ((((((fail_if_success (with_reducible show InvPostN _ _ _ _ _ _ _ _ _)); (fail_if_success (with_reducible show InvEndN _ _ _ _ _ _ _)); (fail_if_success (with_reducible show wpG _ _ _ _ _ _)); (fail_if_success (with_reducible show wpAny _ _ (pyIter (Value.ref _)) _ _ _)))); (fail_if_success (with_reducible show LCg.CompSrc _ _ _ _ _ _ _ _ _ _ _ _ _ _)); (fail_if_success (with_reducible show LCg.CompEnd _ _ _ _ _ _ _ _ _ _ _ _ _ _)))); walk1) | ((((((fail_if_success (with_reducible show InvPostN _ _ _ _ _ _ _ _ _)); (fail_if_success (with_reducible show InvEndN _ _ _ _ _ _ _)); (fail_if_success (with_reducible show wpG _ _ _ _ _ _)); (fail_if_success (with_reducible show wpAny _ _ (pyIter (Value.ref _)) _ _ _)))); (fail_if_success (with_reducible show LCg.CompSrc _ _ _ _ _ _ _ _ _ _ _ _ _ _)); (fail_if_success (with_reducible show LCg.CompEnd _ _ _ _ _ _ _ _ _ _ _ _ _ _)))); dsimp only; walk1) | ((((((fail_if_success (with_reducible show InvPostN _ _ _ _ _ _ _ _ _)); (fail_if_success (with_reducible show InvEndN _ _ _ _ _ _ _)); (fail_if_success (with_reducible show wpG _ _ _ _ _ _)); (fail_if_success (with_reducible show wpAny _ _ (pyIter (Value.ref _)) _ _ _)))); (fail_if_success (with_reducible show LCg.CompSrc _ _ _ _ _ _ _ _ _ _ _ _ _ _)); (fail_if_success (with_reducible show LCg.CompEnd _ _ _ _ _ _ _ _ _ _ _ _ _ _)))); leave1; walk_say "STEP leave1"; try dsimp only) | fail "no step"))
    rename Fr _ _ _ _ => Fa
    rename News _ _ _ _ => Na
    refine turned_call (by k_asm) (by k_asm) (by k_asm) (by k_asm) rfl (by ktr_room) (by ktr_units) (by omega) ?_
    intro tc hc tkc keepc
    have Fb := Fr.keeps Fa keepc
    have Nb := News.grown Na keepc
    clear keepc Fa Na
    (try dsimp only)
    refine wpG_Call_Name ?_
    (repeat' (first | (k_unfold; (try dsimp only)) | ((((((fail_if_success (with_reducible show InvPostN _ _ _ _ _ _ _ _ _)); (fail_if_success (with_reducible show InvEndN _ _ _ _ _ _ _)); (fail_if_success (with_reducible show wpG _ _ _ _ _ _)); (fail_if_success (with_reducible show wpAny _ _ (pyIter (Value.ref _)) _ _ _)))); (fail_if_success (with_reducible show LCg.CompSrc _ _ _ _ _ _ _ _ _ _ _ _ _ _)); (fail_if_success (with_reducible show LCg.CompEnd _ _ _ _ _ _ _ _ _ _ _ _ _ _)))); walk1) | ((((((fail_if_success (with_reducible show InvPostN _ _ _ _ _ _ _ _ _)); (fail_if_success (with_reducible show InvEndN _ _ _ _ _ _ _)); (fail_if_success (with_reducible show wpG _ _ _ _ _ _)); (fail_if_success (with_reducible show wpAny _ _ (pyIter (Value.ref _)) _ _ _)))); (fail_if_success (with_reducible show LCg.CompSrc _ _ _ _ _ _ _ _ _ _ _ _ _ _)); (fail_if_success (with_reducible show LCg.CompEnd _ _ _ _ _ _ _ _ _ _ _ _ _ _)))); dsimp only; walk1) | ((((((fail_if_success (with_reducible show InvPostN _ _ _ _ _ _ _ _ _)); (fail_if_success (with_reducible show InvEndN _ _ _ _ _ _ _)); (fail_if_success (with_reducible show wpG _ _ _ _ _ _)); (fail_if_success (with_reducible show wpAny _ _ (pyIter (Value.ref _)) _ _ _)))); (fail_if_success (with_reducible show LCg.CompSrc _ _ _ _ _ _ _ _ _ _ _ _ _ _)); (fail_if_success (with_reducible show LCg.CompEnd _ _ _ _ _ _ _ _ _ _ _ _ _ _)))); leave1; walk_say "STEP leave1"; try dsimp only) | fail "no step"))
    refine wpG_call2 (P := fun h => (hd.heap_39 w.params).In h) (fun h X => keeps_K (by k_is) h X) (wpG_of ?_)
    (repeat' (first | (k_unfold; (try dsimp only)) | ((((((fail_if_success (with_reducible show InvPostN _ _ _ _ _ _ _ _ _)); (fail_if_success (with_reducible show InvEndN _ _ _ _ _ _ _)); (fail_if_success (with_reducible show wpG _ _ _ _ _ _)); (fail_if_success (with_reducible show wpAny _ _ (pyIter (Value.ref _)) _ _ _)))); (fail_if_success (with_reducible show LCg.CompSrc _ _ _ _ _ _ _ _ _ _ _ _ _ _)); (fail_if_success (with_reducible show LCg.CompEnd _ _ _ _ _ _ _ _ _ _ _ _ _ _)))); walk1) | ((((((fail_if_success (with_reducible show InvPostN _ _ _ _ _ _ _ _ _)); (fail_if_success (with_reducible show InvEndN _ _ _ _ _ _ _)); (fail_if_success (with_reducible show wpG _ _ _ _ _ _)); (fail_if_success (with_reducible show wpAny _ _ (pyIter (Value.ref _)) _ _ _)))); (fail_if_success (with_reducible show LCg.CompSrc _ _ _ _ _ _ _ _ _ _ _ _ _ _)); (fail_if_success (with_reducible show LCg.CompEnd _ _ _ _ _ _ _ _ _ _ _ _ _ _)))); dsimp only; walk1) | ((((((fail_if_success (with_reducible show InvPostN _ _ _ _ _ _ _ _ _)); (fail_if_success (with_reducible show InvEndN _ _ _ _ _ _ _)); (fail_if_success (with_reducible show wpG _ _ _ _ _ _)); (fail_if_success (with_reducible show wpAny _ _ (pyIter (Value.ref _)) _ _ _)))); (fail_if_success (with_reducible show LCg.CompSrc _ _ _ _ _ _ _ _ _ _ _ _ _ _)); (fail_if_success (with_reducible show LCg.CompEnd _ _ _ _ _ _ _ _ _ _ _ _ _ _)))); leave1; walk_say "STEP leave1"; try dsimp only) | fail "no step"))
    refine wpG_of ?_
    (repeat' (first | (k_unfold; (try dsimp only)) | ((((((fail_if_success (with_reducible show InvPostN _ _ _ _ _ _ _ _ _)); (fail_if_success (with_reducible show InvEndN _ _ _ _ _ _ _)); (fail_if_success (with_reducible show wpG _ _ _ _ _ _)); (fail_if_success (with_reducible show wpAny _ _ (pyIter (Value.ref _)) _ _ _)))); (fail_if_success (with_reducible show LCg.CompSrc _ _ _ _ _ _ _ _ _ _ _ _ _ _)); (fail_if_success (with_reducible show LCg.CompEnd _ _ _ _ _ _ _ _ _ _ _ _ _ _)))); walk1) | ((((((fail_if_success (with_reducible show InvPostN _ _ _ _ _ _ _ _ _)); (fail_if_success (with_reducible show InvEndN _ _ _ _ _ _ _)); (fail_if_success (with_reducible show wpG _ _ _ _ _ _)); (fail_if_success (with_reducible show wpAny _ _ (pyIter (Value.ref _)) _ _ _)))); (fail_if_success (with_reducible show LCg.CompSrc _ _ _ _ _ _ _ _ _ _ _ _ _ _)); (fail_if_success (with_reducible show LCg.CompEnd _ _ _ _ _ _ _ _ _ _ _ _ _ _)))); dsimp only; walk1) | ((((((fail_if_success (with_reducible show InvPostN _ _ _ _ _ _ _ _ _)); (fail_if_success (with_reducible show InvEndN _ _ _ _ _ _ _)); (fail_if_success (with_reducible show wpG _ _ _ _ _ _)); (fail_if_success (with_reducible show wpAny _ _ (pyIter (Value.ref _)) _ _ _)))); (fail_if_success (with_reducible show LCg.CompSrc _ _ _ _ _ _ _ _ _ _ _ _ _ _)); (fail_if_success (with_reducible show LCg.CompEnd _ _ _ _ _ _ _ _ _ _ _ _ _ _)))); leave1; walk_say "STEP leave1"; try dsimp only) | fail "no step"))
    rename Fr _ _ _ _ => Fa
    rename News _ _ _ _ => Na
    refine byteswap_call (wd := 3) (by k_asm) (by k_asm) (by k_asm) (by k_asm) rfl (by ktr_room) (by ktr_units) (by omega) (by omega) (by omega) 7 (by omega) ?_
    intro td hd' tkd keepd
    have Fb := Fr.keeps Fa keepd
    have Nb := News.grown Na keepd
    clear keepd Fa Na
    (try dsimp only)
    (repeat' (first | (k_unfold; (try dsimp only)) | ((((((fail_if_success (with_reducible show InvPostN _ _ _ _ _ _ _ _ _)); (fail_if_success (with_reducible show InvEndN _ _ _ _ _ _ _)); (fail_if_success (with_reducible show wpG _ _ _ _ _ _)); (fail_if_success (with_reducible show wpAny _ _ (pyIter (Value.ref _)) _ _ _)))); (fail_if_success (with_reducible show LCg.CompSrc _ _ _ _ _ _ _ _ _ _ _ _ _ _)); (fail_if_success (with_reducible show LCg.CompEnd _ _ _ _ _ _ _ _ _ _ _ _ _ _)))); walk1) | ((((((fail_if_success (with_reducible show InvPostN _ _ _ _ _ _ _ _ _)); (fail_if_success (with_reducible show InvEndN _ _ _ _ _ _ _)); (fail_if_success (with_reducible show wpG _ _ _ _ _ _)); (fail_if_success (with_reducible show wpAny _ _ (pyIter (Value.ref _)) _ _ _)))); (fail_if_success (with_reducible show LCg.CompSrc _ _ _ _ _ _ _ _ _ _ _ _ _ _)); (fail_if_success (with_reducible show LCg.CompEnd _ _ _ _ _ _ _ _ _ _ _ _ _ _)))); dsimp only; walk1) | ((((((fail_if_success (with_reducible show InvPostN _ _ _ _ _ _ _ _ _)); (fail_if_success (with_reducible show InvEndN _ _ _ _ _ _ _)); (fail_if_success (with_reducible show wpG _ _ _ _ _ _)); (fail_if_success (with_reducible show wpAny _ _ (pyIter (Value.ref _)) _ _ _)))); (fail_if_success (with_reducible show LCg.CompSrc _ _ _ _ _ _ _ _ _ _ _ _ _ _)); (fail_if_success (with_reducible show LCg.CompEnd _ _ _ _ _ _ _ _ _ _ _ _ _ _)))); leave1; walk_say "STEP leave1"; try dsimp only) | fail "no step"))
    (try dsimp only)
    refine wpG_execs_cons (wpG_of ?_)
    (repeat' (first | (k_unfold; (try dsimp only)) | ((((((fail_if_success (with_reducible show InvPostN _ _ _ _ _ _ _ _ _)); (fail_if_success (with_reducible show InvEndN _ _ _ _ _ _ _)); (fail_if_success (with_reducible show wpG _ _ _ _ _ _)); (fail_if_success (with_reducible show wpAny _ _ (pyIter (Value.ref _)) _ _ _)))); (fail_if_success (with_reducible show LCg.CompSrc _ _ _ _ _ _ _ _ _ _ _ _ _ _)); (fail_if_success (with_reducible show LCg.CompEnd _ _ _ _ _ _ _ _ _ _ _ _ _ _)))); (first | (with_reducible ((with_reducible show wpAny _ _ (getMethod (Value.bytes _ _) _ _) _ _ _); (k_here; (with_reducible refine method_join ?_)))) | (with_reducible ((with_reducible show wpAny _ _ (call (Value.builtin "bytes.join") _) _ _ _); (k_here; k_dflt (refine' join_K (by exact News.isList (by k_asm) (by k_mem)) (by assumption) (by first | assumption | walk_at "my:b_size") ?_; k_whole); intro t9 tk9))) | (with_reducible (k_here; (with_reducible show wpAny _ _ (subscriptTail _ (Expr.Slice none none (some _) _) (Value.ref _) (Value.ref _)) _ _ _); k_dflt (refine' slice_blr (s := ⟨_, _, _, _, _⟩) ?q9F ?q9N ?q9l ?q9v ?q9z ?_; (case q9F => k_asm); (case q9N => k_asm); (case q9l => walk_at "my:isl"); (case q9v => walk_at "my:bytes"); (case q9z => walk_at "my:len"); k_whole); intro D9 ws9 h9 ba9 F9 N9 l9; (try k_lt l9))) | (with_reducible (k_here; (with_reducible show wpAny _ _ (compareOp CmpOp.NotEq (Value.ref _) (Value.ref _)) _ _ _); k_dflt (refine' ne_bl2 ?q9l ?q9m ?q9v ?q9w ?q9e ?q9u ?_; (case q9l => walk_at "my:isl"); (case q9m => walk_at "my:isl"); (case q9v => walk_at "my:bytes"); (case q9w => walk_at "my:bytes"); (case q9e => assumption); (case q9u => ktr_units); k_whole))) | walk1)) | ((((((fail_if_success (with_reducible show InvPostN _ _ _ _ _ _ _ _ _)); (fail_if_success (with_reducible show InvEndN _ _ _ _ _ _ _)); (fail_if_success (with_reducible show wpG _ _ _ _ _ _)); (fail_if_success (with_reducible show wpAny _ _ (pyIter (Value.ref _)) _ _ _)))); (fail_if_success (with_reducible show LCg.CompSrc _ _ _ _ _ _ _ _ _ _ _ _ _ _)); (fail_if_success (with_reducible show LCg.CompEnd _ _ _ _ _ _ _ _ _ _ _ _ _ _)))); dsimp only; (first | (with_reducible ((with_reducible show wpAny _ _ (getMethod (Value.bytes _ _) _ _) _ _ _); (k_here; (with_reducible refine method_join ?_)))) | (with_reducible ((with_reducible show wpAny _ _ (call (Value.builtin "bytes.join") _) _ _ _); (k_here; k_dflt (refine' join_K (by exact News.isList (by k_asm) (by k_mem)) (by assumption) (by first | assumption | walk_at "my:b_size") ?_; k_whole); intro t9 tk9))) | (with_reducible (k_here; (with_reducible show wpAny _ _ (subscriptTail _ (Expr.Slice none none (some _) _) (Value.ref _) (Value.ref _)) _ _ _); k_dflt (refine' slice_blr (s := ⟨_, _, _, _, _⟩) ?q9F ?q9N ?q9l ?q9v ?q9z ?_; (case q9F => k_asm); (case q9N => k_asm); (case q9l => walk_at "my:isl"); (case q9v => walk_at "my:bytes"); (case q9z => walk_at "my:len"); k_whole); intro D9 ws9 h9 ba9 F9 N9 l9; (try k_lt l9))) | (with_reducible (k_here; (with_reducible show wpAny _ _ (compareOp CmpOp.NotEq (Value.ref _) (Value.ref _)) _ _ _); k_dflt (refine' ne_bl2 ?q9l ?q9m ?q9v ?q9w ?q9e ?q9u ?_; (case q9l => walk_at "my:isl"); (case q9m => walk_at "my:isl"); (case q9v => walk_at "my:bytes"); (case q9w => walk_at "my:bytes"); (case q9e => assumption); (case q9u => ktr_units); k_whole))) | walk1)) | ((((((fail_if_success (with_reducible show InvPostN _ _ _ _ _ _ _ _ _)); (fail_if_success (with_reducible show InvEndN _ _ _ _ _ _ _)); (fail_if_success (with_reducible show wpG _ _ _ _ _ _)); (fail_if_success (with_reducible show wpAny _ _ (pyIter (Value.ref _)) _ _ _)))); (fail_if_success (with_reducible show LCg.CompSrc _ _ _ _ _ _ _ _ _ _ _ _ _ _)); (fail_if_success (with_reducible show LCg.CompEnd _ _ _ _ _ _ _ _ _ _ _ _ _ _)))); leave1; walk_say "STEP leave1"; try dsimp only) | fail "no step"))
    (try dsimp only)
    refine wpG_execs_cons (wpG_of ?_)
    (repeat' (first | (k_unfold; (try dsimp only)) | ((((((((fail_if_success (with_reducible show InvPostN _ _ _ _ _ _ _ _ _)); (fail_if_success (with_reducible show InvEndN _ _ _ _ _ _ _)); (fail_if_success (with_reducible show wpG _ _ _ _ _ _)); (fail_if_success (with_reducible show wpAny _ _ (pyIter (Value.ref _)) _ _ _)))); (fail_if_success (with_reducible show LCg.CompSrc _ _ _ _ _ _ _ _ _ _ _ _ _ _)); (fail_if_success (with_reducible show LCg.CompEnd _ _ _ _ _ _ _ _ _ _ _ _ _ _)))); (fail_if_success (with_reducible show wpAny _ _ (eval (Expr.ListComp _ _ _ _) _) _ _ _)))); walk1) | ((((((((fail_if_success (with_reducible show InvPostN _ _ _ _ _ _ _ _ _)); (fail_if_success (with_reducible show InvEndN _ _ _ _ _ _ _)); (fail_if_success (with_reducible show wpG _ _ _ _ _ _)); (fail_if_success (with_reducible show wpAny _ _ (pyIter (Value.ref _)) _ _ _)))); (fail_if_success (with_reducible show LCg.CompSrc _ _ _ _ _ _ _ _ _ _ _ _ _ _)); (fail_if_success (with_reducible show LCg.CompEnd _ _ _ _ _ _ _ _ _ _ _ _ _ _)))); (fail_if_success (with_reducible show wpAny _ _ (eval (Expr.ListComp _ _ _ _) _) _ _ _)))); dsimp only; walk1) | ((((((((fail_if_success (with_reducible show InvPostN _ _ _ _ _ _ _ _ _)); (fail_if_success (with_reducible show InvEndN _ _ _ _ _ _ _)); (fail_if_success (with_reducible show wpG _ _ _ _ _ _)); (fail_if_success (with_reducible show wpAny _ _ (pyIter (Value.ref _)) _ _ _)))); (fail_if_success (with_reducible show LCg.CompSrc _ _ _ _ _ _ _ _ _ _ _ _ _ _)); (fail_if_success (with_reducible show LCg.CompEnd _ _ _ _ _ _ _ _ _ _ _ _ _ _)))); (fail_if_success (with_reducible show wpAny _ _ (eval (Expr.ListComp _ _ _ _) _) _ _ _)))); leave1; walk_say "STEP leave1"; try dsimp only) | fail "no step"))
    refine LCg.ListComp_U (F₀ := by k_asm) (by with_unfolding_all rfl) (by decide) (by rfl) (by decide) (by rfl) ?_
    (repeat' (first | (k_unfold; (try dsimp only)) | ((((((fail_if_success (with_reducible show InvPostN _ _ _ _ _ _ _ _ _)); (fail_if_success (with_reducible show InvEndN _ _ _ _ _ _ _)); (fail_if_success (with_reducible show wpG _ _ _ _ _ _)); (fail_if_success (with_reducible show wpAny _ _ (pyIter (Value.ref _)) _ _ _)))); (fail_if_success (with_reducible show LCg.CompSrc _ _ _ _ _ _ _ _ _ _ _ _ _ _)); (fail_if_success (with_reducible show LCg.CompEnd _ _ _ _ _ _ _ _ _ _ _ _ _ _)))); walk1) | ((((((fail_if_success (with_reducible show InvPostN _ _ _ _ _ _ _ _ _)); (fail_if_success (with_reducible show InvEndN _ _ _ _ _ _ _)); (fail_if_success (with_reducible show wpG _ _ _ _ _ _)); (fail_if_success (with_reducible show wpAny _ _ (pyIter (Value.ref _)) _ _ _)))); (fail_if_success (with_reducible show LCg.CompSrc _ _ _ _ _ _ _ _ _ _ _ _ _ _)); (fail_if_success (with_reducible show LCg.CompEnd _ _ _ _ _ _ _ _ _ _ _ _ _ _)))); dsimp only; walk1) | ((((((fail_if_success (with_reducible show InvPostN _ _ _ _ _ _ _ _ _)); (fail_if_success (with_reducible show InvEndN _ _ _ _ _ _ _)); (fail_if_success (with_reducible show wpG _ _ _ _ _ _)); (fail_if_success (with_reducible show wpAny _ _ (pyIter (Value.ref _)) _ _ _)))); (fail_if_success (with_reducible show LCg.CompSrc _ _ _ _ _ _ _ _ _ _ _ _ _ _)); (fail_if_success (with_reducible show LCg.CompEnd _ _ _ _ _ _ _ _ _ _ _ _ _ _)))); leave1; walk_say "STEP leave1"; try dsimp only) | fail "no step"))
    rename Fr _ _ _ _ => F1
    rename News _ _ _ _ => N1
    refine LCg.CompSrc.ledger rfl F1 N1 (by k_mem) (by rw [sizeLine_eq]; exact Nat.le_of_ble_eq_true rfl) fun g => ?_
    refine cr_rest (fun j y => ∃ b t, b = normB ([swapB (max 1 H.length) H, swapB 3 H].getD j []) ∧ y = .bytes b.toArray t) ?_ ?_
    · intro j v I oI C oC D m₂ ys h tk E' hj hv hC hx Fc Nc off ne
      rw [List.getElem?_toArray] at hv
      obtain ⟨b, t, hb, rfl⟩ := BytesAre.get (bs := [swapB (max 1 H.length) H, swapB 3 H]) BytesAre.two hv
      have hg : [swapB (max 1 H.length) H, swapB 3 H].getD j [] = b := by rw [List.getD_eq_getElem?_getD, hb]; rfl
      have hbl : b.length = 21 := by
        have hb := List.mem_of_getElem? hb
        simp only [List.mem_cons, List.not_mem_nil, or_false] at hb
        rcases hb with rfl | rfl
        · exact hl1
        · exact hl2
      rw [hg]
      clear F1 N1 hE1 hE2
      (repeat' (first | (k_unfold; (try dsimp only)) | ((((((((((fail_if_success (with_reducible show InvPostN _ _ _ _ _ _ _ _ _)); (fail_if_success (with_reducible show InvEndN _ _ _ _ _ _ _)); (fail_if_success (with_reducible show wpG _ _ _ _ _ _)); (fail_if_success (with_reducible show wpAny _ _ (pyIter (Value.ref _)) _ _ _)))); (fail_if_success (with_reducible show LCg.CompSrc _ _ _ _ _ _ _ _ _ _ _ _ _ _)); (fail_if_success (with_reducible show LCg.CompEnd _ _ _ _ _ _ _ _ _ _ _ _ _ _)))); (fail_if_success (with_reducible show wpAny _ _ (eval (Expr.ListComp _ _ _ _) _) _ _ _)))); (fail_if_success (with_reducible show wpAny _ _ (call (Value.ref _) _) _ _ _)))); walk1) | ((((((((((fail_if_success (with_reducible show InvPostN _ _ _ _ _ _ _ _ _)); (fail_if_success (with_reducible show InvEndN _ _ _ _ _ _ _)); (fail_if_success (with_reducible show wpG _ _ _ _ _ _)); (fail_if_success (with_reducible show wpAny _ _ (pyIter (Value.ref _)) _ _ _)))); (fail_if_success (with_reducible show LCg.CompSrc _ _ _ _ _ _ _ _ _ _ _ _ _ _)); (fail_if_success (with_reducible show LCg.CompEnd _ _ _ _ _ _ _ _ _ _ _ _ _ _)))); (fail_if_success (with_reducible show wpAny _ _ (eval (Expr.ListComp _ _ _ _) _) _ _ _)))); (fail_if_success (with_reducible show wpAny _ _ (call (Value.ref _) _) _ _ _)))); dsimp only; walk1) | ((((((((((fail_if_success (with_reducible show InvPostN _ _ _ _ _ _ _ _ _)); (fail_if_success (with_reducible show InvEndN _ _ _ _ _ _ _)); (fail_if_success (with_reducible show wpG _ _ _ _ _ _)); (fail_if_success (with_reducible show wpAny _ _ (pyIter (Value.ref _)) _ _ _)))); (fail_if_success (with_reducible show LCg.CompSrc _ _ _ _ _ _ _ _ _ _ _ _ _ _)); (fail_if_success (with_reducible show LCg.CompEnd _ _ _ _ _ _ _ _ _ _ _ _ _ _)))); (fail_if_success (with_reducible show wpAny _ _ (eval (Expr.ListComp _ _ _ _) _) _ _ _)))); (fail_if_success (with_reducible show wpAny _ _ (call (Value.ref _) _) _ _ _)))); leave1; walk_say "STEP leave1"; try dsimp only) | fail "no step"))
      rename Fr _ _ _ _ => kF9
      rename News _ _ _ _ => kN9
      refine normpath_call (by k_asm) (by k_asm) (by k_asm) (by k_asm) rfl (by ktr_room) (by ktr_units) (by omega) ?_
      intro t9 h9 tk9 keep9
      have F2 := Fr.keeps kF9 keep9
      have N2 := News.grown kN9 keep9
      clear keep9 kF9 kN9
      (try dsimp only)
      (repeat' (first | (k_unfold; (try dsimp only)) | ((((((((((fail_if_success (with_reducible show InvPostN _ _ _ _ _ _ _ _ _)); (fail_if_success (with_reducible show InvEndN _ _ _ _ _ _ _)); (fail_if_success (with_reducible show wpG _ _ _ _ _ _)); (fail_if_success (with_reducible show wpAny _ _ (pyIter (Value.ref _)) _ _ _)))); (fail_if_success (with_reducible show LCg.CompSrc _ _ _ _ _ _ _ _ _ _ _ _ _ _)); (fail_if_success (with_reducible show LCg.CompEnd _ _ _ _ _ _ _ _ _ _ _ _ _ _)))); (fail_if_success (with_reducible show wpAny _ _ (eval (Expr.ListComp _ _ _ _) _) _ _ _)))); (fail_if_success (with_reducible show wpAny _ _ (call (Value.ref _) _) _ _ _)))); walk1) | ((((((((((fail_if_success (with_reducible show InvPostN _ _ _ _ _ _ _ _ _)); (fail_if_success (with_reducible show InvEndN _ _ _ _ _ _ _)); (fail_if_success (with_reducible show wpG _ _ _ _ _ _)); (fail_if_success (with_reducible show wpAny _ _ (pyIter (Value.ref _)) _ _ _)))); (fail_if_success (with_reducible show LCg.CompSrc _ _ _ _ _ _ _ _ _ _ _ _ _ _)); (fail_if_success (with_reducible show LCg.CompEnd _ _ _ _ _ _ _ _ _ _ _ _ _ _)))); (fail_if_success (with_reducible show wpAny _ _ (eval (Expr.ListComp _ _ _ _) _) _ _ _)))); (fail_if_success (with_reducible show wpAny _ _ (call (Value.ref _) _) _ _ _)))); dsimp only; walk1) | ((((((((((fail_if_success (with_reducible show InvPostN _ _ _ _ _ _ _ _ _)); (fail_if_success (with_reducible show InvEndN _ _ _ _ _ _ _)); (fail_if_success (with_reducible show wpG _ _ _ _ _ _)); (fail_if_success (with_reducible show wpAny _ _ (pyIter (Value.ref _)) _ _ _)))); (fail_if_success (with_reducible show LCg.CompSrc _ _ _ _ _ _ _ _ _ _ _ _ _ _)); (fail_if_success (with_reducible show LCg.CompEnd _ _ _ _ _ _ _ _ _ _ _ _ _ _)))); (fail_if_success (with_reducible show wpAny _ _ (eval (Expr.ListComp _ _ _ _) _) _ _ _)))); (fail_if_success (with_reducible show wpAny _ _ (call (Value.ref _) _) _ _ _)))); leave1; walk_say "STEP leave1"; try dsimp only) | fail "no step"))
      exact LCg.CompEnd.intro F2 N2 _ (fun p hp => hp) off (.inr ⟨_, by k_mem, rfl, _, rfl⟩) ⟨rfl, _, _, rfl, rfl⟩
    intro ysN hlN hyN DN hN tkN FN NN oN
    obtain ⟨nb, hnbs, hRN⟩ := bytes_of _ hyN
    clear hyN F1 N1
    have enb := table_of (n := 2) (by rw [← hnbs.length]; exact hlN) hRN
    have enb : nb = [normB (swapB (max 1 H.length) H), normB (swapB 3 H)] := enb
    subst enb
    simp only [LCg.Off1, and_true] at oN
    (try dsimp only)
    (repeat' (first | (k_unfold; (try dsimp only)) | ((((((((((fail_if_success (with_reducible show InvPostN _ _ _ _ _ _ _ _ _)); (fail_if_success (with_reducible show InvEndN _ _ _ _ _ _ _)); (fail_if_success (with_reducible show wpG _ _ _ _ _ _)); (fail_if_success (with_reducible show wpAny _ _ (pyIter (Value.ref _)) _ _ _)))); (fail_if_success (with_reducible show LCg.CompSrc _ _ _ _ _ _ _ _ _ _ _ _ _ _)); (fail_if_success (with_reducible show LCg.CompEnd _ _ _ _ _ _ _ _ _ _ _ _ _ _)))); (fail_if_success (with_reducible show wpAny _ _ (eval (Expr.ListComp _ _ _ _) _) _ _ _)))); (fail_if_success (with_reducible show wpAny _ _ (call (Value.ref _) _) _ _ _)))); walk1) | ((((((((((fail_if_success (with_reducible show InvPostN _ _ _ _ _ _ _ _ _)); (fail_if_success (with_reducible show InvEndN _ _ _ _ _ _ _)); (fail_if_success (with_reducible show wpG _ _ _ _ _ _)); (fail_if_success (with_reducible show wpAny _ _ (pyIter (Value.ref _)) _ _ _)))); (fail_if_success (with_reducible show LCg.CompSrc _ _ _ _ _ _ _ _ _ _ _ _ _ _)); (fail_if_success (with_reducible show LCg.CompEnd _ _ _ _ _ _ _ _ _ _ _ _ _ _)))); (fail_if_success (with_reducible show wpAny _ _ (eval (Expr.ListComp _ _ _ _) _) _ _ _)))); (fail_if_success (with_reducible show wpAny _ _ (call (Value.ref _) _) _ _ _)))); dsimp only; walk1) | ((((((((((fail_if_success (with_reducible show InvPostN _ _ _ _ _ _ _ _ _)); (fail_if_success (with_reducible show InvEndN _ _ _ _ _ _ _)); (fail_if_success (with_reducible show wpG _ _ _ _ _ _)); (fail_if_success (with_reducible show wpAny _ _ (pyIter (Value.ref _)) _ _ _)))); (fail_if_success (with_reducible show LCg.CompSrc _ _ _ _ _ _ _ _ _ _ _ _ _ _)); (fail_if_success (with_reducible show LCg.CompEnd _ _ _ _ _ _ _ _ _ _ _ _ _ _)))); (fail_if_success (with_reducible show wpAny _ _ (eval (Expr.ListComp _ _ _ _) _) _ _ _)))); (fail_if_success (with_reducible show wpAny _ _ (call (Value.ref _) _) _ _ _)))); leave1; walk_say "STEP leave1"; try dsimp only) | fail "no step"))
    rename Fr _ _ _ _ => kF9
    rename News _ _ _ _ => kN9
    refine due_call (by k_asm) (by k_asm) (by k_asm) (by k_asm) rfl (by ktr_room) (by ktr_units) (by walk_at "my:isl") (by with_reducible assumption) (by assumption) (by assumption) (by walk_at "my:isl") (by assumption) (by assumption) (by assumption) (by walk_at "my:isl") (by assumption) (by assumption) (by assumption) (by constructor <;> omega) (.inl rfl) ?_
    intro t9 h9 tk9 keep9
    have F2 := Fr.keeps kF9 keep9
    have N2 := News.grown kN9 keep9
    clear keep9 kF9 kN9
    (try dsimp only)
    (repeat' (first | (k_unfold; (try dsimp only)) | ((((((((((fail_if_success (with_reducible show InvPostN _ _ _ _ _ _ _ _ _)); (fail_if_success (with_reducible show InvEndN _ _ _ _ _ _ _)); (fail_if_success (with_reducible show wpG _ _ _ _ _ _)); (fail_if_success (with_reducible show wpAny _ _ (pyIter (Value.ref _)) _ _ _)))); (fail_if_success (with_reducible show LCg.CompSrc _ _ _ _ _ _ _ _ _ _ _ _ _ _)); (fail_if_success (with_reducible show LCg.CompEnd _ _ _ _ _ _ _ _ _ _ _ _ _ _)))); (fail_if_success (with_reducible show wpAny _ _ (eval (Expr.ListComp _ _ _ _) _) _ _ _)))); (fail_if_success (with_reducible show wpAny _ _ (call (Value.ref _) _) _ _ _)))); walk1) | ((((((((((fail_if_success (with_reducible show InvPostN _ _ _ _ _ _ _ _ _)); (fail_if_success (with_reducible show InvEndN _ _ _ _ _ _ _)); (fail_if_success (with_reducible show wpG _ _ _ _ _ _)); (fail_if_success (with_reducible show wpAny _ _ (pyIter (Value.ref _)) _ _ _)))); (fail_if_success (with_reducible show LCg.CompSrc _ _ _ _ _ _ _ _ _ _ _ _ _ _)); (fail_if_success (with_reducible show LCg.CompEnd _ _ _ _ _ _ _ _ _ _ _ _ _ _)))); (fail_if_success (with_reducible show wpAny _ _ (eval (Expr.ListComp _ _ _ _) _) _ _ _)))); (fail_if_success (with_reducible show wpAny _ _ (call (Value.ref _) _) _ _ _)))); dsimp only; walk1) | ((((((((((fail_if_success (with_reducible show InvPostN _ _ _ _ _ _ _ _ _)); (fail_if_success (with_reducible show InvEndN _ _ _ _ _ _ _)); (fail_if_success (with_reducible show wpG _ _ _ _ _ _)); (fail_if_success (with_reducible show wpAny _ _ (pyIter (Value.ref _)) _ _ _)))); (fail_if_success (with_reducible show LCg.CompSrc _ _ _ _ _ _ _ _ _ _ _ _ _ _)); (fail_if_success (with_reducible show LCg.CompEnd _ _ _ _ _ _ _ _ _ _ _ _ _ _)))); (fail_if_success (with_reducible show wpAny _ _ (eval (Expr.ListComp _ _ _ _) _) _ _ _)))); (fail_if_success (with_reducible show wpAny _ _ (call (Value.ref _) _) _ _ _)))); leave1; walk_say "STEP leave1"; try dsimp only) | fail "no step"))
    rename Fr _ _ _ _ => kF9
    rename News _ _ _ _ => kN9
    refine due_call (by k_asm) (by k_asm) (by k_asm) (by k_asm) rfl (by ktr_room) (by ktr_units) (by walk_at "my:isl") (by with_reducible assumption) (by assumption) (by assumption) (by walk_at "my:isl") (by assumption) (by assumption) (by assumption) (by walk_at "my:isl") (by assumption) (by assumption) (by assumption) (by constructor <;> omega) (.inr rfl) ?_
    intro t9 h9 tk9 keep9
    have F2 := Fr.keeps kF9 keep9
    have N2 := News.grown kN9 keep9
    clear keep9 kF9 kN9
    (try dsimp only)
    (repeat' (first | (k_unfold; (try dsimp only)) | ((((((((((fail_if_success (with_reducible show InvPostN _ _ _ _ _ _ _ _ _)); (fail_if_success (with_reducible show InvEndN _ _ _ _ _ _ _)); (fail_if_success (with_reducible show wpG _ _ _ _ _ _)); (fail_if_success (with_reducible show wpAny _ _ (pyIter (Value.ref _)) _ _ _)))); (fail_if_success (with_reducible show LCg.CompSrc _ _ _ _ _ _ _ _ _ _ _ _ _ _)); (fail_if_success (with_reducible show LCg.CompEnd _ _ _ _ _ _ _ _ _ _ _ _ _ _)))); (fail_if_success (with_reducible show wpAny _ _ (eval (Expr.ListComp _ _ _ _) _) _ _ _)))); (fail_if_success (with_reducible show wpAny _ _ (call (Value.ref _) _) _ _ _)))); (first | (with_reducible (k_here; (with_reducible show wpAny _ _ (compareOp CmpOp.NotEq (Value.ref _) (Value.ref _)) _ _ _); k_dflt (refine' ne_bl2 ?q9l ?q9m ?q9v ?q9w ?q9e ?q9u ?_; (case q9l => walk_at "my:isl"); (case q9m => walk_at "my:isl"); (case q9v => walk_at "my:bytes"); (case q9w => walk_at "my:bytes"); (case q9e => assumption); (case q9u => ktr_units); k_whole))) | walk1)) | ((((((((((fail_if_success (with_reducible show InvPostN _ _ _ _ _ _ _ _ _)); (fail_if_success (with_reducible show InvEndN _ _ _ _ _ _ _)); (fail_if_success (with_reducible show wpG _ _ _ _ _ _)); (fail_if_success (with_reducible show wpAny _ _ (pyIter (Value.ref _)) _ _ _)))); (fail_if_success (with_reducible show LCg.CompSrc _ _ _ _ _ _ _ _ _ _ _ _ _ _)); (fail_if_success (with_reducible show LCg.CompEnd _ _ _ _ _ _ _ _ _ _ _ _ _ _)))); (fail_if_success (with_reducible show wpAny _ _ (eval (Expr.ListComp _ _ _ _) _) _ _ _)))); (fail_if_success (with_reducible show wpAny _ _ (call (Value.ref _) _) _ _ _)))); dsimp only; (first | (with_reducible (k_here; (with_reducible show wpAny _ _ (compareOp CmpOp.NotEq (Value.ref _) (Value.ref _)) _ _ _); k_dflt (refine' ne_bl2 ?q9l ?q9m ?q9v ?q9w ?q9e ?q9u ?_; (case q9l => walk_at "my:isl"); (case q9m => walk_at "my:isl"); (case q9v => walk_at "my:bytes"); (case q9w => walk_at "my:bytes"); (case q9e => assumption); (case q9u => ktr_units); k_whole))) | walk1)) | ((((((((((fail_if_success (with_reducible show InvPostN _ _ _ _ _ _ _ _ _)); (fail_if_success (with_reducible show InvEndN _ _ _ _ _ _ _)); (fail_if_success (with_reducible show wpG _ _ _ _ _ _)); (fail_if_success (with_reducible show wpAny _ _ (pyIter (Value.ref _)) _ _ _)))); (fail_if_success (with_reducible show LCg.CompSrc _ _ _ _ _ _ _ _ _ _ _ _ _ _)); (fail_if_success (with_reducible show LCg.CompEnd _ _ _ _ _ _ _ _ _ _ _ _ _ _)))); (fail_if_success (with_reducible show wpAny _ _ (eval (Expr.ListComp _ _ _ _) _) _ _ _)))); (fail_if_success (with_reducible show wpAny _ _ (call (Value.ref _) _) _ _ _)))); leave1; walk_say "STEP leave1"; try dsimp only) | fail "no step"))
    rename Fr _ _ _ _ => F9
    rename News _ _ _ _ => N9
    (try dsimp only)
    refine wpG_of (wpAny_execs_nil ?_)
    (try dsimp only)
    exact ⟨_, _, _, rfl, fun y h1 h2 h3 h4 => by simp only [if_neg h1, if_neg h2, if_neg h3, if_neg h4], F9, fun p hp => N9 p (by (repeat (first | assumption | refine List.mem_cons_of_mem _ ?_)))⟩
  · intro m₁ h tk Fc Nc
    (try dsimp only)
    refine wpG_execs_cons (wpG_of ?_)
    (repeat' (first | (k_unfold; (try dsimp only)) | ((((((fail_if_success (with_reducible show InvPostN _ _ _ _ _ _ _ _ _)); (fail_if_success (with_reducible show InvEndN _ _ _ _ _ _ _)); (fail_if_success (with_reducible show wpG _ _ _ _ _ _)); (fail_if_success (with_reducible show wpAny _ _ (pyIter (Value.ref _)) _ _ _)))); (fail_if_success (with_reducible show LCg.CompSrc _ _ _ _ _ _ _ _ _ _ _ _ _ _)); (fail_if_success (with_reducible show LCg.CompEnd _ _ _ _ _ _ _ _ _ _ _ _ _ _)))); walk1) | ((((((fail_if_success (with_reducible show InvPostN _ _ _ _ _ _ _ _ _)); (fail_if_success (with_reducible show InvEndN _ _ _ _ _ _ _)); (fail_if_success (with_reducible show wpG _ _ _ _ _ _)); (fail_if_success (with_reducible show wpAny _ _ (pyIter (Value.ref _)) _ _ _)))); (fail_if_success (with_reducible show LCg.CompSrc _ _ _ _ _ _ _ _ _ _ _ _ _ _)); (fail_if_success (with_reducible show LCg.CompEnd _ _ _ _ _ _ _ _ _ _ _ _ _ _)))); dsimp only; walk1) | ((((((fail_if_success (with_reducible show InvPostN _ _ _ _ _ _ _ _ _)); (fail_if_success (with_reducible show InvEndN _ _ _ _ _ _ _)); (fail_if_success (with_reducible show wpG _ _ _ _ _ _)); (fail_if_success (with_reducible show wpAny _ _ (pyIter (Value.ref _)) _ _ _)))); (fail_if_success (with_reducible show LCg.CompSrc _ _ _ _ _ _ _ _ _ _ _ _ _ _)); (fail_if_success (with_reducible show LCg.CompEnd _ _ _ _ _ _ _ _ _ _ _ _ _ _)))); leave1; walk_say "STEP leave1"; try dsimp only) | fail "no step"))
    exact post _ _ _ _ Fc
end Mine
theorem PySem.Challenge.cw_nq0013_02_holds : PySem.Challenge.rw_nq0013_02.Holds := by
  exact Mine.law2
